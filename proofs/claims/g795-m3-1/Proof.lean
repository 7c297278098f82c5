import JvmDerived
import JvmDerived.Pilot.@@N@@Statement
import JvmDerived.Pilot.@@N@@Code
set_option linter.unusedVariables false
set_option linter.unusedSimpArgs false
namespace Jvm.Pilot.@@N@@
open Jvm Jvm.ClassFile Sem Op Lib Jvm.Free Jvm.Stand Jvm.LawKit Jvm.RoadKit Bundle Jvm.Pilot.@@N@@.Jvm.D
section Own
variable {p : Program} {l : Launch} {e : Env} {R : Room} {s : State} {m : MethodId} {args : Array Value} {below : List Frame} {meth : Method} {c : Code} {T T' : State} {locs : List Loc} {cells slots C N : Nat} {Q : Option Value → Heap → List Loc → Prop} {g g' : JFrame}
/-- from T with the frame g on top the invocation of s comes to its end: it returns, and Q holds of what it returns, of the heap and of the places written -/
def Go (p : Program) (e : Env) (below : List Frame) (s : State) (C N : Nat) (Q : Option Value → Heap → List Loc → Prop) (T : State) (g : JFrame) : Prop :=
  ∃ s₂ o, Steps p.tables e below (T.setTop g) s₂ ∧ s₂.status = .running ∧ Ended s₂ below o ∧ ∃ v L, o = .returned v ∧ Q v s₂.heap L ∧ FrameEnd s o s₂ L C N
theorem Go.st (h : ∀ t, Steps p.tables e below (T'.setTop g') t → Steps p.tables e below (T.setTop g) t) (k : Go p e below s C N Q T' g') : Go p e below s C N Q T g := by
  obtain ⟨s2, o, h1, h2⟩ := k
  exact ⟨s2, o, h _ h1, h2⟩
theorem Go.enter (q : g = g') (k : Go p e below s C N Q T g') : ∃ s₂ o, Steps p.tables e below (T.setTop g) s₂ ∧ s₂.status = .running ∧ Ended s₂ below o ∧ ∃ v L, o = .returned v ∧ Q v s₂.heap L ∧ FrameEnd s o s₂ L C N := by
  subst q; exact k
theorem Go.fin (X : Stand p l e R s m args below meth c T locs cells slots) (hlk : meth.locks = false) {v : Option Value} (hv : meth.sig.returnType = none → v = none) (hC : cells ≤ C) (hN : slots ≤ N) (hq : Q v T.heap locs)
    (hs : ∀ fs, (∀ (f : JFrame) (acts : List Action), f.method = m → f.locked = none → f.entered = [] → (doReturn e (T.setTop f) acts v).1 = T.setFrames fs) → Steps p.tables e below (T.setTop g) (T.setFrames fs)) : Go p e below s C N Q T g := by
  obtain ⟨fs, hr, hrun, hended, hW, hsame⟩ := X.leave hv hlk
  exact ⟨_, _, hs fs hr, hrun, hended, _, _, rfl, hq, ⟨_, rfl⟩, hW, hsame.mono hC hN⟩
end Own

section OwnG
variable {p : Program} {l : Launch} {e : Env} {R : Room} {s : State} {m : MethodId} {args : Array Value} {below : List Frame} {meth : Method} {c : Code} {T : State} {locs : List Loc} {cells slots C N : Nat} {Q : Option Value → Heap → List Loc → Prop} {pc pc' : Nat} {L L' : Array Slot} {S : List Value}
theorem G_iloadN (X : Stand p l e R s m args below meth c T locs cells slots) (hx : p.tables.exec = Jvm.exec) {k : Fin 4} {v : Int32} (hp : pc + 1 = pc') (hd : decode c.code pc = .ok (.iload_n k, 1)) (hl : L[k.val]? = some (.val (.int v))) (h : Go p e below s C N Q T (mkF m pc' L (.int v :: S))) : Go p e below s C N Q T (mkF m pc L S) := by
  subst hp; exact Go.st (fun _ k => XS.iloadN X.here hx rfl hd hl k) h
theorem G_iload (X : Stand p l e R s m args below meth c T locs cells slots) (hx : p.tables.exec = Jvm.exec) {k : Nat} {v : Int32} (hp : pc + 2 = pc') (hd : decode c.code pc = .ok (.iload k, 2)) (hl : L[k]? = some (.val (.int v))) (h : Go p e below s C N Q T (mkF m pc' L (.int v :: S))) : Go p e below s C N Q T (mkF m pc L S) := by
  subst hp; exact Go.st (fun _ k => XS.iload X.here hx rfl hd hl k) h
theorem G_istoreN (X : Stand p l e R s m args below meth c T locs cells slots) (hx : p.tables.exec = Jvm.exec) {k : Fin 4} {v : Int32} (hp : pc + 1 = pc') (hd : decode c.code pc = .ok (.istore_n k, 1)) (hl : storeLocals L k.val (.int v) = some L') (h : Go p e below s C N Q T (mkF m pc' L' S)) : Go p e below s C N Q T (mkF m pc L (.int v :: S)) := by
  subst hp; exact Go.st (fun _ k => XS.istoreN X.here hx rfl hd rfl hl k) h
theorem G_istore (X : Stand p l e R s m args below meth c T locs cells slots) (hx : p.tables.exec = Jvm.exec) {k : Nat} {v : Int32} (hp : pc + 2 = pc') (hd : decode c.code pc = .ok (.istore k, 2)) (hl : storeLocals L k (.int v) = some L') (h : Go p e below s C N Q T (mkF m pc' L' S)) : Go p e below s C N Q T (mkF m pc L (.int v :: S)) := by
  subst hp; exact Go.st (fun _ k => XS.istore X.here hx rfl hd rfl hl k) h
theorem G_lloadN (X : Stand p l e R s m args below meth c T locs cells slots) (hx : p.tables.exec = Jvm.exec) {k : Fin 4} {v : Int64} (hp : pc + 1 = pc') (hd : decode c.code pc = .ok (.lload_n k, 1)) (hl : L[k.val]? = some (.val (.long v))) (h : Go p e below s C N Q T (mkF m pc' L (.long v :: S))) : Go p e below s C N Q T (mkF m pc L S) := by
  subst hp; exact Go.st (fun _ k => XS.lloadN X.here hx rfl hd hl k) h
theorem G_lload (X : Stand p l e R s m args below meth c T locs cells slots) (hx : p.tables.exec = Jvm.exec) {k : Nat} {v : Int64} (hp : pc + 2 = pc') (hd : decode c.code pc = .ok (.lload k, 2)) (hl : L[k]? = some (.val (.long v))) (h : Go p e below s C N Q T (mkF m pc' L (.long v :: S))) : Go p e below s C N Q T (mkF m pc L S) := by
  subst hp; exact Go.st (fun _ k => XS.lload X.here hx rfl hd hl k) h
theorem G_lstoreN (X : Stand p l e R s m args below meth c T locs cells slots) (hx : p.tables.exec = Jvm.exec) {k : Fin 4} {v : Int64} (hp : pc + 1 = pc') (hd : decode c.code pc = .ok (.lstore_n k, 1)) (hl : storeLocals L k.val (.long v) = some L') (h : Go p e below s C N Q T (mkF m pc' L' S)) : Go p e below s C N Q T (mkF m pc L (.long v :: S)) := by
  subst hp; exact Go.st (fun _ k => XS.lstoreN X.here hx rfl hd rfl hl k) h
theorem G_lstore (X : Stand p l e R s m args below meth c T locs cells slots) (hx : p.tables.exec = Jvm.exec) {k : Nat} {v : Int64} (hp : pc + 2 = pc') (hd : decode c.code pc = .ok (.lstore k, 2)) (hl : storeLocals L k (.long v) = some L') (h : Go p e below s C N Q T (mkF m pc' L' S)) : Go p e below s C N Q T (mkF m pc L (.long v :: S)) := by
  subst hp; exact Go.st (fun _ k => XS.lstore X.here hx rfl hd rfl hl k) h
theorem G_aloadN (X : Stand p l e R s m args below meth c T locs cells slots) (hx : p.tables.exec = Jvm.exec) {k : Fin 4} {v : Value} (hp : pc + 1 = pc') (hd : decode c.code pc = .ok (.aload_n k, 1)) (hl : L[k.val]? = some (.val v)) (hv : v.isRef = true) (h : Go p e below s C N Q T (mkF m pc' L (v :: S))) : Go p e below s C N Q T (mkF m pc L S) := by
  subst hp; exact Go.st (fun _ k => XS.aloadN X.here hx rfl hd hl hv k) h
theorem G_aload (X : Stand p l e R s m args below meth c T locs cells slots) (hx : p.tables.exec = Jvm.exec) {k : Nat} {v : Value} (hp : pc + 2 = pc') (hd : decode c.code pc = .ok (.aload k, 2)) (hl : L[k]? = some (.val v)) (hv : v.isRef = true) (h : Go p e below s C N Q T (mkF m pc' L (v :: S))) : Go p e below s C N Q T (mkF m pc L S) := by
  subst hp; exact Go.st (fun _ k => XS.aload X.here hx rfl hd hl hv k) h
theorem G_astoreN (X : Stand p l e R s m args below meth c T locs cells slots) (hx : p.tables.exec = Jvm.exec) {k : Fin 4} {v : Value} (hp : pc + 1 = pc') (hd : decode c.code pc = .ok (.astore_n k, 1)) (hv : v.isRef = true) (hl : storeLocals L k.val v = some L') (h : Go p e below s C N Q T (mkF m pc' L' S)) : Go p e below s C N Q T (mkF m pc L (v :: S)) := by
  subst hp; exact Go.st (fun _ k => XS.astoreN X.here hx rfl hd rfl hv hl k) h
theorem G_astore (X : Stand p l e R s m args below meth c T locs cells slots) (hx : p.tables.exec = Jvm.exec) {k : Nat} {v : Value} (hp : pc + 2 = pc') (hd : decode c.code pc = .ok (.astore k, 2)) (hv : v.isRef = true) (hl : storeLocals L k v = some L') (h : Go p e below s C N Q T (mkF m pc' L' S)) : Go p e below s C N Q T (mkF m pc L (v :: S)) := by
  subst hp; exact Go.st (fun _ k => XS.astore X.here hx rfl hd rfl hv hl k) h
theorem G_iconst (X : Stand p l e R s m args below meth c T locs cells slots) (hx : p.tables.exec = Jvm.exec) {i : Int} {z : Int32} (hp : pc + 1 = pc') (hd : decode c.code pc = .ok (.iconst i, 1)) (hz : Int32.ofInt i = z) (h : Go p e below s C N Q T (mkF m pc' L (.int z :: S))) : Go p e below s C N Q T (mkF m pc L S) := by
  subst hp; exact Go.st (fun _ k => XS.iconst X.here hx rfl hd (by rw [hz]; exact k)) h
theorem G_bipush (X : Stand p l e R s m args below meth c T locs cells slots) (hx : p.tables.exec = Jvm.exec) {i : Int} {z : Int32} (hp : pc + 2 = pc') (hd : decode c.code pc = .ok (.bipush i, 2)) (hz : (Int8.ofInt i).toInt32 = z) (h : Go p e below s C N Q T (mkF m pc' L (.int z :: S))) : Go p e below s C N Q T (mkF m pc L S) := by
  subst hp; exact Go.st (fun _ k => XS.bipush X.here hx rfl hd (by rw [hz]; exact k)) h
theorem G_sipush (X : Stand p l e R s m args below meth c T locs cells slots) (hx : p.tables.exec = Jvm.exec) {i : Int} {z : Int32} (hp : pc + 3 = pc') (hd : decode c.code pc = .ok (.sipush i, 3)) (hz : (Int16.ofInt i).toInt32 = z) (h : Go p e below s C N Q T (mkF m pc' L (.int z :: S))) : Go p e below s C N Q T (mkF m pc L S) := by
  subst hp; exact Go.st (fun _ k => XS.sipush X.here hx rfl hd (by rw [hz]; exact k)) h
theorem G_lconst (X : Stand p l e R s m args below meth c T locs cells slots) (hx : p.tables.exec = Jvm.exec) {i : Fin 2} {z : Int64} (hp : pc + 1 = pc') (hd : decode c.code pc = .ok (.lconst i, 1)) (hz : Int64.ofNat i = z) (h : Go p e below s C N Q T (mkF m pc' L (.long z :: S))) : Go p e below s C N Q T (mkF m pc L S) := by
  subst hp; exact Go.st (fun _ k => XS.lconst X.here hx rfl hd (by rw [hz]; exact k)) h
theorem G_aconstNull (X : Stand p l e R s m args below meth c T locs cells slots) (hx : p.tables.exec = Jvm.exec)  (hp : pc + 1 = pc') (hd : decode c.code pc = .ok (.aconst_null, 1))  (h : Go p e below s C N Q T (mkF m pc' L (.null :: S))) : Go p e below s C N Q T (mkF m pc L S) := by
  subst hp; exact Go.st (fun _ k => XS.aconstNull X.here hx rfl hd k) h
theorem G_iadd (X : Stand p l e R s m args below meth c T locs cells slots) (hx : p.tables.exec = Jvm.exec) {x y : Int32} (hp : pc + 1 = pc') (hd : decode c.code pc = .ok (.iadd, 1))  (h : Go p e below s C N Q T (mkF m pc' L (.int (x + y) :: S))) : Go p e below s C N Q T (mkF m pc L (.int y :: .int x :: S)) := by
  subst hp; exact Go.st (fun _ k => XS.iadd X.here hx rfl hd rfl k) h
theorem G_isub (X : Stand p l e R s m args below meth c T locs cells slots) (hx : p.tables.exec = Jvm.exec) {x y : Int32} (hp : pc + 1 = pc') (hd : decode c.code pc = .ok (.isub, 1))  (h : Go p e below s C N Q T (mkF m pc' L (.int (x - y) :: S))) : Go p e below s C N Q T (mkF m pc L (.int y :: .int x :: S)) := by
  subst hp; exact Go.st (fun _ k => XS.isub X.here hx rfl hd rfl k) h
theorem G_imul (X : Stand p l e R s m args below meth c T locs cells slots) (hx : p.tables.exec = Jvm.exec) {x y : Int32} (hp : pc + 1 = pc') (hd : decode c.code pc = .ok (.imul, 1))  (h : Go p e below s C N Q T (mkF m pc' L (.int (x * y) :: S))) : Go p e below s C N Q T (mkF m pc L (.int y :: .int x :: S)) := by
  subst hp; exact Go.st (fun _ k => XS.imul X.here hx rfl hd rfl k) h
theorem G_iand (X : Stand p l e R s m args below meth c T locs cells slots) (hx : p.tables.exec = Jvm.exec) {x y : Int32} (hp : pc + 1 = pc') (hd : decode c.code pc = .ok (.iand, 1))  (h : Go p e below s C N Q T (mkF m pc' L (.int (x &&& y) :: S))) : Go p e below s C N Q T (mkF m pc L (.int y :: .int x :: S)) := by
  subst hp; exact Go.st (fun _ k => XS.iand X.here hx rfl hd rfl k) h
theorem G_ior (X : Stand p l e R s m args below meth c T locs cells slots) (hx : p.tables.exec = Jvm.exec) {x y : Int32} (hp : pc + 1 = pc') (hd : decode c.code pc = .ok (.ior, 1))  (h : Go p e below s C N Q T (mkF m pc' L (.int (x ||| y) :: S))) : Go p e below s C N Q T (mkF m pc L (.int y :: .int x :: S)) := by
  subst hp; exact Go.st (fun _ k => XS.ior X.here hx rfl hd rfl k) h
theorem G_ixor (X : Stand p l e R s m args below meth c T locs cells slots) (hx : p.tables.exec = Jvm.exec) {x y : Int32} (hp : pc + 1 = pc') (hd : decode c.code pc = .ok (.ixor, 1))  (h : Go p e below s C N Q T (mkF m pc' L (.int (x ^^^ y) :: S))) : Go p e below s C N Q T (mkF m pc L (.int y :: .int x :: S)) := by
  subst hp; exact Go.st (fun _ k => XS.ixor X.here hx rfl hd rfl k) h
theorem G_ishl (X : Stand p l e R s m args below meth c T locs cells slots) (hx : p.tables.exec = Jvm.exec) {x y : Int32} (hp : pc + 1 = pc') (hd : decode c.code pc = .ok (.ishl, 1))  (h : Go p e below s C N Q T (mkF m pc' L (.int (x <<< (y &&& 31)) :: S))) : Go p e below s C N Q T (mkF m pc L (.int y :: .int x :: S)) := by
  subst hp; exact Go.st (fun _ k => XS.ishl X.here hx rfl hd rfl k) h
theorem G_ishr (X : Stand p l e R s m args below meth c T locs cells slots) (hx : p.tables.exec = Jvm.exec) {x y : Int32} (hp : pc + 1 = pc') (hd : decode c.code pc = .ok (.ishr, 1))  (h : Go p e below s C N Q T (mkF m pc' L (.int (x >>> (y &&& 31)) :: S))) : Go p e below s C N Q T (mkF m pc L (.int y :: .int x :: S)) := by
  subst hp; exact Go.st (fun _ k => XS.ishr X.here hx rfl hd rfl k) h
theorem G_iushr (X : Stand p l e R s m args below meth c T locs cells slots) (hx : p.tables.exec = Jvm.exec) {x y : Int32} (hp : pc + 1 = pc') (hd : decode c.code pc = .ok (.iushr, 1))  (h : Go p e below s C N Q T (mkF m pc' L (.int ((x.toUInt32 >>> (y &&& 31).toUInt32).toInt32) :: S))) : Go p e below s C N Q T (mkF m pc L (.int y :: .int x :: S)) := by
  subst hp; exact Go.st (fun _ k => XS.iushr X.here hx rfl hd rfl k) h
theorem G_ladd (X : Stand p l e R s m args below meth c T locs cells slots) (hx : p.tables.exec = Jvm.exec) {x y : Int64} (hp : pc + 1 = pc') (hd : decode c.code pc = .ok (.ladd, 1))  (h : Go p e below s C N Q T (mkF m pc' L (.long (x + y) :: S))) : Go p e below s C N Q T (mkF m pc L (.long y :: .long x :: S)) := by
  subst hp; exact Go.st (fun _ k => XS.ladd X.here hx rfl hd rfl k) h
theorem G_lsub (X : Stand p l e R s m args below meth c T locs cells slots) (hx : p.tables.exec = Jvm.exec) {x y : Int64} (hp : pc + 1 = pc') (hd : decode c.code pc = .ok (.lsub, 1))  (h : Go p e below s C N Q T (mkF m pc' L (.long (x - y) :: S))) : Go p e below s C N Q T (mkF m pc L (.long y :: .long x :: S)) := by
  subst hp; exact Go.st (fun _ k => XS.lsub X.here hx rfl hd rfl k) h
theorem G_lmul (X : Stand p l e R s m args below meth c T locs cells slots) (hx : p.tables.exec = Jvm.exec) {x y : Int64} (hp : pc + 1 = pc') (hd : decode c.code pc = .ok (.lmul, 1))  (h : Go p e below s C N Q T (mkF m pc' L (.long (x * y) :: S))) : Go p e below s C N Q T (mkF m pc L (.long y :: .long x :: S)) := by
  subst hp; exact Go.st (fun _ k => XS.lmul X.here hx rfl hd rfl k) h
theorem G_land (X : Stand p l e R s m args below meth c T locs cells slots) (hx : p.tables.exec = Jvm.exec) {x y : Int64} (hp : pc + 1 = pc') (hd : decode c.code pc = .ok (.land, 1))  (h : Go p e below s C N Q T (mkF m pc' L (.long (x &&& y) :: S))) : Go p e below s C N Q T (mkF m pc L (.long y :: .long x :: S)) := by
  subst hp; exact Go.st (fun _ k => XS.land X.here hx rfl hd rfl k) h
theorem G_lor (X : Stand p l e R s m args below meth c T locs cells slots) (hx : p.tables.exec = Jvm.exec) {x y : Int64} (hp : pc + 1 = pc') (hd : decode c.code pc = .ok (.lor, 1))  (h : Go p e below s C N Q T (mkF m pc' L (.long (x ||| y) :: S))) : Go p e below s C N Q T (mkF m pc L (.long y :: .long x :: S)) := by
  subst hp; exact Go.st (fun _ k => XS.lor X.here hx rfl hd rfl k) h
theorem G_lxor (X : Stand p l e R s m args below meth c T locs cells slots) (hx : p.tables.exec = Jvm.exec) {x y : Int64} (hp : pc + 1 = pc') (hd : decode c.code pc = .ok (.lxor, 1))  (h : Go p e below s C N Q T (mkF m pc' L (.long (x ^^^ y) :: S))) : Go p e below s C N Q T (mkF m pc L (.long y :: .long x :: S)) := by
  subst hp; exact Go.st (fun _ k => XS.lxor X.here hx rfl hd rfl k) h
theorem G_lshl (X : Stand p l e R s m args below meth c T locs cells slots) (hx : p.tables.exec = Jvm.exec) {x : Int64} {y : Int32} (hp : pc + 1 = pc') (hd : decode c.code pc = .ok (.lshl, 1))  (h : Go p e below s C N Q T (mkF m pc' L (.long (x <<< (y &&& 0x3f).toInt64) :: S))) : Go p e below s C N Q T (mkF m pc L (.int y :: .long x :: S)) := by
  subst hp; exact Go.st (fun _ k => XS.lshl X.here hx rfl hd rfl k) h
theorem G_lshr (X : Stand p l e R s m args below meth c T locs cells slots) (hx : p.tables.exec = Jvm.exec) {x : Int64} {y : Int32} (hp : pc + 1 = pc') (hd : decode c.code pc = .ok (.lshr, 1))  (h : Go p e below s C N Q T (mkF m pc' L (.long (x >>> (y &&& 0x3f).toInt64) :: S))) : Go p e below s C N Q T (mkF m pc L (.int y :: .long x :: S)) := by
  subst hp; exact Go.st (fun _ k => XS.lshr X.here hx rfl hd rfl k) h
theorem G_lushr (X : Stand p l e R s m args below meth c T locs cells slots) (hx : p.tables.exec = Jvm.exec) {x : Int64} {y : Int32} (hp : pc + 1 = pc') (hd : decode c.code pc = .ok (.lushr, 1))  (h : Go p e below s C N Q T (mkF m pc' L (.long ((x.toUInt64 >>> (y &&& 0x3f).toInt64.toUInt64).toInt64) :: S))) : Go p e below s C N Q T (mkF m pc L (.int y :: .long x :: S)) := by
  subst hp; exact Go.st (fun _ k => XS.lushr X.here hx rfl hd rfl k) h
theorem G_idiv (X : Stand p l e R s m args below meth c T locs cells slots) (hx : p.tables.exec = Jvm.exec) {x y : Int32} (hp : pc + 1 = pc') (hd : decode c.code pc = .ok (.idiv, 1)) (hy : y ≠ 0) (h : Go p e below s C N Q T (mkF m pc' L (.int (x / y) :: S))) : Go p e below s C N Q T (mkF m pc L (.int y :: .int x :: S)) := by
  subst hp; exact Go.st (fun _ k => XS.idiv X.here hx rfl hd rfl hy k) h
theorem G_irem (X : Stand p l e R s m args below meth c T locs cells slots) (hx : p.tables.exec = Jvm.exec) {x y : Int32} (hp : pc + 1 = pc') (hd : decode c.code pc = .ok (.irem, 1)) (hy : y ≠ 0) (h : Go p e below s C N Q T (mkF m pc' L (.int (x % y) :: S))) : Go p e below s C N Q T (mkF m pc L (.int y :: .int x :: S)) := by
  subst hp; exact Go.st (fun _ k => iremM X hx rfl hd rfl hy k) h
theorem G_ldiv (X : Stand p l e R s m args below meth c T locs cells slots) (hx : p.tables.exec = Jvm.exec) {x y : Int64} (hp : pc + 1 = pc') (hd : decode c.code pc = .ok (.ldiv, 1)) (hy : y ≠ 0) (h : Go p e below s C N Q T (mkF m pc' L (.long (x / y) :: S))) : Go p e below s C N Q T (mkF m pc L (.long y :: .long x :: S)) := by
  subst hp; exact Go.st (fun _ k => XS.ldiv X.here hx rfl hd rfl hy k) h
theorem G_lrem (X : Stand p l e R s m args below meth c T locs cells slots) (hx : p.tables.exec = Jvm.exec) {x y : Int64} (hp : pc + 1 = pc') (hd : decode c.code pc = .ok (.lrem, 1)) (hy : y ≠ 0) (h : Go p e below s C N Q T (mkF m pc' L (.long (x % y) :: S))) : Go p e below s C N Q T (mkF m pc L (.long y :: .long x :: S)) := by
  subst hp; exact Go.st (fun _ k => XS.lrem X.here hx rfl hd rfl hy (by rw [lrem_mod]; exact k)) h
theorem G_ineg (X : Stand p l e R s m args below meth c T locs cells slots) (hx : p.tables.exec = Jvm.exec) {x : Int32} (hp : pc + 1 = pc') (hd : decode c.code pc = .ok (.ineg, 1))  (h : Go p e below s C N Q T (mkF m pc' L (.int (-x) :: S))) : Go p e below s C N Q T (mkF m pc L (.int x :: S)) := by
  subst hp; exact Go.st (fun _ k => XS.ineg X.here hx rfl hd rfl k) h
theorem G_lneg (X : Stand p l e R s m args below meth c T locs cells slots) (hx : p.tables.exec = Jvm.exec) {x : Int64} (hp : pc + 1 = pc') (hd : decode c.code pc = .ok (.lneg, 1))  (h : Go p e below s C N Q T (mkF m pc' L (.long (-x) :: S))) : Go p e below s C N Q T (mkF m pc L (.long x :: S)) := by
  subst hp; exact Go.st (fun _ k => XS.lneg X.here hx rfl hd rfl k) h
theorem G_i2l (X : Stand p l e R s m args below meth c T locs cells slots) (hx : p.tables.exec = Jvm.exec) {x : Int32} (hp : pc + 1 = pc') (hd : decode c.code pc = .ok (.i2l, 1))  (h : Go p e below s C N Q T (mkF m pc' L (.long (x.toInt64) :: S))) : Go p e below s C N Q T (mkF m pc L (.int x :: S)) := by
  subst hp; exact Go.st (fun _ k => XS.i2l X.here hx rfl hd rfl k) h
theorem G_l2i (X : Stand p l e R s m args below meth c T locs cells slots) (hx : p.tables.exec = Jvm.exec) {x : Int64} (hp : pc + 1 = pc') (hd : decode c.code pc = .ok (.l2i, 1))  (h : Go p e below s C N Q T (mkF m pc' L (.int (x.toInt32) :: S))) : Go p e below s C N Q T (mkF m pc L (.long x :: S)) := by
  subst hp; exact Go.st (fun _ k => XS.l2i X.here hx rfl hd rfl k) h
theorem G_i2b (X : Stand p l e R s m args below meth c T locs cells slots) (hx : p.tables.exec = Jvm.exec) {x : Int32} (hp : pc + 1 = pc') (hd : decode c.code pc = .ok (.i2b, 1))  (h : Go p e below s C N Q T (mkF m pc' L (.int (x.toInt8.toInt32) :: S))) : Go p e below s C N Q T (mkF m pc L (.int x :: S)) := by
  subst hp; exact Go.st (fun _ k => XS.i2b X.here hx rfl hd rfl k) h
theorem G_i2s (X : Stand p l e R s m args below meth c T locs cells slots) (hx : p.tables.exec = Jvm.exec) {x : Int32} (hp : pc + 1 = pc') (hd : decode c.code pc = .ok (.i2s, 1))  (h : Go p e below s C N Q T (mkF m pc' L (.int (x.toInt16.toInt32) :: S))) : Go p e below s C N Q T (mkF m pc L (.int x :: S)) := by
  subst hp; exact Go.st (fun _ k => XS.i2s X.here hx rfl hd rfl k) h
theorem G_i2c (X : Stand p l e R s m args below meth c T locs cells slots) (hx : p.tables.exec = Jvm.exec) {x : Int32} (hp : pc + 1 = pc') (hd : decode c.code pc = .ok (.i2c, 1))  (h : Go p e below s C N Q T (mkF m pc' L (.int (x.toUInt32.toUInt16.toUInt32.toInt32) :: S))) : Go p e below s C N Q T (mkF m pc L (.int x :: S)) := by
  subst hp; exact Go.st (fun _ k => XS.i2c X.here hx rfl hd rfl k) h
theorem G_lcmp (X : Stand p l e R s m args below meth c T locs cells slots) (hx : p.tables.exec = Jvm.exec) {x y : Int64} (hp : pc + 1 = pc') (hd : decode c.code pc = .ok (.lcmp, 1))  (h : Go p e below s C N Q T (mkF m pc' L (.int (lcmpW x y) :: S))) : Go p e below s C N Q T (mkF m pc L (.long y :: .long x :: S)) := by
  subst hp; exact Go.st (fun _ k => XS.lcmp X.here hx rfl hd rfl k) h
theorem G_iinc (X : Stand p l e R s m args below meth c T locs cells slots) (hx : p.tables.exec = Jvm.exec) {k : Nat} {cst : Int} {x z : Int32} (hp : pc + 3 = pc') (hd : decode c.code pc = .ok (.iinc k cst, 3)) (hl : L[k]? = some (.val (.int x))) (hz : x + Int32.ofInt cst = z) (hl' : storeLocals L k (.int z) = some L') (h : Go p e below s C N Q T (mkF m pc' L' S)) : Go p e below s C N Q T (mkF m pc L S) := by
  subst hp; exact Go.st (fun _ k => XS.iinc X.here hx rfl hd hl (by rw [hz]; exact hl') k) h
theorem G_dup (X : Stand p l e R s m args below meth c T locs cells slots) (hx : p.tables.exec = Jvm.exec) {x : Value} (hp : pc + 1 = pc') (hd : decode c.code pc = .ok (.dup, 1)) (hc : x.category = 1) (h : Go p e below s C N Q T (mkF m pc' L (x :: x :: S))) : Go p e below s C N Q T (mkF m pc L (x :: S)) := by
  subst hp; exact Go.st (fun _ k => XS.dup X.here hx rfl hd rfl hc k) h
theorem G_pop (X : Stand p l e R s m args below meth c T locs cells slots) (hx : p.tables.exec = Jvm.exec) {x : Value} (hp : pc + 1 = pc') (hd : decode c.code pc = .ok (.pop, 1)) (hc : x.category = 1) (h : Go p e below s C N Q T (mkF m pc' L S)) : Go p e below s C N Q T (mkF m pc L (x :: S)) := by
  subst hp; exact Go.st (fun _ k => XS.pop X.here hx rfl hd rfl hc k) h
theorem G_dupX1 (X : Stand p l e R s m args below meth c T locs cells slots) (hx : p.tables.exec = Jvm.exec) {x y : Value} (hp : pc + 1 = pc') (hd : decode c.code pc = .ok (.dup_x1, 1)) (hc : x.category = 1) (hc' : y.category = 1) (h : Go p e below s C N Q T (mkF m pc' L (x :: y :: x :: S))) : Go p e below s C N Q T (mkF m pc L (x :: y :: S)) := by
  subst hp; exact Go.st (fun _ k => XS.dupX1 X.here hx rfl hd rfl hc hc' k) h
theorem G_goto (X : Stand p l e R s m args below meth c T locs cells slots) (hx : p.tables.exec = Jvm.exec)  {o : Int} (hd : decode c.code pc = .ok (.goto o, 3))  (ho : 0 ≤ (pc : Int) + o) (hp : ((pc : Int) + o).toNat = pc') (h : Go p e below s C N Q T (mkF m pc' L S)) : Go p e below s C N Q T (mkF m pc L S) :=
  Go.st (fun _ k => XS.goto X.here hx rfl rfl hd ho hp k) h
theorem G_ifYes (X : Stand p l e R s m args below meth c T locs cells slots) (hx : p.tables.exec = Jvm.exec) {cd : ClassFile.Cond} {x : Int32} {o : Int} (hd : decode c.code pc = .ok (.ifCond cd o, 3)) (hc : ifCond.holds cd x = true) (ho : 0 ≤ (pc : Int) + o) (hp : ((pc : Int) + o).toNat = pc') (h : Go p e below s C N Q T (mkF m pc' L S)) : Go p e below s C N Q T (mkF m pc L (.int x :: S)) :=
  Go.st (fun _ k => XS.ifYes X.here hx rfl rfl hd rfl hc ho hp k) h
theorem G_icmpYes (X : Stand p l e R s m args below meth c T locs cells slots) (hx : p.tables.exec = Jvm.exec) {cd : ClassFile.Cond} {x y : Int32} {o : Int} (hd : decode c.code pc = .ok (.if_icmp cd o, 3)) (hc : if_icmp.holds cd x y = true) (ho : 0 ≤ (pc : Int) + o) (hp : ((pc : Int) + o).toNat = pc') (h : Go p e below s C N Q T (mkF m pc' L S)) : Go p e below s C N Q T (mkF m pc L (.int y :: .int x :: S)) :=
  Go.st (fun _ k => XS.icmpYes X.here hx rfl rfl hd rfl hc ho hp k) h
theorem G_ifnullYes (X : Stand p l e R s m args below meth c T locs cells slots) (hx : p.tables.exec = Jvm.exec)  {o : Int} (hd : decode c.code pc = .ok (.ifnull o, 3))  (ho : 0 ≤ (pc : Int) + o) (hp : ((pc : Int) + o).toNat = pc') (h : Go p e below s C N Q T (mkF m pc' L S)) : Go p e below s C N Q T (mkF m pc L (.null :: S)) :=
  Go.st (fun _ k => XS.ifnullYes X.here hx rfl rfl hd rfl ho hp k) h
theorem G_ifnonnullYes (X : Stand p l e R s m args below meth c T locs cells slots) (hx : p.tables.exec = Jvm.exec) {b : Addr} {o : Int} (hd : decode c.code pc = .ok (.ifnonnull o, 3))  (ho : 0 ≤ (pc : Int) + o) (hp : ((pc : Int) + o).toNat = pc') (h : Go p e below s C N Q T (mkF m pc' L S)) : Go p e below s C N Q T (mkF m pc L (.ref b :: S)) :=
  Go.st (fun _ k => XS.ifnonnullYes X.here hx rfl rfl hd rfl ho hp k) h
theorem G_ifNo (X : Stand p l e R s m args below meth c T locs cells slots) (hx : p.tables.exec = Jvm.exec) {cd : ClassFile.Cond} {x : Int32} {o : Int} (hp : pc + 3 = pc') (hd : decode c.code pc = .ok (.ifCond cd o, 3)) (hc : ifCond.holds cd x = false) (h : Go p e below s C N Q T (mkF m pc' L S)) : Go p e below s C N Q T (mkF m pc L (.int x :: S)) := by
  subst hp; exact Go.st (fun _ k => XS.ifNo X.here hx rfl hd rfl hc k) h
theorem G_icmpNo (X : Stand p l e R s m args below meth c T locs cells slots) (hx : p.tables.exec = Jvm.exec) {cd : ClassFile.Cond} {x y : Int32} {o : Int} (hp : pc + 3 = pc') (hd : decode c.code pc = .ok (.if_icmp cd o, 3)) (hc : if_icmp.holds cd x y = false) (h : Go p e below s C N Q T (mkF m pc' L S)) : Go p e below s C N Q T (mkF m pc L (.int y :: .int x :: S)) := by
  subst hp; exact Go.st (fun _ k => XS.icmpNo X.here hx rfl hd rfl hc k) h
theorem G_ifnullNo (X : Stand p l e R s m args below meth c T locs cells slots) (hx : p.tables.exec = Jvm.exec) {b : Addr} {o : Int} (hp : pc + 3 = pc') (hd : decode c.code pc = .ok (.ifnull o, 3))  (h : Go p e below s C N Q T (mkF m pc' L S)) : Go p e below s C N Q T (mkF m pc L (.ref b :: S)) := by
  subst hp; exact Go.st (fun _ k => XS.ifnullNo X.here hx rfl hd rfl k) h
theorem G_ifnonnullNo (X : Stand p l e R s m args below meth c T locs cells slots) (hx : p.tables.exec = Jvm.exec) {o : Int} (hp : pc + 3 = pc') (hd : decode c.code pc = .ok (.ifnonnull o, 3))  (h : Go p e below s C N Q T (mkF m pc' L S)) : Go p e below s C N Q T (mkF m pc L (.null :: S)) := by
  subst hp; exact Go.st (fun _ k => XS.ifnonnullNo X.here hx rfl hd rfl k) h
theorem G_ldc (X : Stand p l e R s m args below meth c T locs cells slots) (hx : p.tables.exec = Jvm.exec) (hp : pc + 2 = pc') {own : String} {index : Nat} {v : Int32} (hown : s.vm.findClass own = some m.cls) (hw : (Cond.constant own index v).before args s = true) (hd : decode c.code pc = .ok (.ldc index, 2)) (h : Go p e below s C N Q T (mkF m pc' L (.int v :: S))) : Go p e below s C N Q T (mkF m pc L S) := by
  subst hp; exact Go.st (X.ldcInt hx hown hw (g := mkF m pc L S) rfl hd) h
theorem G_ldc2 (X : Stand p l e R s m args below meth c T locs cells slots) (hx : p.tables.exec = Jvm.exec) (hp : pc + 3 = pc') {own : String} {index : Nat} {v : Int64} (hown : s.vm.findClass own = some m.cls) (hw : (Cond.constantLong own index v).before args s = true) (hd : decode c.code pc = .ok (.ldc2_w index, 3)) (h : Go p e below s C N Q T (mkF m pc' L (.long v :: S))) : Go p e below s C N Q T (mkF m pc L S) := by
  subst hp; exact Go.st (X.ldc2Long hx hown hw (g := mkF m pc L S) rfl hd) h
end OwnG


theorem own_neg64 (x : Int64) : x < 0 ↔ x.toBitVec.msb = true := by
  rw [Int64.lt_iff_toInt_lt, BitVec.msb_eq_toInt]
  show x.toBitVec.toInt < 0 ↔ _
  simp
theorem own_noov {t : Int64} (h : t ≠ 9223372036854775807) : ¬ (((t ^^^ (t + (1 : Int64))) &&& ((1 : Int64) ^^^ (t + (1 : Int64)))) < (0 : Int64)) := by
  rw [own_neg64]
  have h1 : (1 : Int64).toBitVec.msb = false := by decide
  rw [Int64.toBitVec_and, Int64.toBitVec_xor, Int64.toBitVec_xor, BitVec.msb_and, BitVec.msb_xor, BitVec.msb_xor, h1]
  have e : (t + 1).toBitVec.msb = true → t.toBitVec.msb = true := by
    intro q
    rw [← own_neg64] at q ⊢
    rw [Int64.lt_iff_toInt_lt] at q ⊢
    have r := rng64 t
    have k := c_ladd t 1
    have r2 := rng64 (t + 1)
    have e0 : (0 : Int64).toInt = 0 := rfl
    have e1 : (1 : Int64).toInt = 1 := by decide
    have ne : t.toInt ≠ 9223372036854775807 := fun z => h (Int64.toInt_inj.mp (z.trans (by decide)))
    rw [e0] at q ⊢
    rw [e1] at k
    omega
  cases ht : t.toBitVec.msb <;> cases hs : (t + 1).toBitVec.msb <;> simp_all

theorem d_max_0 : decode jdk_29_method_66_code 0 = .ok (.lload_n 0, 1) := by decide +kernel
theorem d_max_1 : decode jdk_29_method_66_code 1 = .ok (.lload_n 2, 1) := by decide +kernel
theorem d_max_2 : decode jdk_29_method_66_code 2 = .ok (.lcmp, 1) := by decide +kernel
theorem d_max_3 : decode jdk_29_method_66_code 3 = .ok (.ifCond .lt 7, 3) := by decide +kernel
theorem d_max_10 : decode jdk_29_method_66_code 10 = .ok (.lload_n 2, 1) := by decide +kernel
theorem d_max_11 : decode jdk_29_method_66_code 11 = .ok (.lreturn, 1) := by decide +kernel
theorem d_max_6 : decode jdk_29_method_66_code 6 = .ok (.lload_n 0, 1) := by decide +kernel
theorem d_max_7 : decode jdk_29_method_66_code 7 = .ok (.goto 4, 3) := by decide +kernel
def f_max (v0 : Int64) (v1 : Int64) : Int64 := (if v0 < v1 then v1 else v0)
theorem ef_max (m : MethodId) (v0 : Int64) (v1 : Int64) : entryFrame m #[(.long v0), (.long v1)] 4 = mkF m 0 #[.val (.long v0), .second, .val (.long v1), .second] [] := by first | (simp [entryFrame, mkF, argsToLocals, Value.category]; done) | rfl
def Q_max (Z : State) (v0 : Int64) (v1 : Int64) (h0 : Heap) (n0 : Nat) (v : Option Value) (h : Heap) (L : List Loc) : Prop := v = some (.long (f_max v0 v1)) ∧ Fr n0 L ∧ h = h0
set_option maxRecDepth 65536 in
set_option maxHeartbeats 40000000 in
theorem rm_max (l : Launch) (Z : State) (a0 : Array Value) (hw : ∀ d ∈ tables_1, d.before a0 Z = true) (ws : List Jvm.Cond) (v0 : Int64) (v1 : Int64) (h0 : Heap) (n0 : Nat) (Z0 : n0 ≤ h0.size) :
    MetFree l (⟨"java/lang/Math", "max", "(JJ)J"⟩ : MethodName) (head1 (Jvm.Cond.code (⟨"java/lang/Math", "max", "(JJ)J"⟩ : MethodName) jdk_29_method_66_code 4 (some .long) :: ws) ({ frames := 0, cells := 0, slots := 0, locals := 0 } : Room)) (fun a U => a = #[(.long v0), (.long v1)] ∧ Z.Warmed39 U.vm ∧ U.heap = h0) (fun _ _ _ _ _ => True) (fun _ U o U' => ∃ v L, o = .returned v ∧ Q_max Z v0 v1 h0 n0 v U'.heap L ∧ FrameEnd U o U' L ({ frames := 0, cells := 0, slots := 0, locals := 0 } : Room).cells ({ frames := 0, cells := 0, slots := 0, locals := 0 } : Room).slots) := by
  refine MetFree.of_bodySF (Jvm.Free.JP.mathPlain rfl (by decide +kernel)) hisR ?_
  intro p e s m args below meth c s₁ Bd hml0 hP hK
  obtain ⟨rfl, hZ, hh⟩ := hP
  have hx := Bd.exec
  have hby := Bd.bytes
  have hml : c.maxLocals = 4 := hml0
  have hown : s.vm.findClass "java/lang/Math" = some m.cls := findClass_of_methodNamed Bd.named
  have hnm := (name_of_methodNamed Bd.named Bd.method).1
  have hlk : meth.locks = false := Bd.notSynchronized
  have X0 : Stand p l e ({ frames := 0, cells := 0, slots := 0, locals := 0 } : Room) s m #[(.long v0), (.long v1)] below meth c s₁ [] 0 0 := Stand.of_body Bd
  have e0 : s₁.heap = h0 := by rw [← hh, Bd.state]; rfl
  have N0 := Fr.nil n0
  refine Go.enter (Q := Q_max Z v0 v1 h0 n0) (C := ({ frames := 0, cells := 0, slots := 0, locals := 0 } : Room).cells) (N := ({ frames := 0, cells := 0, slots := 0, locals := 0 } : Room).slots) (ef_max m v0 v1) ?_
  show Go p e below s _ _ _ s₁ (mkF m 0 #[.val (.long v0), .second, .val (.long v1), .second] [])
  refine G_lloadN X0 hx (pc' := 1) rfl (hb hby d_max_0) rfl ?_
  refine G_lloadN X0 hx (pc' := 2) rfl (hb hby d_max_1) rfl ?_
  refine G_lcmp X0 hx (pc' := 3) rfl (hb hby d_max_2)  ?_
  by_cases hc3_1 : v0 < v1
  · refine G_ifYes X0 hx (pc' := 10) (hb hby d_max_3) ((if0 _ _).trans (tlt ((lw_lt _ _).2 hc3_1)).1) (by decide) (by decide) ?_
    refine G_lloadN X0 hx (pc' := 11) rfl (hb hby d_max_10) rfl ?_
    refine Go.fin X0 hlk (v := some (.long v1)) (fun h => by rw [Bd.returns] at h; cases h) (by decide) (by decide) ?_ (fun fs hr => retOut X0 hx Bd.returns rfl (Or.inr (Or.inl ⟨rfl, rfl, _, rfl⟩)) (hb hby d_max_11) hr)
    show Q_max Z v0 v1 h0 n0 _ s₁.heap _
    rw [e0]
    exact ⟨congrArg (fun z => some (Value.long z)) (by rw [f_max]; rw [if_pos hc3_1]), N0, rfl⟩
  · refine G_ifNo X0 hx (pc' := 6) rfl (hb hby d_max_3) ((if0 _ _).trans (flt (fun q => hc3_1 ((lw_lt _ _).1 q))).1) ?_
    refine G_lloadN X0 hx (pc' := 7) rfl (hb hby d_max_6) rfl ?_
    refine G_goto X0 hx (pc' := 11) (hb hby d_max_7)  (by decide) (by decide) ?_
    refine Go.fin X0 hlk (v := some (.long v0)) (fun h => by rw [Bd.returns] at h; cases h) (by decide) (by decide) ?_ (fun fs hr => retOut X0 hx Bd.returns rfl (Or.inr (Or.inl ⟨rfl, rfl, _, rfl⟩)) (hb hby d_max_11) hr)
    show Q_max Z v0 v1 h0 n0 _ s₁.heap _
    rw [e0]
    exact ⟨congrArg (fun z => some (Value.long z)) (by rw [f_max]; rw [if_neg hc3_1]), N0, rfl⟩
theorem d_addx_0 : decode jdk_29_method_25_code 0 = .ok (.lload_n 0, 1) := by decide +kernel
theorem d_addx_1 : decode jdk_29_method_25_code 1 = .ok (.lload_n 2, 1) := by decide +kernel
theorem d_addx_2 : decode jdk_29_method_25_code 2 = .ok (.ladd, 1) := by decide +kernel
theorem d_addx_3 : decode jdk_29_method_25_code 3 = .ok (.lstore 4, 2) := by decide +kernel
theorem d_addx_5 : decode jdk_29_method_25_code 5 = .ok (.lload_n 0, 1) := by decide +kernel
theorem d_addx_6 : decode jdk_29_method_25_code 6 = .ok (.lload 4, 2) := by decide +kernel
theorem d_addx_8 : decode jdk_29_method_25_code 8 = .ok (.lxor, 1) := by decide +kernel
theorem d_addx_9 : decode jdk_29_method_25_code 9 = .ok (.lload_n 2, 1) := by decide +kernel
theorem d_addx_10 : decode jdk_29_method_25_code 10 = .ok (.lload 4, 2) := by decide +kernel
theorem d_addx_12 : decode jdk_29_method_25_code 12 = .ok (.lxor, 1) := by decide +kernel
theorem d_addx_13 : decode jdk_29_method_25_code 13 = .ok (.land, 1) := by decide +kernel
theorem d_addx_14 : decode jdk_29_method_25_code 14 = .ok (.lconst 0, 1) := by decide +kernel
theorem d_addx_15 : decode jdk_29_method_25_code 15 = .ok (.lcmp, 1) := by decide +kernel
theorem d_addx_16 : decode jdk_29_method_25_code 16 = .ok (.ifCond .ge 13, 3) := by decide +kernel
theorem d_addx_29 : decode jdk_29_method_25_code 29 = .ok (.lload 4, 2) := by decide +kernel
theorem d_addx_31 : decode jdk_29_method_25_code 31 = .ok (.lreturn, 1) := by decide +kernel
theorem ef_addx (m : MethodId) (v0 : Int64) (v1 : Int64) : entryFrame m #[(.long v0), (.long v1)] 6 = mkF m 0 #[.val (.long v0), .second, .val (.long v1), .second, .unset, .unset] [] := by first | (simp [entryFrame, mkF, argsToLocals, Value.category]; done) | rfl
def Q_addx (Z : State) (v0 : Int64) (v1 : Int64) (h0 : Heap) (n0 : Nat) (v : Option Value) (h : Heap) (L : List Loc) : Prop := v = some (.long (v0 + v1)) ∧ Fr n0 L ∧ h = h0
set_option maxRecDepth 65536 in
set_option maxHeartbeats 40000000 in
theorem rm_addx (l : Launch) (Z : State) (a0 : Array Value) (hw : ∀ d ∈ tables_1, d.before a0 Z = true) (ws : List Jvm.Cond) (v0 : Int64) (v1 : Int64) (h0 : Heap) (n0 : Nat) (Z0 : n0 ≤ h0.size) (hov : ¬ (((v0 ^^^ (v0 + v1)) &&& (v1 ^^^ (v0 + v1))) < (0 : Int64))) :
    MetFree l (⟨"java/lang/Math", "addExact", "(JJ)J"⟩ : MethodName) (head1 (Jvm.Cond.code (⟨"java/lang/Math", "addExact", "(JJ)J"⟩ : MethodName) jdk_29_method_25_code 6 (some .long) :: ws) ({ frames := 0, cells := 0, slots := 0, locals := 0 } : Room)) (fun a U => a = #[(.long v0), (.long v1)] ∧ Z.Warmed39 U.vm ∧ U.heap = h0) (fun _ _ _ _ _ => True) (fun _ U o U' => ∃ v L, o = .returned v ∧ Q_addx Z v0 v1 h0 n0 v U'.heap L ∧ FrameEnd U o U' L ({ frames := 0, cells := 0, slots := 0, locals := 0 } : Room).cells ({ frames := 0, cells := 0, slots := 0, locals := 0 } : Room).slots) := by
  refine MetFree.of_bodySF (Jvm.Free.JP.mathPlain rfl (by decide +kernel)) hisR ?_
  intro p e s m args below meth c s₁ Bd hml0 hP hK
  obtain ⟨rfl, hZ, hh⟩ := hP
  have hx := Bd.exec
  have hby := Bd.bytes
  have hml : c.maxLocals = 6 := hml0
  have hown : s.vm.findClass "java/lang/Math" = some m.cls := findClass_of_methodNamed Bd.named
  have hnm := (name_of_methodNamed Bd.named Bd.method).1
  have hlk : meth.locks = false := Bd.notSynchronized
  have X0 : Stand p l e ({ frames := 0, cells := 0, slots := 0, locals := 0 } : Room) s m #[(.long v0), (.long v1)] below meth c s₁ [] 0 0 := Stand.of_body Bd
  have e0 : s₁.heap = h0 := by rw [← hh, Bd.state]; rfl
  have N0 := Fr.nil n0
  refine Go.enter (Q := Q_addx Z v0 v1 h0 n0) (C := ({ frames := 0, cells := 0, slots := 0, locals := 0 } : Room).cells) (N := ({ frames := 0, cells := 0, slots := 0, locals := 0 } : Room).slots) (ef_addx m v0 v1) ?_
  show Go p e below s _ _ _ s₁ (mkF m 0 #[.val (.long v0), .second, .val (.long v1), .second, .unset, .unset] [])
  refine G_lloadN X0 hx (pc' := 1) rfl (hb hby d_addx_0) rfl ?_
  refine G_lloadN X0 hx (pc' := 2) rfl (hb hby d_addx_1) rfl ?_
  refine G_ladd X0 hx (pc' := 3) rfl (hb hby d_addx_2)  ?_
  refine G_lstore X0 hx (pc' := 5) rfl (hb hby d_addx_3) (L' := #[.val (.long v0), .second, .val (.long v1), .second, .val (.long (v0 + v1)), .second]) rfl ?_
  refine G_lloadN X0 hx (pc' := 6) rfl (hb hby d_addx_5) rfl ?_
  refine G_lload X0 hx (pc' := 8) rfl (hb hby d_addx_6) rfl ?_
  refine G_lxor X0 hx (pc' := 9) rfl (hb hby d_addx_8)  ?_
  refine G_lloadN X0 hx (pc' := 10) rfl (hb hby d_addx_9) rfl ?_
  refine G_lload X0 hx (pc' := 12) rfl (hb hby d_addx_10) rfl ?_
  refine G_lxor X0 hx (pc' := 13) rfl (hb hby d_addx_12)  ?_
  refine G_land X0 hx (pc' := 14) rfl (hb hby d_addx_13)  ?_
  refine G_lconst X0 hx (pc' := 15) rfl (hb hby d_addx_14) (z := (0 : Int64)) rfl ?_
  refine G_lcmp X0 hx (pc' := 16) rfl (hb hby d_addx_15)  ?_
  refine G_ifYes X0 hx (pc' := 29) (hb hby d_addx_16) ((if0 _ _).trans (flt (fun q => (hov : ¬ (((v0 ^^^ (v0 + v1)) &&& (v1 ^^^ (v0 + v1))) < (0 : Int64))) ((lw_lt _ _).1 q))).2.1) (by decide) (by decide) ?_
  refine G_lload X0 hx (pc' := 31) rfl (hb hby d_addx_29) rfl ?_
  refine Go.fin X0 hlk (v := some (.long (v0 + v1))) (fun h => by rw [Bd.returns] at h; cases h) (by decide) (by decide) ?_ (fun fs hr => retOut X0 hx Bd.returns rfl (Or.inr (Or.inl ⟨rfl, rfl, _, rfl⟩)) (hb hby d_addx_31) hr)
  show Q_addx Z v0 v1 h0 n0 _ s₁.heap _
  rw [e0]
  exact ⟨rfl, N0, rfl⟩
theorem d_init_0 : decode prog_9_method_1_code 0 = .ok (.aload_n 0, 1) := by decide +kernel
theorem d_init_1 : decode prog_9_method_1_code 1 = .ok (.invokespecial 1, 3) := by decide +kernel
theorem d_init_4 : decode prog_9_method_1_code 4 = .ok (.return_, 1) := by decide +kernel
theorem ef_init (m : MethodId) (v0 : Addr) : entryFrame m #[(.ref v0)] 1 = mkF m 0 #[.val (.ref v0)] [] := by first | (simp [entryFrame, mkF, argsToLocals, Value.category]; done) | rfl
def Q_init (Z : State) (v0 : Addr) (h0 : Heap) (n0 : Nat) (v : Option Value) (h : Heap) (L : List Loc) : Prop := v = none ∧ Fr n0 L ∧ h = h0
set_option maxRecDepth 65536 in
set_option maxHeartbeats 40000000 in
theorem rm_init (l : Launch) (Z : State) (a0 : Array Value) (hw : ∀ d ∈ tables_1, d.before a0 Z = true) (ws : List Jvm.Cond) (v0 : Addr) (h0 : Heap) (n0 : Nat) (Z0 : n0 ≤ h0.size) (f0_E_v0 : Exa Z h0 v0 "com/example/fencing/fencing/protocol/LamportClock") :
    MetFree l (⟨"com/example/fencing/fencing/protocol/LamportClock", "<init>", "()V"⟩ : MethodName) (head1 (Jvm.Cond.code (⟨"com/example/fencing/fencing/protocol/LamportClock", "<init>", "()V"⟩ : MethodName) prog_9_method_1_code 1 none :: ws) ({ frames := 1, cells := 0, slots := 0, locals := 12 } : Room)) (fun a U => a = #[(.ref v0)] ∧ Z.Warmed39 U.vm ∧ U.heap = h0) (fun _ _ _ _ _ => True) (fun _ U o U' => ∃ v L, o = .returned v ∧ Q_init Z v0 h0 n0 v U'.heap L ∧ FrameEnd U o U' L ({ frames := 1, cells := 0, slots := 0, locals := 12 } : Room).cells ({ frames := 1, cells := 0, slots := 0, locals := 12 } : Room).slots) := by
  refine MetFree.of_bodySF (plainFor_of_name (by first | (simp [plainName, overriddenIn]; done) | decide +kernel)) hisR ?_
  intro p e s m args below meth c s₁ Bd hml0 hP hK
  obtain ⟨rfl, hZ, hh⟩ := hP
  have hx := Bd.exec
  have hby := Bd.bytes
  have hml : c.maxLocals = 1 := hml0
  have hown : s.vm.findClass "com/example/fencing/fencing/protocol/LamportClock" = some m.cls := findClass_of_methodNamed Bd.named
  have hnm := (name_of_methodNamed Bd.named Bd.method).1
  have hlk : meth.locks = false := Bd.notSynchronized
  have X0 : Stand p l e ({ frames := 1, cells := 0, slots := 0, locals := 12 } : Room) s m #[(.ref v0)] below meth c s₁ [] 0 0 := Stand.of_body Bd
  have e0 : s₁.heap = h0 := by rw [← hh, Bd.state]; rfl
  have N0 := Fr.nil n0
  refine Go.enter (Q := Q_init Z v0 h0 n0) (C := ({ frames := 1, cells := 0, slots := 0, locals := 12 } : Room).cells) (N := ({ frames := 1, cells := 0, slots := 0, locals := 12 } : Room).slots) (ef_init m v0) ?_
  show Go p e below s _ _ _ s₁ (mkF m 0 #[.val (.ref v0)] [])
  refine G_aloadN X0 hx (pc' := 1) rfl (hb hby d_init_0) rfl rfl ?_
  obtain ⟨T1, X1, e1, st1⟩ := initO X0 hx hZ hown (hw _ (List.mem_of_getElem? (i := 6) rfl)) (hw _ (List.mem_of_getElem? (i := 7) rfl)) (hw _ (List.mem_of_getElem? (i := 8) rfl)) e0 (g := (mkF m 1 #[.val (.ref v0)] [(.ref v0)])) rfl (by rw [hml]; rfl) rfl (hb hby d_init_1) (by decide) (W := 0) (by show 2 * 0 + _ ≤ _; exact Nat.le_of_eq rfl) (by decide)
  refine Go.st st1 ?_
  show Go p e below s _ _ _ T1 (mkF m 4 #[.val (.ref v0)] [])
  refine Go.fin X1 hlk (v := none) (fun _ => rfl) (by decide) (by decide) ?_ (fun fs hr => X1.returnOut hx Bd.returns (hb hby d_init_4) hr)
  show Q_init Z v0 h0 n0 _ T1.heap _
  rw [e1]
  exact ⟨rfl, N0, rfl⟩
theorem d_time_0 : decode prog_9_method_2_code 0 = .ok (.aload_n 0, 1) := by decide +kernel
theorem d_time_1 : decode prog_9_method_2_code 1 = .ok (.getfield 7, 3) := by decide +kernel
theorem d_time_4 : decode prog_9_method_2_code 4 = .ok (.lreturn, 1) := by decide +kernel
theorem ef_time (m : MethodId) (v0 : Addr) : entryFrame m #[(.ref v0)] 1 = mkF m 0 #[.val (.ref v0)] [] := by first | (simp [entryFrame, mkF, argsToLocals, Value.category]; done) | rfl
def Q_time (Z : State) (v0 : Addr) (t : Int64) (h0 : Heap) (n0 : Nat) (v : Option Value) (h : Heap) (L : List Loc) : Prop := v = some (.long t) ∧ Fr n0 L ∧ h = h0
set_option maxRecDepth 65536 in
set_option maxHeartbeats 40000000 in
theorem rm_time (l : Launch) (Z : State) (a0 : Array Value) (hw : ∀ d ∈ tables_1, d.before a0 Z = true) (ws : List Jvm.Cond) (v0 : Addr) (t : Int64) (h0 : Heap) (n0 : Nat) (Z0 : n0 ≤ h0.size) (f0_F_v0 : Fld Z h0 v0 "com/example/fencing/fencing/protocol/LamportClock" "time" "J" (.long t)) :
    MetFree l (⟨"com/example/fencing/fencing/protocol/LamportClock", "time", "()J"⟩ : MethodName) (head1 (Jvm.Cond.code (⟨"com/example/fencing/fencing/protocol/LamportClock", "time", "()J"⟩ : MethodName) prog_9_method_2_code 1 (some .long) :: ws) ({ frames := 0, cells := 0, slots := 0, locals := 0 } : Room)) (fun a U => a = #[(.ref v0)] ∧ Z.Warmed39 U.vm ∧ U.heap = h0) (fun _ _ _ _ _ => True) (fun _ U o U' => ∃ v L, o = .returned v ∧ Q_time Z v0 t h0 n0 v U'.heap L ∧ FrameEnd U o U' L ({ frames := 0, cells := 0, slots := 0, locals := 0 } : Room).cells ({ frames := 0, cells := 0, slots := 0, locals := 0 } : Room).slots) := by
  refine MetFree.of_bodySF (plainFor_of_name (by first | (simp [plainName, overriddenIn]; done) | decide +kernel)) hisR ?_
  intro p e s m args below meth c s₁ Bd hml0 hP hK
  obtain ⟨rfl, hZ, hh⟩ := hP
  have hx := Bd.exec
  have hby := Bd.bytes
  have hml : c.maxLocals = 1 := hml0
  have hown : s.vm.findClass "com/example/fencing/fencing/protocol/LamportClock" = some m.cls := findClass_of_methodNamed Bd.named
  have hnm := (name_of_methodNamed Bd.named Bd.method).1
  have hlk : meth.locks = false := Bd.notSynchronized
  have X0 : Stand p l e ({ frames := 0, cells := 0, slots := 0, locals := 0 } : Room) s m #[(.ref v0)] below meth c s₁ [] 0 0 := Stand.of_body Bd
  have e0 : s₁.heap = h0 := by rw [← hh, Bd.state]; rfl
  have N0 := Fr.nil n0
  refine Go.enter (Q := Q_time Z v0 t h0 n0) (C := ({ frames := 0, cells := 0, slots := 0, locals := 0 } : Room).cells) (N := ({ frames := 0, cells := 0, slots := 0, locals := 0 } : Room).slots) (ef_time m v0) ?_
  show Go p e below s _ _ _ s₁ (mkF m 0 #[.val (.ref v0)] [])
  refine G_aloadN X0 hx (pc' := 1) rfl (hb hby d_time_0) rfl rfl ?_
  obtain ⟨T2, X2, e2, st2⟩ := getF X0 hx hZ hown (host := "") (Or.inl (hw _ (List.mem_of_getElem? (i := 14) rfl))) Via.refl e0 f0_F_v0 (g := (mkF m 1 #[.val (.ref v0)] [(.ref v0)])) rfl rfl (hb hby d_time_1)
  refine Go.st st2 ?_
  show Go p e below s _ _ _ T2 (mkF m 4 #[.val (.ref v0)] [(.long t)])
  refine Go.fin X2 hlk (v := some (.long t)) (fun h => by rw [Bd.returns] at h; cases h) (by decide) (by decide) ?_ (fun fs hr => retOut X2 hx Bd.returns rfl (Or.inr (Or.inl ⟨rfl, rfl, _, rfl⟩)) (hb hby d_time_4) hr)
  show Q_time Z v0 t h0 n0 _ T2.heap _
  rw [e2]
  exact ⟨rfl, N0, rfl⟩
theorem d_tick_0 : decode prog_9_method_3_code 0 = .ok (.aload_n 0, 1) := by decide +kernel
theorem d_tick_1 : decode prog_9_method_3_code 1 = .ok (.aload_n 0, 1) := by decide +kernel
theorem d_tick_2 : decode prog_9_method_3_code 2 = .ok (.getfield 7, 3) := by decide +kernel
theorem d_tick_5 : decode prog_9_method_3_code 5 = .ok (.lconst 1, 1) := by decide +kernel
theorem d_tick_6 : decode prog_9_method_3_code 6 = .ok (.invokestatic 13, 3) := by decide +kernel
theorem pd_0 : parseMethodDescriptor "(JJ)J" = some ⟨[.long, .long], some .long⟩ := by decide +kernel
theorem d_tick_9 : decode prog_9_method_3_code 9 = .ok (.putfield 7, 3) := by decide +kernel
theorem d_tick_12 : decode prog_9_method_3_code 12 = .ok (.aload_n 0, 1) := by decide +kernel
theorem d_tick_13 : decode prog_9_method_3_code 13 = .ok (.getfield 7, 3) := by decide +kernel
theorem d_tick_16 : decode prog_9_method_3_code 16 = .ok (.lreturn, 1) := by decide +kernel
theorem ef_tick (m : MethodId) (v0 : Addr) : entryFrame m #[(.ref v0)] 1 = mkF m 0 #[.val (.ref v0)] [] := by first | (simp [entryFrame, mkF, argsToLocals, Value.category]; done) | rfl
def Q_tick (Z : State) (v0 : Addr) (t : Int64) (h0 : Heap) (n0 : Nat) (v : Option Value) (h : Heap) (L : List Loc) : Prop := v = some (.long (t + (1 : Int64))) ∧ Fr n0 L ∧ Keep h0 h [v0] ∧ Exa Z h v0 "com/example/fencing/fencing/protocol/LamportClock" ∧ Fld Z h v0 "com/example/fencing/fencing/protocol/LamportClock" "time" "J" (.long (t + (1 : Int64)))
set_option maxRecDepth 65536 in
set_option maxHeartbeats 40000000 in
theorem rm_tick (l : Launch) (Z : State) (a0 : Array Value) (hw : ∀ d ∈ tables_1, d.before a0 Z = true) (ws : List Jvm.Cond) (v0 : Addr) (t : Int64) (h0 : Heap) (n0 : Nat) (Z0 : n0 ≤ h0.size) (f0_E_v0 : Exa Z h0 v0 "com/example/fencing/fencing/protocol/LamportClock") (f1_F_v0 : Fld Z h0 v0 "com/example/fencing/fencing/protocol/LamportClock" "time" "J" (.long t)) (g_v0 : n0 ≤ v0) (ht : t ≠ (9223372036854775807 : Int64)) :
    MetFree l (⟨"com/example/fencing/fencing/protocol/LamportClock", "tick", "()J"⟩ : MethodName) (head1 (Jvm.Cond.code (⟨"com/example/fencing/fencing/protocol/LamportClock", "tick", "()J"⟩ : MethodName) prog_9_method_3_code 1 (some .long) :: ws) ({ frames := 1, cells := 0, slots := 0, locals := 18 } : Room)) (fun a U => a = #[(.ref v0)] ∧ Z.Warmed39 U.vm ∧ U.heap = h0) (fun _ _ _ _ _ => True) (fun _ U o U' => ∃ v L, o = .returned v ∧ Q_tick Z v0 t h0 n0 v U'.heap L ∧ FrameEnd U o U' L ({ frames := 1, cells := 0, slots := 0, locals := 18 } : Room).cells ({ frames := 1, cells := 0, slots := 0, locals := 18 } : Room).slots) := by
  refine MetFree.of_bodySF (plainFor_of_name (by first | (simp [plainName, overriddenIn]; done) | decide +kernel)) hisR ?_
  intro p e s m args below meth c s₁ Bd hml0 hP hK
  obtain ⟨rfl, hZ, hh⟩ := hP
  have hx := Bd.exec
  have hby := Bd.bytes
  have hml : c.maxLocals = 1 := hml0
  have hown : s.vm.findClass "com/example/fencing/fencing/protocol/LamportClock" = some m.cls := findClass_of_methodNamed Bd.named
  have hnm := (name_of_methodNamed Bd.named Bd.method).1
  have hlk : meth.locks = false := Bd.notSynchronized
  have X0 : Stand p l e ({ frames := 1, cells := 0, slots := 0, locals := 18 } : Room) s m #[(.ref v0)] below meth c s₁ [] 0 0 := Stand.of_body Bd
  have e0 : s₁.heap = h0 := by rw [← hh, Bd.state]; rfl
  have N0 := Fr.nil n0
  refine Go.enter (Q := Q_tick Z v0 t h0 n0) (C := ({ frames := 1, cells := 0, slots := 0, locals := 18 } : Room).cells) (N := ({ frames := 1, cells := 0, slots := 0, locals := 18 } : Room).slots) (ef_tick m v0) ?_
  show Go p e below s _ _ _ s₁ (mkF m 0 #[.val (.ref v0)] [])
  refine G_aloadN X0 hx (pc' := 1) rfl (hb hby d_tick_0) rfl rfl ?_
  refine G_aloadN X0 hx (pc' := 2) rfl (hb hby d_tick_1) rfl rfl ?_
  obtain ⟨T3, X3, e3, st3⟩ := getF X0 hx hZ hown (host := "") (Or.inl (hw _ (List.mem_of_getElem? (i := 14) rfl))) Via.refl e0 f1_F_v0 (g := (mkF m 2 #[.val (.ref v0)] [(.ref v0), (.ref v0)])) rfl rfl (hb hby d_tick_2)
  refine Go.st st3 ?_
  show Go p e below s _ _ _ T3 (mkF m 5 #[.val (.ref v0)] [(.long t), (.ref v0)])
  refine G_lconst X3 hx (pc' := 6) rfl (hb hby d_tick_5) (z := (1 : Int64)) rfl ?_
  obtain ⟨_, _, ⟨T4, L4, k4, n4⟩, -, X4, ⟨Lc4, hQ4, l4, y4, z4⟩, st4⟩ := Jvm.LawKit.callS X3 hx (y := (⟨"java/lang/Math", "addExact", "(JJ)J"⟩ : MethodName)) hown (mvT hZ (hw _ (List.mem_of_getElem? (i := 26) rfl))) (mvT hZ (hw _ (List.mem_of_getElem? (i := 27) rfl))) (mvT hZ (hw _ (List.mem_of_getElem? (i := 24) rfl))) (mvT hZ (hw _ (List.mem_of_getElem? (i := 28) rfl))) (by decide) (backOf (W := 1) (rm_addx l Z a0 hw [] t (1 : Int64) h0 n0 Z0 (own_noov ht)) hZ (hw _ (List.mem_of_getElem? (i := 28) rfl)) (hw _ (List.mem_of_getElem? (i := 24) rfl)) (by decide) (by decide)) (g := (mkF m 6 #[.val (.ref v0)] [(.long (1 : Int64)), (.long t), (.ref v0)])) rfl (by rw [hml]; rfl) (argsL := [(.long t), (.long (1 : Int64))]) (rest := [(.ref v0)]) (lenOf pd_0 rfl) rfl (by show 2 * 0 + _ ≤ _; exact Nat.le_of_eq rfl) (hb hby d_tick_6) (fun _ _ => ⟨rfl, e3, (by decide : 0 + 0 ≤ _), (by decide : 0 + 0 ≤ _)⟩)
  dsimp only [Pt.U, Pt.locs, Pt.cells, Pt.slots] at X4 l4 y4 z4 st4 hQ4
  subst l4 y4 z4
  obtain ⟨rfl, N4q, e4⟩ := hQ4
  have N4 := Fr.app N0 N4q
  refine Go.st st4 ?_
  show Go p e below s _ _ _ T4 (mkF m 9 #[.val (.ref v0)] [(.long (t + (1 : Int64))), (.ref v0)])
  obtain ⟨T5, h5, X5, e5, W5, st5⟩ := putF X4 hx hZ hown (host := "") (Or.inl (hw _ (List.mem_of_getElem? (i := 14) rfl))) Via.refl e4 f1_F_v0 f0_E_v0 (Or.inl (hw _ (List.mem_of_getElem? (i := 15) rfl))) (hw _ (List.mem_of_getElem? (i := 1) rfl)) (ty := .long) (by decide) rfl rfl (g := (mkF m 9 #[.val (.ref v0)] [(.long (t + (1 : Int64))), (.ref v0)])) rfl rfl (hb hby d_tick_9)
  refine Go.st st5 ?_
  have F_v0_w5 := f1_F_v0.same W5
  have E_v0_5 := f0_E_v0.wr W5
  have K_5 : Keep h0 h5 [v0] := (Keep.refl h0 [v0]).wr W5 (Or.inl (List.mem_of_getElem? (i := 0) rfl))
  have Z_5 : n0 ≤ h5.size := Nat.le_trans Z0 K_5.1
  have N5 := Fr.snoc X5 N4 g_v0
  show Go p e below s _ _ _ T5 (mkF m 12 #[.val (.ref v0)] [])
  refine G_aloadN X5 hx (pc' := 13) rfl (hb hby d_tick_12) rfl rfl ?_
  obtain ⟨T6, X6, e6, st6⟩ := getF X5 hx hZ hown (host := "") (Or.inl (hw _ (List.mem_of_getElem? (i := 14) rfl))) Via.refl e5 F_v0_w5 (g := (mkF m 13 #[.val (.ref v0)] [(.ref v0)])) rfl rfl (hb hby d_tick_13)
  refine Go.st st6 ?_
  show Go p e below s _ _ _ T6 (mkF m 16 #[.val (.ref v0)] [(.long (t + (1 : Int64)))])
  refine Go.fin X6 hlk (v := some (.long (t + (1 : Int64)))) (fun h => by rw [Bd.returns] at h; cases h) (by decide) (by decide) ?_ (fun fs hr => retOut X6 hx Bd.returns rfl (Or.inr (Or.inl ⟨rfl, rfl, _, rfl⟩)) (hb hby d_tick_16) hr)
  show Q_tick Z v0 t h0 n0 _ T6.heap _
  rw [e6]
  exact ⟨rfl, N5, K_5, E_v0_5, F_v0_w5⟩
theorem d_recv_0 : decode prog_9_method_4_code 0 = .ok (.aload_n 0, 1) := by decide +kernel
theorem d_recv_1 : decode prog_9_method_4_code 1 = .ok (.aload_n 0, 1) := by decide +kernel
theorem d_recv_2 : decode prog_9_method_4_code 2 = .ok (.getfield 7, 3) := by decide +kernel
theorem d_recv_5 : decode prog_9_method_4_code 5 = .ok (.lload_n 1, 1) := by decide +kernel
theorem d_recv_6 : decode prog_9_method_4_code 6 = .ok (.invokestatic 19, 3) := by decide +kernel
theorem d_recv_9 : decode prog_9_method_4_code 9 = .ok (.lconst 1, 1) := by decide +kernel
theorem d_recv_10 : decode prog_9_method_4_code 10 = .ok (.invokestatic 13, 3) := by decide +kernel
theorem d_recv_13 : decode prog_9_method_4_code 13 = .ok (.putfield 7, 3) := by decide +kernel
theorem d_recv_16 : decode prog_9_method_4_code 16 = .ok (.return_, 1) := by decide +kernel
theorem ef_recv (m : MethodId) (v0 : Addr) (v1 : Int64) : entryFrame m #[(.ref v0), (.long v1)] 3 = mkF m 0 #[.val (.ref v0), .val (.long v1), .second] [] := by first | (simp [entryFrame, mkF, argsToLocals, Value.category]; done) | rfl
def Q_recv (Z : State) (v0 : Addr) (v1 : Int64) (t : Int64) (h0 : Heap) (n0 : Nat) (v : Option Value) (h : Heap) (L : List Loc) : Prop := v = none ∧ Fr n0 L ∧ Keep h0 h [v0] ∧ Exa Z h v0 "com/example/fencing/fencing/protocol/LamportClock" ∧ Fld Z h v0 "com/example/fencing/fencing/protocol/LamportClock" "time" "J" (.long ((f_max t v1) + (1 : Int64)))
set_option maxRecDepth 65536 in
set_option maxHeartbeats 40000000 in
theorem rm_recv (l : Launch) (Z : State) (a0 : Array Value) (hw : ∀ d ∈ tables_1, d.before a0 Z = true) (ws : List Jvm.Cond) (v0 : Addr) (v1 : Int64) (t : Int64) (h0 : Heap) (n0 : Nat) (Z0 : n0 ≤ h0.size) (f0_E_v0 : Exa Z h0 v0 "com/example/fencing/fencing/protocol/LamportClock") (f1_F_v0 : Fld Z h0 v0 "com/example/fencing/fencing/protocol/LamportClock" "time" "J" (.long t)) (g_v0 : n0 ≤ v0) (ht : (f_max t v1) ≠ (9223372036854775807 : Int64)) :
    MetFree l (⟨"com/example/fencing/fencing/protocol/LamportClock", "receive", "(J)V"⟩ : MethodName) (head1 (Jvm.Cond.code (⟨"com/example/fencing/fencing/protocol/LamportClock", "receive", "(J)V"⟩ : MethodName) prog_9_method_4_code 3 none :: ws) ({ frames := 1, cells := 0, slots := 0, locals := 18 } : Room)) (fun a U => a = #[(.ref v0), (.long v1)] ∧ Z.Warmed39 U.vm ∧ U.heap = h0) (fun _ _ _ _ _ => True) (fun _ U o U' => ∃ v L, o = .returned v ∧ Q_recv Z v0 v1 t h0 n0 v U'.heap L ∧ FrameEnd U o U' L ({ frames := 1, cells := 0, slots := 0, locals := 18 } : Room).cells ({ frames := 1, cells := 0, slots := 0, locals := 18 } : Room).slots) := by
  refine MetFree.of_bodySF (plainFor_of_name (by first | (simp [plainName, overriddenIn]; done) | decide +kernel)) hisR ?_
  intro p e s m args below meth c s₁ Bd hml0 hP hK
  obtain ⟨rfl, hZ, hh⟩ := hP
  have hx := Bd.exec
  have hby := Bd.bytes
  have hml : c.maxLocals = 3 := hml0
  have hown : s.vm.findClass "com/example/fencing/fencing/protocol/LamportClock" = some m.cls := findClass_of_methodNamed Bd.named
  have hnm := (name_of_methodNamed Bd.named Bd.method).1
  have hlk : meth.locks = false := Bd.notSynchronized
  have X0 : Stand p l e ({ frames := 1, cells := 0, slots := 0, locals := 18 } : Room) s m #[(.ref v0), (.long v1)] below meth c s₁ [] 0 0 := Stand.of_body Bd
  have e0 : s₁.heap = h0 := by rw [← hh, Bd.state]; rfl
  have N0 := Fr.nil n0
  refine Go.enter (Q := Q_recv Z v0 v1 t h0 n0) (C := ({ frames := 1, cells := 0, slots := 0, locals := 18 } : Room).cells) (N := ({ frames := 1, cells := 0, slots := 0, locals := 18 } : Room).slots) (ef_recv m v0 v1) ?_
  show Go p e below s _ _ _ s₁ (mkF m 0 #[.val (.ref v0), .val (.long v1), .second] [])
  refine G_aloadN X0 hx (pc' := 1) rfl (hb hby d_recv_0) rfl rfl ?_
  refine G_aloadN X0 hx (pc' := 2) rfl (hb hby d_recv_1) rfl rfl ?_
  obtain ⟨T7, X7, e7, st7⟩ := getF X0 hx hZ hown (host := "") (Or.inl (hw _ (List.mem_of_getElem? (i := 14) rfl))) Via.refl e0 f1_F_v0 (g := (mkF m 2 #[.val (.ref v0), .val (.long v1), .second] [(.ref v0), (.ref v0)])) rfl rfl (hb hby d_recv_2)
  refine Go.st st7 ?_
  show Go p e below s _ _ _ T7 (mkF m 5 #[.val (.ref v0), .val (.long v1), .second] [(.long t), (.ref v0)])
  refine G_lloadN X7 hx (pc' := 6) rfl (hb hby d_recv_5) rfl ?_
  obtain ⟨_, _, ⟨T8, L8, k8, n8⟩, -, X8, ⟨Lc8, hQ8, l8, y8, z8⟩, st8⟩ := Jvm.LawKit.callS X7 hx (y := (⟨"java/lang/Math", "max", "(JJ)J"⟩ : MethodName)) hown (mvT hZ (hw _ (List.mem_of_getElem? (i := 22) rfl))) (mvT hZ (hw _ (List.mem_of_getElem? (i := 23) rfl))) (mvT hZ (hw _ (List.mem_of_getElem? (i := 24) rfl))) (mvT hZ (hw _ (List.mem_of_getElem? (i := 25) rfl))) (by decide) (backOf (W := 1) (rm_max l Z a0 hw [] t v1 h0 n0 Z0 ) hZ (hw _ (List.mem_of_getElem? (i := 25) rfl)) (hw _ (List.mem_of_getElem? (i := 24) rfl)) (by decide) (by decide)) (g := (mkF m 6 #[.val (.ref v0), .val (.long v1), .second] [(.long v1), (.long t), (.ref v0)])) rfl (by rw [hml]; rfl) (argsL := [(.long t), (.long v1)]) (rest := [(.ref v0)]) (lenOf pd_0 rfl) rfl (by show 2 * 0 + _ ≤ _; exact Nat.le_of_eq rfl) (hb hby d_recv_6) (fun _ _ => ⟨rfl, e7, (by decide : 0 + 0 ≤ _), (by decide : 0 + 0 ≤ _)⟩)
  dsimp only [Pt.U, Pt.locs, Pt.cells, Pt.slots] at X8 l8 y8 z8 st8 hQ8
  subst l8 y8 z8
  obtain ⟨rfl, N8q, e8⟩ := hQ8
  have N8 := Fr.app N0 N8q
  refine Go.st st8 ?_
  show Go p e below s _ _ _ T8 (mkF m 9 #[.val (.ref v0), .val (.long v1), .second] [(.long (f_max t v1)), (.ref v0)])
  refine G_lconst X8 hx (pc' := 10) rfl (hb hby d_recv_9) (z := (1 : Int64)) rfl ?_
  obtain ⟨_, _, ⟨T9, L9, k9, n9⟩, -, X9, ⟨Lc9, hQ9, l9, y9, z9⟩, st9⟩ := Jvm.LawKit.callS X8 hx (y := (⟨"java/lang/Math", "addExact", "(JJ)J"⟩ : MethodName)) hown (mvT hZ (hw _ (List.mem_of_getElem? (i := 26) rfl))) (mvT hZ (hw _ (List.mem_of_getElem? (i := 27) rfl))) (mvT hZ (hw _ (List.mem_of_getElem? (i := 24) rfl))) (mvT hZ (hw _ (List.mem_of_getElem? (i := 28) rfl))) (by decide) (backOf (W := 1) (rm_addx l Z a0 hw [] (f_max t v1) (1 : Int64) h0 n0 Z0 (own_noov ht)) hZ (hw _ (List.mem_of_getElem? (i := 28) rfl)) (hw _ (List.mem_of_getElem? (i := 24) rfl)) (by decide) (by decide)) (g := (mkF m 10 #[.val (.ref v0), .val (.long v1), .second] [(.long (1 : Int64)), (.long (f_max t v1)), (.ref v0)])) rfl (by rw [hml]; rfl) (argsL := [(.long (f_max t v1)), (.long (1 : Int64))]) (rest := [(.ref v0)]) (lenOf pd_0 rfl) rfl (by show 2 * 0 + _ ≤ _; exact Nat.le_of_eq rfl) (hb hby d_recv_10) (fun _ _ => ⟨rfl, e8, (by decide : 0 + 0 ≤ _), (by decide : 0 + 0 ≤ _)⟩)
  dsimp only [Pt.U, Pt.locs, Pt.cells, Pt.slots] at X9 l9 y9 z9 st9 hQ9
  subst l9 y9 z9
  obtain ⟨rfl, N9q, e9⟩ := hQ9
  have N9 := Fr.app N8 N9q
  refine Go.st st9 ?_
  show Go p e below s _ _ _ T9 (mkF m 13 #[.val (.ref v0), .val (.long v1), .second] [(.long ((f_max t v1) + (1 : Int64))), (.ref v0)])
  obtain ⟨T10, h10, X10, e10, W10, st10⟩ := putF X9 hx hZ hown (host := "") (Or.inl (hw _ (List.mem_of_getElem? (i := 14) rfl))) Via.refl e9 f1_F_v0 f0_E_v0 (Or.inl (hw _ (List.mem_of_getElem? (i := 15) rfl))) (hw _ (List.mem_of_getElem? (i := 1) rfl)) (ty := .long) (by decide) rfl rfl (g := (mkF m 13 #[.val (.ref v0), .val (.long v1), .second] [(.long ((f_max t v1) + (1 : Int64))), (.ref v0)])) rfl rfl (hb hby d_recv_13)
  refine Go.st st10 ?_
  have F_v0_w10 := f1_F_v0.same W10
  have E_v0_10 := f0_E_v0.wr W10
  have K_10 : Keep h0 h10 [v0] := (Keep.refl h0 [v0]).wr W10 (Or.inl (List.mem_of_getElem? (i := 0) rfl))
  have Z_10 : n0 ≤ h10.size := Nat.le_trans Z0 K_10.1
  have N10 := Fr.snoc X10 N9 g_v0
  show Go p e below s _ _ _ T10 (mkF m 16 #[.val (.ref v0), .val (.long v1), .second] [])
  refine Go.fin X10 hlk (v := none) (fun _ => rfl) (by decide) (by decide) ?_ (fun fs hr => X10.returnOut hx Bd.returns (hb hby d_recv_16) hr)
  show Q_recv Z v0 v1 t h0 n0 _ T10.heap _
  rw [e10]
  exact ⟨rfl, N10, K_10, E_v0_10, F_v0_w10⟩
theorem own_mx1 {x y : Int64} (h : y < x) : x = f_max x y := by
  unfold f_max
  rw [if_neg (fun q => Int64.lt_asymm h q)]
theorem own_mx2 {x y : Int64} (h : ¬ y < x) : y = f_max x y := by
  unfold f_max
  split
  · rfl
  · rename_i q
    exact Int64.le_antisymm (Int64.not_lt.mp h |> fun z => by exact Int64.not_lt.mp q |> fun w => w) (Int64.not_lt.mp h) |> fun z => by first | exact z | exact z.symm
theorem own_mxne {x y : Int64} (h1 : ¬ x = 9223372036854775807) (h2 : ¬ y = 9223372036854775807) : f_max x y ≠ 9223372036854775807 := by
  unfold f_max
  split
  · exact h2
  · exact h1
theorem own_sub {v : Int64} (h : v = 9223372036854775807) : ¬ (v - 1 = 9223372036854775807) := by subst h; decide
theorem d_maxOf_0 : decode method_2_code 0 = .ok (.lload_n 0, 1) := by decide +kernel
theorem d_maxOf_1 : decode method_2_code 1 = .ok (.lload_n 2, 1) := by decide +kernel
theorem d_maxOf_2 : decode method_2_code 2 = .ok (.lcmp, 1) := by decide +kernel
theorem d_maxOf_3 : decode method_2_code 3 = .ok (.ifCond .le 5, 3) := by decide +kernel
theorem d_maxOf_6 : decode method_2_code 6 = .ok (.lload_n 0, 1) := by decide +kernel
theorem d_maxOf_7 : decode method_2_code 7 = .ok (.lreturn, 1) := by decide +kernel
theorem d_maxOf_8 : decode method_2_code 8 = .ok (.lload_n 2, 1) := by decide +kernel
theorem d_maxOf_9 : decode method_2_code 9 = .ok (.lreturn, 1) := by decide +kernel
theorem ef_maxOf (m : MethodId) (v0 : Int64) (v1 : Int64) : entryFrame m #[(.long v0), (.long v1)] 4 = mkF m 0 #[.val (.long v0), .second, .val (.long v1), .second] [] := by first | (simp [entryFrame, mkF, argsToLocals, Value.category]; done) | rfl
def Q_maxOf (Z : State) (v0 : Int64) (v1 : Int64) (h0 : Heap) (n0 : Nat) (v : Option Value) (h : Heap) (L : List Loc) : Prop := v = some (.long (f_max v0 v1)) ∧ Fr n0 L ∧ h = h0
set_option maxRecDepth 65536 in
set_option maxHeartbeats 40000000 in
theorem rm_maxOf (l : Launch) (Z : State) (a0 : Array Value) (hw : ∀ d ∈ tables_1, d.before a0 Z = true) (ws : List Jvm.Cond) (v0 : Int64) (v1 : Int64) (h0 : Heap) (n0 : Nat) (Z0 : n0 ≤ h0.size) :
    MetFree l (⟨"com/example/fencing/fencing/protocol/LamportClockReceivePinLaw", "maxOf", "(JJ)J"⟩ : MethodName) (head1 (Jvm.Cond.code (⟨"com/example/fencing/fencing/protocol/LamportClockReceivePinLaw", "maxOf", "(JJ)J"⟩ : MethodName) method_2_code 4 (some .long) :: ws) ({ frames := 0, cells := 0, slots := 0, locals := 0 } : Room)) (fun a U => a = #[(.long v0), (.long v1)] ∧ Z.Warmed39 U.vm ∧ U.heap = h0) (fun _ _ _ _ _ => True) (fun _ U o U' => ∃ v L, o = .returned v ∧ Q_maxOf Z v0 v1 h0 n0 v U'.heap L ∧ FrameEnd U o U' L ({ frames := 0, cells := 0, slots := 0, locals := 0 } : Room).cells ({ frames := 0, cells := 0, slots := 0, locals := 0 } : Room).slots) := by
  refine MetFree.of_bodySF (plainFor_of_name (by first | (simp [plainName, overriddenIn]; done) | decide +kernel)) hisR ?_
  intro p e s m args below meth c s₁ Bd hml0 hP hK
  obtain ⟨rfl, hZ, hh⟩ := hP
  have hx := Bd.exec
  have hby := Bd.bytes
  have hml : c.maxLocals = 4 := hml0
  have hown : s.vm.findClass "com/example/fencing/fencing/protocol/LamportClockReceivePinLaw" = some m.cls := findClass_of_methodNamed Bd.named
  have hnm := (name_of_methodNamed Bd.named Bd.method).1
  have hlk : meth.locks = false := Bd.notSynchronized
  have X0 : Stand p l e ({ frames := 0, cells := 0, slots := 0, locals := 0 } : Room) s m #[(.long v0), (.long v1)] below meth c s₁ [] 0 0 := Stand.of_body Bd
  have e0 : s₁.heap = h0 := by rw [← hh, Bd.state]; rfl
  have N0 := Fr.nil n0
  refine Go.enter (Q := Q_maxOf Z v0 v1 h0 n0) (C := ({ frames := 0, cells := 0, slots := 0, locals := 0 } : Room).cells) (N := ({ frames := 0, cells := 0, slots := 0, locals := 0 } : Room).slots) (ef_maxOf m v0 v1) ?_
  show Go p e below s _ _ _ s₁ (mkF m 0 #[.val (.long v0), .second, .val (.long v1), .second] [])
  refine G_lloadN X0 hx (pc' := 1) rfl (hb hby d_maxOf_0) rfl ?_
  refine G_lloadN X0 hx (pc' := 2) rfl (hb hby d_maxOf_1) rfl ?_
  refine G_lcmp X0 hx (pc' := 3) rfl (hb hby d_maxOf_2)  ?_
  by_cases hc3_1 : v1 < v0
  · refine G_ifNo X0 hx (pc' := 6) rfl (hb hby d_maxOf_3) ((if0 _ _).trans (tlt ((lw_gt _ _).2 hc3_1)).2.2.2) ?_
    refine G_lloadN X0 hx (pc' := 7) rfl (hb hby d_maxOf_6) rfl ?_
    refine Go.fin X0 hlk (v := some (.long v0)) (fun h => by rw [Bd.returns] at h; cases h) (by decide) (by decide) ?_ (fun fs hr => retOut X0 hx Bd.returns rfl (Or.inr (Or.inl ⟨rfl, rfl, _, rfl⟩)) (hb hby d_maxOf_7) hr)
    show Q_maxOf Z v0 v1 h0 n0 _ s₁.heap _
    rw [e0]
    exact ⟨congrArg (fun z => some (Value.long z)) (by first | exact own_mx1 (by assumption) | exact own_mx2 (by assumption)), N0, rfl⟩
  · refine G_ifYes X0 hx (pc' := 8) (hb hby d_maxOf_3) ((if0 _ _).trans (flt (fun q => hc3_1 ((lw_gt _ _).1 q))).2.2.2) (by decide) (by decide) ?_
    refine G_lloadN X0 hx (pc' := 9) rfl (hb hby d_maxOf_8) rfl ?_
    refine Go.fin X0 hlk (v := some (.long v1)) (fun h => by rw [Bd.returns] at h; cases h) (by decide) (by decide) ?_ (fun fs hr => retOut X0 hx Bd.returns rfl (Or.inr (Or.inl ⟨rfl, rfl, _, rfl⟩)) (hb hby d_maxOf_9) hr)
    show Q_maxOf Z v0 v1 h0 n0 _ s₁.heap _
    rw [e0]
    exact ⟨congrArg (fun z => some (Value.long z)) (by first | exact own_mx1 (by assumption) | exact own_mx2 (by assumption)), N0, rfl⟩
theorem pd_1 : parseMethodDescriptor "()V" = some ⟨[], none⟩ := by decide +kernel
theorem pd_2 : parseMethodDescriptor "()J" = some ⟨[], some .long⟩ := by decide +kernel
theorem pd_3 : parseMethodDescriptor "(J)V" = some ⟨[.long], none⟩ := by decide +kernel
def f_law (v0 : Int64) (v1 : Int64) (v2 : Int32) : Int32 := (if v0 = (9223372036854775807 : Int64) then (if (v2 &&& (1 : Int32)) = (0 : Int32) then (if ((f_max (0 : Int64) (v0 - (1 : Int64))) + (1 : Int64)) = (9223372036854775807 : Int64) then (1 : Int32) else (if v1 = (9223372036854775807 : Int64) then (1 : Int32) else (1 : Int32))) else (if ((f_max (0 : Int64) (v0 - (1 : Int64))) + (1 : Int64)) = (9223372036854775807 : Int64) then (1 : Int32) else (if (((f_max (0 : Int64) (v0 - (1 : Int64))) + (1 : Int64)) + (1 : Int64)) = (9223372036854775807 : Int64) then (1 : Int32) else (if v1 = (9223372036854775807 : Int64) then (1 : Int32) else (1 : Int32))))) else (if (v2 &&& (1 : Int32)) = (0 : Int32) then (if ((f_max (0 : Int64) v0) + (1 : Int64)) = (9223372036854775807 : Int64) then (1 : Int32) else (if v1 = (9223372036854775807 : Int64) then (1 : Int32) else (1 : Int32))) else (if ((f_max (0 : Int64) v0) + (1 : Int64)) = (9223372036854775807 : Int64) then (1 : Int32) else (if (((f_max (0 : Int64) v0) + (1 : Int64)) + (1 : Int64)) = (9223372036854775807 : Int64) then (1 : Int32) else (if v1 = (9223372036854775807 : Int64) then (1 : Int32) else (1 : Int32))))))
theorem ef_law (m : MethodId) (v0 : Int64) (v1 : Int64) (v2 : Int32) : entryFrame m #[(.long v0), (.long v1), (.int v2)] maxLocals = mkF m 0 #[.val (.long v0), .second, .val (.long v1), .second, .val (.int v2), .unset, .unset, .unset, .unset, .unset, .unset, .unset, .unset, .unset] [] := by first | (simp [entryFrame, mkF, argsToLocals, Value.category, maxLocals]; done) | rfl
def Q_law (Z : State) (v0 : Int64) (v1 : Int64) (v2 : Int32) (h0 : Heap) (n0 : Nat) (v : Option Value) (h : Heap) (L : List Loc) : Prop := v = some (.int (f_law v0 v1 v2)) ∧ Fr n0 L
set_option maxRecDepth 65536 in
set_option maxHeartbeats 40000000 in
theorem rm_law (l : Launch) (Z : State) (a0 : Array Value) (hw : ∀ d ∈ tables_1, d.before a0 Z = true) (ws : List Jvm.Cond) (v0 : Int64) (v1 : Int64) (v2 : Int32) (h0 : Heap) (n0 : Nat) (Z0 : n0 ≤ h0.size) :
    MetFree l x (head1 (Jvm.Cond.code x code maxLocals ret :: ws) room_1) (fun a U => a = #[(.long v0), (.long v1), (.int v2)] ∧ Z.Warmed39 U.vm ∧ U.heap = h0) (fun _ _ _ _ _ => True) (fun _ U o U' => ∃ v L, o = .returned v ∧ Q_law Z v0 v1 v2 h0 n0 v U'.heap L ∧ FrameEnd U o U' L room_1.cells room_1.slots) := by
  refine MetFree.of_bodySF (plainFor_of_name (by first | (simp [plainName, overriddenIn]; done) | decide +kernel)) hisR ?_
  intro p e s m args below meth c s₁ Bd hml0 hP hK
  obtain ⟨rfl, hZ, hh⟩ := hP
  have hx := Bd.exec
  have hby := Bd.bytes
  have hml : c.maxLocals = 14 := hml0
  have hown : s.vm.findClass "com/example/fencing/fencing/protocol/LamportClockReceivePinLaw" = some m.cls := findClass_of_methodNamed Bd.named
  have hnm := (name_of_methodNamed Bd.named Bd.method).1
  have hlk : meth.locks = false := Bd.notSynchronized
  have X0 : Stand p l e room_1 s m #[(.long v0), (.long v1), (.int v2)] below meth c s₁ [] 0 0 := Stand.of_body Bd
  have e0 : s₁.heap = h0 := by rw [← hh, Bd.state]; rfl
  have N0 := Fr.nil n0
  refine Go.enter (Q := Q_law Z v0 v1 v2 h0 n0) (C := room_1.cells) (N := room_1.slots) (ef_law m v0 v1 v2) ?_
  show Go p e below s _ _ _ s₁ (mkF m 0 #[.val (.long v0), .second, .val (.long v1), .second, .val (.int v2), .unset, .unset, .unset, .unset, .unset, .unset, .unset, .unset, .unset] [])
  obtain ⟨T11, h11, X11, e11, E11, A11, D11, -, st11⟩ := newO X0 hx hZ hown (hw _ (List.mem_of_getElem? (i := 0) rfl)) (hw _ (List.mem_of_getElem? (i := 1) rfl)) (hw _ (List.mem_of_getElem? (i := 2) rfl)) e0 (g := (mkF m 0 #[.val (.long v0), .second, .val (.long v1), .second, .val (.int v2), .unset, .unset, .unset, .unset, .unset, .unset, .unset, .unset, .unset] [])) rfl (hb hby at_0) (by decide) (by decide)
  obtain ⟨b11, q11⟩ : ∃ z, z = h0.size := ⟨_, rfl⟩
  rw [← q11] at A11 D11 st11
  refine Go.st st11 ?_
  have g_b11 : n0 ≤ b11 := Nat.le_trans Z0 (Nat.le_of_eq q11.symm)
  have sz_b11 : h0.size ≤ b11 := Nat.le_trans (Nat.le_refl _) (Nat.le_of_eq q11.symm)
  have F_b11_time : Fld Z h11 b11 "com/example/fencing/fencing/protocol/LamportClock" "time" "J" (.long (0 : Int64)) := D11 (Or.inl (hw _ (List.mem_of_getElem? (i := 15) rfl))) (ty := .long) (by decide)
  have K_11 : Keep h0 h11 [] := (Keep.refl h0 []).ext E11
  have Z_11 : n0 ≤ h11.size := Nat.le_trans Z0 K_11.1
  show Go p e below s _ _ _ T11 (mkF m 3 #[.val (.long v0), .second, .val (.long v1), .second, .val (.int v2), .unset, .unset, .unset, .unset, .unset, .unset, .unset, .unset, .unset] [(.ref b11)])
  refine G_dup X11 hx (pc' := 4) rfl (hb hby at_3) rfl ?_
  obtain ⟨_, _, ⟨T12, L12, k12, n12⟩, -, X12, ⟨Lc12, hQ12, l12, y12, z12⟩, st12⟩ := X11.specialBack hx (y := (⟨"com/example/fencing/fencing/protocol/LamportClock", "<init>", "()V"⟩ : MethodName)) rfl hown (mvT hZ (hw _ (List.mem_of_getElem? (i := 3) rfl))) (mvT hZ (hw _ (List.mem_of_getElem? (i := 4) rfl))) (mvT hZ (hw _ (List.mem_of_getElem? (i := 5) rfl))) (by decide) (backOf (W := 1) (rm_init l Z a0 hw [] b11 h11 n0 Z_11 A11) hZ (hw _ (List.mem_of_getElem? (i := 5) rfl)) (hw _ (List.mem_of_getElem? (i := 2) rfl)) (by decide) (by decide)) (g := (mkF m 4 #[.val (.long v0), .second, .val (.long v1), .second, .val (.int v2), .unset, .unset, .unset, .unset, .unset, .unset, .unset, .unset, .unset] [(.ref b11), (.ref b11)])) rfl (by rw [hml]; rfl) (Steps.refl _) (a := b11) (argsL := []) (rest := [(.ref b11)]) (lenOf pd_1 rfl) rfl (by show 2 * 0 + _ ≤ _; exact Nat.le_of_eq rfl) (hb hby at_4) (fun _ _ => ⟨rfl, e11, (by decide : 1 + 0 ≤ _), (by decide : 1 + 0 ≤ _)⟩)
  dsimp only [Pt.U, Pt.locs, Pt.cells, Pt.slots] at X12 l12 y12 z12 st12 hQ12
  subst l12 y12 z12
  obtain ⟨rfl, N12q, e12⟩ := hQ12
  have N12 := Fr.app N0 N12q
  refine Go.st (fun _ k => st12.trans k) ?_
  show Go p e below s _ _ _ T12 (mkF m 7 #[.val (.long v0), .second, .val (.long v1), .second, .val (.int v2), .unset, .unset, .unset, .unset, .unset, .unset, .unset, .unset, .unset] [(.ref b11)])
  refine G_astore X12 hx (pc' := 9) rfl (hb hby at_7) rfl (L' := #[.val (.long v0), .second, .val (.long v1), .second, .val (.int v2), .val (.ref b11), .unset, .unset, .unset, .unset, .unset, .unset, .unset, .unset]) rfl ?_
  refine G_aload X12 hx (pc' := 11) rfl (hb hby at_9) rfl rfl ?_
  obtain ⟨cq13, kq13, q13a, q13b, q13c⟩ := isOf hZ e12 A11
  obtain ⟨_, _, ⟨T13, L13, k13, n13⟩, -, X13, ⟨Lc13, hQ13, l13, y13, z13⟩, st13⟩ := X12.virtualBack hx (y := (⟨"com/example/fencing/fencing/protocol/LamportClock", "time", "()J"⟩ : MethodName)) (z := (⟨"com/example/fencing/fencing/protocol/LamportClock", "time", "()J"⟩ : MethodName)) hown (mvT hZ (hw _ (List.mem_of_getElem? (i := 9) rfl))) (mvT hZ (hw _ (List.mem_of_getElem? (i := 10) rfl))) (notFace_of_selects (args := #[]) (mvT hZ (hw _ (List.mem_of_getElem? (i := 12) rfl)))) (mvT hZ (hw _ (List.mem_of_getElem? (i := 12) rfl))) (mvT hZ (hw _ (List.mem_of_getElem? (i := 11) rfl))) (by decide) (backOf (W := 0) (rm_time l Z a0 hw [] b11 (0 : Int64) h11 n0 Z_11 F_b11_time) hZ (hw _ (List.mem_of_getElem? (i := 13) rfl)) (hw _ (List.mem_of_getElem? (i := 2) rfl)) (by decide) (by decide)) q13a q13c (g := (mkF m 11 #[.val (.long v0), .second, .val (.long v1), .second, .val (.int v2), .val (.ref b11), .unset, .unset, .unset, .unset, .unset, .unset, .unset, .unset] [(.ref b11)])) rfl (by rw [hml]; rfl) (Steps.refl _) (argsL := []) (rest := []) (lenOf pd_2 rfl) rfl (by show 2 * 0 + _ ≤ _; exact Nat.le_of_eq rfl) (hb hby at_11) (fun _ _ => ⟨rfl, e12, (by decide : 1 + 0 ≤ _), (by decide : 1 + 0 ≤ _)⟩)
  dsimp only [Pt.U, Pt.locs, Pt.cells, Pt.slots] at X13 l13 y13 z13 st13 hQ13
  subst l13 y13 z13
  obtain ⟨rfl, N13q, e13⟩ := hQ13
  have N13 := Fr.app N12 N13q
  refine Go.st (fun _ k => st13.trans k) ?_
  show Go p e below s _ _ _ T13 (mkF m 14 #[.val (.long v0), .second, .val (.long v1), .second, .val (.int v2), .val (.ref b11), .unset, .unset, .unset, .unset, .unset, .unset, .unset, .unset] [(.long (0 : Int64))])
  refine G_lconst X13 hx (pc' := 15) rfl (hb hby at_14) (z := (0 : Int64)) rfl ?_
  refine G_lcmp X13 hx (pc' := 16) rfl (hb hby at_15)  ?_
  refine G_ifYes X13 hx (pc' := 21) (hb hby at_16) ((if0 _ _).trans (teq ((lw_eq _ _).2 (by decide : (0 : Int64) = (0 : Int64)))).1) (by decide) (by decide) ?_
  refine G_lloadN X13 hx (pc' := 22) rfl (hb hby at_21) rfl ?_
  refine G_lstore X13 hx (pc' := 24) rfl (hb hby at_22) (L' := #[.val (.long v0), .second, .val (.long v1), .second, .val (.int v2), .val (.ref b11), .val (.long v0), .second, .unset, .unset, .unset, .unset, .unset, .unset]) rfl ?_
  refine G_lload X13 hx (pc' := 26) rfl (hb hby at_24) rfl ?_
  refine G_ldc2 X13 hx (pc' := 29) rfl hown (mvT hZ (hw _ (List.mem_of_getElem? (i := 16) rfl))) (hb hby at_26) ?_
  refine G_lcmp X13 hx (pc' := 30) rfl (hb hby at_29)  ?_
  by_cases hc30_1 : v0 = (9223372036854775807 : Int64)
  · refine G_ifNo X13 hx (pc' := 33) rfl (hb hby at_30) ((if0 _ _).trans (teq ((lw_eq _ _).2 hc30_1)).2) ?_
    refine G_lload X13 hx (pc' := 35) rfl (hb hby at_33) rfl ?_
    refine G_lconst X13 hx (pc' := 36) rfl (hb hby at_35) (z := (1 : Int64)) rfl ?_
    refine G_lsub X13 hx (pc' := 37) rfl (hb hby at_36)  ?_
    refine G_lstore X13 hx (pc' := 39) rfl (hb hby at_37) (L' := #[.val (.long v0), .second, .val (.long v1), .second, .val (.int v2), .val (.ref b11), .val (.long (v0 - (1 : Int64))), .second, .unset, .unset, .unset, .unset, .unset, .unset]) rfl ?_
    refine G_aload X13 hx (pc' := 41) rfl (hb hby at_39) rfl rfl ?_
    refine G_lload X13 hx (pc' := 43) rfl (hb hby at_41) rfl ?_
    obtain ⟨cq14, kq14, q14a, q14b, q14c⟩ := isOf hZ e13 A11
    obtain ⟨_, _, ⟨T14, L14, k14, n14⟩, -, X14, ⟨Lc14, hQ14, l14, y14, z14⟩, st14⟩ := X13.virtualBack hx (y := (⟨"com/example/fencing/fencing/protocol/LamportClock", "receive", "(J)V"⟩ : MethodName)) (z := (⟨"com/example/fencing/fencing/protocol/LamportClock", "receive", "(J)V"⟩ : MethodName)) hown (mvT hZ (hw _ (List.mem_of_getElem? (i := 17) rfl))) (mvT hZ (hw _ (List.mem_of_getElem? (i := 18) rfl))) (notFace_of_selects (args := #[]) (mvT hZ (hw _ (List.mem_of_getElem? (i := 20) rfl)))) (mvT hZ (hw _ (List.mem_of_getElem? (i := 20) rfl))) (mvT hZ (hw _ (List.mem_of_getElem? (i := 19) rfl))) (by decide) (backOf (W := 0) (rm_recv l Z a0 hw [] b11 (v0 - (1 : Int64)) (0 : Int64) h11 n0 Z_11 A11 F_b11_time g_b11 (own_mxne (by first | decide | assumption) (by first | assumption | exact own_sub (by assumption)))) hZ (hw _ (List.mem_of_getElem? (i := 21) rfl)) (hw _ (List.mem_of_getElem? (i := 2) rfl)) (by decide) (by decide)) q14a q14c (g := (mkF m 43 #[.val (.long v0), .second, .val (.long v1), .second, .val (.int v2), .val (.ref b11), .val (.long (v0 - (1 : Int64))), .second, .unset, .unset, .unset, .unset, .unset, .unset] [(.long (v0 - (1 : Int64))), (.ref b11)])) rfl (by rw [hml]; rfl) (Steps.refl _) (argsL := [(.long (v0 - (1 : Int64)))]) (rest := []) (lenOf pd_3 rfl) rfl (by show 2 * 0 + _ ≤ _; exact Nat.le_of_eq rfl) (hb hby at_43) (fun _ _ => ⟨rfl, e13, (by decide : 1 + 0 ≤ _), (by decide : 1 + 0 ≤ _)⟩)
    dsimp only [Pt.U, Pt.locs, Pt.cells, Pt.slots] at X14 l14 y14 z14 st14 hQ14
    subst l14 y14 z14
    obtain ⟨rfl, N14q, K14, p14_0, p14_1⟩ := hQ14
    have N14 := Fr.app N13 N14q
    refine Go.st (fun _ k => st14.trans k) ?_
    have K_14 : Keep h0 T14.heap [] := K_11.trans K14 (allS (Or.inr sz_b11) all0)
    have Z_14 : n0 ≤ T14.heap.size := Nat.le_trans Z0 K_14.1
    show Go p e below s _ _ _ T14 (mkF m 46 #[.val (.long v0), .second, .val (.long v1), .second, .val (.int v2), .val (.ref b11), .val (.long (v0 - (1 : Int64))), .second, .unset, .unset, .unset, .unset, .unset, .unset] [])
    refine G_lconst X14 hx (pc' := 47) rfl (hb hby at_46) (z := (0 : Int64)) rfl ?_
    refine G_lload X14 hx (pc' := 49) rfl (hb hby at_47) rfl ?_
    obtain ⟨_, _, ⟨T15, L15, k15, n15⟩, -, X15, ⟨Lc15, hQ15, l15, y15, z15⟩, st15⟩ := Jvm.LawKit.callS X14 hx (y := (⟨"com/example/fencing/fencing/protocol/LamportClockReceivePinLaw", "maxOf", "(JJ)J"⟩ : MethodName)) hown (mvT hZ (hw _ (List.mem_of_getElem? (i := 29) rfl))) (mvT hZ (hw _ (List.mem_of_getElem? (i := 30) rfl))) (mvT hZ (hw _ (List.mem_of_getElem? (i := 31) rfl))) (mvT hZ (hw _ (List.mem_of_getElem? (i := 32) rfl))) (by decide) (backOf (W := 0) (rm_maxOf l Z a0 hw [] (0 : Int64) (v0 - (1 : Int64)) T14.heap n0 Z_14 ) hZ (hw _ (List.mem_of_getElem? (i := 32) rfl)) (hw _ (List.mem_of_getElem? (i := 31) rfl)) (by decide) (by decide)) (g := (mkF m 49 #[.val (.long v0), .second, .val (.long v1), .second, .val (.int v2), .val (.ref b11), .val (.long (v0 - (1 : Int64))), .second, .unset, .unset, .unset, .unset, .unset, .unset] [(.long (v0 - (1 : Int64))), (.long (0 : Int64))])) rfl (by rw [hml]; rfl) (argsL := [(.long (0 : Int64)), (.long (v0 - (1 : Int64)))]) (rest := []) (lenOf pd_0 rfl) rfl (by show 2 * 0 + _ ≤ _; exact Nat.le_of_eq rfl) (hb hby at_49) (fun _ _ => ⟨rfl, rfl, (by decide : 1 + 0 ≤ _), (by decide : 1 + 0 ≤ _)⟩)
    dsimp only [Pt.U, Pt.locs, Pt.cells, Pt.slots] at X15 l15 y15 z15 st15 hQ15
    subst l15 y15 z15
    obtain ⟨rfl, N15q, e15⟩ := hQ15
    have N15 := Fr.app N14 N15q
    refine Go.st st15 ?_
    show Go p e below s _ _ _ T15 (mkF m 52 #[.val (.long v0), .second, .val (.long v1), .second, .val (.int v2), .val (.ref b11), .val (.long (v0 - (1 : Int64))), .second, .unset, .unset, .unset, .unset, .unset, .unset] [(.long (f_max (0 : Int64) (v0 - (1 : Int64))))])
    refine G_lconst X15 hx (pc' := 53) rfl (hb hby at_52) (z := (1 : Int64)) rfl ?_
    refine G_ladd X15 hx (pc' := 54) rfl (hb hby at_53)  ?_
    refine G_lstore X15 hx (pc' := 56) rfl (hb hby at_54) (L' := #[.val (.long v0), .second, .val (.long v1), .second, .val (.int v2), .val (.ref b11), .val (.long (v0 - (1 : Int64))), .second, .val (.long ((f_max (0 : Int64) (v0 - (1 : Int64))) + (1 : Int64))), .second, .unset, .unset, .unset, .unset]) rfl ?_
    refine G_aload X15 hx (pc' := 58) rfl (hb hby at_56) rfl rfl ?_
    obtain ⟨cq16, kq16, q16a, q16b, q16c⟩ := isOf hZ e15 p14_0
    obtain ⟨_, _, ⟨T16, L16, k16, n16⟩, -, X16, ⟨Lc16, hQ16, l16, y16, z16⟩, st16⟩ := X15.virtualBack hx (y := (⟨"com/example/fencing/fencing/protocol/LamportClock", "time", "()J"⟩ : MethodName)) (z := (⟨"com/example/fencing/fencing/protocol/LamportClock", "time", "()J"⟩ : MethodName)) hown (mvT hZ (hw _ (List.mem_of_getElem? (i := 9) rfl))) (mvT hZ (hw _ (List.mem_of_getElem? (i := 10) rfl))) (notFace_of_selects (args := #[]) (mvT hZ (hw _ (List.mem_of_getElem? (i := 12) rfl)))) (mvT hZ (hw _ (List.mem_of_getElem? (i := 12) rfl))) (mvT hZ (hw _ (List.mem_of_getElem? (i := 11) rfl))) (by decide) (backOf (W := 0) (rm_time l Z a0 hw [] b11 ((f_max (0 : Int64) (v0 - (1 : Int64))) + (1 : Int64)) T14.heap n0 Z_14 p14_1) hZ (hw _ (List.mem_of_getElem? (i := 13) rfl)) (hw _ (List.mem_of_getElem? (i := 2) rfl)) (by decide) (by decide)) q16a q16c (g := (mkF m 58 #[.val (.long v0), .second, .val (.long v1), .second, .val (.int v2), .val (.ref b11), .val (.long (v0 - (1 : Int64))), .second, .val (.long ((f_max (0 : Int64) (v0 - (1 : Int64))) + (1 : Int64))), .second, .unset, .unset, .unset, .unset] [(.ref b11)])) rfl (by rw [hml]; rfl) (Steps.refl _) (argsL := []) (rest := []) (lenOf pd_2 rfl) rfl (by show 2 * 0 + _ ≤ _; exact Nat.le_of_eq rfl) (hb hby at_58) (fun _ _ => ⟨rfl, e15, (by decide : 1 + 0 ≤ _), (by decide : 1 + 0 ≤ _)⟩)
    dsimp only [Pt.U, Pt.locs, Pt.cells, Pt.slots] at X16 l16 y16 z16 st16 hQ16
    subst l16 y16 z16
    obtain ⟨rfl, N16q, e16⟩ := hQ16
    have N16 := Fr.app N15 N16q
    refine Go.st (fun _ k => st16.trans k) ?_
    show Go p e below s _ _ _ T16 (mkF m 61 #[.val (.long v0), .second, .val (.long v1), .second, .val (.int v2), .val (.ref b11), .val (.long (v0 - (1 : Int64))), .second, .val (.long ((f_max (0 : Int64) (v0 - (1 : Int64))) + (1 : Int64))), .second, .unset, .unset, .unset, .unset] [(.long ((f_max (0 : Int64) (v0 - (1 : Int64))) + (1 : Int64)))])
    refine G_lload X16 hx (pc' := 63) rfl (hb hby at_61) rfl ?_
    refine G_lcmp X16 hx (pc' := 64) rfl (hb hby at_63)  ?_
    refine G_ifYes X16 hx (pc' := 69) (hb hby at_64) ((if0 _ _).trans (teq ((lw_eq _ _).2 (rfl : ((f_max (0 : Int64) (v0 - (1 : Int64))) + (1 : Int64)) = ((f_max (0 : Int64) (v0 - (1 : Int64))) + (1 : Int64))))).1) (by decide) (by decide) ?_
    refine G_iload X16 hx (pc' := 71) rfl (hb hby at_69) rfl ?_
    refine G_iconst X16 hx (pc' := 72) rfl (hb hby at_71) (z := (1 : Int32)) rfl ?_
    refine G_iand X16 hx (pc' := 73) rfl (hb hby at_72)  ?_
    by_cases hc73_2 : (v2 &&& (1 : Int32)) = (0 : Int32)
    · refine G_ifYes X16 hx (pc' := 119) (hb hby at_73) ((if0 _ _).trans (teq hc73_2).1) (by decide) (by decide) ?_
      refine G_lload X16 hx (pc' := 121) rfl (hb hby at_119) rfl ?_
      refine G_ldc2 X16 hx (pc' := 124) rfl hown (mvT hZ (hw _ (List.mem_of_getElem? (i := 16) rfl))) (hb hby at_121) ?_
      refine G_lcmp X16 hx (pc' := 125) rfl (hb hby at_124)  ?_
      by_cases hc125_3 : ((f_max (0 : Int64) (v0 - (1 : Int64))) + (1 : Int64)) = (9223372036854775807 : Int64)
      · refine G_ifNo X16 hx (pc' := 128) rfl (hb hby at_125) ((if0 _ _).trans (teq ((lw_eq _ _).2 hc125_3)).2) ?_
        refine G_iconst X16 hx (pc' := 129) rfl (hb hby at_128) (z := (1 : Int32)) rfl ?_
        refine Go.fin X16 hlk (v := some (.int (1 : Int32))) (fun h => by rw [Bd.returns] at h; cases h) (by decide) (by decide) ?_ (fun fs hr => retN X16 hx (t := .boolean) Bd.returns (by simp) (hb hby at_129) hr)
        show Q_law Z v0 v1 v2 h0 n0 _ T16.heap _
        rw [e16]
        exact ⟨congrArg (fun z => some (Value.int z)) (by rw [f_law]; rw [if_pos hc30_1, if_pos hc73_2, if_pos hc125_3]), N16⟩
      · refine G_ifYes X16 hx (pc' := 130) (hb hby at_125) ((if0 _ _).trans (feq (fun q => hc125_3 ((lw_eq _ _).1 q))).2) (by decide) (by decide) ?_
        refine G_lloadN X16 hx (pc' := 131) rfl (hb hby at_130) rfl ?_
        refine G_lstore X16 hx (pc' := 133) rfl (hb hby at_131) (L' := #[.val (.long v0), .second, .val (.long v1), .second, .val (.int v2), .val (.ref b11), .val (.long (v0 - (1 : Int64))), .second, .val (.long ((f_max (0 : Int64) (v0 - (1 : Int64))) + (1 : Int64))), .second, .val (.long v1), .second, .unset, .unset]) rfl ?_
        refine G_lload X16 hx (pc' := 135) rfl (hb hby at_133) rfl ?_
        refine G_ldc2 X16 hx (pc' := 138) rfl hown (mvT hZ (hw _ (List.mem_of_getElem? (i := 16) rfl))) (hb hby at_135) ?_
        refine G_lcmp X16 hx (pc' := 139) rfl (hb hby at_138)  ?_
        by_cases hc139_4 : v1 = (9223372036854775807 : Int64)
        · refine G_ifNo X16 hx (pc' := 142) rfl (hb hby at_139) ((if0 _ _).trans (teq ((lw_eq _ _).2 hc139_4)).2) ?_
          refine G_lload X16 hx (pc' := 144) rfl (hb hby at_142) rfl ?_
          refine G_lconst X16 hx (pc' := 145) rfl (hb hby at_144) (z := (1 : Int64)) rfl ?_
          refine G_lsub X16 hx (pc' := 146) rfl (hb hby at_145)  ?_
          refine G_lstore X16 hx (pc' := 148) rfl (hb hby at_146) (L' := #[.val (.long v0), .second, .val (.long v1), .second, .val (.int v2), .val (.ref b11), .val (.long (v0 - (1 : Int64))), .second, .val (.long ((f_max (0 : Int64) (v0 - (1 : Int64))) + (1 : Int64))), .second, .val (.long (v1 - (1 : Int64))), .second, .unset, .unset]) rfl ?_
          refine G_aload X16 hx (pc' := 150) rfl (hb hby at_148) rfl rfl ?_
          refine G_lload X16 hx (pc' := 152) rfl (hb hby at_150) rfl ?_
          obtain ⟨cq17, kq17, q17a, q17b, q17c⟩ := isOf hZ e16 p14_0
          obtain ⟨_, _, ⟨T17, L17, k17, n17⟩, -, X17, ⟨Lc17, hQ17, l17, y17, z17⟩, st17⟩ := X16.virtualBack hx (y := (⟨"com/example/fencing/fencing/protocol/LamportClock", "receive", "(J)V"⟩ : MethodName)) (z := (⟨"com/example/fencing/fencing/protocol/LamportClock", "receive", "(J)V"⟩ : MethodName)) hown (mvT hZ (hw _ (List.mem_of_getElem? (i := 17) rfl))) (mvT hZ (hw _ (List.mem_of_getElem? (i := 18) rfl))) (notFace_of_selects (args := #[]) (mvT hZ (hw _ (List.mem_of_getElem? (i := 20) rfl)))) (mvT hZ (hw _ (List.mem_of_getElem? (i := 20) rfl))) (mvT hZ (hw _ (List.mem_of_getElem? (i := 19) rfl))) (by decide) (backOf (W := 0) (rm_recv l Z a0 hw [] b11 (v1 - (1 : Int64)) ((f_max (0 : Int64) (v0 - (1 : Int64))) + (1 : Int64)) T14.heap n0 Z_14 p14_0 p14_1 g_b11 (own_mxne (by first | decide | assumption) (by first | assumption | exact own_sub (by assumption)))) hZ (hw _ (List.mem_of_getElem? (i := 21) rfl)) (hw _ (List.mem_of_getElem? (i := 2) rfl)) (by decide) (by decide)) q17a q17c (g := (mkF m 152 #[.val (.long v0), .second, .val (.long v1), .second, .val (.int v2), .val (.ref b11), .val (.long (v0 - (1 : Int64))), .second, .val (.long ((f_max (0 : Int64) (v0 - (1 : Int64))) + (1 : Int64))), .second, .val (.long (v1 - (1 : Int64))), .second, .unset, .unset] [(.long (v1 - (1 : Int64))), (.ref b11)])) rfl (by rw [hml]; rfl) (Steps.refl _) (argsL := [(.long (v1 - (1 : Int64)))]) (rest := []) (lenOf pd_3 rfl) rfl (by show 2 * 0 + _ ≤ _; exact Nat.le_of_eq rfl) (hb hby at_152) (fun _ _ => ⟨rfl, e16, (by decide : 1 + 0 ≤ _), (by decide : 1 + 0 ≤ _)⟩)
          dsimp only [Pt.U, Pt.locs, Pt.cells, Pt.slots] at X17 l17 y17 z17 st17 hQ17
          subst l17 y17 z17
          obtain ⟨rfl, N17q, K17, p17_0, p17_1⟩ := hQ17
          have N17 := Fr.app N16 N17q
          refine Go.st (fun _ k => st17.trans k) ?_
          have K_17 : Keep h0 T17.heap [] := K_14.trans K17 (allS (Or.inr sz_b11) all0)
          have Z_17 : n0 ≤ T17.heap.size := Nat.le_trans Z0 K_17.1
          show Go p e below s _ _ _ T17 (mkF m 155 #[.val (.long v0), .second, .val (.long v1), .second, .val (.int v2), .val (.ref b11), .val (.long (v0 - (1 : Int64))), .second, .val (.long ((f_max (0 : Int64) (v0 - (1 : Int64))) + (1 : Int64))), .second, .val (.long (v1 - (1 : Int64))), .second, .unset, .unset] [])
          refine G_lload X17 hx (pc' := 157) rfl (hb hby at_155) rfl ?_
          refine G_lload X17 hx (pc' := 159) rfl (hb hby at_157) rfl ?_
          obtain ⟨_, _, ⟨T18, L18, k18, n18⟩, -, X18, ⟨Lc18, hQ18, l18, y18, z18⟩, st18⟩ := Jvm.LawKit.callS X17 hx (y := (⟨"com/example/fencing/fencing/protocol/LamportClockReceivePinLaw", "maxOf", "(JJ)J"⟩ : MethodName)) hown (mvT hZ (hw _ (List.mem_of_getElem? (i := 29) rfl))) (mvT hZ (hw _ (List.mem_of_getElem? (i := 30) rfl))) (mvT hZ (hw _ (List.mem_of_getElem? (i := 31) rfl))) (mvT hZ (hw _ (List.mem_of_getElem? (i := 32) rfl))) (by decide) (backOf (W := 0) (rm_maxOf l Z a0 hw [] ((f_max (0 : Int64) (v0 - (1 : Int64))) + (1 : Int64)) (v1 - (1 : Int64)) T17.heap n0 Z_17 ) hZ (hw _ (List.mem_of_getElem? (i := 32) rfl)) (hw _ (List.mem_of_getElem? (i := 31) rfl)) (by decide) (by decide)) (g := (mkF m 159 #[.val (.long v0), .second, .val (.long v1), .second, .val (.int v2), .val (.ref b11), .val (.long (v0 - (1 : Int64))), .second, .val (.long ((f_max (0 : Int64) (v0 - (1 : Int64))) + (1 : Int64))), .second, .val (.long (v1 - (1 : Int64))), .second, .unset, .unset] [(.long (v1 - (1 : Int64))), (.long ((f_max (0 : Int64) (v0 - (1 : Int64))) + (1 : Int64)))])) rfl (by rw [hml]; rfl) (argsL := [(.long ((f_max (0 : Int64) (v0 - (1 : Int64))) + (1 : Int64))), (.long (v1 - (1 : Int64)))]) (rest := []) (lenOf pd_0 rfl) rfl (by show 2 * 0 + _ ≤ _; exact Nat.le_of_eq rfl) (hb hby at_159) (fun _ _ => ⟨rfl, rfl, (by decide : 1 + 0 ≤ _), (by decide : 1 + 0 ≤ _)⟩)
          dsimp only [Pt.U, Pt.locs, Pt.cells, Pt.slots] at X18 l18 y18 z18 st18 hQ18
          subst l18 y18 z18
          obtain ⟨rfl, N18q, e18⟩ := hQ18
          have N18 := Fr.app N17 N18q
          refine Go.st st18 ?_
          show Go p e below s _ _ _ T18 (mkF m 162 #[.val (.long v0), .second, .val (.long v1), .second, .val (.int v2), .val (.ref b11), .val (.long (v0 - (1 : Int64))), .second, .val (.long ((f_max (0 : Int64) (v0 - (1 : Int64))) + (1 : Int64))), .second, .val (.long (v1 - (1 : Int64))), .second, .unset, .unset] [(.long (f_max ((f_max (0 : Int64) (v0 - (1 : Int64))) + (1 : Int64)) (v1 - (1 : Int64))))])
          refine G_lconst X18 hx (pc' := 163) rfl (hb hby at_162) (z := (1 : Int64)) rfl ?_
          refine G_ladd X18 hx (pc' := 164) rfl (hb hby at_163)  ?_
          refine G_lstore X18 hx (pc' := 166) rfl (hb hby at_164) (L' := #[.val (.long v0), .second, .val (.long v1), .second, .val (.int v2), .val (.ref b11), .val (.long (v0 - (1 : Int64))), .second, .val (.long ((f_max (0 : Int64) (v0 - (1 : Int64))) + (1 : Int64))), .second, .val (.long (v1 - (1 : Int64))), .second, .val (.long ((f_max ((f_max (0 : Int64) (v0 - (1 : Int64))) + (1 : Int64)) (v1 - (1 : Int64))) + (1 : Int64))), .second]) rfl ?_
          refine G_aload X18 hx (pc' := 168) rfl (hb hby at_166) rfl rfl ?_
          obtain ⟨cq19, kq19, q19a, q19b, q19c⟩ := isOf hZ e18 p17_0
          obtain ⟨_, _, ⟨T19, L19, k19, n19⟩, -, X19, ⟨Lc19, hQ19, l19, y19, z19⟩, st19⟩ := X18.virtualBack hx (y := (⟨"com/example/fencing/fencing/protocol/LamportClock", "time", "()J"⟩ : MethodName)) (z := (⟨"com/example/fencing/fencing/protocol/LamportClock", "time", "()J"⟩ : MethodName)) hown (mvT hZ (hw _ (List.mem_of_getElem? (i := 9) rfl))) (mvT hZ (hw _ (List.mem_of_getElem? (i := 10) rfl))) (notFace_of_selects (args := #[]) (mvT hZ (hw _ (List.mem_of_getElem? (i := 12) rfl)))) (mvT hZ (hw _ (List.mem_of_getElem? (i := 12) rfl))) (mvT hZ (hw _ (List.mem_of_getElem? (i := 11) rfl))) (by decide) (backOf (W := 0) (rm_time l Z a0 hw [] b11 ((f_max ((f_max (0 : Int64) (v0 - (1 : Int64))) + (1 : Int64)) (v1 - (1 : Int64))) + (1 : Int64)) T17.heap n0 Z_17 p17_1) hZ (hw _ (List.mem_of_getElem? (i := 13) rfl)) (hw _ (List.mem_of_getElem? (i := 2) rfl)) (by decide) (by decide)) q19a q19c (g := (mkF m 168 #[.val (.long v0), .second, .val (.long v1), .second, .val (.int v2), .val (.ref b11), .val (.long (v0 - (1 : Int64))), .second, .val (.long ((f_max (0 : Int64) (v0 - (1 : Int64))) + (1 : Int64))), .second, .val (.long (v1 - (1 : Int64))), .second, .val (.long ((f_max ((f_max (0 : Int64) (v0 - (1 : Int64))) + (1 : Int64)) (v1 - (1 : Int64))) + (1 : Int64))), .second] [(.ref b11)])) rfl (by rw [hml]; rfl) (Steps.refl _) (argsL := []) (rest := []) (lenOf pd_2 rfl) rfl (by show 2 * 0 + _ ≤ _; exact Nat.le_of_eq rfl) (hb hby at_168) (fun _ _ => ⟨rfl, e18, (by decide : 1 + 0 ≤ _), (by decide : 1 + 0 ≤ _)⟩)
          dsimp only [Pt.U, Pt.locs, Pt.cells, Pt.slots] at X19 l19 y19 z19 st19 hQ19
          subst l19 y19 z19
          obtain ⟨rfl, N19q, e19⟩ := hQ19
          have N19 := Fr.app N18 N19q
          refine Go.st (fun _ k => st19.trans k) ?_
          show Go p e below s _ _ _ T19 (mkF m 171 #[.val (.long v0), .second, .val (.long v1), .second, .val (.int v2), .val (.ref b11), .val (.long (v0 - (1 : Int64))), .second, .val (.long ((f_max (0 : Int64) (v0 - (1 : Int64))) + (1 : Int64))), .second, .val (.long (v1 - (1 : Int64))), .second, .val (.long ((f_max ((f_max (0 : Int64) (v0 - (1 : Int64))) + (1 : Int64)) (v1 - (1 : Int64))) + (1 : Int64))), .second] [(.long ((f_max ((f_max (0 : Int64) (v0 - (1 : Int64))) + (1 : Int64)) (v1 - (1 : Int64))) + (1 : Int64)))])
          refine G_lload X19 hx (pc' := 173) rfl (hb hby at_171) rfl ?_
          refine G_lcmp X19 hx (pc' := 174) rfl (hb hby at_173)  ?_
          refine G_ifNo X19 hx (pc' := 177) rfl (hb hby at_174) ((if0 _ _).trans (teq ((lw_eq _ _).2 (rfl : ((f_max ((f_max (0 : Int64) (v0 - (1 : Int64))) + (1 : Int64)) (v1 - (1 : Int64))) + (1 : Int64)) = ((f_max ((f_max (0 : Int64) (v0 - (1 : Int64))) + (1 : Int64)) (v1 - (1 : Int64))) + (1 : Int64))))).2) ?_
          refine G_iconst X19 hx (pc' := 178) rfl (hb hby at_177) (z := (1 : Int32)) rfl ?_
          refine G_goto X19 hx (pc' := 182) (hb hby at_178)  (by decide) (by decide) ?_
          refine Go.fin X19 hlk (v := some (.int (1 : Int32))) (fun h => by rw [Bd.returns] at h; cases h) (by decide) (by decide) ?_ (fun fs hr => retN X19 hx (t := .boolean) Bd.returns (by simp) (hb hby at_182) hr)
          show Q_law Z v0 v1 v2 h0 n0 _ T19.heap _
          rw [e19]
          exact ⟨congrArg (fun z => some (Value.int z)) (by rw [f_law]; rw [if_pos hc30_1, if_pos hc73_2, if_neg hc125_3, if_pos hc139_4]), N19⟩
        · refine G_ifYes X16 hx (pc' := 148) (hb hby at_139) ((if0 _ _).trans (feq (fun q => hc139_4 ((lw_eq _ _).1 q))).2) (by decide) (by decide) ?_
          refine G_aload X16 hx (pc' := 150) rfl (hb hby at_148) rfl rfl ?_
          refine G_lload X16 hx (pc' := 152) rfl (hb hby at_150) rfl ?_
          obtain ⟨cq20, kq20, q20a, q20b, q20c⟩ := isOf hZ e16 p14_0
          obtain ⟨_, _, ⟨T20, L20, k20, n20⟩, -, X20, ⟨Lc20, hQ20, l20, y20, z20⟩, st20⟩ := X16.virtualBack hx (y := (⟨"com/example/fencing/fencing/protocol/LamportClock", "receive", "(J)V"⟩ : MethodName)) (z := (⟨"com/example/fencing/fencing/protocol/LamportClock", "receive", "(J)V"⟩ : MethodName)) hown (mvT hZ (hw _ (List.mem_of_getElem? (i := 17) rfl))) (mvT hZ (hw _ (List.mem_of_getElem? (i := 18) rfl))) (notFace_of_selects (args := #[]) (mvT hZ (hw _ (List.mem_of_getElem? (i := 20) rfl)))) (mvT hZ (hw _ (List.mem_of_getElem? (i := 20) rfl))) (mvT hZ (hw _ (List.mem_of_getElem? (i := 19) rfl))) (by decide) (backOf (W := 0) (rm_recv l Z a0 hw [] b11 v1 ((f_max (0 : Int64) (v0 - (1 : Int64))) + (1 : Int64)) T14.heap n0 Z_14 p14_0 p14_1 g_b11 (own_mxne (by first | decide | assumption) (by first | assumption | exact own_sub (by assumption)))) hZ (hw _ (List.mem_of_getElem? (i := 21) rfl)) (hw _ (List.mem_of_getElem? (i := 2) rfl)) (by decide) (by decide)) q20a q20c (g := (mkF m 152 #[.val (.long v0), .second, .val (.long v1), .second, .val (.int v2), .val (.ref b11), .val (.long (v0 - (1 : Int64))), .second, .val (.long ((f_max (0 : Int64) (v0 - (1 : Int64))) + (1 : Int64))), .second, .val (.long v1), .second, .unset, .unset] [(.long v1), (.ref b11)])) rfl (by rw [hml]; rfl) (Steps.refl _) (argsL := [(.long v1)]) (rest := []) (lenOf pd_3 rfl) rfl (by show 2 * 0 + _ ≤ _; exact Nat.le_of_eq rfl) (hb hby at_152) (fun _ _ => ⟨rfl, e16, (by decide : 1 + 0 ≤ _), (by decide : 1 + 0 ≤ _)⟩)
          dsimp only [Pt.U, Pt.locs, Pt.cells, Pt.slots] at X20 l20 y20 z20 st20 hQ20
          subst l20 y20 z20
          obtain ⟨rfl, N20q, K20, p20_0, p20_1⟩ := hQ20
          have N20 := Fr.app N16 N20q
          refine Go.st (fun _ k => st20.trans k) ?_
          have K_20 : Keep h0 T20.heap [] := K_14.trans K20 (allS (Or.inr sz_b11) all0)
          have Z_20 : n0 ≤ T20.heap.size := Nat.le_trans Z0 K_20.1
          show Go p e below s _ _ _ T20 (mkF m 155 #[.val (.long v0), .second, .val (.long v1), .second, .val (.int v2), .val (.ref b11), .val (.long (v0 - (1 : Int64))), .second, .val (.long ((f_max (0 : Int64) (v0 - (1 : Int64))) + (1 : Int64))), .second, .val (.long v1), .second, .unset, .unset] [])
          refine G_lload X20 hx (pc' := 157) rfl (hb hby at_155) rfl ?_
          refine G_lload X20 hx (pc' := 159) rfl (hb hby at_157) rfl ?_
          obtain ⟨_, _, ⟨T21, L21, k21, n21⟩, -, X21, ⟨Lc21, hQ21, l21, y21, z21⟩, st21⟩ := Jvm.LawKit.callS X20 hx (y := (⟨"com/example/fencing/fencing/protocol/LamportClockReceivePinLaw", "maxOf", "(JJ)J"⟩ : MethodName)) hown (mvT hZ (hw _ (List.mem_of_getElem? (i := 29) rfl))) (mvT hZ (hw _ (List.mem_of_getElem? (i := 30) rfl))) (mvT hZ (hw _ (List.mem_of_getElem? (i := 31) rfl))) (mvT hZ (hw _ (List.mem_of_getElem? (i := 32) rfl))) (by decide) (backOf (W := 0) (rm_maxOf l Z a0 hw [] ((f_max (0 : Int64) (v0 - (1 : Int64))) + (1 : Int64)) v1 T20.heap n0 Z_20 ) hZ (hw _ (List.mem_of_getElem? (i := 32) rfl)) (hw _ (List.mem_of_getElem? (i := 31) rfl)) (by decide) (by decide)) (g := (mkF m 159 #[.val (.long v0), .second, .val (.long v1), .second, .val (.int v2), .val (.ref b11), .val (.long (v0 - (1 : Int64))), .second, .val (.long ((f_max (0 : Int64) (v0 - (1 : Int64))) + (1 : Int64))), .second, .val (.long v1), .second, .unset, .unset] [(.long v1), (.long ((f_max (0 : Int64) (v0 - (1 : Int64))) + (1 : Int64)))])) rfl (by rw [hml]; rfl) (argsL := [(.long ((f_max (0 : Int64) (v0 - (1 : Int64))) + (1 : Int64))), (.long v1)]) (rest := []) (lenOf pd_0 rfl) rfl (by show 2 * 0 + _ ≤ _; exact Nat.le_of_eq rfl) (hb hby at_159) (fun _ _ => ⟨rfl, rfl, (by decide : 1 + 0 ≤ _), (by decide : 1 + 0 ≤ _)⟩)
          dsimp only [Pt.U, Pt.locs, Pt.cells, Pt.slots] at X21 l21 y21 z21 st21 hQ21
          subst l21 y21 z21
          obtain ⟨rfl, N21q, e21⟩ := hQ21
          have N21 := Fr.app N20 N21q
          refine Go.st st21 ?_
          show Go p e below s _ _ _ T21 (mkF m 162 #[.val (.long v0), .second, .val (.long v1), .second, .val (.int v2), .val (.ref b11), .val (.long (v0 - (1 : Int64))), .second, .val (.long ((f_max (0 : Int64) (v0 - (1 : Int64))) + (1 : Int64))), .second, .val (.long v1), .second, .unset, .unset] [(.long (f_max ((f_max (0 : Int64) (v0 - (1 : Int64))) + (1 : Int64)) v1))])
          refine G_lconst X21 hx (pc' := 163) rfl (hb hby at_162) (z := (1 : Int64)) rfl ?_
          refine G_ladd X21 hx (pc' := 164) rfl (hb hby at_163)  ?_
          refine G_lstore X21 hx (pc' := 166) rfl (hb hby at_164) (L' := #[.val (.long v0), .second, .val (.long v1), .second, .val (.int v2), .val (.ref b11), .val (.long (v0 - (1 : Int64))), .second, .val (.long ((f_max (0 : Int64) (v0 - (1 : Int64))) + (1 : Int64))), .second, .val (.long v1), .second, .val (.long ((f_max ((f_max (0 : Int64) (v0 - (1 : Int64))) + (1 : Int64)) v1) + (1 : Int64))), .second]) rfl ?_
          refine G_aload X21 hx (pc' := 168) rfl (hb hby at_166) rfl rfl ?_
          obtain ⟨cq22, kq22, q22a, q22b, q22c⟩ := isOf hZ e21 p20_0
          obtain ⟨_, _, ⟨T22, L22, k22, n22⟩, -, X22, ⟨Lc22, hQ22, l22, y22, z22⟩, st22⟩ := X21.virtualBack hx (y := (⟨"com/example/fencing/fencing/protocol/LamportClock", "time", "()J"⟩ : MethodName)) (z := (⟨"com/example/fencing/fencing/protocol/LamportClock", "time", "()J"⟩ : MethodName)) hown (mvT hZ (hw _ (List.mem_of_getElem? (i := 9) rfl))) (mvT hZ (hw _ (List.mem_of_getElem? (i := 10) rfl))) (notFace_of_selects (args := #[]) (mvT hZ (hw _ (List.mem_of_getElem? (i := 12) rfl)))) (mvT hZ (hw _ (List.mem_of_getElem? (i := 12) rfl))) (mvT hZ (hw _ (List.mem_of_getElem? (i := 11) rfl))) (by decide) (backOf (W := 0) (rm_time l Z a0 hw [] b11 ((f_max ((f_max (0 : Int64) (v0 - (1 : Int64))) + (1 : Int64)) v1) + (1 : Int64)) T20.heap n0 Z_20 p20_1) hZ (hw _ (List.mem_of_getElem? (i := 13) rfl)) (hw _ (List.mem_of_getElem? (i := 2) rfl)) (by decide) (by decide)) q22a q22c (g := (mkF m 168 #[.val (.long v0), .second, .val (.long v1), .second, .val (.int v2), .val (.ref b11), .val (.long (v0 - (1 : Int64))), .second, .val (.long ((f_max (0 : Int64) (v0 - (1 : Int64))) + (1 : Int64))), .second, .val (.long v1), .second, .val (.long ((f_max ((f_max (0 : Int64) (v0 - (1 : Int64))) + (1 : Int64)) v1) + (1 : Int64))), .second] [(.ref b11)])) rfl (by rw [hml]; rfl) (Steps.refl _) (argsL := []) (rest := []) (lenOf pd_2 rfl) rfl (by show 2 * 0 + _ ≤ _; exact Nat.le_of_eq rfl) (hb hby at_168) (fun _ _ => ⟨rfl, e21, (by decide : 1 + 0 ≤ _), (by decide : 1 + 0 ≤ _)⟩)
          dsimp only [Pt.U, Pt.locs, Pt.cells, Pt.slots] at X22 l22 y22 z22 st22 hQ22
          subst l22 y22 z22
          obtain ⟨rfl, N22q, e22⟩ := hQ22
          have N22 := Fr.app N21 N22q
          refine Go.st (fun _ k => st22.trans k) ?_
          show Go p e below s _ _ _ T22 (mkF m 171 #[.val (.long v0), .second, .val (.long v1), .second, .val (.int v2), .val (.ref b11), .val (.long (v0 - (1 : Int64))), .second, .val (.long ((f_max (0 : Int64) (v0 - (1 : Int64))) + (1 : Int64))), .second, .val (.long v1), .second, .val (.long ((f_max ((f_max (0 : Int64) (v0 - (1 : Int64))) + (1 : Int64)) v1) + (1 : Int64))), .second] [(.long ((f_max ((f_max (0 : Int64) (v0 - (1 : Int64))) + (1 : Int64)) v1) + (1 : Int64)))])
          refine G_lload X22 hx (pc' := 173) rfl (hb hby at_171) rfl ?_
          refine G_lcmp X22 hx (pc' := 174) rfl (hb hby at_173)  ?_
          refine G_ifNo X22 hx (pc' := 177) rfl (hb hby at_174) ((if0 _ _).trans (teq ((lw_eq _ _).2 (rfl : ((f_max ((f_max (0 : Int64) (v0 - (1 : Int64))) + (1 : Int64)) v1) + (1 : Int64)) = ((f_max ((f_max (0 : Int64) (v0 - (1 : Int64))) + (1 : Int64)) v1) + (1 : Int64))))).2) ?_
          refine G_iconst X22 hx (pc' := 178) rfl (hb hby at_177) (z := (1 : Int32)) rfl ?_
          refine G_goto X22 hx (pc' := 182) (hb hby at_178)  (by decide) (by decide) ?_
          refine Go.fin X22 hlk (v := some (.int (1 : Int32))) (fun h => by rw [Bd.returns] at h; cases h) (by decide) (by decide) ?_ (fun fs hr => retN X22 hx (t := .boolean) Bd.returns (by simp) (hb hby at_182) hr)
          show Q_law Z v0 v1 v2 h0 n0 _ T22.heap _
          rw [e22]
          exact ⟨congrArg (fun z => some (Value.int z)) (by rw [f_law]; rw [if_pos hc30_1, if_pos hc73_2, if_neg hc125_3, if_neg hc139_4]), N22⟩
    · refine G_ifNo X16 hx (pc' := 76) rfl (hb hby at_73) ((if0 _ _).trans (feq hc73_2).1) ?_
      refine G_lload X16 hx (pc' := 78) rfl (hb hby at_76) rfl ?_
      refine G_ldc2 X16 hx (pc' := 81) rfl hown (mvT hZ (hw _ (List.mem_of_getElem? (i := 16) rfl))) (hb hby at_78) ?_
      refine G_lcmp X16 hx (pc' := 82) rfl (hb hby at_81)  ?_
      by_cases hc82_5 : ((f_max (0 : Int64) (v0 - (1 : Int64))) + (1 : Int64)) = (9223372036854775807 : Int64)
      · refine G_ifYes X16 hx (pc' := 119) (hb hby at_82) ((if0 _ _).trans (teq ((lw_eq _ _).2 hc82_5)).1) (by decide) (by decide) ?_
        refine G_lload X16 hx (pc' := 121) rfl (hb hby at_119) rfl ?_
        refine G_ldc2 X16 hx (pc' := 124) rfl hown (mvT hZ (hw _ (List.mem_of_getElem? (i := 16) rfl))) (hb hby at_121) ?_
        refine G_lcmp X16 hx (pc' := 125) rfl (hb hby at_124)  ?_
        refine G_ifNo X16 hx (pc' := 128) rfl (hb hby at_125) ((if0 _ _).trans (teq ((lw_eq _ _).2 hc82_5)).2) ?_
        refine G_iconst X16 hx (pc' := 129) rfl (hb hby at_128) (z := (1 : Int32)) rfl ?_
        refine Go.fin X16 hlk (v := some (.int (1 : Int32))) (fun h => by rw [Bd.returns] at h; cases h) (by decide) (by decide) ?_ (fun fs hr => retN X16 hx (t := .boolean) Bd.returns (by simp) (hb hby at_129) hr)
        show Q_law Z v0 v1 v2 h0 n0 _ T16.heap _
        rw [e16]
        exact ⟨congrArg (fun z => some (Value.int z)) (by rw [f_law]; rw [if_pos hc30_1, if_neg hc73_2, if_pos hc82_5]), N16⟩
      · refine G_ifNo X16 hx (pc' := 85) rfl (hb hby at_82) ((if0 _ _).trans (feq (fun q => hc82_5 ((lw_eq _ _).1 q))).1) ?_
        refine G_aload X16 hx (pc' := 87) rfl (hb hby at_85) rfl rfl ?_
        obtain ⟨cq23, kq23, q23a, q23b, q23c⟩ := isOf hZ e16 p14_0
        obtain ⟨_, _, ⟨T23, L23, k23, n23⟩, -, X23, ⟨Lc23, hQ23, l23, y23, z23⟩, st23⟩ := X16.virtualBack hx (y := (⟨"com/example/fencing/fencing/protocol/LamportClock", "tick", "()J"⟩ : MethodName)) (z := (⟨"com/example/fencing/fencing/protocol/LamportClock", "tick", "()J"⟩ : MethodName)) hown (mvT hZ (hw _ (List.mem_of_getElem? (i := 33) rfl))) (mvT hZ (hw _ (List.mem_of_getElem? (i := 34) rfl))) (notFace_of_selects (args := #[]) (mvT hZ (hw _ (List.mem_of_getElem? (i := 36) rfl)))) (mvT hZ (hw _ (List.mem_of_getElem? (i := 36) rfl))) (mvT hZ (hw _ (List.mem_of_getElem? (i := 35) rfl))) (by decide) (backOf (W := 0) (rm_tick l Z a0 hw [] b11 ((f_max (0 : Int64) (v0 - (1 : Int64))) + (1 : Int64)) T14.heap n0 Z_14 p14_0 p14_1 g_b11 (by assumption)) hZ (hw _ (List.mem_of_getElem? (i := 37) rfl)) (hw _ (List.mem_of_getElem? (i := 2) rfl)) (by decide) (by decide)) q23a q23c (g := (mkF m 87 #[.val (.long v0), .second, .val (.long v1), .second, .val (.int v2), .val (.ref b11), .val (.long (v0 - (1 : Int64))), .second, .val (.long ((f_max (0 : Int64) (v0 - (1 : Int64))) + (1 : Int64))), .second, .unset, .unset, .unset, .unset] [(.ref b11)])) rfl (by rw [hml]; rfl) (Steps.refl _) (argsL := []) (rest := []) (lenOf pd_2 rfl) rfl (by show 2 * 0 + _ ≤ _; exact Nat.le_of_eq rfl) (hb hby at_87) (fun _ _ => ⟨rfl, e16, (by decide : 1 + 0 ≤ _), (by decide : 1 + 0 ≤ _)⟩)
        dsimp only [Pt.U, Pt.locs, Pt.cells, Pt.slots] at X23 l23 y23 z23 st23 hQ23
        subst l23 y23 z23
        obtain ⟨rfl, N23q, K23, p23_0, p23_1⟩ := hQ23
        have N23 := Fr.app N16 N23q
        refine Go.st (fun _ k => st23.trans k) ?_
        have K_23 : Keep h0 T23.heap [] := K_14.trans K23 (allS (Or.inr sz_b11) all0)
        have Z_23 : n0 ≤ T23.heap.size := Nat.le_trans Z0 K_23.1
        show Go p e below s _ _ _ T23 (mkF m 90 #[.val (.long v0), .second, .val (.long v1), .second, .val (.int v2), .val (.ref b11), .val (.long (v0 - (1 : Int64))), .second, .val (.long ((f_max (0 : Int64) (v0 - (1 : Int64))) + (1 : Int64))), .second, .unset, .unset, .unset, .unset] [(.long (((f_max (0 : Int64) (v0 - (1 : Int64))) + (1 : Int64)) + (1 : Int64)))])
        refine G_lstore X23 hx (pc' := 92) rfl (hb hby at_90) (L' := #[.val (.long v0), .second, .val (.long v1), .second, .val (.int v2), .val (.ref b11), .val (.long (v0 - (1 : Int64))), .second, .val (.long ((f_max (0 : Int64) (v0 - (1 : Int64))) + (1 : Int64))), .second, .val (.long (((f_max (0 : Int64) (v0 - (1 : Int64))) + (1 : Int64)) + (1 : Int64))), .second, .unset, .unset]) rfl ?_
        refine G_lload X23 hx (pc' := 94) rfl (hb hby at_92) rfl ?_
        refine G_lconst X23 hx (pc' := 95) rfl (hb hby at_94) (z := (1 : Int64)) rfl ?_
        refine G_ladd X23 hx (pc' := 96) rfl (hb hby at_95)  ?_
        refine G_lstore X23 hx (pc' := 98) rfl (hb hby at_96) (L' := #[.val (.long v0), .second, .val (.long v1), .second, .val (.int v2), .val (.ref b11), .val (.long (v0 - (1 : Int64))), .second, .val (.long (((f_max (0 : Int64) (v0 - (1 : Int64))) + (1 : Int64)) + (1 : Int64))), .second, .val (.long (((f_max (0 : Int64) (v0 - (1 : Int64))) + (1 : Int64)) + (1 : Int64))), .second, .unset, .unset]) rfl ?_
        refine G_lload X23 hx (pc' := 100) rfl (hb hby at_98) rfl ?_
        refine G_lload X23 hx (pc' := 102) rfl (hb hby at_100) rfl ?_
        refine G_lcmp X23 hx (pc' := 103) rfl (hb hby at_102)  ?_
        refine G_ifNo X23 hx (pc' := 106) rfl (hb hby at_103) ((if0 _ _).trans (teq ((lw_eq _ _).2 (rfl : (((f_max (0 : Int64) (v0 - (1 : Int64))) + (1 : Int64)) + (1 : Int64)) = (((f_max (0 : Int64) (v0 - (1 : Int64))) + (1 : Int64)) + (1 : Int64))))).2) ?_
        refine G_aload X23 hx (pc' := 108) rfl (hb hby at_106) rfl rfl ?_
        obtain ⟨cq24, kq24, q24a, q24b, q24c⟩ := isOf hZ rfl p23_0
        obtain ⟨_, _, ⟨T24, L24, k24, n24⟩, -, X24, ⟨Lc24, hQ24, l24, y24, z24⟩, st24⟩ := X23.virtualBack hx (y := (⟨"com/example/fencing/fencing/protocol/LamportClock", "time", "()J"⟩ : MethodName)) (z := (⟨"com/example/fencing/fencing/protocol/LamportClock", "time", "()J"⟩ : MethodName)) hown (mvT hZ (hw _ (List.mem_of_getElem? (i := 9) rfl))) (mvT hZ (hw _ (List.mem_of_getElem? (i := 10) rfl))) (notFace_of_selects (args := #[]) (mvT hZ (hw _ (List.mem_of_getElem? (i := 12) rfl)))) (mvT hZ (hw _ (List.mem_of_getElem? (i := 12) rfl))) (mvT hZ (hw _ (List.mem_of_getElem? (i := 11) rfl))) (by decide) (backOf (W := 0) (rm_time l Z a0 hw [] b11 (((f_max (0 : Int64) (v0 - (1 : Int64))) + (1 : Int64)) + (1 : Int64)) T23.heap n0 Z_23 p23_1) hZ (hw _ (List.mem_of_getElem? (i := 13) rfl)) (hw _ (List.mem_of_getElem? (i := 2) rfl)) (by decide) (by decide)) q24a q24c (g := (mkF m 108 #[.val (.long v0), .second, .val (.long v1), .second, .val (.int v2), .val (.ref b11), .val (.long (v0 - (1 : Int64))), .second, .val (.long (((f_max (0 : Int64) (v0 - (1 : Int64))) + (1 : Int64)) + (1 : Int64))), .second, .val (.long (((f_max (0 : Int64) (v0 - (1 : Int64))) + (1 : Int64)) + (1 : Int64))), .second, .unset, .unset] [(.ref b11)])) rfl (by rw [hml]; rfl) (Steps.refl _) (argsL := []) (rest := []) (lenOf pd_2 rfl) rfl (by show 2 * 0 + _ ≤ _; exact Nat.le_of_eq rfl) (hb hby at_108) (fun _ _ => ⟨rfl, rfl, (by decide : 1 + 0 ≤ _), (by decide : 1 + 0 ≤ _)⟩)
        dsimp only [Pt.U, Pt.locs, Pt.cells, Pt.slots] at X24 l24 y24 z24 st24 hQ24
        subst l24 y24 z24
        obtain ⟨rfl, N24q, e24⟩ := hQ24
        have N24 := Fr.app N23 N24q
        refine Go.st (fun _ k => st24.trans k) ?_
        show Go p e below s _ _ _ T24 (mkF m 111 #[.val (.long v0), .second, .val (.long v1), .second, .val (.int v2), .val (.ref b11), .val (.long (v0 - (1 : Int64))), .second, .val (.long (((f_max (0 : Int64) (v0 - (1 : Int64))) + (1 : Int64)) + (1 : Int64))), .second, .val (.long (((f_max (0 : Int64) (v0 - (1 : Int64))) + (1 : Int64)) + (1 : Int64))), .second, .unset, .unset] [(.long (((f_max (0 : Int64) (v0 - (1 : Int64))) + (1 : Int64)) + (1 : Int64)))])
        refine G_lload X24 hx (pc' := 113) rfl (hb hby at_111) rfl ?_
        refine G_lcmp X24 hx (pc' := 114) rfl (hb hby at_113)  ?_
        refine G_ifYes X24 hx (pc' := 119) (hb hby at_114) ((if0 _ _).trans (teq ((lw_eq _ _).2 (rfl : (((f_max (0 : Int64) (v0 - (1 : Int64))) + (1 : Int64)) + (1 : Int64)) = (((f_max (0 : Int64) (v0 - (1 : Int64))) + (1 : Int64)) + (1 : Int64))))).1) (by decide) (by decide) ?_
        refine G_lload X24 hx (pc' := 121) rfl (hb hby at_119) rfl ?_
        refine G_ldc2 X24 hx (pc' := 124) rfl hown (mvT hZ (hw _ (List.mem_of_getElem? (i := 16) rfl))) (hb hby at_121) ?_
        refine G_lcmp X24 hx (pc' := 125) rfl (hb hby at_124)  ?_
        by_cases hc125_6 : (((f_max (0 : Int64) (v0 - (1 : Int64))) + (1 : Int64)) + (1 : Int64)) = (9223372036854775807 : Int64)
        · refine G_ifNo X24 hx (pc' := 128) rfl (hb hby at_125) ((if0 _ _).trans (teq ((lw_eq _ _).2 hc125_6)).2) ?_
          refine G_iconst X24 hx (pc' := 129) rfl (hb hby at_128) (z := (1 : Int32)) rfl ?_
          refine Go.fin X24 hlk (v := some (.int (1 : Int32))) (fun h => by rw [Bd.returns] at h; cases h) (by decide) (by decide) ?_ (fun fs hr => retN X24 hx (t := .boolean) Bd.returns (by simp) (hb hby at_129) hr)
          show Q_law Z v0 v1 v2 h0 n0 _ T24.heap _
          rw [e24]
          exact ⟨congrArg (fun z => some (Value.int z)) (by rw [f_law]; rw [if_pos hc30_1, if_neg hc73_2, if_neg hc82_5, if_pos hc125_6]), N24⟩
        · refine G_ifYes X24 hx (pc' := 130) (hb hby at_125) ((if0 _ _).trans (feq (fun q => hc125_6 ((lw_eq _ _).1 q))).2) (by decide) (by decide) ?_
          refine G_lloadN X24 hx (pc' := 131) rfl (hb hby at_130) rfl ?_
          refine G_lstore X24 hx (pc' := 133) rfl (hb hby at_131) (L' := #[.val (.long v0), .second, .val (.long v1), .second, .val (.int v2), .val (.ref b11), .val (.long (v0 - (1 : Int64))), .second, .val (.long (((f_max (0 : Int64) (v0 - (1 : Int64))) + (1 : Int64)) + (1 : Int64))), .second, .val (.long v1), .second, .unset, .unset]) rfl ?_
          refine G_lload X24 hx (pc' := 135) rfl (hb hby at_133) rfl ?_
          refine G_ldc2 X24 hx (pc' := 138) rfl hown (mvT hZ (hw _ (List.mem_of_getElem? (i := 16) rfl))) (hb hby at_135) ?_
          refine G_lcmp X24 hx (pc' := 139) rfl (hb hby at_138)  ?_
          by_cases hc139_7 : v1 = (9223372036854775807 : Int64)
          · refine G_ifNo X24 hx (pc' := 142) rfl (hb hby at_139) ((if0 _ _).trans (teq ((lw_eq _ _).2 hc139_7)).2) ?_
            refine G_lload X24 hx (pc' := 144) rfl (hb hby at_142) rfl ?_
            refine G_lconst X24 hx (pc' := 145) rfl (hb hby at_144) (z := (1 : Int64)) rfl ?_
            refine G_lsub X24 hx (pc' := 146) rfl (hb hby at_145)  ?_
            refine G_lstore X24 hx (pc' := 148) rfl (hb hby at_146) (L' := #[.val (.long v0), .second, .val (.long v1), .second, .val (.int v2), .val (.ref b11), .val (.long (v0 - (1 : Int64))), .second, .val (.long (((f_max (0 : Int64) (v0 - (1 : Int64))) + (1 : Int64)) + (1 : Int64))), .second, .val (.long (v1 - (1 : Int64))), .second, .unset, .unset]) rfl ?_
            refine G_aload X24 hx (pc' := 150) rfl (hb hby at_148) rfl rfl ?_
            refine G_lload X24 hx (pc' := 152) rfl (hb hby at_150) rfl ?_
            obtain ⟨cq25, kq25, q25a, q25b, q25c⟩ := isOf hZ e24 p23_0
            obtain ⟨_, _, ⟨T25, L25, k25, n25⟩, -, X25, ⟨Lc25, hQ25, l25, y25, z25⟩, st25⟩ := X24.virtualBack hx (y := (⟨"com/example/fencing/fencing/protocol/LamportClock", "receive", "(J)V"⟩ : MethodName)) (z := (⟨"com/example/fencing/fencing/protocol/LamportClock", "receive", "(J)V"⟩ : MethodName)) hown (mvT hZ (hw _ (List.mem_of_getElem? (i := 17) rfl))) (mvT hZ (hw _ (List.mem_of_getElem? (i := 18) rfl))) (notFace_of_selects (args := #[]) (mvT hZ (hw _ (List.mem_of_getElem? (i := 20) rfl)))) (mvT hZ (hw _ (List.mem_of_getElem? (i := 20) rfl))) (mvT hZ (hw _ (List.mem_of_getElem? (i := 19) rfl))) (by decide) (backOf (W := 0) (rm_recv l Z a0 hw [] b11 (v1 - (1 : Int64)) (((f_max (0 : Int64) (v0 - (1 : Int64))) + (1 : Int64)) + (1 : Int64)) T23.heap n0 Z_23 p23_0 p23_1 g_b11 (own_mxne (by first | decide | assumption) (by first | assumption | exact own_sub (by assumption)))) hZ (hw _ (List.mem_of_getElem? (i := 21) rfl)) (hw _ (List.mem_of_getElem? (i := 2) rfl)) (by decide) (by decide)) q25a q25c (g := (mkF m 152 #[.val (.long v0), .second, .val (.long v1), .second, .val (.int v2), .val (.ref b11), .val (.long (v0 - (1 : Int64))), .second, .val (.long (((f_max (0 : Int64) (v0 - (1 : Int64))) + (1 : Int64)) + (1 : Int64))), .second, .val (.long (v1 - (1 : Int64))), .second, .unset, .unset] [(.long (v1 - (1 : Int64))), (.ref b11)])) rfl (by rw [hml]; rfl) (Steps.refl _) (argsL := [(.long (v1 - (1 : Int64)))]) (rest := []) (lenOf pd_3 rfl) rfl (by show 2 * 0 + _ ≤ _; exact Nat.le_of_eq rfl) (hb hby at_152) (fun _ _ => ⟨rfl, e24, (by decide : 1 + 0 ≤ _), (by decide : 1 + 0 ≤ _)⟩)
            dsimp only [Pt.U, Pt.locs, Pt.cells, Pt.slots] at X25 l25 y25 z25 st25 hQ25
            subst l25 y25 z25
            obtain ⟨rfl, N25q, K25, p25_0, p25_1⟩ := hQ25
            have N25 := Fr.app N24 N25q
            refine Go.st (fun _ k => st25.trans k) ?_
            have K_25 : Keep h0 T25.heap [] := K_23.trans K25 (allS (Or.inr sz_b11) all0)
            have Z_25 : n0 ≤ T25.heap.size := Nat.le_trans Z0 K_25.1
            show Go p e below s _ _ _ T25 (mkF m 155 #[.val (.long v0), .second, .val (.long v1), .second, .val (.int v2), .val (.ref b11), .val (.long (v0 - (1 : Int64))), .second, .val (.long (((f_max (0 : Int64) (v0 - (1 : Int64))) + (1 : Int64)) + (1 : Int64))), .second, .val (.long (v1 - (1 : Int64))), .second, .unset, .unset] [])
            refine G_lload X25 hx (pc' := 157) rfl (hb hby at_155) rfl ?_
            refine G_lload X25 hx (pc' := 159) rfl (hb hby at_157) rfl ?_
            obtain ⟨_, _, ⟨T26, L26, k26, n26⟩, -, X26, ⟨Lc26, hQ26, l26, y26, z26⟩, st26⟩ := Jvm.LawKit.callS X25 hx (y := (⟨"com/example/fencing/fencing/protocol/LamportClockReceivePinLaw", "maxOf", "(JJ)J"⟩ : MethodName)) hown (mvT hZ (hw _ (List.mem_of_getElem? (i := 29) rfl))) (mvT hZ (hw _ (List.mem_of_getElem? (i := 30) rfl))) (mvT hZ (hw _ (List.mem_of_getElem? (i := 31) rfl))) (mvT hZ (hw _ (List.mem_of_getElem? (i := 32) rfl))) (by decide) (backOf (W := 0) (rm_maxOf l Z a0 hw [] (((f_max (0 : Int64) (v0 - (1 : Int64))) + (1 : Int64)) + (1 : Int64)) (v1 - (1 : Int64)) T25.heap n0 Z_25 ) hZ (hw _ (List.mem_of_getElem? (i := 32) rfl)) (hw _ (List.mem_of_getElem? (i := 31) rfl)) (by decide) (by decide)) (g := (mkF m 159 #[.val (.long v0), .second, .val (.long v1), .second, .val (.int v2), .val (.ref b11), .val (.long (v0 - (1 : Int64))), .second, .val (.long (((f_max (0 : Int64) (v0 - (1 : Int64))) + (1 : Int64)) + (1 : Int64))), .second, .val (.long (v1 - (1 : Int64))), .second, .unset, .unset] [(.long (v1 - (1 : Int64))), (.long (((f_max (0 : Int64) (v0 - (1 : Int64))) + (1 : Int64)) + (1 : Int64)))])) rfl (by rw [hml]; rfl) (argsL := [(.long (((f_max (0 : Int64) (v0 - (1 : Int64))) + (1 : Int64)) + (1 : Int64))), (.long (v1 - (1 : Int64)))]) (rest := []) (lenOf pd_0 rfl) rfl (by show 2 * 0 + _ ≤ _; exact Nat.le_of_eq rfl) (hb hby at_159) (fun _ _ => ⟨rfl, rfl, (by decide : 1 + 0 ≤ _), (by decide : 1 + 0 ≤ _)⟩)
            dsimp only [Pt.U, Pt.locs, Pt.cells, Pt.slots] at X26 l26 y26 z26 st26 hQ26
            subst l26 y26 z26
            obtain ⟨rfl, N26q, e26⟩ := hQ26
            have N26 := Fr.app N25 N26q
            refine Go.st st26 ?_
            show Go p e below s _ _ _ T26 (mkF m 162 #[.val (.long v0), .second, .val (.long v1), .second, .val (.int v2), .val (.ref b11), .val (.long (v0 - (1 : Int64))), .second, .val (.long (((f_max (0 : Int64) (v0 - (1 : Int64))) + (1 : Int64)) + (1 : Int64))), .second, .val (.long (v1 - (1 : Int64))), .second, .unset, .unset] [(.long (f_max (((f_max (0 : Int64) (v0 - (1 : Int64))) + (1 : Int64)) + (1 : Int64)) (v1 - (1 : Int64))))])
            refine G_lconst X26 hx (pc' := 163) rfl (hb hby at_162) (z := (1 : Int64)) rfl ?_
            refine G_ladd X26 hx (pc' := 164) rfl (hb hby at_163)  ?_
            refine G_lstore X26 hx (pc' := 166) rfl (hb hby at_164) (L' := #[.val (.long v0), .second, .val (.long v1), .second, .val (.int v2), .val (.ref b11), .val (.long (v0 - (1 : Int64))), .second, .val (.long (((f_max (0 : Int64) (v0 - (1 : Int64))) + (1 : Int64)) + (1 : Int64))), .second, .val (.long (v1 - (1 : Int64))), .second, .val (.long ((f_max (((f_max (0 : Int64) (v0 - (1 : Int64))) + (1 : Int64)) + (1 : Int64)) (v1 - (1 : Int64))) + (1 : Int64))), .second]) rfl ?_
            refine G_aload X26 hx (pc' := 168) rfl (hb hby at_166) rfl rfl ?_
            obtain ⟨cq27, kq27, q27a, q27b, q27c⟩ := isOf hZ e26 p25_0
            obtain ⟨_, _, ⟨T27, L27, k27, n27⟩, -, X27, ⟨Lc27, hQ27, l27, y27, z27⟩, st27⟩ := X26.virtualBack hx (y := (⟨"com/example/fencing/fencing/protocol/LamportClock", "time", "()J"⟩ : MethodName)) (z := (⟨"com/example/fencing/fencing/protocol/LamportClock", "time", "()J"⟩ : MethodName)) hown (mvT hZ (hw _ (List.mem_of_getElem? (i := 9) rfl))) (mvT hZ (hw _ (List.mem_of_getElem? (i := 10) rfl))) (notFace_of_selects (args := #[]) (mvT hZ (hw _ (List.mem_of_getElem? (i := 12) rfl)))) (mvT hZ (hw _ (List.mem_of_getElem? (i := 12) rfl))) (mvT hZ (hw _ (List.mem_of_getElem? (i := 11) rfl))) (by decide) (backOf (W := 0) (rm_time l Z a0 hw [] b11 ((f_max (((f_max (0 : Int64) (v0 - (1 : Int64))) + (1 : Int64)) + (1 : Int64)) (v1 - (1 : Int64))) + (1 : Int64)) T25.heap n0 Z_25 p25_1) hZ (hw _ (List.mem_of_getElem? (i := 13) rfl)) (hw _ (List.mem_of_getElem? (i := 2) rfl)) (by decide) (by decide)) q27a q27c (g := (mkF m 168 #[.val (.long v0), .second, .val (.long v1), .second, .val (.int v2), .val (.ref b11), .val (.long (v0 - (1 : Int64))), .second, .val (.long (((f_max (0 : Int64) (v0 - (1 : Int64))) + (1 : Int64)) + (1 : Int64))), .second, .val (.long (v1 - (1 : Int64))), .second, .val (.long ((f_max (((f_max (0 : Int64) (v0 - (1 : Int64))) + (1 : Int64)) + (1 : Int64)) (v1 - (1 : Int64))) + (1 : Int64))), .second] [(.ref b11)])) rfl (by rw [hml]; rfl) (Steps.refl _) (argsL := []) (rest := []) (lenOf pd_2 rfl) rfl (by show 2 * 0 + _ ≤ _; exact Nat.le_of_eq rfl) (hb hby at_168) (fun _ _ => ⟨rfl, e26, (by decide : 1 + 0 ≤ _), (by decide : 1 + 0 ≤ _)⟩)
            dsimp only [Pt.U, Pt.locs, Pt.cells, Pt.slots] at X27 l27 y27 z27 st27 hQ27
            subst l27 y27 z27
            obtain ⟨rfl, N27q, e27⟩ := hQ27
            have N27 := Fr.app N26 N27q
            refine Go.st (fun _ k => st27.trans k) ?_
            show Go p e below s _ _ _ T27 (mkF m 171 #[.val (.long v0), .second, .val (.long v1), .second, .val (.int v2), .val (.ref b11), .val (.long (v0 - (1 : Int64))), .second, .val (.long (((f_max (0 : Int64) (v0 - (1 : Int64))) + (1 : Int64)) + (1 : Int64))), .second, .val (.long (v1 - (1 : Int64))), .second, .val (.long ((f_max (((f_max (0 : Int64) (v0 - (1 : Int64))) + (1 : Int64)) + (1 : Int64)) (v1 - (1 : Int64))) + (1 : Int64))), .second] [(.long ((f_max (((f_max (0 : Int64) (v0 - (1 : Int64))) + (1 : Int64)) + (1 : Int64)) (v1 - (1 : Int64))) + (1 : Int64)))])
            refine G_lload X27 hx (pc' := 173) rfl (hb hby at_171) rfl ?_
            refine G_lcmp X27 hx (pc' := 174) rfl (hb hby at_173)  ?_
            refine G_ifNo X27 hx (pc' := 177) rfl (hb hby at_174) ((if0 _ _).trans (teq ((lw_eq _ _).2 (rfl : ((f_max (((f_max (0 : Int64) (v0 - (1 : Int64))) + (1 : Int64)) + (1 : Int64)) (v1 - (1 : Int64))) + (1 : Int64)) = ((f_max (((f_max (0 : Int64) (v0 - (1 : Int64))) + (1 : Int64)) + (1 : Int64)) (v1 - (1 : Int64))) + (1 : Int64))))).2) ?_
            refine G_iconst X27 hx (pc' := 178) rfl (hb hby at_177) (z := (1 : Int32)) rfl ?_
            refine G_goto X27 hx (pc' := 182) (hb hby at_178)  (by decide) (by decide) ?_
            refine Go.fin X27 hlk (v := some (.int (1 : Int32))) (fun h => by rw [Bd.returns] at h; cases h) (by decide) (by decide) ?_ (fun fs hr => retN X27 hx (t := .boolean) Bd.returns (by simp) (hb hby at_182) hr)
            show Q_law Z v0 v1 v2 h0 n0 _ T27.heap _
            rw [e27]
            exact ⟨congrArg (fun z => some (Value.int z)) (by rw [f_law]; rw [if_pos hc30_1, if_neg hc73_2, if_neg hc82_5, if_neg hc125_6, if_pos hc139_7]), N27⟩
          · refine G_ifYes X24 hx (pc' := 148) (hb hby at_139) ((if0 _ _).trans (feq (fun q => hc139_7 ((lw_eq _ _).1 q))).2) (by decide) (by decide) ?_
            refine G_aload X24 hx (pc' := 150) rfl (hb hby at_148) rfl rfl ?_
            refine G_lload X24 hx (pc' := 152) rfl (hb hby at_150) rfl ?_
            obtain ⟨cq28, kq28, q28a, q28b, q28c⟩ := isOf hZ e24 p23_0
            obtain ⟨_, _, ⟨T28, L28, k28, n28⟩, -, X28, ⟨Lc28, hQ28, l28, y28, z28⟩, st28⟩ := X24.virtualBack hx (y := (⟨"com/example/fencing/fencing/protocol/LamportClock", "receive", "(J)V"⟩ : MethodName)) (z := (⟨"com/example/fencing/fencing/protocol/LamportClock", "receive", "(J)V"⟩ : MethodName)) hown (mvT hZ (hw _ (List.mem_of_getElem? (i := 17) rfl))) (mvT hZ (hw _ (List.mem_of_getElem? (i := 18) rfl))) (notFace_of_selects (args := #[]) (mvT hZ (hw _ (List.mem_of_getElem? (i := 20) rfl)))) (mvT hZ (hw _ (List.mem_of_getElem? (i := 20) rfl))) (mvT hZ (hw _ (List.mem_of_getElem? (i := 19) rfl))) (by decide) (backOf (W := 0) (rm_recv l Z a0 hw [] b11 v1 (((f_max (0 : Int64) (v0 - (1 : Int64))) + (1 : Int64)) + (1 : Int64)) T23.heap n0 Z_23 p23_0 p23_1 g_b11 (own_mxne (by first | decide | assumption) (by first | assumption | exact own_sub (by assumption)))) hZ (hw _ (List.mem_of_getElem? (i := 21) rfl)) (hw _ (List.mem_of_getElem? (i := 2) rfl)) (by decide) (by decide)) q28a q28c (g := (mkF m 152 #[.val (.long v0), .second, .val (.long v1), .second, .val (.int v2), .val (.ref b11), .val (.long (v0 - (1 : Int64))), .second, .val (.long (((f_max (0 : Int64) (v0 - (1 : Int64))) + (1 : Int64)) + (1 : Int64))), .second, .val (.long v1), .second, .unset, .unset] [(.long v1), (.ref b11)])) rfl (by rw [hml]; rfl) (Steps.refl _) (argsL := [(.long v1)]) (rest := []) (lenOf pd_3 rfl) rfl (by show 2 * 0 + _ ≤ _; exact Nat.le_of_eq rfl) (hb hby at_152) (fun _ _ => ⟨rfl, e24, (by decide : 1 + 0 ≤ _), (by decide : 1 + 0 ≤ _)⟩)
            dsimp only [Pt.U, Pt.locs, Pt.cells, Pt.slots] at X28 l28 y28 z28 st28 hQ28
            subst l28 y28 z28
            obtain ⟨rfl, N28q, K28, p28_0, p28_1⟩ := hQ28
            have N28 := Fr.app N24 N28q
            refine Go.st (fun _ k => st28.trans k) ?_
            have K_28 : Keep h0 T28.heap [] := K_23.trans K28 (allS (Or.inr sz_b11) all0)
            have Z_28 : n0 ≤ T28.heap.size := Nat.le_trans Z0 K_28.1
            show Go p e below s _ _ _ T28 (mkF m 155 #[.val (.long v0), .second, .val (.long v1), .second, .val (.int v2), .val (.ref b11), .val (.long (v0 - (1 : Int64))), .second, .val (.long (((f_max (0 : Int64) (v0 - (1 : Int64))) + (1 : Int64)) + (1 : Int64))), .second, .val (.long v1), .second, .unset, .unset] [])
            refine G_lload X28 hx (pc' := 157) rfl (hb hby at_155) rfl ?_
            refine G_lload X28 hx (pc' := 159) rfl (hb hby at_157) rfl ?_
            obtain ⟨_, _, ⟨T29, L29, k29, n29⟩, -, X29, ⟨Lc29, hQ29, l29, y29, z29⟩, st29⟩ := Jvm.LawKit.callS X28 hx (y := (⟨"com/example/fencing/fencing/protocol/LamportClockReceivePinLaw", "maxOf", "(JJ)J"⟩ : MethodName)) hown (mvT hZ (hw _ (List.mem_of_getElem? (i := 29) rfl))) (mvT hZ (hw _ (List.mem_of_getElem? (i := 30) rfl))) (mvT hZ (hw _ (List.mem_of_getElem? (i := 31) rfl))) (mvT hZ (hw _ (List.mem_of_getElem? (i := 32) rfl))) (by decide) (backOf (W := 0) (rm_maxOf l Z a0 hw [] (((f_max (0 : Int64) (v0 - (1 : Int64))) + (1 : Int64)) + (1 : Int64)) v1 T28.heap n0 Z_28 ) hZ (hw _ (List.mem_of_getElem? (i := 32) rfl)) (hw _ (List.mem_of_getElem? (i := 31) rfl)) (by decide) (by decide)) (g := (mkF m 159 #[.val (.long v0), .second, .val (.long v1), .second, .val (.int v2), .val (.ref b11), .val (.long (v0 - (1 : Int64))), .second, .val (.long (((f_max (0 : Int64) (v0 - (1 : Int64))) + (1 : Int64)) + (1 : Int64))), .second, .val (.long v1), .second, .unset, .unset] [(.long v1), (.long (((f_max (0 : Int64) (v0 - (1 : Int64))) + (1 : Int64)) + (1 : Int64)))])) rfl (by rw [hml]; rfl) (argsL := [(.long (((f_max (0 : Int64) (v0 - (1 : Int64))) + (1 : Int64)) + (1 : Int64))), (.long v1)]) (rest := []) (lenOf pd_0 rfl) rfl (by show 2 * 0 + _ ≤ _; exact Nat.le_of_eq rfl) (hb hby at_159) (fun _ _ => ⟨rfl, rfl, (by decide : 1 + 0 ≤ _), (by decide : 1 + 0 ≤ _)⟩)
            dsimp only [Pt.U, Pt.locs, Pt.cells, Pt.slots] at X29 l29 y29 z29 st29 hQ29
            subst l29 y29 z29
            obtain ⟨rfl, N29q, e29⟩ := hQ29
            have N29 := Fr.app N28 N29q
            refine Go.st st29 ?_
            show Go p e below s _ _ _ T29 (mkF m 162 #[.val (.long v0), .second, .val (.long v1), .second, .val (.int v2), .val (.ref b11), .val (.long (v0 - (1 : Int64))), .second, .val (.long (((f_max (0 : Int64) (v0 - (1 : Int64))) + (1 : Int64)) + (1 : Int64))), .second, .val (.long v1), .second, .unset, .unset] [(.long (f_max (((f_max (0 : Int64) (v0 - (1 : Int64))) + (1 : Int64)) + (1 : Int64)) v1))])
            refine G_lconst X29 hx (pc' := 163) rfl (hb hby at_162) (z := (1 : Int64)) rfl ?_
            refine G_ladd X29 hx (pc' := 164) rfl (hb hby at_163)  ?_
            refine G_lstore X29 hx (pc' := 166) rfl (hb hby at_164) (L' := #[.val (.long v0), .second, .val (.long v1), .second, .val (.int v2), .val (.ref b11), .val (.long (v0 - (1 : Int64))), .second, .val (.long (((f_max (0 : Int64) (v0 - (1 : Int64))) + (1 : Int64)) + (1 : Int64))), .second, .val (.long v1), .second, .val (.long ((f_max (((f_max (0 : Int64) (v0 - (1 : Int64))) + (1 : Int64)) + (1 : Int64)) v1) + (1 : Int64))), .second]) rfl ?_
            refine G_aload X29 hx (pc' := 168) rfl (hb hby at_166) rfl rfl ?_
            obtain ⟨cq30, kq30, q30a, q30b, q30c⟩ := isOf hZ e29 p28_0
            obtain ⟨_, _, ⟨T30, L30, k30, n30⟩, -, X30, ⟨Lc30, hQ30, l30, y30, z30⟩, st30⟩ := X29.virtualBack hx (y := (⟨"com/example/fencing/fencing/protocol/LamportClock", "time", "()J"⟩ : MethodName)) (z := (⟨"com/example/fencing/fencing/protocol/LamportClock", "time", "()J"⟩ : MethodName)) hown (mvT hZ (hw _ (List.mem_of_getElem? (i := 9) rfl))) (mvT hZ (hw _ (List.mem_of_getElem? (i := 10) rfl))) (notFace_of_selects (args := #[]) (mvT hZ (hw _ (List.mem_of_getElem? (i := 12) rfl)))) (mvT hZ (hw _ (List.mem_of_getElem? (i := 12) rfl))) (mvT hZ (hw _ (List.mem_of_getElem? (i := 11) rfl))) (by decide) (backOf (W := 0) (rm_time l Z a0 hw [] b11 ((f_max (((f_max (0 : Int64) (v0 - (1 : Int64))) + (1 : Int64)) + (1 : Int64)) v1) + (1 : Int64)) T28.heap n0 Z_28 p28_1) hZ (hw _ (List.mem_of_getElem? (i := 13) rfl)) (hw _ (List.mem_of_getElem? (i := 2) rfl)) (by decide) (by decide)) q30a q30c (g := (mkF m 168 #[.val (.long v0), .second, .val (.long v1), .second, .val (.int v2), .val (.ref b11), .val (.long (v0 - (1 : Int64))), .second, .val (.long (((f_max (0 : Int64) (v0 - (1 : Int64))) + (1 : Int64)) + (1 : Int64))), .second, .val (.long v1), .second, .val (.long ((f_max (((f_max (0 : Int64) (v0 - (1 : Int64))) + (1 : Int64)) + (1 : Int64)) v1) + (1 : Int64))), .second] [(.ref b11)])) rfl (by rw [hml]; rfl) (Steps.refl _) (argsL := []) (rest := []) (lenOf pd_2 rfl) rfl (by show 2 * 0 + _ ≤ _; exact Nat.le_of_eq rfl) (hb hby at_168) (fun _ _ => ⟨rfl, e29, (by decide : 1 + 0 ≤ _), (by decide : 1 + 0 ≤ _)⟩)
            dsimp only [Pt.U, Pt.locs, Pt.cells, Pt.slots] at X30 l30 y30 z30 st30 hQ30
            subst l30 y30 z30
            obtain ⟨rfl, N30q, e30⟩ := hQ30
            have N30 := Fr.app N29 N30q
            refine Go.st (fun _ k => st30.trans k) ?_
            show Go p e below s _ _ _ T30 (mkF m 171 #[.val (.long v0), .second, .val (.long v1), .second, .val (.int v2), .val (.ref b11), .val (.long (v0 - (1 : Int64))), .second, .val (.long (((f_max (0 : Int64) (v0 - (1 : Int64))) + (1 : Int64)) + (1 : Int64))), .second, .val (.long v1), .second, .val (.long ((f_max (((f_max (0 : Int64) (v0 - (1 : Int64))) + (1 : Int64)) + (1 : Int64)) v1) + (1 : Int64))), .second] [(.long ((f_max (((f_max (0 : Int64) (v0 - (1 : Int64))) + (1 : Int64)) + (1 : Int64)) v1) + (1 : Int64)))])
            refine G_lload X30 hx (pc' := 173) rfl (hb hby at_171) rfl ?_
            refine G_lcmp X30 hx (pc' := 174) rfl (hb hby at_173)  ?_
            refine G_ifNo X30 hx (pc' := 177) rfl (hb hby at_174) ((if0 _ _).trans (teq ((lw_eq _ _).2 (rfl : ((f_max (((f_max (0 : Int64) (v0 - (1 : Int64))) + (1 : Int64)) + (1 : Int64)) v1) + (1 : Int64)) = ((f_max (((f_max (0 : Int64) (v0 - (1 : Int64))) + (1 : Int64)) + (1 : Int64)) v1) + (1 : Int64))))).2) ?_
            refine G_iconst X30 hx (pc' := 178) rfl (hb hby at_177) (z := (1 : Int32)) rfl ?_
            refine G_goto X30 hx (pc' := 182) (hb hby at_178)  (by decide) (by decide) ?_
            refine Go.fin X30 hlk (v := some (.int (1 : Int32))) (fun h => by rw [Bd.returns] at h; cases h) (by decide) (by decide) ?_ (fun fs hr => retN X30 hx (t := .boolean) Bd.returns (by simp) (hb hby at_182) hr)
            show Q_law Z v0 v1 v2 h0 n0 _ T30.heap _
            rw [e30]
            exact ⟨congrArg (fun z => some (Value.int z)) (by rw [f_law]; rw [if_pos hc30_1, if_neg hc73_2, if_neg hc82_5, if_neg hc125_6, if_neg hc139_7]), N30⟩
  · refine G_ifYes X13 hx (pc' := 39) (hb hby at_30) ((if0 _ _).trans (feq (fun q => hc30_1 ((lw_eq _ _).1 q))).2) (by decide) (by decide) ?_
    refine G_aload X13 hx (pc' := 41) rfl (hb hby at_39) rfl rfl ?_
    refine G_lload X13 hx (pc' := 43) rfl (hb hby at_41) rfl ?_
    obtain ⟨cq31, kq31, q31a, q31b, q31c⟩ := isOf hZ e13 A11
    obtain ⟨_, _, ⟨T31, L31, k31, n31⟩, -, X31, ⟨Lc31, hQ31, l31, y31, z31⟩, st31⟩ := X13.virtualBack hx (y := (⟨"com/example/fencing/fencing/protocol/LamportClock", "receive", "(J)V"⟩ : MethodName)) (z := (⟨"com/example/fencing/fencing/protocol/LamportClock", "receive", "(J)V"⟩ : MethodName)) hown (mvT hZ (hw _ (List.mem_of_getElem? (i := 17) rfl))) (mvT hZ (hw _ (List.mem_of_getElem? (i := 18) rfl))) (notFace_of_selects (args := #[]) (mvT hZ (hw _ (List.mem_of_getElem? (i := 20) rfl)))) (mvT hZ (hw _ (List.mem_of_getElem? (i := 20) rfl))) (mvT hZ (hw _ (List.mem_of_getElem? (i := 19) rfl))) (by decide) (backOf (W := 0) (rm_recv l Z a0 hw [] b11 v0 (0 : Int64) h11 n0 Z_11 A11 F_b11_time g_b11 (own_mxne (by first | decide | assumption) (by first | assumption | exact own_sub (by assumption)))) hZ (hw _ (List.mem_of_getElem? (i := 21) rfl)) (hw _ (List.mem_of_getElem? (i := 2) rfl)) (by decide) (by decide)) q31a q31c (g := (mkF m 43 #[.val (.long v0), .second, .val (.long v1), .second, .val (.int v2), .val (.ref b11), .val (.long v0), .second, .unset, .unset, .unset, .unset, .unset, .unset] [(.long v0), (.ref b11)])) rfl (by rw [hml]; rfl) (Steps.refl _) (argsL := [(.long v0)]) (rest := []) (lenOf pd_3 rfl) rfl (by show 2 * 0 + _ ≤ _; exact Nat.le_of_eq rfl) (hb hby at_43) (fun _ _ => ⟨rfl, e13, (by decide : 1 + 0 ≤ _), (by decide : 1 + 0 ≤ _)⟩)
    dsimp only [Pt.U, Pt.locs, Pt.cells, Pt.slots] at X31 l31 y31 z31 st31 hQ31
    subst l31 y31 z31
    obtain ⟨rfl, N31q, K31, p31_0, p31_1⟩ := hQ31
    have N31 := Fr.app N13 N31q
    refine Go.st (fun _ k => st31.trans k) ?_
    have K_31 : Keep h0 T31.heap [] := K_11.trans K31 (allS (Or.inr sz_b11) all0)
    have Z_31 : n0 ≤ T31.heap.size := Nat.le_trans Z0 K_31.1
    show Go p e below s _ _ _ T31 (mkF m 46 #[.val (.long v0), .second, .val (.long v1), .second, .val (.int v2), .val (.ref b11), .val (.long v0), .second, .unset, .unset, .unset, .unset, .unset, .unset] [])
    refine G_lconst X31 hx (pc' := 47) rfl (hb hby at_46) (z := (0 : Int64)) rfl ?_
    refine G_lload X31 hx (pc' := 49) rfl (hb hby at_47) rfl ?_
    obtain ⟨_, _, ⟨T32, L32, k32, n32⟩, -, X32, ⟨Lc32, hQ32, l32, y32, z32⟩, st32⟩ := Jvm.LawKit.callS X31 hx (y := (⟨"com/example/fencing/fencing/protocol/LamportClockReceivePinLaw", "maxOf", "(JJ)J"⟩ : MethodName)) hown (mvT hZ (hw _ (List.mem_of_getElem? (i := 29) rfl))) (mvT hZ (hw _ (List.mem_of_getElem? (i := 30) rfl))) (mvT hZ (hw _ (List.mem_of_getElem? (i := 31) rfl))) (mvT hZ (hw _ (List.mem_of_getElem? (i := 32) rfl))) (by decide) (backOf (W := 0) (rm_maxOf l Z a0 hw [] (0 : Int64) v0 T31.heap n0 Z_31 ) hZ (hw _ (List.mem_of_getElem? (i := 32) rfl)) (hw _ (List.mem_of_getElem? (i := 31) rfl)) (by decide) (by decide)) (g := (mkF m 49 #[.val (.long v0), .second, .val (.long v1), .second, .val (.int v2), .val (.ref b11), .val (.long v0), .second, .unset, .unset, .unset, .unset, .unset, .unset] [(.long v0), (.long (0 : Int64))])) rfl (by rw [hml]; rfl) (argsL := [(.long (0 : Int64)), (.long v0)]) (rest := []) (lenOf pd_0 rfl) rfl (by show 2 * 0 + _ ≤ _; exact Nat.le_of_eq rfl) (hb hby at_49) (fun _ _ => ⟨rfl, rfl, (by decide : 1 + 0 ≤ _), (by decide : 1 + 0 ≤ _)⟩)
    dsimp only [Pt.U, Pt.locs, Pt.cells, Pt.slots] at X32 l32 y32 z32 st32 hQ32
    subst l32 y32 z32
    obtain ⟨rfl, N32q, e32⟩ := hQ32
    have N32 := Fr.app N31 N32q
    refine Go.st st32 ?_
    show Go p e below s _ _ _ T32 (mkF m 52 #[.val (.long v0), .second, .val (.long v1), .second, .val (.int v2), .val (.ref b11), .val (.long v0), .second, .unset, .unset, .unset, .unset, .unset, .unset] [(.long (f_max (0 : Int64) v0))])
    refine G_lconst X32 hx (pc' := 53) rfl (hb hby at_52) (z := (1 : Int64)) rfl ?_
    refine G_ladd X32 hx (pc' := 54) rfl (hb hby at_53)  ?_
    refine G_lstore X32 hx (pc' := 56) rfl (hb hby at_54) (L' := #[.val (.long v0), .second, .val (.long v1), .second, .val (.int v2), .val (.ref b11), .val (.long v0), .second, .val (.long ((f_max (0 : Int64) v0) + (1 : Int64))), .second, .unset, .unset, .unset, .unset]) rfl ?_
    refine G_aload X32 hx (pc' := 58) rfl (hb hby at_56) rfl rfl ?_
    obtain ⟨cq33, kq33, q33a, q33b, q33c⟩ := isOf hZ e32 p31_0
    obtain ⟨_, _, ⟨T33, L33, k33, n33⟩, -, X33, ⟨Lc33, hQ33, l33, y33, z33⟩, st33⟩ := X32.virtualBack hx (y := (⟨"com/example/fencing/fencing/protocol/LamportClock", "time", "()J"⟩ : MethodName)) (z := (⟨"com/example/fencing/fencing/protocol/LamportClock", "time", "()J"⟩ : MethodName)) hown (mvT hZ (hw _ (List.mem_of_getElem? (i := 9) rfl))) (mvT hZ (hw _ (List.mem_of_getElem? (i := 10) rfl))) (notFace_of_selects (args := #[]) (mvT hZ (hw _ (List.mem_of_getElem? (i := 12) rfl)))) (mvT hZ (hw _ (List.mem_of_getElem? (i := 12) rfl))) (mvT hZ (hw _ (List.mem_of_getElem? (i := 11) rfl))) (by decide) (backOf (W := 0) (rm_time l Z a0 hw [] b11 ((f_max (0 : Int64) v0) + (1 : Int64)) T31.heap n0 Z_31 p31_1) hZ (hw _ (List.mem_of_getElem? (i := 13) rfl)) (hw _ (List.mem_of_getElem? (i := 2) rfl)) (by decide) (by decide)) q33a q33c (g := (mkF m 58 #[.val (.long v0), .second, .val (.long v1), .second, .val (.int v2), .val (.ref b11), .val (.long v0), .second, .val (.long ((f_max (0 : Int64) v0) + (1 : Int64))), .second, .unset, .unset, .unset, .unset] [(.ref b11)])) rfl (by rw [hml]; rfl) (Steps.refl _) (argsL := []) (rest := []) (lenOf pd_2 rfl) rfl (by show 2 * 0 + _ ≤ _; exact Nat.le_of_eq rfl) (hb hby at_58) (fun _ _ => ⟨rfl, e32, (by decide : 1 + 0 ≤ _), (by decide : 1 + 0 ≤ _)⟩)
    dsimp only [Pt.U, Pt.locs, Pt.cells, Pt.slots] at X33 l33 y33 z33 st33 hQ33
    subst l33 y33 z33
    obtain ⟨rfl, N33q, e33⟩ := hQ33
    have N33 := Fr.app N32 N33q
    refine Go.st (fun _ k => st33.trans k) ?_
    show Go p e below s _ _ _ T33 (mkF m 61 #[.val (.long v0), .second, .val (.long v1), .second, .val (.int v2), .val (.ref b11), .val (.long v0), .second, .val (.long ((f_max (0 : Int64) v0) + (1 : Int64))), .second, .unset, .unset, .unset, .unset] [(.long ((f_max (0 : Int64) v0) + (1 : Int64)))])
    refine G_lload X33 hx (pc' := 63) rfl (hb hby at_61) rfl ?_
    refine G_lcmp X33 hx (pc' := 64) rfl (hb hby at_63)  ?_
    refine G_ifYes X33 hx (pc' := 69) (hb hby at_64) ((if0 _ _).trans (teq ((lw_eq _ _).2 (rfl : ((f_max (0 : Int64) v0) + (1 : Int64)) = ((f_max (0 : Int64) v0) + (1 : Int64))))).1) (by decide) (by decide) ?_
    refine G_iload X33 hx (pc' := 71) rfl (hb hby at_69) rfl ?_
    refine G_iconst X33 hx (pc' := 72) rfl (hb hby at_71) (z := (1 : Int32)) rfl ?_
    refine G_iand X33 hx (pc' := 73) rfl (hb hby at_72)  ?_
    by_cases hc73_8 : (v2 &&& (1 : Int32)) = (0 : Int32)
    · refine G_ifYes X33 hx (pc' := 119) (hb hby at_73) ((if0 _ _).trans (teq hc73_8).1) (by decide) (by decide) ?_
      refine G_lload X33 hx (pc' := 121) rfl (hb hby at_119) rfl ?_
      refine G_ldc2 X33 hx (pc' := 124) rfl hown (mvT hZ (hw _ (List.mem_of_getElem? (i := 16) rfl))) (hb hby at_121) ?_
      refine G_lcmp X33 hx (pc' := 125) rfl (hb hby at_124)  ?_
      by_cases hc125_9 : ((f_max (0 : Int64) v0) + (1 : Int64)) = (9223372036854775807 : Int64)
      · refine G_ifNo X33 hx (pc' := 128) rfl (hb hby at_125) ((if0 _ _).trans (teq ((lw_eq _ _).2 hc125_9)).2) ?_
        refine G_iconst X33 hx (pc' := 129) rfl (hb hby at_128) (z := (1 : Int32)) rfl ?_
        refine Go.fin X33 hlk (v := some (.int (1 : Int32))) (fun h => by rw [Bd.returns] at h; cases h) (by decide) (by decide) ?_ (fun fs hr => retN X33 hx (t := .boolean) Bd.returns (by simp) (hb hby at_129) hr)
        show Q_law Z v0 v1 v2 h0 n0 _ T33.heap _
        rw [e33]
        exact ⟨congrArg (fun z => some (Value.int z)) (by rw [f_law]; rw [if_neg hc30_1, if_pos hc73_8, if_pos hc125_9]), N33⟩
      · refine G_ifYes X33 hx (pc' := 130) (hb hby at_125) ((if0 _ _).trans (feq (fun q => hc125_9 ((lw_eq _ _).1 q))).2) (by decide) (by decide) ?_
        refine G_lloadN X33 hx (pc' := 131) rfl (hb hby at_130) rfl ?_
        refine G_lstore X33 hx (pc' := 133) rfl (hb hby at_131) (L' := #[.val (.long v0), .second, .val (.long v1), .second, .val (.int v2), .val (.ref b11), .val (.long v0), .second, .val (.long ((f_max (0 : Int64) v0) + (1 : Int64))), .second, .val (.long v1), .second, .unset, .unset]) rfl ?_
        refine G_lload X33 hx (pc' := 135) rfl (hb hby at_133) rfl ?_
        refine G_ldc2 X33 hx (pc' := 138) rfl hown (mvT hZ (hw _ (List.mem_of_getElem? (i := 16) rfl))) (hb hby at_135) ?_
        refine G_lcmp X33 hx (pc' := 139) rfl (hb hby at_138)  ?_
        by_cases hc139_10 : v1 = (9223372036854775807 : Int64)
        · refine G_ifNo X33 hx (pc' := 142) rfl (hb hby at_139) ((if0 _ _).trans (teq ((lw_eq _ _).2 hc139_10)).2) ?_
          refine G_lload X33 hx (pc' := 144) rfl (hb hby at_142) rfl ?_
          refine G_lconst X33 hx (pc' := 145) rfl (hb hby at_144) (z := (1 : Int64)) rfl ?_
          refine G_lsub X33 hx (pc' := 146) rfl (hb hby at_145)  ?_
          refine G_lstore X33 hx (pc' := 148) rfl (hb hby at_146) (L' := #[.val (.long v0), .second, .val (.long v1), .second, .val (.int v2), .val (.ref b11), .val (.long v0), .second, .val (.long ((f_max (0 : Int64) v0) + (1 : Int64))), .second, .val (.long (v1 - (1 : Int64))), .second, .unset, .unset]) rfl ?_
          refine G_aload X33 hx (pc' := 150) rfl (hb hby at_148) rfl rfl ?_
          refine G_lload X33 hx (pc' := 152) rfl (hb hby at_150) rfl ?_
          obtain ⟨cq34, kq34, q34a, q34b, q34c⟩ := isOf hZ e33 p31_0
          obtain ⟨_, _, ⟨T34, L34, k34, n34⟩, -, X34, ⟨Lc34, hQ34, l34, y34, z34⟩, st34⟩ := X33.virtualBack hx (y := (⟨"com/example/fencing/fencing/protocol/LamportClock", "receive", "(J)V"⟩ : MethodName)) (z := (⟨"com/example/fencing/fencing/protocol/LamportClock", "receive", "(J)V"⟩ : MethodName)) hown (mvT hZ (hw _ (List.mem_of_getElem? (i := 17) rfl))) (mvT hZ (hw _ (List.mem_of_getElem? (i := 18) rfl))) (notFace_of_selects (args := #[]) (mvT hZ (hw _ (List.mem_of_getElem? (i := 20) rfl)))) (mvT hZ (hw _ (List.mem_of_getElem? (i := 20) rfl))) (mvT hZ (hw _ (List.mem_of_getElem? (i := 19) rfl))) (by decide) (backOf (W := 0) (rm_recv l Z a0 hw [] b11 (v1 - (1 : Int64)) ((f_max (0 : Int64) v0) + (1 : Int64)) T31.heap n0 Z_31 p31_0 p31_1 g_b11 (own_mxne (by first | decide | assumption) (by first | assumption | exact own_sub (by assumption)))) hZ (hw _ (List.mem_of_getElem? (i := 21) rfl)) (hw _ (List.mem_of_getElem? (i := 2) rfl)) (by decide) (by decide)) q34a q34c (g := (mkF m 152 #[.val (.long v0), .second, .val (.long v1), .second, .val (.int v2), .val (.ref b11), .val (.long v0), .second, .val (.long ((f_max (0 : Int64) v0) + (1 : Int64))), .second, .val (.long (v1 - (1 : Int64))), .second, .unset, .unset] [(.long (v1 - (1 : Int64))), (.ref b11)])) rfl (by rw [hml]; rfl) (Steps.refl _) (argsL := [(.long (v1 - (1 : Int64)))]) (rest := []) (lenOf pd_3 rfl) rfl (by show 2 * 0 + _ ≤ _; exact Nat.le_of_eq rfl) (hb hby at_152) (fun _ _ => ⟨rfl, e33, (by decide : 1 + 0 ≤ _), (by decide : 1 + 0 ≤ _)⟩)
          dsimp only [Pt.U, Pt.locs, Pt.cells, Pt.slots] at X34 l34 y34 z34 st34 hQ34
          subst l34 y34 z34
          obtain ⟨rfl, N34q, K34, p34_0, p34_1⟩ := hQ34
          have N34 := Fr.app N33 N34q
          refine Go.st (fun _ k => st34.trans k) ?_
          have K_34 : Keep h0 T34.heap [] := K_31.trans K34 (allS (Or.inr sz_b11) all0)
          have Z_34 : n0 ≤ T34.heap.size := Nat.le_trans Z0 K_34.1
          show Go p e below s _ _ _ T34 (mkF m 155 #[.val (.long v0), .second, .val (.long v1), .second, .val (.int v2), .val (.ref b11), .val (.long v0), .second, .val (.long ((f_max (0 : Int64) v0) + (1 : Int64))), .second, .val (.long (v1 - (1 : Int64))), .second, .unset, .unset] [])
          refine G_lload X34 hx (pc' := 157) rfl (hb hby at_155) rfl ?_
          refine G_lload X34 hx (pc' := 159) rfl (hb hby at_157) rfl ?_
          obtain ⟨_, _, ⟨T35, L35, k35, n35⟩, -, X35, ⟨Lc35, hQ35, l35, y35, z35⟩, st35⟩ := Jvm.LawKit.callS X34 hx (y := (⟨"com/example/fencing/fencing/protocol/LamportClockReceivePinLaw", "maxOf", "(JJ)J"⟩ : MethodName)) hown (mvT hZ (hw _ (List.mem_of_getElem? (i := 29) rfl))) (mvT hZ (hw _ (List.mem_of_getElem? (i := 30) rfl))) (mvT hZ (hw _ (List.mem_of_getElem? (i := 31) rfl))) (mvT hZ (hw _ (List.mem_of_getElem? (i := 32) rfl))) (by decide) (backOf (W := 0) (rm_maxOf l Z a0 hw [] ((f_max (0 : Int64) v0) + (1 : Int64)) (v1 - (1 : Int64)) T34.heap n0 Z_34 ) hZ (hw _ (List.mem_of_getElem? (i := 32) rfl)) (hw _ (List.mem_of_getElem? (i := 31) rfl)) (by decide) (by decide)) (g := (mkF m 159 #[.val (.long v0), .second, .val (.long v1), .second, .val (.int v2), .val (.ref b11), .val (.long v0), .second, .val (.long ((f_max (0 : Int64) v0) + (1 : Int64))), .second, .val (.long (v1 - (1 : Int64))), .second, .unset, .unset] [(.long (v1 - (1 : Int64))), (.long ((f_max (0 : Int64) v0) + (1 : Int64)))])) rfl (by rw [hml]; rfl) (argsL := [(.long ((f_max (0 : Int64) v0) + (1 : Int64))), (.long (v1 - (1 : Int64)))]) (rest := []) (lenOf pd_0 rfl) rfl (by show 2 * 0 + _ ≤ _; exact Nat.le_of_eq rfl) (hb hby at_159) (fun _ _ => ⟨rfl, rfl, (by decide : 1 + 0 ≤ _), (by decide : 1 + 0 ≤ _)⟩)
          dsimp only [Pt.U, Pt.locs, Pt.cells, Pt.slots] at X35 l35 y35 z35 st35 hQ35
          subst l35 y35 z35
          obtain ⟨rfl, N35q, e35⟩ := hQ35
          have N35 := Fr.app N34 N35q
          refine Go.st st35 ?_
          show Go p e below s _ _ _ T35 (mkF m 162 #[.val (.long v0), .second, .val (.long v1), .second, .val (.int v2), .val (.ref b11), .val (.long v0), .second, .val (.long ((f_max (0 : Int64) v0) + (1 : Int64))), .second, .val (.long (v1 - (1 : Int64))), .second, .unset, .unset] [(.long (f_max ((f_max (0 : Int64) v0) + (1 : Int64)) (v1 - (1 : Int64))))])
          refine G_lconst X35 hx (pc' := 163) rfl (hb hby at_162) (z := (1 : Int64)) rfl ?_
          refine G_ladd X35 hx (pc' := 164) rfl (hb hby at_163)  ?_
          refine G_lstore X35 hx (pc' := 166) rfl (hb hby at_164) (L' := #[.val (.long v0), .second, .val (.long v1), .second, .val (.int v2), .val (.ref b11), .val (.long v0), .second, .val (.long ((f_max (0 : Int64) v0) + (1 : Int64))), .second, .val (.long (v1 - (1 : Int64))), .second, .val (.long ((f_max ((f_max (0 : Int64) v0) + (1 : Int64)) (v1 - (1 : Int64))) + (1 : Int64))), .second]) rfl ?_
          refine G_aload X35 hx (pc' := 168) rfl (hb hby at_166) rfl rfl ?_
          obtain ⟨cq36, kq36, q36a, q36b, q36c⟩ := isOf hZ e35 p34_0
          obtain ⟨_, _, ⟨T36, L36, k36, n36⟩, -, X36, ⟨Lc36, hQ36, l36, y36, z36⟩, st36⟩ := X35.virtualBack hx (y := (⟨"com/example/fencing/fencing/protocol/LamportClock", "time", "()J"⟩ : MethodName)) (z := (⟨"com/example/fencing/fencing/protocol/LamportClock", "time", "()J"⟩ : MethodName)) hown (mvT hZ (hw _ (List.mem_of_getElem? (i := 9) rfl))) (mvT hZ (hw _ (List.mem_of_getElem? (i := 10) rfl))) (notFace_of_selects (args := #[]) (mvT hZ (hw _ (List.mem_of_getElem? (i := 12) rfl)))) (mvT hZ (hw _ (List.mem_of_getElem? (i := 12) rfl))) (mvT hZ (hw _ (List.mem_of_getElem? (i := 11) rfl))) (by decide) (backOf (W := 0) (rm_time l Z a0 hw [] b11 ((f_max ((f_max (0 : Int64) v0) + (1 : Int64)) (v1 - (1 : Int64))) + (1 : Int64)) T34.heap n0 Z_34 p34_1) hZ (hw _ (List.mem_of_getElem? (i := 13) rfl)) (hw _ (List.mem_of_getElem? (i := 2) rfl)) (by decide) (by decide)) q36a q36c (g := (mkF m 168 #[.val (.long v0), .second, .val (.long v1), .second, .val (.int v2), .val (.ref b11), .val (.long v0), .second, .val (.long ((f_max (0 : Int64) v0) + (1 : Int64))), .second, .val (.long (v1 - (1 : Int64))), .second, .val (.long ((f_max ((f_max (0 : Int64) v0) + (1 : Int64)) (v1 - (1 : Int64))) + (1 : Int64))), .second] [(.ref b11)])) rfl (by rw [hml]; rfl) (Steps.refl _) (argsL := []) (rest := []) (lenOf pd_2 rfl) rfl (by show 2 * 0 + _ ≤ _; exact Nat.le_of_eq rfl) (hb hby at_168) (fun _ _ => ⟨rfl, e35, (by decide : 1 + 0 ≤ _), (by decide : 1 + 0 ≤ _)⟩)
          dsimp only [Pt.U, Pt.locs, Pt.cells, Pt.slots] at X36 l36 y36 z36 st36 hQ36
          subst l36 y36 z36
          obtain ⟨rfl, N36q, e36⟩ := hQ36
          have N36 := Fr.app N35 N36q
          refine Go.st (fun _ k => st36.trans k) ?_
          show Go p e below s _ _ _ T36 (mkF m 171 #[.val (.long v0), .second, .val (.long v1), .second, .val (.int v2), .val (.ref b11), .val (.long v0), .second, .val (.long ((f_max (0 : Int64) v0) + (1 : Int64))), .second, .val (.long (v1 - (1 : Int64))), .second, .val (.long ((f_max ((f_max (0 : Int64) v0) + (1 : Int64)) (v1 - (1 : Int64))) + (1 : Int64))), .second] [(.long ((f_max ((f_max (0 : Int64) v0) + (1 : Int64)) (v1 - (1 : Int64))) + (1 : Int64)))])
          refine G_lload X36 hx (pc' := 173) rfl (hb hby at_171) rfl ?_
          refine G_lcmp X36 hx (pc' := 174) rfl (hb hby at_173)  ?_
          refine G_ifNo X36 hx (pc' := 177) rfl (hb hby at_174) ((if0 _ _).trans (teq ((lw_eq _ _).2 (rfl : ((f_max ((f_max (0 : Int64) v0) + (1 : Int64)) (v1 - (1 : Int64))) + (1 : Int64)) = ((f_max ((f_max (0 : Int64) v0) + (1 : Int64)) (v1 - (1 : Int64))) + (1 : Int64))))).2) ?_
          refine G_iconst X36 hx (pc' := 178) rfl (hb hby at_177) (z := (1 : Int32)) rfl ?_
          refine G_goto X36 hx (pc' := 182) (hb hby at_178)  (by decide) (by decide) ?_
          refine Go.fin X36 hlk (v := some (.int (1 : Int32))) (fun h => by rw [Bd.returns] at h; cases h) (by decide) (by decide) ?_ (fun fs hr => retN X36 hx (t := .boolean) Bd.returns (by simp) (hb hby at_182) hr)
          show Q_law Z v0 v1 v2 h0 n0 _ T36.heap _
          rw [e36]
          exact ⟨congrArg (fun z => some (Value.int z)) (by rw [f_law]; rw [if_neg hc30_1, if_pos hc73_8, if_neg hc125_9, if_pos hc139_10]), N36⟩
        · refine G_ifYes X33 hx (pc' := 148) (hb hby at_139) ((if0 _ _).trans (feq (fun q => hc139_10 ((lw_eq _ _).1 q))).2) (by decide) (by decide) ?_
          refine G_aload X33 hx (pc' := 150) rfl (hb hby at_148) rfl rfl ?_
          refine G_lload X33 hx (pc' := 152) rfl (hb hby at_150) rfl ?_
          obtain ⟨cq37, kq37, q37a, q37b, q37c⟩ := isOf hZ e33 p31_0
          obtain ⟨_, _, ⟨T37, L37, k37, n37⟩, -, X37, ⟨Lc37, hQ37, l37, y37, z37⟩, st37⟩ := X33.virtualBack hx (y := (⟨"com/example/fencing/fencing/protocol/LamportClock", "receive", "(J)V"⟩ : MethodName)) (z := (⟨"com/example/fencing/fencing/protocol/LamportClock", "receive", "(J)V"⟩ : MethodName)) hown (mvT hZ (hw _ (List.mem_of_getElem? (i := 17) rfl))) (mvT hZ (hw _ (List.mem_of_getElem? (i := 18) rfl))) (notFace_of_selects (args := #[]) (mvT hZ (hw _ (List.mem_of_getElem? (i := 20) rfl)))) (mvT hZ (hw _ (List.mem_of_getElem? (i := 20) rfl))) (mvT hZ (hw _ (List.mem_of_getElem? (i := 19) rfl))) (by decide) (backOf (W := 0) (rm_recv l Z a0 hw [] b11 v1 ((f_max (0 : Int64) v0) + (1 : Int64)) T31.heap n0 Z_31 p31_0 p31_1 g_b11 (own_mxne (by first | decide | assumption) (by first | assumption | exact own_sub (by assumption)))) hZ (hw _ (List.mem_of_getElem? (i := 21) rfl)) (hw _ (List.mem_of_getElem? (i := 2) rfl)) (by decide) (by decide)) q37a q37c (g := (mkF m 152 #[.val (.long v0), .second, .val (.long v1), .second, .val (.int v2), .val (.ref b11), .val (.long v0), .second, .val (.long ((f_max (0 : Int64) v0) + (1 : Int64))), .second, .val (.long v1), .second, .unset, .unset] [(.long v1), (.ref b11)])) rfl (by rw [hml]; rfl) (Steps.refl _) (argsL := [(.long v1)]) (rest := []) (lenOf pd_3 rfl) rfl (by show 2 * 0 + _ ≤ _; exact Nat.le_of_eq rfl) (hb hby at_152) (fun _ _ => ⟨rfl, e33, (by decide : 1 + 0 ≤ _), (by decide : 1 + 0 ≤ _)⟩)
          dsimp only [Pt.U, Pt.locs, Pt.cells, Pt.slots] at X37 l37 y37 z37 st37 hQ37
          subst l37 y37 z37
          obtain ⟨rfl, N37q, K37, p37_0, p37_1⟩ := hQ37
          have N37 := Fr.app N33 N37q
          refine Go.st (fun _ k => st37.trans k) ?_
          have K_37 : Keep h0 T37.heap [] := K_31.trans K37 (allS (Or.inr sz_b11) all0)
          have Z_37 : n0 ≤ T37.heap.size := Nat.le_trans Z0 K_37.1
          show Go p e below s _ _ _ T37 (mkF m 155 #[.val (.long v0), .second, .val (.long v1), .second, .val (.int v2), .val (.ref b11), .val (.long v0), .second, .val (.long ((f_max (0 : Int64) v0) + (1 : Int64))), .second, .val (.long v1), .second, .unset, .unset] [])
          refine G_lload X37 hx (pc' := 157) rfl (hb hby at_155) rfl ?_
          refine G_lload X37 hx (pc' := 159) rfl (hb hby at_157) rfl ?_
          obtain ⟨_, _, ⟨T38, L38, k38, n38⟩, -, X38, ⟨Lc38, hQ38, l38, y38, z38⟩, st38⟩ := Jvm.LawKit.callS X37 hx (y := (⟨"com/example/fencing/fencing/protocol/LamportClockReceivePinLaw", "maxOf", "(JJ)J"⟩ : MethodName)) hown (mvT hZ (hw _ (List.mem_of_getElem? (i := 29) rfl))) (mvT hZ (hw _ (List.mem_of_getElem? (i := 30) rfl))) (mvT hZ (hw _ (List.mem_of_getElem? (i := 31) rfl))) (mvT hZ (hw _ (List.mem_of_getElem? (i := 32) rfl))) (by decide) (backOf (W := 0) (rm_maxOf l Z a0 hw [] ((f_max (0 : Int64) v0) + (1 : Int64)) v1 T37.heap n0 Z_37 ) hZ (hw _ (List.mem_of_getElem? (i := 32) rfl)) (hw _ (List.mem_of_getElem? (i := 31) rfl)) (by decide) (by decide)) (g := (mkF m 159 #[.val (.long v0), .second, .val (.long v1), .second, .val (.int v2), .val (.ref b11), .val (.long v0), .second, .val (.long ((f_max (0 : Int64) v0) + (1 : Int64))), .second, .val (.long v1), .second, .unset, .unset] [(.long v1), (.long ((f_max (0 : Int64) v0) + (1 : Int64)))])) rfl (by rw [hml]; rfl) (argsL := [(.long ((f_max (0 : Int64) v0) + (1 : Int64))), (.long v1)]) (rest := []) (lenOf pd_0 rfl) rfl (by show 2 * 0 + _ ≤ _; exact Nat.le_of_eq rfl) (hb hby at_159) (fun _ _ => ⟨rfl, rfl, (by decide : 1 + 0 ≤ _), (by decide : 1 + 0 ≤ _)⟩)
          dsimp only [Pt.U, Pt.locs, Pt.cells, Pt.slots] at X38 l38 y38 z38 st38 hQ38
          subst l38 y38 z38
          obtain ⟨rfl, N38q, e38⟩ := hQ38
          have N38 := Fr.app N37 N38q
          refine Go.st st38 ?_
          show Go p e below s _ _ _ T38 (mkF m 162 #[.val (.long v0), .second, .val (.long v1), .second, .val (.int v2), .val (.ref b11), .val (.long v0), .second, .val (.long ((f_max (0 : Int64) v0) + (1 : Int64))), .second, .val (.long v1), .second, .unset, .unset] [(.long (f_max ((f_max (0 : Int64) v0) + (1 : Int64)) v1))])
          refine G_lconst X38 hx (pc' := 163) rfl (hb hby at_162) (z := (1 : Int64)) rfl ?_
          refine G_ladd X38 hx (pc' := 164) rfl (hb hby at_163)  ?_
          refine G_lstore X38 hx (pc' := 166) rfl (hb hby at_164) (L' := #[.val (.long v0), .second, .val (.long v1), .second, .val (.int v2), .val (.ref b11), .val (.long v0), .second, .val (.long ((f_max (0 : Int64) v0) + (1 : Int64))), .second, .val (.long v1), .second, .val (.long ((f_max ((f_max (0 : Int64) v0) + (1 : Int64)) v1) + (1 : Int64))), .second]) rfl ?_
          refine G_aload X38 hx (pc' := 168) rfl (hb hby at_166) rfl rfl ?_
          obtain ⟨cq39, kq39, q39a, q39b, q39c⟩ := isOf hZ e38 p37_0
          obtain ⟨_, _, ⟨T39, L39, k39, n39⟩, -, X39, ⟨Lc39, hQ39, l39, y39, z39⟩, st39⟩ := X38.virtualBack hx (y := (⟨"com/example/fencing/fencing/protocol/LamportClock", "time", "()J"⟩ : MethodName)) (z := (⟨"com/example/fencing/fencing/protocol/LamportClock", "time", "()J"⟩ : MethodName)) hown (mvT hZ (hw _ (List.mem_of_getElem? (i := 9) rfl))) (mvT hZ (hw _ (List.mem_of_getElem? (i := 10) rfl))) (notFace_of_selects (args := #[]) (mvT hZ (hw _ (List.mem_of_getElem? (i := 12) rfl)))) (mvT hZ (hw _ (List.mem_of_getElem? (i := 12) rfl))) (mvT hZ (hw _ (List.mem_of_getElem? (i := 11) rfl))) (by decide) (backOf (W := 0) (rm_time l Z a0 hw [] b11 ((f_max ((f_max (0 : Int64) v0) + (1 : Int64)) v1) + (1 : Int64)) T37.heap n0 Z_37 p37_1) hZ (hw _ (List.mem_of_getElem? (i := 13) rfl)) (hw _ (List.mem_of_getElem? (i := 2) rfl)) (by decide) (by decide)) q39a q39c (g := (mkF m 168 #[.val (.long v0), .second, .val (.long v1), .second, .val (.int v2), .val (.ref b11), .val (.long v0), .second, .val (.long ((f_max (0 : Int64) v0) + (1 : Int64))), .second, .val (.long v1), .second, .val (.long ((f_max ((f_max (0 : Int64) v0) + (1 : Int64)) v1) + (1 : Int64))), .second] [(.ref b11)])) rfl (by rw [hml]; rfl) (Steps.refl _) (argsL := []) (rest := []) (lenOf pd_2 rfl) rfl (by show 2 * 0 + _ ≤ _; exact Nat.le_of_eq rfl) (hb hby at_168) (fun _ _ => ⟨rfl, e38, (by decide : 1 + 0 ≤ _), (by decide : 1 + 0 ≤ _)⟩)
          dsimp only [Pt.U, Pt.locs, Pt.cells, Pt.slots] at X39 l39 y39 z39 st39 hQ39
          subst l39 y39 z39
          obtain ⟨rfl, N39q, e39⟩ := hQ39
          have N39 := Fr.app N38 N39q
          refine Go.st (fun _ k => st39.trans k) ?_
          show Go p e below s _ _ _ T39 (mkF m 171 #[.val (.long v0), .second, .val (.long v1), .second, .val (.int v2), .val (.ref b11), .val (.long v0), .second, .val (.long ((f_max (0 : Int64) v0) + (1 : Int64))), .second, .val (.long v1), .second, .val (.long ((f_max ((f_max (0 : Int64) v0) + (1 : Int64)) v1) + (1 : Int64))), .second] [(.long ((f_max ((f_max (0 : Int64) v0) + (1 : Int64)) v1) + (1 : Int64)))])
          refine G_lload X39 hx (pc' := 173) rfl (hb hby at_171) rfl ?_
          refine G_lcmp X39 hx (pc' := 174) rfl (hb hby at_173)  ?_
          refine G_ifNo X39 hx (pc' := 177) rfl (hb hby at_174) ((if0 _ _).trans (teq ((lw_eq _ _).2 (rfl : ((f_max ((f_max (0 : Int64) v0) + (1 : Int64)) v1) + (1 : Int64)) = ((f_max ((f_max (0 : Int64) v0) + (1 : Int64)) v1) + (1 : Int64))))).2) ?_
          refine G_iconst X39 hx (pc' := 178) rfl (hb hby at_177) (z := (1 : Int32)) rfl ?_
          refine G_goto X39 hx (pc' := 182) (hb hby at_178)  (by decide) (by decide) ?_
          refine Go.fin X39 hlk (v := some (.int (1 : Int32))) (fun h => by rw [Bd.returns] at h; cases h) (by decide) (by decide) ?_ (fun fs hr => retN X39 hx (t := .boolean) Bd.returns (by simp) (hb hby at_182) hr)
          show Q_law Z v0 v1 v2 h0 n0 _ T39.heap _
          rw [e39]
          exact ⟨congrArg (fun z => some (Value.int z)) (by rw [f_law]; rw [if_neg hc30_1, if_pos hc73_8, if_neg hc125_9, if_neg hc139_10]), N39⟩
    · refine G_ifNo X33 hx (pc' := 76) rfl (hb hby at_73) ((if0 _ _).trans (feq hc73_8).1) ?_
      refine G_lload X33 hx (pc' := 78) rfl (hb hby at_76) rfl ?_
      refine G_ldc2 X33 hx (pc' := 81) rfl hown (mvT hZ (hw _ (List.mem_of_getElem? (i := 16) rfl))) (hb hby at_78) ?_
      refine G_lcmp X33 hx (pc' := 82) rfl (hb hby at_81)  ?_
      by_cases hc82_11 : ((f_max (0 : Int64) v0) + (1 : Int64)) = (9223372036854775807 : Int64)
      · refine G_ifYes X33 hx (pc' := 119) (hb hby at_82) ((if0 _ _).trans (teq ((lw_eq _ _).2 hc82_11)).1) (by decide) (by decide) ?_
        refine G_lload X33 hx (pc' := 121) rfl (hb hby at_119) rfl ?_
        refine G_ldc2 X33 hx (pc' := 124) rfl hown (mvT hZ (hw _ (List.mem_of_getElem? (i := 16) rfl))) (hb hby at_121) ?_
        refine G_lcmp X33 hx (pc' := 125) rfl (hb hby at_124)  ?_
        refine G_ifNo X33 hx (pc' := 128) rfl (hb hby at_125) ((if0 _ _).trans (teq ((lw_eq _ _).2 hc82_11)).2) ?_
        refine G_iconst X33 hx (pc' := 129) rfl (hb hby at_128) (z := (1 : Int32)) rfl ?_
        refine Go.fin X33 hlk (v := some (.int (1 : Int32))) (fun h => by rw [Bd.returns] at h; cases h) (by decide) (by decide) ?_ (fun fs hr => retN X33 hx (t := .boolean) Bd.returns (by simp) (hb hby at_129) hr)
        show Q_law Z v0 v1 v2 h0 n0 _ T33.heap _
        rw [e33]
        exact ⟨congrArg (fun z => some (Value.int z)) (by rw [f_law]; rw [if_neg hc30_1, if_neg hc73_8, if_pos hc82_11]), N33⟩
      · refine G_ifNo X33 hx (pc' := 85) rfl (hb hby at_82) ((if0 _ _).trans (feq (fun q => hc82_11 ((lw_eq _ _).1 q))).1) ?_
        refine G_aload X33 hx (pc' := 87) rfl (hb hby at_85) rfl rfl ?_
        obtain ⟨cq40, kq40, q40a, q40b, q40c⟩ := isOf hZ e33 p31_0
        obtain ⟨_, _, ⟨T40, L40, k40, n40⟩, -, X40, ⟨Lc40, hQ40, l40, y40, z40⟩, st40⟩ := X33.virtualBack hx (y := (⟨"com/example/fencing/fencing/protocol/LamportClock", "tick", "()J"⟩ : MethodName)) (z := (⟨"com/example/fencing/fencing/protocol/LamportClock", "tick", "()J"⟩ : MethodName)) hown (mvT hZ (hw _ (List.mem_of_getElem? (i := 33) rfl))) (mvT hZ (hw _ (List.mem_of_getElem? (i := 34) rfl))) (notFace_of_selects (args := #[]) (mvT hZ (hw _ (List.mem_of_getElem? (i := 36) rfl)))) (mvT hZ (hw _ (List.mem_of_getElem? (i := 36) rfl))) (mvT hZ (hw _ (List.mem_of_getElem? (i := 35) rfl))) (by decide) (backOf (W := 0) (rm_tick l Z a0 hw [] b11 ((f_max (0 : Int64) v0) + (1 : Int64)) T31.heap n0 Z_31 p31_0 p31_1 g_b11 (by assumption)) hZ (hw _ (List.mem_of_getElem? (i := 37) rfl)) (hw _ (List.mem_of_getElem? (i := 2) rfl)) (by decide) (by decide)) q40a q40c (g := (mkF m 87 #[.val (.long v0), .second, .val (.long v1), .second, .val (.int v2), .val (.ref b11), .val (.long v0), .second, .val (.long ((f_max (0 : Int64) v0) + (1 : Int64))), .second, .unset, .unset, .unset, .unset] [(.ref b11)])) rfl (by rw [hml]; rfl) (Steps.refl _) (argsL := []) (rest := []) (lenOf pd_2 rfl) rfl (by show 2 * 0 + _ ≤ _; exact Nat.le_of_eq rfl) (hb hby at_87) (fun _ _ => ⟨rfl, e33, (by decide : 1 + 0 ≤ _), (by decide : 1 + 0 ≤ _)⟩)
        dsimp only [Pt.U, Pt.locs, Pt.cells, Pt.slots] at X40 l40 y40 z40 st40 hQ40
        subst l40 y40 z40
        obtain ⟨rfl, N40q, K40, p40_0, p40_1⟩ := hQ40
        have N40 := Fr.app N33 N40q
        refine Go.st (fun _ k => st40.trans k) ?_
        have K_40 : Keep h0 T40.heap [] := K_31.trans K40 (allS (Or.inr sz_b11) all0)
        have Z_40 : n0 ≤ T40.heap.size := Nat.le_trans Z0 K_40.1
        show Go p e below s _ _ _ T40 (mkF m 90 #[.val (.long v0), .second, .val (.long v1), .second, .val (.int v2), .val (.ref b11), .val (.long v0), .second, .val (.long ((f_max (0 : Int64) v0) + (1 : Int64))), .second, .unset, .unset, .unset, .unset] [(.long (((f_max (0 : Int64) v0) + (1 : Int64)) + (1 : Int64)))])
        refine G_lstore X40 hx (pc' := 92) rfl (hb hby at_90) (L' := #[.val (.long v0), .second, .val (.long v1), .second, .val (.int v2), .val (.ref b11), .val (.long v0), .second, .val (.long ((f_max (0 : Int64) v0) + (1 : Int64))), .second, .val (.long (((f_max (0 : Int64) v0) + (1 : Int64)) + (1 : Int64))), .second, .unset, .unset]) rfl ?_
        refine G_lload X40 hx (pc' := 94) rfl (hb hby at_92) rfl ?_
        refine G_lconst X40 hx (pc' := 95) rfl (hb hby at_94) (z := (1 : Int64)) rfl ?_
        refine G_ladd X40 hx (pc' := 96) rfl (hb hby at_95)  ?_
        refine G_lstore X40 hx (pc' := 98) rfl (hb hby at_96) (L' := #[.val (.long v0), .second, .val (.long v1), .second, .val (.int v2), .val (.ref b11), .val (.long v0), .second, .val (.long (((f_max (0 : Int64) v0) + (1 : Int64)) + (1 : Int64))), .second, .val (.long (((f_max (0 : Int64) v0) + (1 : Int64)) + (1 : Int64))), .second, .unset, .unset]) rfl ?_
        refine G_lload X40 hx (pc' := 100) rfl (hb hby at_98) rfl ?_
        refine G_lload X40 hx (pc' := 102) rfl (hb hby at_100) rfl ?_
        refine G_lcmp X40 hx (pc' := 103) rfl (hb hby at_102)  ?_
        refine G_ifNo X40 hx (pc' := 106) rfl (hb hby at_103) ((if0 _ _).trans (teq ((lw_eq _ _).2 (rfl : (((f_max (0 : Int64) v0) + (1 : Int64)) + (1 : Int64)) = (((f_max (0 : Int64) v0) + (1 : Int64)) + (1 : Int64))))).2) ?_
        refine G_aload X40 hx (pc' := 108) rfl (hb hby at_106) rfl rfl ?_
        obtain ⟨cq41, kq41, q41a, q41b, q41c⟩ := isOf hZ rfl p40_0
        obtain ⟨_, _, ⟨T41, L41, k41, n41⟩, -, X41, ⟨Lc41, hQ41, l41, y41, z41⟩, st41⟩ := X40.virtualBack hx (y := (⟨"com/example/fencing/fencing/protocol/LamportClock", "time", "()J"⟩ : MethodName)) (z := (⟨"com/example/fencing/fencing/protocol/LamportClock", "time", "()J"⟩ : MethodName)) hown (mvT hZ (hw _ (List.mem_of_getElem? (i := 9) rfl))) (mvT hZ (hw _ (List.mem_of_getElem? (i := 10) rfl))) (notFace_of_selects (args := #[]) (mvT hZ (hw _ (List.mem_of_getElem? (i := 12) rfl)))) (mvT hZ (hw _ (List.mem_of_getElem? (i := 12) rfl))) (mvT hZ (hw _ (List.mem_of_getElem? (i := 11) rfl))) (by decide) (backOf (W := 0) (rm_time l Z a0 hw [] b11 (((f_max (0 : Int64) v0) + (1 : Int64)) + (1 : Int64)) T40.heap n0 Z_40 p40_1) hZ (hw _ (List.mem_of_getElem? (i := 13) rfl)) (hw _ (List.mem_of_getElem? (i := 2) rfl)) (by decide) (by decide)) q41a q41c (g := (mkF m 108 #[.val (.long v0), .second, .val (.long v1), .second, .val (.int v2), .val (.ref b11), .val (.long v0), .second, .val (.long (((f_max (0 : Int64) v0) + (1 : Int64)) + (1 : Int64))), .second, .val (.long (((f_max (0 : Int64) v0) + (1 : Int64)) + (1 : Int64))), .second, .unset, .unset] [(.ref b11)])) rfl (by rw [hml]; rfl) (Steps.refl _) (argsL := []) (rest := []) (lenOf pd_2 rfl) rfl (by show 2 * 0 + _ ≤ _; exact Nat.le_of_eq rfl) (hb hby at_108) (fun _ _ => ⟨rfl, rfl, (by decide : 1 + 0 ≤ _), (by decide : 1 + 0 ≤ _)⟩)
        dsimp only [Pt.U, Pt.locs, Pt.cells, Pt.slots] at X41 l41 y41 z41 st41 hQ41
        subst l41 y41 z41
        obtain ⟨rfl, N41q, e41⟩ := hQ41
        have N41 := Fr.app N40 N41q
        refine Go.st (fun _ k => st41.trans k) ?_
        show Go p e below s _ _ _ T41 (mkF m 111 #[.val (.long v0), .second, .val (.long v1), .second, .val (.int v2), .val (.ref b11), .val (.long v0), .second, .val (.long (((f_max (0 : Int64) v0) + (1 : Int64)) + (1 : Int64))), .second, .val (.long (((f_max (0 : Int64) v0) + (1 : Int64)) + (1 : Int64))), .second, .unset, .unset] [(.long (((f_max (0 : Int64) v0) + (1 : Int64)) + (1 : Int64)))])
        refine G_lload X41 hx (pc' := 113) rfl (hb hby at_111) rfl ?_
        refine G_lcmp X41 hx (pc' := 114) rfl (hb hby at_113)  ?_
        refine G_ifYes X41 hx (pc' := 119) (hb hby at_114) ((if0 _ _).trans (teq ((lw_eq _ _).2 (rfl : (((f_max (0 : Int64) v0) + (1 : Int64)) + (1 : Int64)) = (((f_max (0 : Int64) v0) + (1 : Int64)) + (1 : Int64))))).1) (by decide) (by decide) ?_
        refine G_lload X41 hx (pc' := 121) rfl (hb hby at_119) rfl ?_
        refine G_ldc2 X41 hx (pc' := 124) rfl hown (mvT hZ (hw _ (List.mem_of_getElem? (i := 16) rfl))) (hb hby at_121) ?_
        refine G_lcmp X41 hx (pc' := 125) rfl (hb hby at_124)  ?_
        by_cases hc125_12 : (((f_max (0 : Int64) v0) + (1 : Int64)) + (1 : Int64)) = (9223372036854775807 : Int64)
        · refine G_ifNo X41 hx (pc' := 128) rfl (hb hby at_125) ((if0 _ _).trans (teq ((lw_eq _ _).2 hc125_12)).2) ?_
          refine G_iconst X41 hx (pc' := 129) rfl (hb hby at_128) (z := (1 : Int32)) rfl ?_
          refine Go.fin X41 hlk (v := some (.int (1 : Int32))) (fun h => by rw [Bd.returns] at h; cases h) (by decide) (by decide) ?_ (fun fs hr => retN X41 hx (t := .boolean) Bd.returns (by simp) (hb hby at_129) hr)
          show Q_law Z v0 v1 v2 h0 n0 _ T41.heap _
          rw [e41]
          exact ⟨congrArg (fun z => some (Value.int z)) (by rw [f_law]; rw [if_neg hc30_1, if_neg hc73_8, if_neg hc82_11, if_pos hc125_12]), N41⟩
        · refine G_ifYes X41 hx (pc' := 130) (hb hby at_125) ((if0 _ _).trans (feq (fun q => hc125_12 ((lw_eq _ _).1 q))).2) (by decide) (by decide) ?_
          refine G_lloadN X41 hx (pc' := 131) rfl (hb hby at_130) rfl ?_
          refine G_lstore X41 hx (pc' := 133) rfl (hb hby at_131) (L' := #[.val (.long v0), .second, .val (.long v1), .second, .val (.int v2), .val (.ref b11), .val (.long v0), .second, .val (.long (((f_max (0 : Int64) v0) + (1 : Int64)) + (1 : Int64))), .second, .val (.long v1), .second, .unset, .unset]) rfl ?_
          refine G_lload X41 hx (pc' := 135) rfl (hb hby at_133) rfl ?_
          refine G_ldc2 X41 hx (pc' := 138) rfl hown (mvT hZ (hw _ (List.mem_of_getElem? (i := 16) rfl))) (hb hby at_135) ?_
          refine G_lcmp X41 hx (pc' := 139) rfl (hb hby at_138)  ?_
          by_cases hc139_13 : v1 = (9223372036854775807 : Int64)
          · refine G_ifNo X41 hx (pc' := 142) rfl (hb hby at_139) ((if0 _ _).trans (teq ((lw_eq _ _).2 hc139_13)).2) ?_
            refine G_lload X41 hx (pc' := 144) rfl (hb hby at_142) rfl ?_
            refine G_lconst X41 hx (pc' := 145) rfl (hb hby at_144) (z := (1 : Int64)) rfl ?_
            refine G_lsub X41 hx (pc' := 146) rfl (hb hby at_145)  ?_
            refine G_lstore X41 hx (pc' := 148) rfl (hb hby at_146) (L' := #[.val (.long v0), .second, .val (.long v1), .second, .val (.int v2), .val (.ref b11), .val (.long v0), .second, .val (.long (((f_max (0 : Int64) v0) + (1 : Int64)) + (1 : Int64))), .second, .val (.long (v1 - (1 : Int64))), .second, .unset, .unset]) rfl ?_
            refine G_aload X41 hx (pc' := 150) rfl (hb hby at_148) rfl rfl ?_
            refine G_lload X41 hx (pc' := 152) rfl (hb hby at_150) rfl ?_
            obtain ⟨cq42, kq42, q42a, q42b, q42c⟩ := isOf hZ e41 p40_0
            obtain ⟨_, _, ⟨T42, L42, k42, n42⟩, -, X42, ⟨Lc42, hQ42, l42, y42, z42⟩, st42⟩ := X41.virtualBack hx (y := (⟨"com/example/fencing/fencing/protocol/LamportClock", "receive", "(J)V"⟩ : MethodName)) (z := (⟨"com/example/fencing/fencing/protocol/LamportClock", "receive", "(J)V"⟩ : MethodName)) hown (mvT hZ (hw _ (List.mem_of_getElem? (i := 17) rfl))) (mvT hZ (hw _ (List.mem_of_getElem? (i := 18) rfl))) (notFace_of_selects (args := #[]) (mvT hZ (hw _ (List.mem_of_getElem? (i := 20) rfl)))) (mvT hZ (hw _ (List.mem_of_getElem? (i := 20) rfl))) (mvT hZ (hw _ (List.mem_of_getElem? (i := 19) rfl))) (by decide) (backOf (W := 0) (rm_recv l Z a0 hw [] b11 (v1 - (1 : Int64)) (((f_max (0 : Int64) v0) + (1 : Int64)) + (1 : Int64)) T40.heap n0 Z_40 p40_0 p40_1 g_b11 (own_mxne (by first | decide | assumption) (by first | assumption | exact own_sub (by assumption)))) hZ (hw _ (List.mem_of_getElem? (i := 21) rfl)) (hw _ (List.mem_of_getElem? (i := 2) rfl)) (by decide) (by decide)) q42a q42c (g := (mkF m 152 #[.val (.long v0), .second, .val (.long v1), .second, .val (.int v2), .val (.ref b11), .val (.long v0), .second, .val (.long (((f_max (0 : Int64) v0) + (1 : Int64)) + (1 : Int64))), .second, .val (.long (v1 - (1 : Int64))), .second, .unset, .unset] [(.long (v1 - (1 : Int64))), (.ref b11)])) rfl (by rw [hml]; rfl) (Steps.refl _) (argsL := [(.long (v1 - (1 : Int64)))]) (rest := []) (lenOf pd_3 rfl) rfl (by show 2 * 0 + _ ≤ _; exact Nat.le_of_eq rfl) (hb hby at_152) (fun _ _ => ⟨rfl, e41, (by decide : 1 + 0 ≤ _), (by decide : 1 + 0 ≤ _)⟩)
            dsimp only [Pt.U, Pt.locs, Pt.cells, Pt.slots] at X42 l42 y42 z42 st42 hQ42
            subst l42 y42 z42
            obtain ⟨rfl, N42q, K42, p42_0, p42_1⟩ := hQ42
            have N42 := Fr.app N41 N42q
            refine Go.st (fun _ k => st42.trans k) ?_
            have K_42 : Keep h0 T42.heap [] := K_40.trans K42 (allS (Or.inr sz_b11) all0)
            have Z_42 : n0 ≤ T42.heap.size := Nat.le_trans Z0 K_42.1
            show Go p e below s _ _ _ T42 (mkF m 155 #[.val (.long v0), .second, .val (.long v1), .second, .val (.int v2), .val (.ref b11), .val (.long v0), .second, .val (.long (((f_max (0 : Int64) v0) + (1 : Int64)) + (1 : Int64))), .second, .val (.long (v1 - (1 : Int64))), .second, .unset, .unset] [])
            refine G_lload X42 hx (pc' := 157) rfl (hb hby at_155) rfl ?_
            refine G_lload X42 hx (pc' := 159) rfl (hb hby at_157) rfl ?_
            obtain ⟨_, _, ⟨T43, L43, k43, n43⟩, -, X43, ⟨Lc43, hQ43, l43, y43, z43⟩, st43⟩ := Jvm.LawKit.callS X42 hx (y := (⟨"com/example/fencing/fencing/protocol/LamportClockReceivePinLaw", "maxOf", "(JJ)J"⟩ : MethodName)) hown (mvT hZ (hw _ (List.mem_of_getElem? (i := 29) rfl))) (mvT hZ (hw _ (List.mem_of_getElem? (i := 30) rfl))) (mvT hZ (hw _ (List.mem_of_getElem? (i := 31) rfl))) (mvT hZ (hw _ (List.mem_of_getElem? (i := 32) rfl))) (by decide) (backOf (W := 0) (rm_maxOf l Z a0 hw [] (((f_max (0 : Int64) v0) + (1 : Int64)) + (1 : Int64)) (v1 - (1 : Int64)) T42.heap n0 Z_42 ) hZ (hw _ (List.mem_of_getElem? (i := 32) rfl)) (hw _ (List.mem_of_getElem? (i := 31) rfl)) (by decide) (by decide)) (g := (mkF m 159 #[.val (.long v0), .second, .val (.long v1), .second, .val (.int v2), .val (.ref b11), .val (.long v0), .second, .val (.long (((f_max (0 : Int64) v0) + (1 : Int64)) + (1 : Int64))), .second, .val (.long (v1 - (1 : Int64))), .second, .unset, .unset] [(.long (v1 - (1 : Int64))), (.long (((f_max (0 : Int64) v0) + (1 : Int64)) + (1 : Int64)))])) rfl (by rw [hml]; rfl) (argsL := [(.long (((f_max (0 : Int64) v0) + (1 : Int64)) + (1 : Int64))), (.long (v1 - (1 : Int64)))]) (rest := []) (lenOf pd_0 rfl) rfl (by show 2 * 0 + _ ≤ _; exact Nat.le_of_eq rfl) (hb hby at_159) (fun _ _ => ⟨rfl, rfl, (by decide : 1 + 0 ≤ _), (by decide : 1 + 0 ≤ _)⟩)
            dsimp only [Pt.U, Pt.locs, Pt.cells, Pt.slots] at X43 l43 y43 z43 st43 hQ43
            subst l43 y43 z43
            obtain ⟨rfl, N43q, e43⟩ := hQ43
            have N43 := Fr.app N42 N43q
            refine Go.st st43 ?_
            show Go p e below s _ _ _ T43 (mkF m 162 #[.val (.long v0), .second, .val (.long v1), .second, .val (.int v2), .val (.ref b11), .val (.long v0), .second, .val (.long (((f_max (0 : Int64) v0) + (1 : Int64)) + (1 : Int64))), .second, .val (.long (v1 - (1 : Int64))), .second, .unset, .unset] [(.long (f_max (((f_max (0 : Int64) v0) + (1 : Int64)) + (1 : Int64)) (v1 - (1 : Int64))))])
            refine G_lconst X43 hx (pc' := 163) rfl (hb hby at_162) (z := (1 : Int64)) rfl ?_
            refine G_ladd X43 hx (pc' := 164) rfl (hb hby at_163)  ?_
            refine G_lstore X43 hx (pc' := 166) rfl (hb hby at_164) (L' := #[.val (.long v0), .second, .val (.long v1), .second, .val (.int v2), .val (.ref b11), .val (.long v0), .second, .val (.long (((f_max (0 : Int64) v0) + (1 : Int64)) + (1 : Int64))), .second, .val (.long (v1 - (1 : Int64))), .second, .val (.long ((f_max (((f_max (0 : Int64) v0) + (1 : Int64)) + (1 : Int64)) (v1 - (1 : Int64))) + (1 : Int64))), .second]) rfl ?_
            refine G_aload X43 hx (pc' := 168) rfl (hb hby at_166) rfl rfl ?_
            obtain ⟨cq44, kq44, q44a, q44b, q44c⟩ := isOf hZ e43 p42_0
            obtain ⟨_, _, ⟨T44, L44, k44, n44⟩, -, X44, ⟨Lc44, hQ44, l44, y44, z44⟩, st44⟩ := X43.virtualBack hx (y := (⟨"com/example/fencing/fencing/protocol/LamportClock", "time", "()J"⟩ : MethodName)) (z := (⟨"com/example/fencing/fencing/protocol/LamportClock", "time", "()J"⟩ : MethodName)) hown (mvT hZ (hw _ (List.mem_of_getElem? (i := 9) rfl))) (mvT hZ (hw _ (List.mem_of_getElem? (i := 10) rfl))) (notFace_of_selects (args := #[]) (mvT hZ (hw _ (List.mem_of_getElem? (i := 12) rfl)))) (mvT hZ (hw _ (List.mem_of_getElem? (i := 12) rfl))) (mvT hZ (hw _ (List.mem_of_getElem? (i := 11) rfl))) (by decide) (backOf (W := 0) (rm_time l Z a0 hw [] b11 ((f_max (((f_max (0 : Int64) v0) + (1 : Int64)) + (1 : Int64)) (v1 - (1 : Int64))) + (1 : Int64)) T42.heap n0 Z_42 p42_1) hZ (hw _ (List.mem_of_getElem? (i := 13) rfl)) (hw _ (List.mem_of_getElem? (i := 2) rfl)) (by decide) (by decide)) q44a q44c (g := (mkF m 168 #[.val (.long v0), .second, .val (.long v1), .second, .val (.int v2), .val (.ref b11), .val (.long v0), .second, .val (.long (((f_max (0 : Int64) v0) + (1 : Int64)) + (1 : Int64))), .second, .val (.long (v1 - (1 : Int64))), .second, .val (.long ((f_max (((f_max (0 : Int64) v0) + (1 : Int64)) + (1 : Int64)) (v1 - (1 : Int64))) + (1 : Int64))), .second] [(.ref b11)])) rfl (by rw [hml]; rfl) (Steps.refl _) (argsL := []) (rest := []) (lenOf pd_2 rfl) rfl (by show 2 * 0 + _ ≤ _; exact Nat.le_of_eq rfl) (hb hby at_168) (fun _ _ => ⟨rfl, e43, (by decide : 1 + 0 ≤ _), (by decide : 1 + 0 ≤ _)⟩)
            dsimp only [Pt.U, Pt.locs, Pt.cells, Pt.slots] at X44 l44 y44 z44 st44 hQ44
            subst l44 y44 z44
            obtain ⟨rfl, N44q, e44⟩ := hQ44
            have N44 := Fr.app N43 N44q
            refine Go.st (fun _ k => st44.trans k) ?_
            show Go p e below s _ _ _ T44 (mkF m 171 #[.val (.long v0), .second, .val (.long v1), .second, .val (.int v2), .val (.ref b11), .val (.long v0), .second, .val (.long (((f_max (0 : Int64) v0) + (1 : Int64)) + (1 : Int64))), .second, .val (.long (v1 - (1 : Int64))), .second, .val (.long ((f_max (((f_max (0 : Int64) v0) + (1 : Int64)) + (1 : Int64)) (v1 - (1 : Int64))) + (1 : Int64))), .second] [(.long ((f_max (((f_max (0 : Int64) v0) + (1 : Int64)) + (1 : Int64)) (v1 - (1 : Int64))) + (1 : Int64)))])
            refine G_lload X44 hx (pc' := 173) rfl (hb hby at_171) rfl ?_
            refine G_lcmp X44 hx (pc' := 174) rfl (hb hby at_173)  ?_
            refine G_ifNo X44 hx (pc' := 177) rfl (hb hby at_174) ((if0 _ _).trans (teq ((lw_eq _ _).2 (rfl : ((f_max (((f_max (0 : Int64) v0) + (1 : Int64)) + (1 : Int64)) (v1 - (1 : Int64))) + (1 : Int64)) = ((f_max (((f_max (0 : Int64) v0) + (1 : Int64)) + (1 : Int64)) (v1 - (1 : Int64))) + (1 : Int64))))).2) ?_
            refine G_iconst X44 hx (pc' := 178) rfl (hb hby at_177) (z := (1 : Int32)) rfl ?_
            refine G_goto X44 hx (pc' := 182) (hb hby at_178)  (by decide) (by decide) ?_
            refine Go.fin X44 hlk (v := some (.int (1 : Int32))) (fun h => by rw [Bd.returns] at h; cases h) (by decide) (by decide) ?_ (fun fs hr => retN X44 hx (t := .boolean) Bd.returns (by simp) (hb hby at_182) hr)
            show Q_law Z v0 v1 v2 h0 n0 _ T44.heap _
            rw [e44]
            exact ⟨congrArg (fun z => some (Value.int z)) (by rw [f_law]; rw [if_neg hc30_1, if_neg hc73_8, if_neg hc82_11, if_neg hc125_12, if_pos hc139_13]), N44⟩
          · refine G_ifYes X41 hx (pc' := 148) (hb hby at_139) ((if0 _ _).trans (feq (fun q => hc139_13 ((lw_eq _ _).1 q))).2) (by decide) (by decide) ?_
            refine G_aload X41 hx (pc' := 150) rfl (hb hby at_148) rfl rfl ?_
            refine G_lload X41 hx (pc' := 152) rfl (hb hby at_150) rfl ?_
            obtain ⟨cq45, kq45, q45a, q45b, q45c⟩ := isOf hZ e41 p40_0
            obtain ⟨_, _, ⟨T45, L45, k45, n45⟩, -, X45, ⟨Lc45, hQ45, l45, y45, z45⟩, st45⟩ := X41.virtualBack hx (y := (⟨"com/example/fencing/fencing/protocol/LamportClock", "receive", "(J)V"⟩ : MethodName)) (z := (⟨"com/example/fencing/fencing/protocol/LamportClock", "receive", "(J)V"⟩ : MethodName)) hown (mvT hZ (hw _ (List.mem_of_getElem? (i := 17) rfl))) (mvT hZ (hw _ (List.mem_of_getElem? (i := 18) rfl))) (notFace_of_selects (args := #[]) (mvT hZ (hw _ (List.mem_of_getElem? (i := 20) rfl)))) (mvT hZ (hw _ (List.mem_of_getElem? (i := 20) rfl))) (mvT hZ (hw _ (List.mem_of_getElem? (i := 19) rfl))) (by decide) (backOf (W := 0) (rm_recv l Z a0 hw [] b11 v1 (((f_max (0 : Int64) v0) + (1 : Int64)) + (1 : Int64)) T40.heap n0 Z_40 p40_0 p40_1 g_b11 (own_mxne (by first | decide | assumption) (by first | assumption | exact own_sub (by assumption)))) hZ (hw _ (List.mem_of_getElem? (i := 21) rfl)) (hw _ (List.mem_of_getElem? (i := 2) rfl)) (by decide) (by decide)) q45a q45c (g := (mkF m 152 #[.val (.long v0), .second, .val (.long v1), .second, .val (.int v2), .val (.ref b11), .val (.long v0), .second, .val (.long (((f_max (0 : Int64) v0) + (1 : Int64)) + (1 : Int64))), .second, .val (.long v1), .second, .unset, .unset] [(.long v1), (.ref b11)])) rfl (by rw [hml]; rfl) (Steps.refl _) (argsL := [(.long v1)]) (rest := []) (lenOf pd_3 rfl) rfl (by show 2 * 0 + _ ≤ _; exact Nat.le_of_eq rfl) (hb hby at_152) (fun _ _ => ⟨rfl, e41, (by decide : 1 + 0 ≤ _), (by decide : 1 + 0 ≤ _)⟩)
            dsimp only [Pt.U, Pt.locs, Pt.cells, Pt.slots] at X45 l45 y45 z45 st45 hQ45
            subst l45 y45 z45
            obtain ⟨rfl, N45q, K45, p45_0, p45_1⟩ := hQ45
            have N45 := Fr.app N41 N45q
            refine Go.st (fun _ k => st45.trans k) ?_
            have K_45 : Keep h0 T45.heap [] := K_40.trans K45 (allS (Or.inr sz_b11) all0)
            have Z_45 : n0 ≤ T45.heap.size := Nat.le_trans Z0 K_45.1
            show Go p e below s _ _ _ T45 (mkF m 155 #[.val (.long v0), .second, .val (.long v1), .second, .val (.int v2), .val (.ref b11), .val (.long v0), .second, .val (.long (((f_max (0 : Int64) v0) + (1 : Int64)) + (1 : Int64))), .second, .val (.long v1), .second, .unset, .unset] [])
            refine G_lload X45 hx (pc' := 157) rfl (hb hby at_155) rfl ?_
            refine G_lload X45 hx (pc' := 159) rfl (hb hby at_157) rfl ?_
            obtain ⟨_, _, ⟨T46, L46, k46, n46⟩, -, X46, ⟨Lc46, hQ46, l46, y46, z46⟩, st46⟩ := Jvm.LawKit.callS X45 hx (y := (⟨"com/example/fencing/fencing/protocol/LamportClockReceivePinLaw", "maxOf", "(JJ)J"⟩ : MethodName)) hown (mvT hZ (hw _ (List.mem_of_getElem? (i := 29) rfl))) (mvT hZ (hw _ (List.mem_of_getElem? (i := 30) rfl))) (mvT hZ (hw _ (List.mem_of_getElem? (i := 31) rfl))) (mvT hZ (hw _ (List.mem_of_getElem? (i := 32) rfl))) (by decide) (backOf (W := 0) (rm_maxOf l Z a0 hw [] (((f_max (0 : Int64) v0) + (1 : Int64)) + (1 : Int64)) v1 T45.heap n0 Z_45 ) hZ (hw _ (List.mem_of_getElem? (i := 32) rfl)) (hw _ (List.mem_of_getElem? (i := 31) rfl)) (by decide) (by decide)) (g := (mkF m 159 #[.val (.long v0), .second, .val (.long v1), .second, .val (.int v2), .val (.ref b11), .val (.long v0), .second, .val (.long (((f_max (0 : Int64) v0) + (1 : Int64)) + (1 : Int64))), .second, .val (.long v1), .second, .unset, .unset] [(.long v1), (.long (((f_max (0 : Int64) v0) + (1 : Int64)) + (1 : Int64)))])) rfl (by rw [hml]; rfl) (argsL := [(.long (((f_max (0 : Int64) v0) + (1 : Int64)) + (1 : Int64))), (.long v1)]) (rest := []) (lenOf pd_0 rfl) rfl (by show 2 * 0 + _ ≤ _; exact Nat.le_of_eq rfl) (hb hby at_159) (fun _ _ => ⟨rfl, rfl, (by decide : 1 + 0 ≤ _), (by decide : 1 + 0 ≤ _)⟩)
            dsimp only [Pt.U, Pt.locs, Pt.cells, Pt.slots] at X46 l46 y46 z46 st46 hQ46
            subst l46 y46 z46
            obtain ⟨rfl, N46q, e46⟩ := hQ46
            have N46 := Fr.app N45 N46q
            refine Go.st st46 ?_
            show Go p e below s _ _ _ T46 (mkF m 162 #[.val (.long v0), .second, .val (.long v1), .second, .val (.int v2), .val (.ref b11), .val (.long v0), .second, .val (.long (((f_max (0 : Int64) v0) + (1 : Int64)) + (1 : Int64))), .second, .val (.long v1), .second, .unset, .unset] [(.long (f_max (((f_max (0 : Int64) v0) + (1 : Int64)) + (1 : Int64)) v1))])
            refine G_lconst X46 hx (pc' := 163) rfl (hb hby at_162) (z := (1 : Int64)) rfl ?_
            refine G_ladd X46 hx (pc' := 164) rfl (hb hby at_163)  ?_
            refine G_lstore X46 hx (pc' := 166) rfl (hb hby at_164) (L' := #[.val (.long v0), .second, .val (.long v1), .second, .val (.int v2), .val (.ref b11), .val (.long v0), .second, .val (.long (((f_max (0 : Int64) v0) + (1 : Int64)) + (1 : Int64))), .second, .val (.long v1), .second, .val (.long ((f_max (((f_max (0 : Int64) v0) + (1 : Int64)) + (1 : Int64)) v1) + (1 : Int64))), .second]) rfl ?_
            refine G_aload X46 hx (pc' := 168) rfl (hb hby at_166) rfl rfl ?_
            obtain ⟨cq47, kq47, q47a, q47b, q47c⟩ := isOf hZ e46 p45_0
            obtain ⟨_, _, ⟨T47, L47, k47, n47⟩, -, X47, ⟨Lc47, hQ47, l47, y47, z47⟩, st47⟩ := X46.virtualBack hx (y := (⟨"com/example/fencing/fencing/protocol/LamportClock", "time", "()J"⟩ : MethodName)) (z := (⟨"com/example/fencing/fencing/protocol/LamportClock", "time", "()J"⟩ : MethodName)) hown (mvT hZ (hw _ (List.mem_of_getElem? (i := 9) rfl))) (mvT hZ (hw _ (List.mem_of_getElem? (i := 10) rfl))) (notFace_of_selects (args := #[]) (mvT hZ (hw _ (List.mem_of_getElem? (i := 12) rfl)))) (mvT hZ (hw _ (List.mem_of_getElem? (i := 12) rfl))) (mvT hZ (hw _ (List.mem_of_getElem? (i := 11) rfl))) (by decide) (backOf (W := 0) (rm_time l Z a0 hw [] b11 ((f_max (((f_max (0 : Int64) v0) + (1 : Int64)) + (1 : Int64)) v1) + (1 : Int64)) T45.heap n0 Z_45 p45_1) hZ (hw _ (List.mem_of_getElem? (i := 13) rfl)) (hw _ (List.mem_of_getElem? (i := 2) rfl)) (by decide) (by decide)) q47a q47c (g := (mkF m 168 #[.val (.long v0), .second, .val (.long v1), .second, .val (.int v2), .val (.ref b11), .val (.long v0), .second, .val (.long (((f_max (0 : Int64) v0) + (1 : Int64)) + (1 : Int64))), .second, .val (.long v1), .second, .val (.long ((f_max (((f_max (0 : Int64) v0) + (1 : Int64)) + (1 : Int64)) v1) + (1 : Int64))), .second] [(.ref b11)])) rfl (by rw [hml]; rfl) (Steps.refl _) (argsL := []) (rest := []) (lenOf pd_2 rfl) rfl (by show 2 * 0 + _ ≤ _; exact Nat.le_of_eq rfl) (hb hby at_168) (fun _ _ => ⟨rfl, e46, (by decide : 1 + 0 ≤ _), (by decide : 1 + 0 ≤ _)⟩)
            dsimp only [Pt.U, Pt.locs, Pt.cells, Pt.slots] at X47 l47 y47 z47 st47 hQ47
            subst l47 y47 z47
            obtain ⟨rfl, N47q, e47⟩ := hQ47
            have N47 := Fr.app N46 N47q
            refine Go.st (fun _ k => st47.trans k) ?_
            show Go p e below s _ _ _ T47 (mkF m 171 #[.val (.long v0), .second, .val (.long v1), .second, .val (.int v2), .val (.ref b11), .val (.long v0), .second, .val (.long (((f_max (0 : Int64) v0) + (1 : Int64)) + (1 : Int64))), .second, .val (.long v1), .second, .val (.long ((f_max (((f_max (0 : Int64) v0) + (1 : Int64)) + (1 : Int64)) v1) + (1 : Int64))), .second] [(.long ((f_max (((f_max (0 : Int64) v0) + (1 : Int64)) + (1 : Int64)) v1) + (1 : Int64)))])
            refine G_lload X47 hx (pc' := 173) rfl (hb hby at_171) rfl ?_
            refine G_lcmp X47 hx (pc' := 174) rfl (hb hby at_173)  ?_
            refine G_ifNo X47 hx (pc' := 177) rfl (hb hby at_174) ((if0 _ _).trans (teq ((lw_eq _ _).2 (rfl : ((f_max (((f_max (0 : Int64) v0) + (1 : Int64)) + (1 : Int64)) v1) + (1 : Int64)) = ((f_max (((f_max (0 : Int64) v0) + (1 : Int64)) + (1 : Int64)) v1) + (1 : Int64))))).2) ?_
            refine G_iconst X47 hx (pc' := 178) rfl (hb hby at_177) (z := (1 : Int32)) rfl ?_
            refine G_goto X47 hx (pc' := 182) (hb hby at_178)  (by decide) (by decide) ?_
            refine Go.fin X47 hlk (v := some (.int (1 : Int32))) (fun h => by rw [Bd.returns] at h; cases h) (by decide) (by decide) ?_ (fun fs hr => retN X47 hx (t := .boolean) Bd.returns (by simp) (hb hby at_182) hr)
            show Q_law Z v0 v1 v2 h0 n0 _ T47.heap _
            rw [e47]
            exact ⟨congrArg (fun z => some (Value.int z)) (by rw [f_law]; rw [if_neg hc30_1, if_neg hc73_8, if_neg hc82_11, if_neg hc125_12, if_neg hc139_13]), N47⟩
theorem own_law (a b : Int64) (f : Int32) : f_law a b f = 1 := by
  unfold f_law
  repeat' split
  all_goals rfl

set_option maxRecDepth 65536 in
set_option maxHeartbeats 40000000 in
theorem comes_1 {Post : Tables → Env → Array Value → State → Outcome → State → Prop} (hpost : ∀ tb e args s v u, (limb_1_1.after args s (.returned v) u = true ∧ limb_1_2.after args s (.returned v) u = true ∧ True) → FrameEnd s (.returned v) u (Jvm.fieldLocs frame_1_writes args s ++ Jvm.arrayLocs frame_1_arrays args s ++ Jvm.staticLocs frame_1_statics s) 16 128 → Post tb e args s (.returned v) u) :
    ArmFor flags0 classFile x code maxLocals ret World_1 tables_1 room_1 Calls_1 rest_1 Pre_1 Post := by
  intro l hfl _ _ p e ha hc hk s m args below hf hA hF happ hP
  obtain ⟨hcalls, hrest, hpre⟩ := hP
  obtain ⟨-, -, -, hnamed, -, -, -, hat⟩ := (Spec.applies_iff hf).mp happ
  obtain ⟨hg, hn⟩ := and_e (Cond.before_iff.mp (show (Jvm.Cond.and given_1 narrow_1).before args s = true from hpre))
  obtain ⟨hcnt, hg0⟩ := and_e hg
  obtain ⟨ha0, hg1⟩ := and_e hg0
  obtain ⟨ha1, hg2⟩ := and_e hg1
  have ha2 := hg2
  obtain ⟨w0, w1, w2, rfl⟩ : ∃ w0 w1 w2 : Value, args = #[w0, w1, w2] := by
    have hs : args.size = 3 := by simpa [Cond.value, given_1] using hcnt
    obtain ⟨L⟩ := args
    match L, hs with
    | [w0, w1, w2], _ => exact ⟨w0, w1, w2, rfl⟩
  have hw := fun d (hd : d ∈ tables_1) => atoms_spec (ws := Jvm.Cond.code x code maxLocals ret :: tables_1) hat d (List.mem_cons_of_mem _ hd)
  have hfit : Fit s := fun {y c} hc i hi => by
    obtain ⟨ha, rfl⟩ := Array.getElem?_eq_some_iff.mp hc
    have q := List.all_eq_true.mp ((Array.all_eq_true_iff_forall_mem.mp hF) _ (Array.getElem_mem ha)) i (List.mem_range.mpr hi)
    simpa [Array.getElem?_eq_getElem hi] using q
  obtain ⟨i0, ei0⟩ := isL_v ha0
  obtain rfl : w0 = (.long i0) := Option.some.inj ei0
  obtain ⟨i1, ei1⟩ := isL_v ha1
  obtain rfl : w1 = (.long i1) := Option.some.inj ei1
  obtain ⟨i2, ei2⟩ := is_v ha2
  obtain rfl : w2 = (.int i2) := Option.some.inj ei2
  obtain ⟨n, o, h1, h2, h3, v, L, rfl, ⟨hv, N⟩, hq⟩ := rm_law l s _ hw tables_1 i0 i1 i2  s.heap s.heap.size (Nat.le_refl _)  p e ha hc hk s m _ below hf ((Spec.applies_iff_loose hf).mp happ).1 ⟨rfl, State.Warmed39.refl s, rfl⟩ trivial
  rw [own_law i0 i1 i2] at hv
  subst hv
  refine ⟨n, _, h1, h2, h3, hpost _ _ _ _ _ _ ⟨Cond.after_iff.mpr rfl, Cond.after_iff.mpr (eq_i res_at (Term.int_eval (1)) rfl), trivial⟩ ⟨hq.1, hq.2.1, (hq.2.2.sift fun y hy => Or.inr (N y hy)).mono (by decide) (by decide)⟩⟩
theorem main_1_1 : Claimed_1_1 := comes_1 fun _ _ _ _ _ _ h hF => ⟨h.1, hF⟩
theorem main_1_2 : Claimed_1_2 := comes_1 fun _ _ _ _ _ _ h hF => ⟨h.2.1, hF⟩
end Jvm.Pilot.@@N@@
namespace Jvm.Pilot.@@N@@
open Jvm Jvm.ClassFile Sem Op Lib Jvm.Free Jvm.Stand Jvm.Pilot.@@N@@.Jvm.D
/-! MADE BY PROGRAM (witnessworld.py) out of the Statement's table words and the real class files: 10 classes; the members and pool entries that the words name. The judged class is class 1, her method 2. -/
namespace start1
open Jvm.ClassFile
def u (s : String) : CpInfo := .utf8 (stringToUtf16 s)
/-- a pool by its gaps: so many unusable entries, then the entry; so many at the end -/
def gap : Nat → List CpInfo → List CpInfo
  | 0, r => r
  | n + 1, r => .unusable :: gap n r
def poolList (es : List (Nat × CpInfo)) (last : Nat) : List CpInfo := es.foldr (fun e r => gap e.1 (e.2 :: r)) (gap last [])
def pool (es : List (Nat × CpInfo)) (last : Nat) : Array CpInfo := ⟨poolList es last⟩
def fileOf (pool : Array CpInfo) (this : Nat) (attrs : Array Attribute := #[]) (ms : Array MethodInfo := #[]) (fl : Nat := 33) (sup : Nat := 0) (ifs : Array Nat := #[]) (fds : Array FieldInfo := #[]) : ClassFile where
  minorVersion := 0
  majorVersion := 65
  constantPool := pool
  accessFlags := fl
  thisClass := this
  superClass := sup
  interfaces := ifs
  fields := fds
  methods := ms
  attributes := attrs
def plain (name : String) (sup : Option ClassId) : Class where
  name := name
  kind := .ordinary
  loader := none
  accessFlags := 33
  super := sup
  interfaces := #[]
  cf := none
  fields := #[]
  methods := #[]
  instanceTypes := #[]
  staticTypes := #[]
  resolved := #[]
  callSites := []
  init := .initialized
  statics := none
  mirror := none

def pool0 : Array CpInfo := pool [(5, u "<init>"), (0, u "()V"), (1, .class_ 10), (1, u "java/lang/Object")] 113

def k0c0 : Code := { maxStack := 0, maxLocals := 1, code := object_method_1_code, exceptionTable := #[], attributes := #[] }
def k0m0 : Method := { name := "<init>", desc := "()V", sig := { parameters := [], returnType := none }, accessFlags := 1, code := some k0c0 }
/-- java/lang/Object -/
def k0 : Class := { plain "java/lang/Object" none with
  accessFlags := 33
  interfaces := #[]
  cf := some (fileOf pool0 8 #[] #[{ accessFlags := 1, nameIndex := 5, descriptorIndex := 6, attributes := #[] }] 33 0 #[] #[])
  fields := #[]
  methods := #[k0m0]
  instanceTypes := #[]
  staticTypes := #[]
  resolved := Array.replicate 124 none
  statics := none }

def pool1 : Array CpInfo := pool [(2, .class_ 4), (0, .nameAndType 5 6), (0, u "java/lang/Object"), (0, u "<init>"), (0, u "()V"), (0, .class_ 8), (0, u "com/example/fencing/fencing/protocol/LamportClock"), (0, .methodref 7 3), (0, .methodref 7 11), (0, .nameAndType 12 13), (0, u "time"), (0, u "()J"), (2, .long 9223372036854775807), (1, .methodref 7 19), (0, .nameAndType 20 21), (0, u "receive"), (0, u "(J)V"), (0, .methodref 23 24), (0, .class_ 25), (0, .nameAndType 26 27), (0, u "com/example/fencing/fencing/protocol/LamportClockReceivePinLaw"), (0, u "maxOf"), (0, u "(JJ)J"), (0, .methodref 7 29), (0, .nameAndType 30 13), (0, u "tick"), (3, u "law"), (0, u "(JJI)Z")] 2

def k1m0 : Method := { name := "<init>", desc := "()V", sig := { parameters := [], returnType := none }, accessFlags := 1, code := none }
def k1c1 : Code := { maxStack := 4, maxLocals := 4, code := method_2_code, exceptionTable := #[], attributes := #[] }
def k1m1 : Method := { name := "maxOf", desc := "(JJ)J", sig := { parameters := [.long, .long], returnType := some .long }, accessFlags := 10, code := some k1c1 }
def k1c2 : Code := { maxStack := 4, maxLocals := 14, code := code, exceptionTable := #[], attributes := #[] }
def k1m2 : Method := { name := "law", desc := "(JJI)Z", sig := { parameters := [.long, .long, .int], returnType := some .boolean }, accessFlags := 9, code := some k1c2 }
/-- com/example/fencing/fencing/protocol/LamportClockReceivePinLaw -/
def k1 : Class := { plain "com/example/fencing/fencing/protocol/LamportClockReceivePinLaw" (some 0) with
  accessFlags := 49
  interfaces := #[]
  cf := some (fileOf pool1 23 #[] #[{ accessFlags := 1, nameIndex := 5, descriptorIndex := 6, attributes := #[] }, { accessFlags := 10, nameIndex := 26, descriptorIndex := 27, attributes := #[] }, { accessFlags := 9, nameIndex := 34, descriptorIndex := 35, attributes := #[] }] 49 2 #[] #[])
  fields := #[]
  methods := #[k1m0, k1m1, k1m2]
  instanceTypes := #[]
  staticTypes := #[]
  resolved := Array.replicate 38 none
  statics := none }

def pool2 : Array CpInfo := pool [(1, .methodref 2 3), (0, .class_ 4), (0, .nameAndType 5 6), (0, u "java/lang/Object"), (0, u "<init>"), (0, u "()V"), (0, .fieldref 8 9), (0, .class_ 10), (0, .nameAndType 11 12), (0, u "com/example/fencing/fencing/protocol/LamportClock"), (0, u "time"), (0, u "J"), (0, .methodref 14 15), (0, .class_ 16), (0, .nameAndType 17 18), (0, u "java/lang/Math"), (0, u "addExact"), (0, u "(JJ)J"), (0, .methodref 14 20), (0, .nameAndType 21 18), (0, u "max"), (2, u "()J"), (0, u "tick"), (0, u "receive"), (0, u "(J)V")] 2

def k2c0 : Code := { maxStack := 1, maxLocals := 1, code := prog_9_method_1_code, exceptionTable := #[], attributes := #[] }
def k2m0 : Method := { name := "<init>", desc := "()V", sig := { parameters := [], returnType := none }, accessFlags := 1, code := some k2c0 }
def k2c1 : Code := { maxStack := 2, maxLocals := 1, code := prog_9_method_2_code, exceptionTable := #[], attributes := #[] }
def k2m1 : Method := { name := "time", desc := "()J", sig := { parameters := [], returnType := some .long }, accessFlags := 1, code := some k2c1 }
def k2c2 : Code := { maxStack := 5, maxLocals := 1, code := prog_9_method_3_code, exceptionTable := #[], attributes := #[] }
def k2m2 : Method := { name := "tick", desc := "()J", sig := { parameters := [], returnType := some .long }, accessFlags := 1, code := some k2c2 }
def k2c3 : Code := { maxStack := 5, maxLocals := 3, code := prog_9_method_4_code, exceptionTable := #[], attributes := #[] }
def k2m3 : Method := { name := "receive", desc := "(J)V", sig := { parameters := [.long], returnType := none }, accessFlags := 1, code := some k2c3 }
/-- com/example/fencing/fencing/protocol/LamportClock -/
def k2 : Class := { plain "com/example/fencing/fencing/protocol/LamportClock" (some 0) with
  accessFlags := 33
  interfaces := #[]
  cf := some (fileOf pool2 8 #[] #[{ accessFlags := 1, nameIndex := 5, descriptorIndex := 6, attributes := #[] }, { accessFlags := 1, nameIndex := 11, descriptorIndex := 24, attributes := #[] }, { accessFlags := 1, nameIndex := 25, descriptorIndex := 24, attributes := #[] }, { accessFlags := 1, nameIndex := 26, descriptorIndex := 27, attributes := #[] }] 33 2 #[] #[{ accessFlags := 2, nameIndex := 11, descriptorIndex := 12, attributes := #[] }])
  fields := #[{ name := "time", type := .long, accessFlags := 2, slot := 0, constantValue := 0 }]
  methods := #[k2m0, k2m1, k2m2, k2m3]
  instanceTypes := #[.long]
  staticTypes := #[]
  resolved := Array.replicate 30 none
  statics := none }

def pool3 : Array CpInfo := pool [(1, .class_ 2), (0, u "java/lang/Math"), (1, .class_ 6), (1, u "java/lang/Object"), (0, u "<init>"), (0, u "()V"), (89, .class_ 100), (1, u "java/lang/Math$RandomNumberGeneratorHolder"), (20, u "(JJ)J"), (50, u "negativeZeroFloatBits"), (0, u "J"), (2, u "negativeZeroDoubleBits"), (21, u "max"), (46, u "$assertionsDisabled"), (0, u "Z"), (91, u "twoToTheDoubleScaleDown"), (0, u "D"), (4, u "twoToTheDoubleScaleUp"), (9, u "E"), (3, u "PI"), (2, u "TAU"), (2, u "DEGREES_TO_RADIANS"), (0, u "RADIANS_TO_DEGREES"), (27, u "addExact")] 66

def k3m0 : Method := { name := "<init>", desc := "()V", sig := { parameters := [], returnType := none }, accessFlags := 2, code := none }
def k3c1 : Code := { maxStack := 6, maxLocals := 6, code := jdk_29_method_25_code, exceptionTable := #[], attributes := #[] }
def k3m1 : Method := { name := "addExact", desc := "(JJ)J", sig := { parameters := [.long, .long], returnType := some .long }, accessFlags := 9, code := some k3c1 }
def k3c2 : Code := { maxStack := 4, maxLocals := 4, code := jdk_29_method_66_code, exceptionTable := #[], attributes := #[] }
def k3m2 : Method := { name := "max", desc := "(JJ)J", sig := { parameters := [.long, .long], returnType := some .long }, accessFlags := 9, code := some k3c2 }
/-- java/lang/Math -/
def k3 : Class := { plain "java/lang/Math" (some 0) with
  accessFlags := 49
  interfaces := #[]
  cf := some (fileOf pool3 1 #[.nestMembers #[98]] #[{ accessFlags := 2, nameIndex := 7, descriptorIndex := 8, attributes := #[] }, { accessFlags := 9, nameIndex := 393, descriptorIndex := 121, attributes := #[] }, { accessFlags := 9, nameIndex := 198, descriptorIndex := 121, attributes := #[] }] 49 4 #[] #[{ accessFlags := 25, nameIndex := 354, descriptorIndex := 339, attributes := #[] }, { accessFlags := 25, nameIndex := 358, descriptorIndex := 339, attributes := #[] }, { accessFlags := 25, nameIndex := 361, descriptorIndex := 339, attributes := #[] }, { accessFlags := 26, nameIndex := 364, descriptorIndex := 339, attributes := #[] }, { accessFlags := 26, nameIndex := 365, descriptorIndex := 339, attributes := #[] }, { accessFlags := 26, nameIndex := 172, descriptorIndex := 173, attributes := #[] }, { accessFlags := 26, nameIndex := 176, descriptorIndex := 173, attributes := #[] }, { accessFlags := 8, nameIndex := 344, descriptorIndex := 339, attributes := #[] }, { accessFlags := 8, nameIndex := 338, descriptorIndex := 339, attributes := #[] }, { accessFlags := 4120, nameIndex := 245, descriptorIndex := 246, attributes := #[] }])
  fields := #[{ name := "E", type := .double, accessFlags := 25, slot := 0, constantValue := 0 }, { name := "PI", type := .double, accessFlags := 25, slot := 1, constantValue := 0 }, { name := "TAU", type := .double, accessFlags := 25, slot := 2, constantValue := 0 }, { name := "DEGREES_TO_RADIANS", type := .double, accessFlags := 26, slot := 3, constantValue := 0 }, { name := "RADIANS_TO_DEGREES", type := .double, accessFlags := 26, slot := 4, constantValue := 0 }, { name := "negativeZeroFloatBits", type := .long, accessFlags := 26, slot := 5, constantValue := 0 }, { name := "negativeZeroDoubleBits", type := .long, accessFlags := 26, slot := 6, constantValue := 0 }, { name := "twoToTheDoubleScaleUp", type := .double, accessFlags := 8, slot := 7, constantValue := 0 }, { name := "twoToTheDoubleScaleDown", type := .double, accessFlags := 8, slot := 8, constantValue := 0 }, { name := "$assertionsDisabled", type := .boolean, accessFlags := 4120, slot := 9, constantValue := 0 }]
  methods := #[k3m0, k3m1, k3m2]
  instanceTypes := #[]
  staticTypes := #[.double, .double, .double, .double, .double, .long, .long, .double, .double, .boolean]
  resolved := Array.replicate 460 none
  statics := none }

def pool4 : Array CpInfo := pool [(1, u "java/lang/Cloneable"), (0, .class_ 1), (0, u "java/lang/Object"), (0, .class_ 3)] 3

/-- java/lang/Cloneable -/
def k4 : Class := { plain "java/lang/Cloneable" (some 0) with
  accessFlags := 1537
  interfaces := #[]
  cf := some (fileOf pool4 2 #[] #[] 1537 4 #[] #[])
  fields := #[]
  methods := #[]
  instanceTypes := #[]
  staticTypes := #[]
  resolved := Array.replicate 8 none
  statics := none }

def pool5 : Array CpInfo := pool [(1, u "java/io/Serializable"), (0, .class_ 1), (0, u "java/lang/Object"), (0, .class_ 3)] 3

/-- java/io/Serializable -/
def k5 : Class := { plain "java/io/Serializable" (some 0) with
  accessFlags := 1537
  interfaces := #[]
  cf := some (fileOf pool5 2 #[] #[] 1537 4 #[] #[])
  fields := #[]
  methods := #[]
  instanceTypes := #[]
  staticTypes := #[]
  resolved := Array.replicate 8 none
  statics := none }

/-- the primitive byte -/
def k6 : Class := { plain "byte" none with kind := .primitive 'B', accessFlags := 0x411 }
/-- [B -/
def k7 : Class := { plain "[B" (some 0) with kind := .array 6 .byte, interfaces := #[4, 5], accessFlags := 1041 }

/-- the primitive int -/
def k8 : Class := { plain "int" none with kind := .primitive 'I', accessFlags := 0x411 }
/-- [I -/
def k9 : Class := { plain "[I" (some 0) with kind := .array 8 .int, interfaces := #[4, 5], accessFlags := 1041 }

def heap : Heap := #[]
def classes : Array Class := #[k0, k1, k2, k3, k4, k5, k6, k7, k8, k9]
def interned : List (Array UInt16 × Addr) := []
def slotsUsed : Nat := 0
def theMethod : MethodId := ⟨1, 2⟩
def args0 : Array Value := #[.long 5, .long 7, .int 3]
def aboutOver (below : List Frame) : State where
  vm := { classes := classes, interned := interned.toArray }
  heap := heap
  slotsUsed := slotsUsed
  threads := #[{ frames := .invoking theMethod args0 :: below }]
def below0 : List Frame := [.native { method := ⟨0, 0⟩, args := #[] }]
def about1 : State := aboutOver below0
def p0 : Program := .bare "" "" ""
def e0 : Env := launch0.env 0 0 0
theorem w_frames : about1.frames = Frame.invoking theMethod args0 :: below0 := rfl
set_option maxRecDepth 65536 in
theorem w_args : argsFit about1.vm theMethod args0 = true := by decide +kernel
set_option maxRecDepth 65536 in
theorem w_heap : heapFits about1 = true := by decide +kernel
set_option maxRecDepth 65536 in
theorem w_runnable : about1.curStatus? = some .runnable := by decide +kernel
set_option maxRecDepth 65536 in
theorem w_alone : about1.alone = true := by decide +kernel
set_option maxRecDepth 65536 in
theorem w_named : about1.methodNamed? x = some theMethod := by decide +kernel
set_option maxRecDepth 65536 in
theorem w_hears : about1.hears theMethod below0 = true := by decide +kernel
set_option maxRecDepth 65536 in
theorem w_ripe : about1.ripe theMethod args0 below0 = true := by decide +kernel
theorem w_running : about1.status = .running := rfl
set_option maxRecDepth 65536 in
theorem w_room : about1.hasRoom e0.platform room_1 = true :=
  launch0.hasRoom_least _ room_1 (by decide +kernel) (by decide +kernel) (by decide +kernel) (by decide +kernel) (by decide +kernel) (by decide +kernel)
theorem allAtoms_all (ts : List Jvm.Cond) (a : Array Jvm.Value) (st : Jvm.State) : (allAtoms ts).before a st = ts.all (fun c => c.before a st) := by
  induction ts with
  | nil => rfl
  | cons c t ih =>
    show (Jvm.Cond.and c (allAtoms t)).before a st = _
    rw [Jvm.Cond.before_and, ih, List.all_cons]
def words1 : List Jvm.Cond := Jvm.Cond.code x code maxLocals ret :: tables_1
/-- a 'code' word, met by the world's own term for the bytes: nothing is compared byte by byte -/
theorem code_word {y : MethodName} {bytes : ByteArray} {mx : Nat} {rt : Option FieldType} {a : Array Value} {s : State} {m : MethodId} {meth : Method} {c : Code} (h1 : s.methodNamed? y = some m) (h2 : s.vm.method? m = some meth) (h3 : meth.code = some c) (h4 : c.code = bytes)
    (h5 : (c.maxLocals == mx && c.exceptionTable.isEmpty && decide (c.maxStack ≤ mostOperands) && decide (meth.sig.returnType = rt) && !meth.locks && decide (parseMethodDescriptor y.desc = some meth.sig)) = true) : (Jvm.Cond.code y bytes mx rt).before a s = true := by
  simp only [Bool.and_eq_true, beq_iff_eq, Bool.not_eq_true', decide_eq_true_eq] at h5
  obtain ⟨⟨⟨⟨⟨g1, g2⟩, g3⟩, g4⟩, g5⟩, g6⟩ := h5
  simp [Cond.before, Cond.holds, Cond.value, h1, h2, h3, h4, g1, g2, g3, g4, g5, g6]
def isCode : Jvm.Cond → Bool
  | .code _ _ _ _ => true
  | _ => false
theorem all_split {L : List Jvm.Cond} {P : Jvm.Cond → Bool} (h1 : L.all (fun c => isCode c || P c) = true) (h2 : ∀ c ∈ L.filter isCode, P c = true) : L.all P = true := by
  refine List.all_eq_true.mpr fun c hc => ?_
  have h := List.all_eq_true.mp h1 c hc
  rcases Bool.eq_false_or_eq_true (isCode c) with hi | hi
  · exact h2 c (List.mem_filter.mpr ⟨hc, hi⟩)
  · simpa [hi] using h
set_option maxRecDepth 65536 in
theorem w_c0 : (Jvm.Cond.code x code maxLocals ret).before args0 about1 = true := code_word (m := ⟨1, 2⟩) (meth := k1m2) (c := k1c2) (by decide +kernel) rfl rfl rfl (by decide +kernel)
set_option maxRecDepth 65536 in
theorem w_c1 : (Jvm.Cond.code ({ cls := "com/example/fencing/fencing/protocol/LamportClock", name := "<init>", desc := "()V" } : Jvm.MethodName) prog_9_method_1_code (1 : Nat) (Option.none : Option Jvm.ClassFile.FieldType)).before args0 about1 = true := code_word (m := ⟨2, 0⟩) (meth := k2m0) (c := k2c0) (by decide +kernel) rfl rfl rfl (by decide +kernel)
set_option maxRecDepth 65536 in
theorem w_c2 : (Jvm.Cond.code ({ cls := "java/lang/Object", name := "<init>", desc := "()V" } : Jvm.MethodName) object_method_1_code (1 : Nat) (Option.none : Option Jvm.ClassFile.FieldType)).before args0 about1 = true := code_word (m := ⟨0, 0⟩) (meth := k0m0) (c := k0c0) (by decide +kernel) rfl rfl rfl (by decide +kernel)
set_option maxRecDepth 65536 in
theorem w_c3 : (Jvm.Cond.code ({ cls := "com/example/fencing/fencing/protocol/LamportClock", name := "time", desc := "()J" } : Jvm.MethodName) prog_9_method_2_code (1 : Nat) (Option.some Jvm.ClassFile.FieldType.long)).before args0 about1 = true := code_word (m := ⟨2, 1⟩) (meth := k2m1) (c := k2c1) (by decide +kernel) rfl rfl rfl (by decide +kernel)
set_option maxRecDepth 65536 in
theorem w_c4 : (Jvm.Cond.code ({ cls := "com/example/fencing/fencing/protocol/LamportClock", name := "receive", desc := "(J)V" } : Jvm.MethodName) prog_9_method_4_code (3 : Nat) (Option.none : Option Jvm.ClassFile.FieldType)).before args0 about1 = true := code_word (m := ⟨2, 3⟩) (meth := k2m3) (c := k2c3) (by decide +kernel) rfl rfl rfl (by decide +kernel)
set_option maxRecDepth 65536 in
theorem w_c5 : (Jvm.Cond.code ({ cls := "java/lang/Math", name := "max", desc := "(JJ)J" } : Jvm.MethodName) jdk_29_method_66_code (4 : Nat) (Option.some Jvm.ClassFile.FieldType.long)).before args0 about1 = true := code_word (m := ⟨3, 2⟩) (meth := k3m2) (c := k3c2) (by decide +kernel) rfl rfl rfl (by decide +kernel)
set_option maxRecDepth 65536 in
theorem w_c6 : (Jvm.Cond.code ({ cls := "java/lang/Math", name := "addExact", desc := "(JJ)J" } : Jvm.MethodName) jdk_29_method_25_code (6 : Nat) (Option.some Jvm.ClassFile.FieldType.long)).before args0 about1 = true := code_word (m := ⟨3, 1⟩) (meth := k3m1) (c := k3c1) (by decide +kernel) rfl rfl rfl (by decide +kernel)
set_option maxRecDepth 65536 in
theorem w_c7 : (Jvm.Cond.code ({ cls := "com/example/fencing/fencing/protocol/LamportClockReceivePinLaw", name := "maxOf", desc := "(JJ)J" } : Jvm.MethodName) method_2_code (4 : Nat) (Option.some Jvm.ClassFile.FieldType.long)).before args0 about1 = true := code_word (m := ⟨1, 1⟩) (meth := k1m1) (c := k1c1) (by decide +kernel) rfl rfl rfl (by decide +kernel)
set_option maxRecDepth 65536 in
theorem w_c8 : (Jvm.Cond.code ({ cls := "com/example/fencing/fencing/protocol/LamportClock", name := "tick", desc := "()J" } : Jvm.MethodName) prog_9_method_3_code (1 : Nat) (Option.some Jvm.ClassFile.FieldType.long)).before args0 about1 = true := code_word (m := ⟨2, 2⟩) (meth := k2m2) (c := k2c2) (by decide +kernel) rfl rfl rfl (by decide +kernel)
def codes1 : List Jvm.Cond := [Jvm.Cond.code x code maxLocals ret, Jvm.Cond.code ({ cls := "com/example/fencing/fencing/protocol/LamportClock", name := "<init>", desc := "()V" } : Jvm.MethodName) prog_9_method_1_code (1 : Nat) (Option.none : Option Jvm.ClassFile.FieldType), Jvm.Cond.code ({ cls := "java/lang/Object", name := "<init>", desc := "()V" } : Jvm.MethodName) object_method_1_code (1 : Nat) (Option.none : Option Jvm.ClassFile.FieldType), Jvm.Cond.code ({ cls := "com/example/fencing/fencing/protocol/LamportClock", name := "time", desc := "()J" } : Jvm.MethodName) prog_9_method_2_code (1 : Nat) (Option.some Jvm.ClassFile.FieldType.long), Jvm.Cond.code ({ cls := "com/example/fencing/fencing/protocol/LamportClock", name := "receive", desc := "(J)V" } : Jvm.MethodName) prog_9_method_4_code (3 : Nat) (Option.none : Option Jvm.ClassFile.FieldType), Jvm.Cond.code ({ cls := "java/lang/Math", name := "max", desc := "(JJ)J" } : Jvm.MethodName) jdk_29_method_66_code (4 : Nat) (Option.some Jvm.ClassFile.FieldType.long), Jvm.Cond.code ({ cls := "java/lang/Math", name := "addExact", desc := "(JJ)J" } : Jvm.MethodName) jdk_29_method_25_code (6 : Nat) (Option.some Jvm.ClassFile.FieldType.long), Jvm.Cond.code ({ cls := "com/example/fencing/fencing/protocol/LamportClockReceivePinLaw", name := "maxOf", desc := "(JJ)J" } : Jvm.MethodName) method_2_code (4 : Nat) (Option.some Jvm.ClassFile.FieldType.long), Jvm.Cond.code ({ cls := "com/example/fencing/fencing/protocol/LamportClock", name := "tick", desc := "()J" } : Jvm.MethodName) prog_9_method_3_code (1 : Nat) (Option.some Jvm.ClassFile.FieldType.long)]
set_option maxRecDepth 65536 in
theorem codes_eq : words1.filter isCode = codes1 := rfl
theorem w_codes : ∀ c ∈ words1.filter isCode, c.before args0 about1 = true := by
  rw [codes_eq]
  intro c hc
  simp only [codes1, List.mem_cons, List.not_mem_nil, or_false] at hc
  rcases hc with rfl | rfl | rfl | rfl | rfl | rfl | rfl | rfl | rfl
  · exact w_c0
  · exact w_c1
  · exact w_c2
  · exact w_c3
  · exact w_c4
  · exact w_c5
  · exact w_c6
  · exact w_c7
  · exact w_c8
set_option maxRecDepth 65536 in
theorem w_t1 : (words1.take 24).all (fun c => isCode c || c.before args0 about1) = true := by decide +kernel
set_option maxRecDepth 65536 in
theorem w_t2 : (words1.drop 24).all (fun c => isCode c || c.before args0 about1) = true := by decide +kernel
theorem w_tables : (allAtoms (Jvm.Cond.code x code maxLocals ret :: tables_1)).before args0 about1 = true := by
  rw [allAtoms_all]
  show words1.all (fun c => c.before args0 about1) = true
  refine all_split ?_ w_codes
  rw [← List.take_append_drop 24 words1, List.all_append, w_t1, w_t2]
  rfl
set_option maxRecDepth 65536 in
theorem w_case : (Jvm.Cond.and given_1 narrow_1).before args0 about1 = true := by decide +kernel
theorem w_applies : (headSpec (Jvm.Cond.code x code maxLocals ret :: tables_1) room_1).applies x e0.platform about1 = true :=
  (Spec.applies_iff w_frames).mpr ⟨w_running, w_runnable, w_alone, w_named, w_hears, w_ripe, w_room, w_tables⟩
theorem atStart : AtStart classFile x code maxLocals ret World_1 tables_1 room_1 Calls_1 rest_1 Pre_1 launch0 p0 e0 about1 theMethod args0 below0 :=
  ⟨lists_1, trivial, launch0.admits_env _ _ _, launch0.least_env, fairChoices_fair.cas, fairChoices_fair.clock, w_frames, w_args, w_heap, w_applies, trivial, trivial, w_case⟩
end start1
theorem witness_1 : WitnessClaimed_1 := ⟨start1.p0, start1.e0, start1.about1, start1.theMethod, start1.args0, start1.below0, start1.atStart⟩
end Jvm.Pilot.@@N@@
