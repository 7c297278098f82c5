import JvmDerived
import JvmDerived.Pilot.@@N@@Statement
import JvmDerived.Pilot.@@N@@Code
set_option linter.unusedVariables false
set_option linter.unusedSimpArgs false
namespace Jvm.Pilot.@@N@@
open Jvm Jvm.ClassFile Sem Op Lib Jvm.Free Jvm.Stand Jvm.LawKit Jvm.RoadKit Bundle Jvm.Pilot.@@N@@.Jvm.D
section Own
variable {p : Program} {l : Launch} {e : Env} {R : Room} {s : State} {m : MethodId} {args : Array Value} {below : List Frame} {meth : Method} {c : Code} {T T' : State} {locs : List Loc} {cells slots C N : Nat} {Q : Option Value → Heap → List Loc → Prop} {g g' : JFrame}
/-- from T with the frame g on top the invocation of s comes to its end: it returns, and Q holds of what it returns, of the heap and of the places written -/
def Go (p : Program) (e : Env) (below : List Frame) (s : State) (C N : Nat) (Q : Option Value → Heap → List Loc → Prop) (T : State) (g : JFrame) : Prop :=
  ∃ s₂ o, Steps p.tables e below (T.setTop g) s₂ ∧ s₂.status = .running ∧ Ended s₂ below o ∧ ∃ v L, o = .returned v ∧ Q v s₂.heap L ∧ FrameEnd s o s₂ L C N
theorem Go.st (h : ∀ t, Steps p.tables e below (T'.setTop g') t → Steps p.tables e below (T.setTop g) t) (k : Go p e below s C N Q T' g') : Go p e below s C N Q T g := by
  obtain ⟨s2, o, h1, h2⟩ := k
  exact ⟨s2, o, h _ h1, h2⟩
theorem Go.enter (q : g = g') (k : Go p e below s C N Q T g') : ∃ s₂ o, Steps p.tables e below (T.setTop g) s₂ ∧ s₂.status = .running ∧ Ended s₂ below o ∧ ∃ v L, o = .returned v ∧ Q v s₂.heap L ∧ FrameEnd s o s₂ L C N := by
  subst q; exact k
theorem Go.fin (X : Stand p l e R s m args below meth c T locs cells slots) (hlk : meth.locks = false) {v : Option Value} (hv : meth.sig.returnType = none → v = none) (hC : cells ≤ C) (hN : slots ≤ N) (hq : Q v T.heap locs)
    (hs : ∀ fs, (∀ (f : JFrame) (acts : List Action), f.method = m → f.locked = none → f.entered = [] → (doReturn e (T.setTop f) acts v).1 = T.setFrames fs) → Steps p.tables e below (T.setTop g) (T.setFrames fs)) : Go p e below s C N Q T g := by
  obtain ⟨fs, hr, hrun, hended, hW, hsame⟩ := X.leave hv hlk
  exact ⟨_, _, hs fs hr, hrun, hended, _, _, rfl, hq, ⟨_, rfl⟩, hW, hsame.mono hC hN⟩
end Own

section OwnG
variable {p : Program} {l : Launch} {e : Env} {R : Room} {s : State} {m : MethodId} {args : Array Value} {below : List Frame} {meth : Method} {c : Code} {T : State} {locs : List Loc} {cells slots C N : Nat} {Q : Option Value → Heap → List Loc → Prop} {pc pc' : Nat} {L L' : Array Slot} {S : List Value}
theorem G_iloadN (X : Stand p l e R s m args below meth c T locs cells slots) (hx : p.tables.exec = Jvm.exec) {k : Fin 4} {v : Int32} (hp : pc + 1 = pc') (hd : decode c.code pc = .ok (.iload_n k, 1)) (hl : L[k.val]? = some (.val (.int v))) (h : Go p e below s C N Q T (mkF m pc' L (.int v :: S))) : Go p e below s C N Q T (mkF m pc L S) := by
  subst hp; exact Go.st (fun _ k => XS.iloadN X.here hx rfl hd hl k) h
theorem G_iload (X : Stand p l e R s m args below meth c T locs cells slots) (hx : p.tables.exec = Jvm.exec) {k : Nat} {v : Int32} (hp : pc + 2 = pc') (hd : decode c.code pc = .ok (.iload k, 2)) (hl : L[k]? = some (.val (.int v))) (h : Go p e below s C N Q T (mkF m pc' L (.int v :: S))) : Go p e below s C N Q T (mkF m pc L S) := by
  subst hp; exact Go.st (fun _ k => XS.iload X.here hx rfl hd hl k) h
theorem G_istoreN (X : Stand p l e R s m args below meth c T locs cells slots) (hx : p.tables.exec = Jvm.exec) {k : Fin 4} {v : Int32} (hp : pc + 1 = pc') (hd : decode c.code pc = .ok (.istore_n k, 1)) (hl : storeLocals L k.val (.int v) = some L') (h : Go p e below s C N Q T (mkF m pc' L' S)) : Go p e below s C N Q T (mkF m pc L (.int v :: S)) := by
  subst hp; exact Go.st (fun _ k => XS.istoreN X.here hx rfl hd rfl hl k) h
theorem G_istore (X : Stand p l e R s m args below meth c T locs cells slots) (hx : p.tables.exec = Jvm.exec) {k : Nat} {v : Int32} (hp : pc + 2 = pc') (hd : decode c.code pc = .ok (.istore k, 2)) (hl : storeLocals L k (.int v) = some L') (h : Go p e below s C N Q T (mkF m pc' L' S)) : Go p e below s C N Q T (mkF m pc L (.int v :: S)) := by
  subst hp; exact Go.st (fun _ k => XS.istore X.here hx rfl hd rfl hl k) h
theorem G_lloadN (X : Stand p l e R s m args below meth c T locs cells slots) (hx : p.tables.exec = Jvm.exec) {k : Fin 4} {v : Int64} (hp : pc + 1 = pc') (hd : decode c.code pc = .ok (.lload_n k, 1)) (hl : L[k.val]? = some (.val (.long v))) (h : Go p e below s C N Q T (mkF m pc' L (.long v :: S))) : Go p e below s C N Q T (mkF m pc L S) := by
  subst hp; exact Go.st (fun _ k => XS.lloadN X.here hx rfl hd hl k) h
theorem G_lload (X : Stand p l e R s m args below meth c T locs cells slots) (hx : p.tables.exec = Jvm.exec) {k : Nat} {v : Int64} (hp : pc + 2 = pc') (hd : decode c.code pc = .ok (.lload k, 2)) (hl : L[k]? = some (.val (.long v))) (h : Go p e below s C N Q T (mkF m pc' L (.long v :: S))) : Go p e below s C N Q T (mkF m pc L S) := by
  subst hp; exact Go.st (fun _ k => XS.lload X.here hx rfl hd hl k) h
theorem G_lstoreN (X : Stand p l e R s m args below meth c T locs cells slots) (hx : p.tables.exec = Jvm.exec) {k : Fin 4} {v : Int64} (hp : pc + 1 = pc') (hd : decode c.code pc = .ok (.lstore_n k, 1)) (hl : storeLocals L k.val (.long v) = some L') (h : Go p e below s C N Q T (mkF m pc' L' S)) : Go p e below s C N Q T (mkF m pc L (.long v :: S)) := by
  subst hp; exact Go.st (fun _ k => XS.lstoreN X.here hx rfl hd rfl hl k) h
theorem G_lstore (X : Stand p l e R s m args below meth c T locs cells slots) (hx : p.tables.exec = Jvm.exec) {k : Nat} {v : Int64} (hp : pc + 2 = pc') (hd : decode c.code pc = .ok (.lstore k, 2)) (hl : storeLocals L k (.long v) = some L') (h : Go p e below s C N Q T (mkF m pc' L' S)) : Go p e below s C N Q T (mkF m pc L (.long v :: S)) := by
  subst hp; exact Go.st (fun _ k => XS.lstore X.here hx rfl hd rfl hl k) h
theorem G_aloadN (X : Stand p l e R s m args below meth c T locs cells slots) (hx : p.tables.exec = Jvm.exec) {k : Fin 4} {v : Value} (hp : pc + 1 = pc') (hd : decode c.code pc = .ok (.aload_n k, 1)) (hl : L[k.val]? = some (.val v)) (hv : v.isRef = true) (h : Go p e below s C N Q T (mkF m pc' L (v :: S))) : Go p e below s C N Q T (mkF m pc L S) := by
  subst hp; exact Go.st (fun _ k => XS.aloadN X.here hx rfl hd hl hv k) h
theorem G_aload (X : Stand p l e R s m args below meth c T locs cells slots) (hx : p.tables.exec = Jvm.exec) {k : Nat} {v : Value} (hp : pc + 2 = pc') (hd : decode c.code pc = .ok (.aload k, 2)) (hl : L[k]? = some (.val v)) (hv : v.isRef = true) (h : Go p e below s C N Q T (mkF m pc' L (v :: S))) : Go p e below s C N Q T (mkF m pc L S) := by
  subst hp; exact Go.st (fun _ k => XS.aload X.here hx rfl hd hl hv k) h
theorem G_astoreN (X : Stand p l e R s m args below meth c T locs cells slots) (hx : p.tables.exec = Jvm.exec) {k : Fin 4} {v : Value} (hp : pc + 1 = pc') (hd : decode c.code pc = .ok (.astore_n k, 1)) (hv : v.isRef = true) (hl : storeLocals L k.val v = some L') (h : Go p e below s C N Q T (mkF m pc' L' S)) : Go p e below s C N Q T (mkF m pc L (v :: S)) := by
  subst hp; exact Go.st (fun _ k => XS.astoreN X.here hx rfl hd rfl hv hl k) h
theorem G_astore (X : Stand p l e R s m args below meth c T locs cells slots) (hx : p.tables.exec = Jvm.exec) {k : Nat} {v : Value} (hp : pc + 2 = pc') (hd : decode c.code pc = .ok (.astore k, 2)) (hv : v.isRef = true) (hl : storeLocals L k v = some L') (h : Go p e below s C N Q T (mkF m pc' L' S)) : Go p e below s C N Q T (mkF m pc L (v :: S)) := by
  subst hp; exact Go.st (fun _ k => XS.astore X.here hx rfl hd rfl hv hl k) h
theorem G_iconst (X : Stand p l e R s m args below meth c T locs cells slots) (hx : p.tables.exec = Jvm.exec) {i : Int} {z : Int32} (hp : pc + 1 = pc') (hd : decode c.code pc = .ok (.iconst i, 1)) (hz : Int32.ofInt i = z) (h : Go p e below s C N Q T (mkF m pc' L (.int z :: S))) : Go p e below s C N Q T (mkF m pc L S) := by
  subst hp; exact Go.st (fun _ k => XS.iconst X.here hx rfl hd (by rw [hz]; exact k)) h
theorem G_bipush (X : Stand p l e R s m args below meth c T locs cells slots) (hx : p.tables.exec = Jvm.exec) {i : Int} {z : Int32} (hp : pc + 2 = pc') (hd : decode c.code pc = .ok (.bipush i, 2)) (hz : (Int8.ofInt i).toInt32 = z) (h : Go p e below s C N Q T (mkF m pc' L (.int z :: S))) : Go p e below s C N Q T (mkF m pc L S) := by
  subst hp; exact Go.st (fun _ k => XS.bipush X.here hx rfl hd (by rw [hz]; exact k)) h
theorem G_sipush (X : Stand p l e R s m args below meth c T locs cells slots) (hx : p.tables.exec = Jvm.exec) {i : Int} {z : Int32} (hp : pc + 3 = pc') (hd : decode c.code pc = .ok (.sipush i, 3)) (hz : (Int16.ofInt i).toInt32 = z) (h : Go p e below s C N Q T (mkF m pc' L (.int z :: S))) : Go p e below s C N Q T (mkF m pc L S) := by
  subst hp; exact Go.st (fun _ k => XS.sipush X.here hx rfl hd (by rw [hz]; exact k)) h
theorem G_lconst (X : Stand p l e R s m args below meth c T locs cells slots) (hx : p.tables.exec = Jvm.exec) {i : Fin 2} {z : Int64} (hp : pc + 1 = pc') (hd : decode c.code pc = .ok (.lconst i, 1)) (hz : Int64.ofNat i = z) (h : Go p e below s C N Q T (mkF m pc' L (.long z :: S))) : Go p e below s C N Q T (mkF m pc L S) := by
  subst hp; exact Go.st (fun _ k => XS.lconst X.here hx rfl hd (by rw [hz]; exact k)) h
theorem G_aconstNull (X : Stand p l e R s m args below meth c T locs cells slots) (hx : p.tables.exec = Jvm.exec)  (hp : pc + 1 = pc') (hd : decode c.code pc = .ok (.aconst_null, 1))  (h : Go p e below s C N Q T (mkF m pc' L (.null :: S))) : Go p e below s C N Q T (mkF m pc L S) := by
  subst hp; exact Go.st (fun _ k => XS.aconstNull X.here hx rfl hd k) h
theorem G_iadd (X : Stand p l e R s m args below meth c T locs cells slots) (hx : p.tables.exec = Jvm.exec) {x y : Int32} (hp : pc + 1 = pc') (hd : decode c.code pc = .ok (.iadd, 1))  (h : Go p e below s C N Q T (mkF m pc' L (.int (x + y) :: S))) : Go p e below s C N Q T (mkF m pc L (.int y :: .int x :: S)) := by
  subst hp; exact Go.st (fun _ k => XS.iadd X.here hx rfl hd rfl k) h
theorem G_isub (X : Stand p l e R s m args below meth c T locs cells slots) (hx : p.tables.exec = Jvm.exec) {x y : Int32} (hp : pc + 1 = pc') (hd : decode c.code pc = .ok (.isub, 1))  (h : Go p e below s C N Q T (mkF m pc' L (.int (x - y) :: S))) : Go p e below s C N Q T (mkF m pc L (.int y :: .int x :: S)) := by
  subst hp; exact Go.st (fun _ k => XS.isub X.here hx rfl hd rfl k) h
theorem G_imul (X : Stand p l e R s m args below meth c T locs cells slots) (hx : p.tables.exec = Jvm.exec) {x y : Int32} (hp : pc + 1 = pc') (hd : decode c.code pc = .ok (.imul, 1))  (h : Go p e below s C N Q T (mkF m pc' L (.int (x * y) :: S))) : Go p e below s C N Q T (mkF m pc L (.int y :: .int x :: S)) := by
  subst hp; exact Go.st (fun _ k => XS.imul X.here hx rfl hd rfl k) h
theorem G_iand (X : Stand p l e R s m args below meth c T locs cells slots) (hx : p.tables.exec = Jvm.exec) {x y : Int32} (hp : pc + 1 = pc') (hd : decode c.code pc = .ok (.iand, 1))  (h : Go p e below s C N Q T (mkF m pc' L (.int (x &&& y) :: S))) : Go p e below s C N Q T (mkF m pc L (.int y :: .int x :: S)) := by
  subst hp; exact Go.st (fun _ k => XS.iand X.here hx rfl hd rfl k) h
theorem G_ior (X : Stand p l e R s m args below meth c T locs cells slots) (hx : p.tables.exec = Jvm.exec) {x y : Int32} (hp : pc + 1 = pc') (hd : decode c.code pc = .ok (.ior, 1))  (h : Go p e below s C N Q T (mkF m pc' L (.int (x ||| y) :: S))) : Go p e below s C N Q T (mkF m pc L (.int y :: .int x :: S)) := by
  subst hp; exact Go.st (fun _ k => XS.ior X.here hx rfl hd rfl k) h
theorem G_ixor (X : Stand p l e R s m args below meth c T locs cells slots) (hx : p.tables.exec = Jvm.exec) {x y : Int32} (hp : pc + 1 = pc') (hd : decode c.code pc = .ok (.ixor, 1))  (h : Go p e below s C N Q T (mkF m pc' L (.int (x ^^^ y) :: S))) : Go p e below s C N Q T (mkF m pc L (.int y :: .int x :: S)) := by
  subst hp; exact Go.st (fun _ k => XS.ixor X.here hx rfl hd rfl k) h
theorem G_ishl (X : Stand p l e R s m args below meth c T locs cells slots) (hx : p.tables.exec = Jvm.exec) {x y : Int32} (hp : pc + 1 = pc') (hd : decode c.code pc = .ok (.ishl, 1))  (h : Go p e below s C N Q T (mkF m pc' L (.int (x <<< (y &&& 31)) :: S))) : Go p e below s C N Q T (mkF m pc L (.int y :: .int x :: S)) := by
  subst hp; exact Go.st (fun _ k => XS.ishl X.here hx rfl hd rfl k) h
theorem G_ishr (X : Stand p l e R s m args below meth c T locs cells slots) (hx : p.tables.exec = Jvm.exec) {x y : Int32} (hp : pc + 1 = pc') (hd : decode c.code pc = .ok (.ishr, 1))  (h : Go p e below s C N Q T (mkF m pc' L (.int (x >>> (y &&& 31)) :: S))) : Go p e below s C N Q T (mkF m pc L (.int y :: .int x :: S)) := by
  subst hp; exact Go.st (fun _ k => XS.ishr X.here hx rfl hd rfl k) h
theorem G_iushr (X : Stand p l e R s m args below meth c T locs cells slots) (hx : p.tables.exec = Jvm.exec) {x y : Int32} (hp : pc + 1 = pc') (hd : decode c.code pc = .ok (.iushr, 1))  (h : Go p e below s C N Q T (mkF m pc' L (.int ((x.toUInt32 >>> (y &&& 31).toUInt32).toInt32) :: S))) : Go p e below s C N Q T (mkF m pc L (.int y :: .int x :: S)) := by
  subst hp; exact Go.st (fun _ k => XS.iushr X.here hx rfl hd rfl k) h
theorem G_ladd (X : Stand p l e R s m args below meth c T locs cells slots) (hx : p.tables.exec = Jvm.exec) {x y : Int64} (hp : pc + 1 = pc') (hd : decode c.code pc = .ok (.ladd, 1))  (h : Go p e below s C N Q T (mkF m pc' L (.long (x + y) :: S))) : Go p e below s C N Q T (mkF m pc L (.long y :: .long x :: S)) := by
  subst hp; exact Go.st (fun _ k => XS.ladd X.here hx rfl hd rfl k) h
theorem G_lsub (X : Stand p l e R s m args below meth c T locs cells slots) (hx : p.tables.exec = Jvm.exec) {x y : Int64} (hp : pc + 1 = pc') (hd : decode c.code pc = .ok (.lsub, 1))  (h : Go p e below s C N Q T (mkF m pc' L (.long (x - y) :: S))) : Go p e below s C N Q T (mkF m pc L (.long y :: .long x :: S)) := by
  subst hp; exact Go.st (fun _ k => XS.lsub X.here hx rfl hd rfl k) h
theorem G_lmul (X : Stand p l e R s m args below meth c T locs cells slots) (hx : p.tables.exec = Jvm.exec) {x y : Int64} (hp : pc + 1 = pc') (hd : decode c.code pc = .ok (.lmul, 1))  (h : Go p e below s C N Q T (mkF m pc' L (.long (x * y) :: S))) : Go p e below s C N Q T (mkF m pc L (.long y :: .long x :: S)) := by
  subst hp; exact Go.st (fun _ k => XS.lmul X.here hx rfl hd rfl k) h
theorem G_land (X : Stand p l e R s m args below meth c T locs cells slots) (hx : p.tables.exec = Jvm.exec) {x y : Int64} (hp : pc + 1 = pc') (hd : decode c.code pc = .ok (.land, 1))  (h : Go p e below s C N Q T (mkF m pc' L (.long (x &&& y) :: S))) : Go p e below s C N Q T (mkF m pc L (.long y :: .long x :: S)) := by
  subst hp; exact Go.st (fun _ k => XS.land X.here hx rfl hd rfl k) h
theorem G_lor (X : Stand p l e R s m args below meth c T locs cells slots) (hx : p.tables.exec = Jvm.exec) {x y : Int64} (hp : pc + 1 = pc') (hd : decode c.code pc = .ok (.lor, 1))  (h : Go p e below s C N Q T (mkF m pc' L (.long (x ||| y) :: S))) : Go p e below s C N Q T (mkF m pc L (.long y :: .long x :: S)) := by
  subst hp; exact Go.st (fun _ k => XS.lor X.here hx rfl hd rfl k) h
theorem G_lxor (X : Stand p l e R s m args below meth c T locs cells slots) (hx : p.tables.exec = Jvm.exec) {x y : Int64} (hp : pc + 1 = pc') (hd : decode c.code pc = .ok (.lxor, 1))  (h : Go p e below s C N Q T (mkF m pc' L (.long (x ^^^ y) :: S))) : Go p e below s C N Q T (mkF m pc L (.long y :: .long x :: S)) := by
  subst hp; exact Go.st (fun _ k => XS.lxor X.here hx rfl hd rfl k) h
theorem G_lshl (X : Stand p l e R s m args below meth c T locs cells slots) (hx : p.tables.exec = Jvm.exec) {x : Int64} {y : Int32} (hp : pc + 1 = pc') (hd : decode c.code pc = .ok (.lshl, 1))  (h : Go p e below s C N Q T (mkF m pc' L (.long (x <<< (y &&& 0x3f).toInt64) :: S))) : Go p e below s C N Q T (mkF m pc L (.int y :: .long x :: S)) := by
  subst hp; exact Go.st (fun _ k => XS.lshl X.here hx rfl hd rfl k) h
theorem G_lshr (X : Stand p l e R s m args below meth c T locs cells slots) (hx : p.tables.exec = Jvm.exec) {x : Int64} {y : Int32} (hp : pc + 1 = pc') (hd : decode c.code pc = .ok (.lshr, 1))  (h : Go p e below s C N Q T (mkF m pc' L (.long (x >>> (y &&& 0x3f).toInt64) :: S))) : Go p e below s C N Q T (mkF m pc L (.int y :: .long x :: S)) := by
  subst hp; exact Go.st (fun _ k => XS.lshr X.here hx rfl hd rfl k) h
theorem G_lushr (X : Stand p l e R s m args below meth c T locs cells slots) (hx : p.tables.exec = Jvm.exec) {x : Int64} {y : Int32} (hp : pc + 1 = pc') (hd : decode c.code pc = .ok (.lushr, 1))  (h : Go p e below s C N Q T (mkF m pc' L (.long ((x.toUInt64 >>> (y &&& 0x3f).toInt64.toUInt64).toInt64) :: S))) : Go p e below s C N Q T (mkF m pc L (.int y :: .long x :: S)) := by
  subst hp; exact Go.st (fun _ k => XS.lushr X.here hx rfl hd rfl k) h
theorem G_idiv (X : Stand p l e R s m args below meth c T locs cells slots) (hx : p.tables.exec = Jvm.exec) {x y : Int32} (hp : pc + 1 = pc') (hd : decode c.code pc = .ok (.idiv, 1)) (hy : y ≠ 0) (h : Go p e below s C N Q T (mkF m pc' L (.int (x / y) :: S))) : Go p e below s C N Q T (mkF m pc L (.int y :: .int x :: S)) := by
  subst hp; exact Go.st (fun _ k => XS.idiv X.here hx rfl hd rfl hy k) h
theorem G_irem (X : Stand p l e R s m args below meth c T locs cells slots) (hx : p.tables.exec = Jvm.exec) {x y : Int32} (hp : pc + 1 = pc') (hd : decode c.code pc = .ok (.irem, 1)) (hy : y ≠ 0) (h : Go p e below s C N Q T (mkF m pc' L (.int (x % y) :: S))) : Go p e below s C N Q T (mkF m pc L (.int y :: .int x :: S)) := by
  subst hp; exact Go.st (fun _ k => iremM X hx rfl hd rfl hy k) h
theorem G_ldiv (X : Stand p l e R s m args below meth c T locs cells slots) (hx : p.tables.exec = Jvm.exec) {x y : Int64} (hp : pc + 1 = pc') (hd : decode c.code pc = .ok (.ldiv, 1)) (hy : y ≠ 0) (h : Go p e below s C N Q T (mkF m pc' L (.long (x / y) :: S))) : Go p e below s C N Q T (mkF m pc L (.long y :: .long x :: S)) := by
  subst hp; exact Go.st (fun _ k => XS.ldiv X.here hx rfl hd rfl hy k) h
theorem G_lrem (X : Stand p l e R s m args below meth c T locs cells slots) (hx : p.tables.exec = Jvm.exec) {x y : Int64} (hp : pc + 1 = pc') (hd : decode c.code pc = .ok (.lrem, 1)) (hy : y ≠ 0) (h : Go p e below s C N Q T (mkF m pc' L (.long (x % y) :: S))) : Go p e below s C N Q T (mkF m pc L (.long y :: .long x :: S)) := by
  subst hp; exact Go.st (fun _ k => XS.lrem X.here hx rfl hd rfl hy (by rw [lrem_mod]; exact k)) h
theorem G_ineg (X : Stand p l e R s m args below meth c T locs cells slots) (hx : p.tables.exec = Jvm.exec) {x : Int32} (hp : pc + 1 = pc') (hd : decode c.code pc = .ok (.ineg, 1))  (h : Go p e below s C N Q T (mkF m pc' L (.int (-x) :: S))) : Go p e below s C N Q T (mkF m pc L (.int x :: S)) := by
  subst hp; exact Go.st (fun _ k => XS.ineg X.here hx rfl hd rfl k) h
theorem G_lneg (X : Stand p l e R s m args below meth c T locs cells slots) (hx : p.tables.exec = Jvm.exec) {x : Int64} (hp : pc + 1 = pc') (hd : decode c.code pc = .ok (.lneg, 1))  (h : Go p e below s C N Q T (mkF m pc' L (.long (-x) :: S))) : Go p e below s C N Q T (mkF m pc L (.long x :: S)) := by
  subst hp; exact Go.st (fun _ k => XS.lneg X.here hx rfl hd rfl k) h
theorem G_i2l (X : Stand p l e R s m args below meth c T locs cells slots) (hx : p.tables.exec = Jvm.exec) {x : Int32} (hp : pc + 1 = pc') (hd : decode c.code pc = .ok (.i2l, 1))  (h : Go p e below s C N Q T (mkF m pc' L (.long (x.toInt64) :: S))) : Go p e below s C N Q T (mkF m pc L (.int x :: S)) := by
  subst hp; exact Go.st (fun _ k => XS.i2l X.here hx rfl hd rfl k) h
theorem G_l2i (X : Stand p l e R s m args below meth c T locs cells slots) (hx : p.tables.exec = Jvm.exec) {x : Int64} (hp : pc + 1 = pc') (hd : decode c.code pc = .ok (.l2i, 1))  (h : Go p e below s C N Q T (mkF m pc' L (.int (x.toInt32) :: S))) : Go p e below s C N Q T (mkF m pc L (.long x :: S)) := by
  subst hp; exact Go.st (fun _ k => XS.l2i X.here hx rfl hd rfl k) h
theorem G_i2b (X : Stand p l e R s m args below meth c T locs cells slots) (hx : p.tables.exec = Jvm.exec) {x : Int32} (hp : pc + 1 = pc') (hd : decode c.code pc = .ok (.i2b, 1))  (h : Go p e below s C N Q T (mkF m pc' L (.int (x.toInt8.toInt32) :: S))) : Go p e below s C N Q T (mkF m pc L (.int x :: S)) := by
  subst hp; exact Go.st (fun _ k => XS.i2b X.here hx rfl hd rfl k) h
theorem G_i2s (X : Stand p l e R s m args below meth c T locs cells slots) (hx : p.tables.exec = Jvm.exec) {x : Int32} (hp : pc + 1 = pc') (hd : decode c.code pc = .ok (.i2s, 1))  (h : Go p e below s C N Q T (mkF m pc' L (.int (x.toInt16.toInt32) :: S))) : Go p e below s C N Q T (mkF m pc L (.int x :: S)) := by
  subst hp; exact Go.st (fun _ k => XS.i2s X.here hx rfl hd rfl k) h
theorem G_i2c (X : Stand p l e R s m args below meth c T locs cells slots) (hx : p.tables.exec = Jvm.exec) {x : Int32} (hp : pc + 1 = pc') (hd : decode c.code pc = .ok (.i2c, 1))  (h : Go p e below s C N Q T (mkF m pc' L (.int (x.toUInt32.toUInt16.toUInt32.toInt32) :: S))) : Go p e below s C N Q T (mkF m pc L (.int x :: S)) := by
  subst hp; exact Go.st (fun _ k => XS.i2c X.here hx rfl hd rfl k) h
theorem G_lcmp (X : Stand p l e R s m args below meth c T locs cells slots) (hx : p.tables.exec = Jvm.exec) {x y : Int64} (hp : pc + 1 = pc') (hd : decode c.code pc = .ok (.lcmp, 1))  (h : Go p e below s C N Q T (mkF m pc' L (.int (lcmpW x y) :: S))) : Go p e below s C N Q T (mkF m pc L (.long y :: .long x :: S)) := by
  subst hp; exact Go.st (fun _ k => XS.lcmp X.here hx rfl hd rfl k) h
theorem G_iinc (X : Stand p l e R s m args below meth c T locs cells slots) (hx : p.tables.exec = Jvm.exec) {k : Nat} {cst : Int} {x z : Int32} (hp : pc + 3 = pc') (hd : decode c.code pc = .ok (.iinc k cst, 3)) (hl : L[k]? = some (.val (.int x))) (hz : x + Int32.ofInt cst = z) (hl' : storeLocals L k (.int z) = some L') (h : Go p e below s C N Q T (mkF m pc' L' S)) : Go p e below s C N Q T (mkF m pc L S) := by
  subst hp; exact Go.st (fun _ k => XS.iinc X.here hx rfl hd hl (by rw [hz]; exact hl') k) h
theorem G_dup (X : Stand p l e R s m args below meth c T locs cells slots) (hx : p.tables.exec = Jvm.exec) {x : Value} (hp : pc + 1 = pc') (hd : decode c.code pc = .ok (.dup, 1)) (hc : x.category = 1) (h : Go p e below s C N Q T (mkF m pc' L (x :: x :: S))) : Go p e below s C N Q T (mkF m pc L (x :: S)) := by
  subst hp; exact Go.st (fun _ k => XS.dup X.here hx rfl hd rfl hc k) h
theorem G_pop (X : Stand p l e R s m args below meth c T locs cells slots) (hx : p.tables.exec = Jvm.exec) {x : Value} (hp : pc + 1 = pc') (hd : decode c.code pc = .ok (.pop, 1)) (hc : x.category = 1) (h : Go p e below s C N Q T (mkF m pc' L S)) : Go p e below s C N Q T (mkF m pc L (x :: S)) := by
  subst hp; exact Go.st (fun _ k => XS.pop X.here hx rfl hd rfl hc k) h
theorem G_dupX1 (X : Stand p l e R s m args below meth c T locs cells slots) (hx : p.tables.exec = Jvm.exec) {x y : Value} (hp : pc + 1 = pc') (hd : decode c.code pc = .ok (.dup_x1, 1)) (hc : x.category = 1) (hc' : y.category = 1) (h : Go p e below s C N Q T (mkF m pc' L (x :: y :: x :: S))) : Go p e below s C N Q T (mkF m pc L (x :: y :: S)) := by
  subst hp; exact Go.st (fun _ k => XS.dupX1 X.here hx rfl hd rfl hc hc' k) h
theorem G_goto (X : Stand p l e R s m args below meth c T locs cells slots) (hx : p.tables.exec = Jvm.exec)  {o : Int} (hd : decode c.code pc = .ok (.goto o, 3))  (ho : 0 ≤ (pc : Int) + o) (hp : ((pc : Int) + o).toNat = pc') (h : Go p e below s C N Q T (mkF m pc' L S)) : Go p e below s C N Q T (mkF m pc L S) :=
  Go.st (fun _ k => XS.goto X.here hx rfl rfl hd ho hp k) h
theorem G_ifYes (X : Stand p l e R s m args below meth c T locs cells slots) (hx : p.tables.exec = Jvm.exec) {cd : ClassFile.Cond} {x : Int32} {o : Int} (hd : decode c.code pc = .ok (.ifCond cd o, 3)) (hc : ifCond.holds cd x = true) (ho : 0 ≤ (pc : Int) + o) (hp : ((pc : Int) + o).toNat = pc') (h : Go p e below s C N Q T (mkF m pc' L S)) : Go p e below s C N Q T (mkF m pc L (.int x :: S)) :=
  Go.st (fun _ k => XS.ifYes X.here hx rfl rfl hd rfl hc ho hp k) h
theorem G_icmpYes (X : Stand p l e R s m args below meth c T locs cells slots) (hx : p.tables.exec = Jvm.exec) {cd : ClassFile.Cond} {x y : Int32} {o : Int} (hd : decode c.code pc = .ok (.if_icmp cd o, 3)) (hc : if_icmp.holds cd x y = true) (ho : 0 ≤ (pc : Int) + o) (hp : ((pc : Int) + o).toNat = pc') (h : Go p e below s C N Q T (mkF m pc' L S)) : Go p e below s C N Q T (mkF m pc L (.int y :: .int x :: S)) :=
  Go.st (fun _ k => XS.icmpYes X.here hx rfl rfl hd rfl hc ho hp k) h
theorem G_ifnullYes (X : Stand p l e R s m args below meth c T locs cells slots) (hx : p.tables.exec = Jvm.exec)  {o : Int} (hd : decode c.code pc = .ok (.ifnull o, 3))  (ho : 0 ≤ (pc : Int) + o) (hp : ((pc : Int) + o).toNat = pc') (h : Go p e below s C N Q T (mkF m pc' L S)) : Go p e below s C N Q T (mkF m pc L (.null :: S)) :=
  Go.st (fun _ k => XS.ifnullYes X.here hx rfl rfl hd rfl ho hp k) h
theorem G_ifnonnullYes (X : Stand p l e R s m args below meth c T locs cells slots) (hx : p.tables.exec = Jvm.exec) {b : Addr} {o : Int} (hd : decode c.code pc = .ok (.ifnonnull o, 3))  (ho : 0 ≤ (pc : Int) + o) (hp : ((pc : Int) + o).toNat = pc') (h : Go p e below s C N Q T (mkF m pc' L S)) : Go p e below s C N Q T (mkF m pc L (.ref b :: S)) :=
  Go.st (fun _ k => XS.ifnonnullYes X.here hx rfl rfl hd rfl ho hp k) h
theorem G_ifNo (X : Stand p l e R s m args below meth c T locs cells slots) (hx : p.tables.exec = Jvm.exec) {cd : ClassFile.Cond} {x : Int32} {o : Int} (hp : pc + 3 = pc') (hd : decode c.code pc = .ok (.ifCond cd o, 3)) (hc : ifCond.holds cd x = false) (h : Go p e below s C N Q T (mkF m pc' L S)) : Go p e below s C N Q T (mkF m pc L (.int x :: S)) := by
  subst hp; exact Go.st (fun _ k => XS.ifNo X.here hx rfl hd rfl hc k) h
theorem G_icmpNo (X : Stand p l e R s m args below meth c T locs cells slots) (hx : p.tables.exec = Jvm.exec) {cd : ClassFile.Cond} {x y : Int32} {o : Int} (hp : pc + 3 = pc') (hd : decode c.code pc = .ok (.if_icmp cd o, 3)) (hc : if_icmp.holds cd x y = false) (h : Go p e below s C N Q T (mkF m pc' L S)) : Go p e below s C N Q T (mkF m pc L (.int y :: .int x :: S)) := by
  subst hp; exact Go.st (fun _ k => XS.icmpNo X.here hx rfl hd rfl hc k) h
theorem G_ifnullNo (X : Stand p l e R s m args below meth c T locs cells slots) (hx : p.tables.exec = Jvm.exec) {b : Addr} {o : Int} (hp : pc + 3 = pc') (hd : decode c.code pc = .ok (.ifnull o, 3))  (h : Go p e below s C N Q T (mkF m pc' L S)) : Go p e below s C N Q T (mkF m pc L (.ref b :: S)) := by
  subst hp; exact Go.st (fun _ k => XS.ifnullNo X.here hx rfl hd rfl k) h
theorem G_ifnonnullNo (X : Stand p l e R s m args below meth c T locs cells slots) (hx : p.tables.exec = Jvm.exec) {o : Int} (hp : pc + 3 = pc') (hd : decode c.code pc = .ok (.ifnonnull o, 3))  (h : Go p e below s C N Q T (mkF m pc' L S)) : Go p e below s C N Q T (mkF m pc L (.null :: S)) := by
  subst hp; exact Go.st (fun _ k => XS.ifnonnullNo X.here hx rfl hd rfl k) h
theorem G_ldc (X : Stand p l e R s m args below meth c T locs cells slots) (hx : p.tables.exec = Jvm.exec) (hp : pc + 2 = pc') {own : String} {index : Nat} {v : Int32} (hown : s.vm.findClass own = some m.cls) (hw : (Cond.constant own index v).before args s = true) (hd : decode c.code pc = .ok (.ldc index, 2)) (h : Go p e below s C N Q T (mkF m pc' L (.int v :: S))) : Go p e below s C N Q T (mkF m pc L S) := by
  subst hp; exact Go.st (X.ldcInt hx hown hw (g := mkF m pc L S) rfl hd) h
theorem G_ldc2 (X : Stand p l e R s m args below meth c T locs cells slots) (hx : p.tables.exec = Jvm.exec) (hp : pc + 3 = pc') {own : String} {index : Nat} {v : Int64} (hown : s.vm.findClass own = some m.cls) (hw : (Cond.constantLong own index v).before args s = true) (hd : decode c.code pc = .ok (.ldc2_w index, 3)) (h : Go p e below s C N Q T (mkF m pc' L (.long v :: S))) : Go p e below s C N Q T (mkF m pc L S) := by
  subst hp; exact Go.st (X.ldc2Long hx hown hw (g := mkF m pc L S) rfl hd) h
end OwnG

section OwnArr
variable {p : Program} {l : Launch} {e : Env} {R : Room} {s : State} {m : MethodId} {args : Array Value} {below : List Frame} {meth : Method} {c : Code} {T T' : State} {locs : List Loc} {cells slots : Nat} {Z : State} {a0 : Array Value} {h h' : Heap} {a b : Addr} {ty : FieldType} {vs : List Value} {xs : List Int32} {ys : List Int64} {v : Value} {sl : Nat} {ws : List Addr}
/-- the array at a, of components ty, holds just these values -/
def AV (Z : State) (h : Heap) (a : Addr) (ty : FieldType) (vs : List Value) : Prop := ∃ c : Cell, Arr Z h a c ty ∧ c.slots = vs.toArray ∧ vs.length < 2147483648 ∧ ∀ v ∈ vs, fits ty v = true
def AI (Z : State) (h : Heap) (a : Addr) (ty : FieldType) (xs : List Int32) : Prop := AV Z h a ty (xs.map Value.int)
def AJ (Z : State) (h : Heap) (a : Addr) (ys : List Int64) : Prop := AV Z h a .long (ys.map Value.long)
theorem AV.lt (F : AV Z h a ty vs) : a < h.size := by obtain ⟨c, A, -⟩ := F; exact A.lt
theorem AV.ext (F : AV Z h a ty vs) (E : Ext h h') : AV Z h' a ty vs := by obtain ⟨c, A, r⟩ := F; exact ⟨c, A.ext E, r⟩
theorem AV.other (F : AV Z h b ty vs) (W : Wr h h' a sl v) (q : b ≠ a) : AV Z h' b ty vs := by obtain ⟨c, A, r⟩ := F; exact ⟨c, A.other W q, r⟩
theorem AV.keep (F : AV Z h a ty vs) (K : Keep h h' ws) (q : a ∉ ws) : AV Z h' a ty vs := by obtain ⟨c, A, r⟩ := F; exact ⟨c, ⟨K.2.1 a c A.1 q, A.2⟩, r⟩
theorem AI.lt (F : AI Z h a ty xs) : a < h.size := AV.lt F
theorem AI.ext (F : AI Z h a ty xs) (E : Ext h h') : AI Z h' a ty xs := AV.ext F E
theorem AI.other (F : AI Z h b ty xs) (W : Wr h h' a sl v) (q : b ≠ a) : AI Z h' b ty xs := AV.other F W q
theorem AI.keep (F : AI Z h a ty xs) (K : Keep h h' ws) (q : a ∉ ws) : AI Z h' a ty xs := AV.keep F K q
theorem AJ.lt (F : AJ Z h a ys) : a < h.size := AV.lt F
theorem AJ.ext (F : AJ Z h a ys) (E : Ext h h') : AJ Z h' a ys := AV.ext F E
theorem AJ.other (F : AJ Z h b ys) (W : Wr h h' a sl v) (q : b ≠ a) : AJ Z h' b ys := AV.other F W q
theorem AJ.keep (F : AJ Z h a ys) (K : Keep h h' ws) (q : a ∉ ws) : AJ Z h' a ys := AV.keep F K q
theorem own_in {j : Int32} {n : Nat} (h1 : ¬ j < 0) (h2 : j.toNatClampNeg < n) : ¬ (j < 0 ∨ n ≤ j.toNatClampNeg) := fun q => q.elim h1 (fun r => by omega)
theorem AV.new {k : ClassId} {n : Int32} (A : Arr Z h a (newA k ty n) ty) (q : ¬ n < 0) (hf : fits ty (defaultValue ty) = true) : AV Z h a ty (List.replicate n.toNatClampNeg (defaultValue ty)) := by
  refine ⟨_, A, by simp [newA], ?_, fun v hv => ?_⟩
  · rw [List.length_replicate]; exact (back32 q).2
  · rw [List.eq_of_mem_replicate hv]; exact hf
theorem AV.set {cl : Cell} {jn : Nat} (A : Arr Z h a cl ty) (e1 : cl.slots = vs.toArray) (e2 : vs.length < 2147483648) (e3 : ∀ v ∈ vs, fits ty v = true) (hv : fits ty v = true) (W : Wr h h' a jn v) : AV Z h' a ty (vs.set jn v) := by
  refine ⟨cl.setSlot jn v, A.same W, ?_, by rw [List.length_set]; exact e2, fun w hw => ?_⟩
  · simp [Cell.setSlot, e1]
  · rcases List.mem_or_eq_of_mem_set hw with q | q
    · exact e3 w q
    · rw [q]; exact hv
theorem newAI (X : Stand p l e R s m args below meth c T locs cells slots) (hx : p.tables.exec = Jvm.exec) (hZ : Z.Warmed39 s.vm) {aty : ArrayType} (w : (Cond.arrayClass (newarray.typeOf aty)).before a0 Z = true) (eT : T.heap = h) {g : JFrame} (hg : g.method = m) (hd : decode c.code g.pc = .ok (.newarray aty, 2)) {n : Int32} {rest : List Value} (hs : g.stack = .int n :: rest)
    (hn : ¬ n < 0) {ty : FieldType} (hty : newarray.typeOf aty = ty) (hdv : defaultValue ty = .int 0 ∧ fits ty (.int 0) = true) {cap : Nat} (hcap : n.toNatClampNeg ≤ cap) (hb : cap * 8 ≤ 536870912) (hc : cells + 1 ≤ R.cells) (hl : slots + cap ≤ R.slots) {ad : String} (had : "[" ++ (newarray.typeOf aty).toString = ad) :
    ∃ T' h', Stand p l e R s m args below meth c T' locs (cells + 1) (slots + cap) ∧ T'.heap = h' ∧ Ext h h' ∧ Exa Z h' h.size ad ∧ AI Z h' h.size ty (List.replicate n.toNatClampNeg 0) ∧
      ∀ target, Steps p.tables e below (T'.setTop { g with pc := g.pc + 2, stack := .ref h.size :: rest }) target → Steps p.tables e below (T.setTop g) target := by
  subst hty
  obtain ⟨T', h', cA, X', e', E', A', B', st⟩ := newPE X hx hZ w eT hg hd hs hn hcap hb hc hl had
  have V := AV.new A' hn (by rw [hdv.1]; exact hdv.2)
  refine ⟨T', h', X', e', E', B', ?_, st⟩
  unfold AI
  rw [List.map_replicate, ← hdv.1]
  exact V
theorem newAJ (X : Stand p l e R s m args below meth c T locs cells slots) (hx : p.tables.exec = Jvm.exec) (hZ : Z.Warmed39 s.vm) (w : (Cond.arrayClass .long).before a0 Z = true) (eT : T.heap = h) {g : JFrame} (hg : g.method = m) (hd : decode c.code g.pc = .ok (.newarray .long, 2)) {n : Int32} {rest : List Value} (hs : g.stack = .int n :: rest)
    (hn : ¬ n < 0) {cap : Nat} (hcap : n.toNatClampNeg ≤ cap) (hb : cap * 8 ≤ 536870912) (hc : cells + 1 ≤ R.cells) (hl : slots + cap ≤ R.slots) {ad : String} (had : "[" ++ (newarray.typeOf .long).toString = ad) :
    ∃ T' h', Stand p l e R s m args below meth c T' locs (cells + 1) (slots + cap) ∧ T'.heap = h' ∧ Ext h h' ∧ Exa Z h' h.size ad ∧ AJ Z h' h.size (List.replicate n.toNatClampNeg 0) ∧
      ∀ target, Steps p.tables e below (T'.setTop { g with pc := g.pc + 2, stack := .ref h.size :: rest }) target → Steps p.tables e below (T.setTop g) target := by
  obtain ⟨T', h', cA, X', e', E', A', B', st⟩ := newPE X hx hZ (aty := .long) w eT hg hd hs hn hcap hb hc hl had
  have V := AV.new A' hn rfl
  refine ⟨T', h', X', e', E', B', ?_, st⟩
  unfold AJ
  rw [List.map_replicate]
  exact V
theorem own_len {n : Nat} (h : n < 2147483648) : n.toInt32 = Int32.ofNat n := rfl
theorem lenAV (X : Stand p l e R s m args below meth c T locs cells slots) (hx : p.tables.exec = Jvm.exec) (hZ : Z.Warmed39 s.vm) (eT : T.heap = h) (A : AV Z h a ty vs) {g : JFrame} (hg : g.method = m) {rest : List Value} (hs : g.stack = .ref a :: rest) (hd : decode c.code g.pc = .ok (.arraylength, 1)) :
    ∀ target, Steps p.tables e below (T.setTop { g with pc := g.pc + 1, stack := .int (Int32.ofNat vs.length) :: rest }) target → Steps p.tables e below (T.setTop g) target := by
  obtain ⟨cl, A, e1, e2, e3⟩ := A
  intro target k
  have hl : cl.slots.size.toInt32 = Int32.ofNat vs.length := by rw [e1]; rfl
  refine X.arraylength hx (cell := cl) (by rw [eT]; exact A.1) (State.isArrayOf_alike hZ.alike A.2.1) hg hs hd _ ?_
  rw [hl]; exact k
theorem lenAI (X : Stand p l e R s m args below meth c T locs cells slots) (hx : p.tables.exec = Jvm.exec) (hZ : Z.Warmed39 s.vm) (eT : T.heap = h) (A : AI Z h a ty xs) {g : JFrame} (hg : g.method = m) {rest : List Value} (hs : g.stack = .ref a :: rest) (hd : decode c.code g.pc = .ok (.arraylength, 1)) :
    ∀ target, Steps p.tables e below (T.setTop { g with pc := g.pc + 1, stack := .int (Int32.ofNat xs.length) :: rest }) target → Steps p.tables e below (T.setTop g) target := by
  have k := lenAV X hx hZ eT A hg hs hd
  rw [List.length_map] at k; exact k
theorem lenAJ (X : Stand p l e R s m args below meth c T locs cells slots) (hx : p.tables.exec = Jvm.exec) (hZ : Z.Warmed39 s.vm) (eT : T.heap = h) (A : AJ Z h a ys) {g : JFrame} (hg : g.method = m) {rest : List Value} (hs : g.stack = .ref a :: rest) (hd : decode c.code g.pc = .ok (.arraylength, 1)) :
    ∀ target, Steps p.tables e below (T.setTop { g with pc := g.pc + 1, stack := .int (Int32.ofNat ys.length) :: rest }) target → Steps p.tables e below (T.setTop g) target := by
  have k := lenAV X hx hZ eT A hg hs hd
  rw [List.length_map] at k; exact k
theorem own_getI {jn : Nat} (h2 : jn < xs.length) : (xs.map Value.int).toArray[jn]? = some (.int (xs.getD jn 0)) := by
  simp [List.getD_eq_getElem?_getD, h2]
theorem own_getJ {jn : Nat} (h2 : jn < ys.length) : (ys.map Value.long).toArray[jn]? = some (.long (ys.getD jn 0)) := by
  simp [List.getD_eq_getElem?_getD, h2]
theorem ldAI (X : Stand p l e R s m args below meth c T locs cells slots) (hx : p.tables.exec = Jvm.exec) (hZ : Z.Warmed39 s.vm) (eT : T.heap = h) (A : AI Z h a .int xs) {j : Int32} (h1 : ¬ j < 0) (h2 : j.toNatClampNeg < xs.length) {g : JFrame} (hg : g.method = m) {rest : List Value} (hs : g.stack = .int j :: .ref a :: rest) (hd : decode c.code g.pc = .ok (.iaload, 1)) :
    ∀ target, Steps p.tables e below (T.setTop { g with pc := g.pc + 1, stack := .int (xs.getD j.toNatClampNeg 0) :: rest }) target → Steps p.tables e below (T.setTop g) target := by
  obtain ⟨cl, A, e1, e2, e3⟩ := A
  intro target k
  refine X.iaload hx (cell := cl) (by rw [eT]; exact A.1) (State.isArrayOf_alike hZ.alike A.2.1) A.2.2 (own_in h1 (by rw [e1]; simpa using h2)) (by rw [e1]; exact own_getI h2) hg hs hd _ k
theorem ldAB (X : Stand p l e R s m args below meth c T locs cells slots) (hx : p.tables.exec = Jvm.exec) (hZ : Z.Warmed39 s.vm) (eT : T.heap = h) (A : AI Z h a .byte xs) {j : Int32} (h1 : ¬ j < 0) (h2 : j.toNatClampNeg < xs.length) {g : JFrame} (hg : g.method = m) {rest : List Value} (hs : g.stack = .int j :: .ref a :: rest) (hd : decode c.code g.pc = .ok (.baload, 1)) :
    ∀ target, Steps p.tables e below (T.setTop { g with pc := g.pc + 1, stack := .int (xs.getD j.toNatClampNeg 0) :: rest }) target → Steps p.tables e below (T.setTop g) target := by
  obtain ⟨cl, A, e1, e2, e3⟩ := A
  intro target k
  refine X.baloadBytes hx (cell := cl) (by rw [eT]; exact A.1) (State.isArrayOf_alike hZ.alike A.2.1) A.2.2 (own_in h1 (by rw [e1]; simpa using h2)) (by rw [e1]; exact own_getI h2) hg hs hd _ k
theorem ldAJ (X : Stand p l e R s m args below meth c T locs cells slots) (hx : p.tables.exec = Jvm.exec) (hZ : Z.Warmed39 s.vm) (eT : T.heap = h) (A : AJ Z h a ys) {j : Int32} (h1 : ¬ j < 0) (h2 : j.toNatClampNeg < ys.length) {g : JFrame} (hg : g.method = m) {rest : List Value} (hs : g.stack = .int j :: .ref a :: rest) (hd : decode c.code g.pc = .ok (.laload, 1)) :
    ∀ target, Steps p.tables e below (T.setTop { g with pc := g.pc + 1, stack := .long (ys.getD j.toNatClampNeg 0) :: rest }) target → Steps p.tables e below (T.setTop g) target := by
  obtain ⟨cl, A, e1, e2, e3⟩ := A
  intro target k
  refine X.laload hx (cell := cl) (by rw [eT]; exact A.1) (State.isArrayOf_alike hZ.alike A.2.1) A.2.2 (own_in h1 (by rw [e1]; simpa using h2)) (by rw [e1]; exact own_getJ h2) hg hs hd _ k
theorem stAI (X : Stand p l e R s m args below meth c T locs cells slots) (hx : p.tables.exec = Jvm.exec) (hZ : Z.Warmed39 s.vm) (eT : T.heap = h) (A : AI Z h a .int xs) {j x : Int32} (h1 : ¬ j < 0) (h2 : j.toNatClampNeg < xs.length) {g : JFrame} (hg : g.method = m) {rest : List Value} (hs : g.stack = .int x :: .int j :: .ref a :: rest) (hd : decode c.code g.pc = .ok (.iastore, 1)) :
    ∃ T' h', Stand p l e R s m args below meth c T' (locs ++ [⟨a, j.toNatClampNeg⟩]) cells slots ∧ T'.heap = h' ∧ Wr h h' a j.toNatClampNeg (.int x) ∧ AI Z h' a .int (xs.set j.toNatClampNeg x) ∧ ∀ target, Steps p.tables e below (T'.setTop { g with pc := g.pc + 1, stack := rest }) target → Steps p.tables e below (T.setTop g) target := by
  obtain ⟨cl, A, e1, e2, e3⟩ := A
  obtain ⟨T', h', X', e', W', st⟩ := stI X hx hZ eT A (own_in h1 (by rw [e1]; simpa using h2)) hg hs hd
  refine ⟨T', h', X', e', W', ?_, st⟩
  unfold AI
  rw [List.map_set]
  exact AV.set A e1 e2 e3 rfl W'
theorem stAB (X : Stand p l e R s m args below meth c T locs cells slots) (hx : p.tables.exec = Jvm.exec) (hZ : Z.Warmed39 s.vm) (eT : T.heap = h) (A : AI Z h a .byte xs) {j x : Int32} (h1 : ¬ j < 0) (h2 : j.toNatClampNeg < xs.length) {g : JFrame} (hg : g.method = m) {rest : List Value} (hs : g.stack = .int x :: .int j :: .ref a :: rest) (hd : decode c.code g.pc = .ok (.bastore, 1)) :
    ∃ T' h', Stand p l e R s m args below meth c T' (locs ++ [⟨a, j.toNatClampNeg⟩]) cells slots ∧ T'.heap = h' ∧ Wr h h' a j.toNatClampNeg (.int (x.toInt8.toInt32)) ∧ AI Z h' a .byte (xs.set j.toNatClampNeg (x.toInt8.toInt32)) ∧ ∀ target, Steps p.tables e below (T'.setTop { g with pc := g.pc + 1, stack := rest }) target → Steps p.tables e below (T.setTop g) target := by
  obtain ⟨cl, A, e1, e2, e3⟩ := A
  obtain ⟨T', h', X', e', W', st⟩ := stB X hx hZ eT A (own_in h1 (by rw [e1]; simpa using h2)) hg hs hd
  refine ⟨T', h', X', e', W', ?_, st⟩
  unfold AI
  rw [List.map_set]
  exact AV.set A e1 e2 e3 (fits_nar_byte x) W'
theorem own_b2 (y : Int32) : (y.toInt8.toInt32).toInt8.toInt32 = y.toInt8.toInt32 := by simp
theorem stABn (X : Stand p l e R s m args below meth c T locs cells slots) (hx : p.tables.exec = Jvm.exec) (hZ : Z.Warmed39 s.vm) (eT : T.heap = h) (A : AI Z h a .byte xs) {j y : Int32} (h1 : ¬ j < 0) (h2 : j.toNatClampNeg < xs.length) {g : JFrame} (hg : g.method = m) {rest : List Value} (hs : g.stack = .int (y.toInt8.toInt32) :: .int j :: .ref a :: rest) (hd : decode c.code g.pc = .ok (.bastore, 1)) :
    ∃ T' h', Stand p l e R s m args below meth c T' (locs ++ [⟨a, j.toNatClampNeg⟩]) cells slots ∧ T'.heap = h' ∧ Wr h h' a j.toNatClampNeg (.int (y.toInt8.toInt32)) ∧ AI Z h' a .byte (xs.set j.toNatClampNeg (y.toInt8.toInt32)) ∧ ∀ target, Steps p.tables e below (T'.setTop { g with pc := g.pc + 1, stack := rest }) target → Steps p.tables e below (T.setTop g) target := by
  have k := stAB X hx hZ eT A h1 h2 hg hs hd
  rw [own_b2] at k
  exact k
theorem stAJ (X : Stand p l e R s m args below meth c T locs cells slots) (hx : p.tables.exec = Jvm.exec) (hZ : Z.Warmed39 s.vm) (eT : T.heap = h) (A : AJ Z h a ys) {j : Int32} {x : Int64} (h1 : ¬ j < 0) (h2 : j.toNatClampNeg < ys.length) {g : JFrame} (hg : g.method = m) {rest : List Value} (hs : g.stack = .long x :: .int j :: .ref a :: rest) (hd : decode c.code g.pc = .ok (.lastore, 1)) :
    ∃ T' h', Stand p l e R s m args below meth c T' (locs ++ [⟨a, j.toNatClampNeg⟩]) cells slots ∧ T'.heap = h' ∧ Wr h h' a j.toNatClampNeg (.long x) ∧ AJ Z h' a (ys.set j.toNatClampNeg x) ∧ ∀ target, Steps p.tables e below (T'.setTop { g with pc := g.pc + 1, stack := rest }) target → Steps p.tables e below (T.setTop g) target := by
  obtain ⟨cl, A, e1, e2, e3⟩ := A
  obtain ⟨T', h', X', e', W', st⟩ := stJ X hx hZ eT A (own_in h1 (by rw [e1]; simpa using h2)) hg hs hd
  refine ⟨T', h', X', e', W', ?_, st⟩
  unfold AJ
  rw [List.map_set]
  exact AV.set A e1 e2 e3 rfl W'
end OwnArr
section OwnClone
variable {p : Program} {l : Launch} {e : Env} {R : Room} {s : State} {m : MethodId} {args : Array Value} {below : List Frame} {meth : Method} {c : Code} {T T' : State} {locs : List Loc} {cells slots : Nat} {Z : State} {a0 : Array Value} {h h' : Heap} {a b : Addr} {ty : FieldType} {xs : List Int32}
theorem cloneAI (X : Stand p l e R s m args below meth c T locs cells slots) (hx : p.tables.exec = Jvm.exec) (hZ : Z.Warmed39 s.vm) {own ad : String} {index : Nat} (hown : s.vm.findClass own = some m.cls)
    (w1 : (Cond.methodLink own index ⟨ad, "clone", "()Ljava/lang/Object;"⟩).before a0 Z = true) (w2 : (Cond.sameMethod ad "java/lang/Object" "clone" "()Ljava/lang/Object;").before a0 Z = true) (w3 : (Cond.native ⟨"java/lang/Object", "clone", "()Ljava/lang/Object;"⟩).before a0 Z = true)
    (w4 : (Cond.instanceMethod ⟨"java/lang/Object", "clone", "()Ljava/lang/Object;"⟩).before a0 Z = true) (w5 : (Cond.selects ad ⟨ad, "clone", "()Ljava/lang/Object;"⟩ ⟨"java/lang/Object", "clone", "()Ljava/lang/Object;"⟩).before a0 Z = true) (w6 : (Cond.castable ad "java/lang/Cloneable").before a0 Z = true)
    (eT : T.heap = h) (A : AI Z h a ty xs) (E : Exa Z h a ad) {g : JFrame} (hg : g.method = m) (hsize : g.locals.size = c.maxLocals) {rest : List Value} (hst : g.stack = .ref a :: rest) (hd : decode c.code g.pc = .ok (.invokevirtual index, 3))
    (hf : 1 ≤ R.frames) {W cap : Nat} (hW : 2 * g.monitorRoom + (rest.map fun v => v.category).sum ≤ W) (hl : W + 14 ≤ R.locals) (hcap : xs.length ≤ cap) (hc : cells + 1 ≤ R.cells) (hsl : slots + cap ≤ R.slots) :
    ∃ T' h', Stand p l e R s m args below meth c T' locs (cells + 1) (slots + cap) ∧ T'.heap = h' ∧ Ext h h' ∧ Exa Z h' h.size ad ∧ AI Z h' h.size ty xs ∧
      ∀ target, Steps p.tables e below (T'.setTop { g with pc := g.pc + 3, stack := .ref h.size :: rest }) target → Steps p.tables e below (T.setTop g) target := by
  obtain ⟨cl, A, e1, e2, e3⟩ := A
  have FC : FitC Z cl := fitC_of A fun i hi v hv => by
    rw [e1] at hv
    exact e3 v (by simpa using Array.mem_of_getElem? hv)
  obtain ⟨T', h', X', e', ex, A', E', st⟩ := cloneA X hx hZ hown w1 w2 w3 w4 w5 w6 eT A E FC hg hsize hst hd hf hW hl (by rw [e1]; simpa using hcap) hc hsl
  exact ⟨T', h', X', e', ex, E', ⟨_, A', e1, e2, e3⟩, st⟩
end OwnClone


def own_F : List (List Int32) := [[0, 0, 0, 0], [0, 0, 0, 1], [0, 0, 0, 2], [0, 0, 0, 3], [0, 0, 1, 0], [0, 0, 1, 1], [0, 0, 1, 2], [0, 0, 1, 3], [0, 0, 2, 0], [0, 0, 2, 1], [0, 0, 2, 2], [0, 0, 2, 3], [0, 0, 3, 0], [0, 0, 3, 1], [0, 0, 3, 3], [0, 1, 0, 0], [0, 1, 0, 1], [0, 1, 0, 2], [0, 1, 0, 3], [0, 1, 1, 0], [0, 1, 1, 1], [0, 1, 1, 2], [0, 1, 1, 3], [0, 1, 2, 0], [0, 1, 2, 1], [0, 1, 2, 2], [0, 1, 2, 3], [0, 1, 3, 0], [0, 1, 3, 1], [0, 1, 3, 3], [0, 2, 0, 0], [0, 2, 0, 1], [0, 2, 0, 2], [0, 2, 0, 3], [0, 2, 2, 0], [0, 2, 2, 1], [0, 2, 2, 2], [0, 2, 2, 3], [0, 2, 3, 0], [0, 2, 3, 3], [0, 3, 0, 0], [0, 3, 0, 2], [0, 3, 0, 3], [0, 3, 1, 0], [0, 3, 1, 3], [0, 3, 2, 0], [0, 3, 2, 2], [0, 3, 2, 3], [0, 3, 3, 0], [0, 3, 3, 3], [1, 1, 0, 0], [1, 1, 0, 1], [1, 1, 0, 2], [1, 1, 0, 3], [1, 1, 1, 0], [1, 1, 1, 1], [1, 1, 1, 2], [1, 1, 1, 3], [1, 1, 2, 0], [1, 1, 2, 1], [1, 1, 2, 2], [1, 1, 2, 3], [1, 1, 3, 0], [1, 1, 3, 1], [1, 1, 3, 3], [1, 2, 2, 0], [1, 2, 2, 1], [1, 2, 2, 2], [1, 2, 2, 3], [1, 2, 3, 3], [1, 3, 0, 3], [1, 3, 1, 3], [1, 3, 2, 2], [1, 3, 2, 3], [1, 3, 3, 3], [2, 0, 2, 0], [2, 0, 2, 1], [2, 0, 2, 2], [2, 0, 2, 3], [2, 0, 3, 3], [2, 1, 1, 0], [2, 1, 1, 1], [2, 1, 1, 2], [2, 1, 1, 3], [2, 1, 2, 0], [2, 1, 2, 1], [2, 1, 2, 2], [2, 1, 2, 3], [2, 1, 3, 1], [2, 1, 3, 3], [2, 2, 2, 0], [2, 2, 2, 1], [2, 2, 2, 2], [2, 2, 2, 3], [2, 2, 3, 3], [2, 3, 1, 3], [2, 3, 2, 0], [2, 3, 2, 2], [2, 3, 2, 3], [2, 3, 3, 3], [3, 0, 0, 3], [3, 0, 1, 3], [3, 0, 2, 2], [3, 0, 2, 3], [3, 0, 3, 3], [3, 1, 0, 1], [3, 1, 0, 3], [3, 1, 1, 1], [3, 1, 1, 2], [3, 1, 1, 3], [3, 1, 2, 1], [3, 1, 2, 2], [3, 1, 2, 3], [3, 1, 3, 1], [3, 1, 3, 3], [3, 2, 0, 3], [3, 2, 2, 1], [3, 2, 2, 2], [3, 2, 2, 3], [3, 2, 3, 3], [3, 3, 0, 3], [3, 3, 1, 3], [3, 3, 2, 2], [3, 3, 2, 3], [3, 3, 3, 3]]
def own_four : List Int32 := [0, 1, 2, 3]
def own_f (ps : List Int32) (x : Int32) : Int32 := ps.getD x.toNatClampNeg 0
def own_root (ps : List Int32) (x : Int32) : Int32 := own_f ps (own_f ps (own_f ps x))
def own_st (ps : List Int32) (x r : Int32) : List Int32 := ps.set x.toNatClampNeg r
/-- the way from x up to the root: each one on it is made the root's child -/
def own_comp (ps : List Int32) (x : Int32) : List Int32 := own_st (own_st (own_st ps (own_f ps (own_f ps x)) (own_root ps x)) (own_f ps x) (own_root ps x)) x (own_root ps x)
def own_join (ps : List Int32) (a b : Int32) : List Int32 := own_st (own_comp (own_comp ps b) a) (own_root ps b) (own_root (own_comp ps b) a)
def own_lab (ps : List Int32) : List Int32 := [own_root ps 0, own_root ps 1, own_root ps 2, own_root ps 3]
def own_sel (z f t : Int32) : Int32 := if z = f then t else z
def own_merge (ls : List Int32) (x y : Int32) : List Int32 := ls.map fun z => own_sel z (own_f ls y) (own_f ls x)
theorem own_len4 : ∀ {ls : List Int32}, ls.length = 4 → ∃ l0 l1 l2 l3, ls = [l0, l1, l2, l3]
  | [a, b, c, d], _ => ⟨a, b, c, d, rfl⟩
theorem own_b4 : ∀ x ∈ own_four, ¬ x < 0 ∧ x.toNatClampNeg < 4 := by decide +kernel
theorem own_and3 (x : Int32) : (x &&& (3 : Int32)) ∈ own_four := by
  have h := c_mask x 3 2 (by decide) (by decide)
  have h2 : (x &&& 3).toInt = 0 ∨ (x &&& 3).toInt = 1 ∨ (x &&& 3).toInt = 2 ∨ (x &&& 3).toInt = 3 := by rw [h]; omega
  have l0 : (0 : Int32).toInt = 0 := by decide
  have l1 : (1 : Int32).toInt = 1 := by decide
  have l2 : (2 : Int32).toInt = 2 := by decide
  have l3 : (3 : Int32).toInt = 3 := by decide
  rcases h2 with h2 | h2 | h2 | h2
  · rw [Int32.toInt_inj.mp (h2.trans l0.symm)]; decide
  · rw [Int32.toInt_inj.mp (h2.trans l1.symm)]; decide
  · rw [Int32.toInt_inj.mp (h2.trans l2.symm)]; decide
  · rw [Int32.toInt_inj.mp (h2.trans l3.symm)]; decide
theorem own_cF : ∀ ps ∈ own_F, ∀ x ∈ own_four, own_comp ps x ∈ own_F := by decide +kernel
theorem own_rm : ∀ ps ∈ own_F, ∀ x ∈ own_four, own_root ps x ∈ own_four := by decide +kernel
theorem own_jF : ∀ ps ∈ own_F, ∀ a ∈ own_four, ∀ b ∈ own_four, own_join ps a b ∈ own_F := by decide +kernel
theorem own_jL : ∀ ps ∈ own_F, ∀ a ∈ own_four, ∀ b ∈ own_four, own_merge (own_lab ps) a b = own_lab (own_join ps a b) := by decide +kernel
theorem d_dinit_0 : decode prog_21_method_1_code 0 = .ok (.aload_n 0, 1) := by decide +kernel
theorem d_dinit_1 : decode prog_21_method_1_code 1 = .ok (.invokespecial 1, 3) := by decide +kernel
theorem d_dinit_4 : decode prog_21_method_1_code 4 = .ok (.aload_n 0, 1) := by decide +kernel
theorem d_dinit_5 : decode prog_21_method_1_code 5 = .ok (.iload_n 1, 1) := by decide +kernel
theorem d_dinit_6 : decode prog_21_method_1_code 6 = .ok (.newarray .int, 2) := by decide +kernel
theorem d_dinit_8 : decode prog_21_method_1_code 8 = .ok (.putfield 7, 3) := by decide +kernel
theorem d_dinit_11 : decode prog_21_method_1_code 11 = .ok (.iconst 0, 1) := by decide +kernel
theorem d_dinit_12 : decode prog_21_method_1_code 12 = .ok (.istore_n 2, 1) := by decide +kernel
theorem d_dinit_13 : decode prog_21_method_1_code 13 = .ok (.iload_n 2, 1) := by decide +kernel
theorem d_dinit_14 : decode prog_21_method_1_code 14 = .ok (.iload_n 1, 1) := by decide +kernel
theorem d_dinit_15 : decode prog_21_method_1_code 15 = .ok (.if_icmp .ge 16, 3) := by decide +kernel
theorem d_dinit_18 : decode prog_21_method_1_code 18 = .ok (.aload_n 0, 1) := by decide +kernel
theorem d_dinit_19 : decode prog_21_method_1_code 19 = .ok (.getfield 7, 3) := by decide +kernel
theorem d_dinit_22 : decode prog_21_method_1_code 22 = .ok (.iload_n 2, 1) := by decide +kernel
theorem d_dinit_23 : decode prog_21_method_1_code 23 = .ok (.iload_n 2, 1) := by decide +kernel
theorem d_dinit_24 : decode prog_21_method_1_code 24 = .ok (.iastore, 1) := by decide +kernel
theorem d_dinit_25 : decode prog_21_method_1_code 25 = .ok (.iinc 2 1, 3) := by decide +kernel
theorem d_dinit_28 : decode prog_21_method_1_code 28 = .ok (.goto (-15), 3) := by decide +kernel
theorem d_dinit_31 : decode prog_21_method_1_code 31 = .ok (.return_, 1) := by decide +kernel
theorem ef_dinit (m : MethodId) (v0 : Addr) : entryFrame m #[(.ref v0), (.int (4 : Int32))] 3 = mkF m 0 #[.val (.ref v0), .val (.int (4 : Int32)), .unset] [] := by first | (simp [entryFrame, mkF, argsToLocals, Value.category]; done) | rfl
def Q_dinit (Z : State) (v0 : Addr) (h0 : Heap) (n0 : Nat) (v : Option Value) (h : Heap) (L : List Loc) : Prop := ∃ b0 : Addr, v = none ∧ Fr n0 L ∧ Keep h0 h [v0] ∧ h0.size ≤ b0 ∧ Exa Z h v0 "com/example/brisk_reasoner/briskreasoner/engine/milp/DisjointSets" ∧ Fld Z h v0 "com/example/brisk_reasoner/briskreasoner/engine/milp/DisjointSets" "parent" "[I" (.ref b0) ∧ Exa Z h b0 "[I" ∧ AI Z h b0 .int [(0 : Int32), (1 : Int32), (2 : Int32), (3 : Int32)]
set_option maxRecDepth 65536 in
set_option maxHeartbeats 40000000 in
theorem rm_dinit (l : Launch) (Z : State) (a0 : Array Value) (hw : ∀ d ∈ tables_1, d.before a0 Z = true) (ws : List Jvm.Cond) (v0 : Addr) (h0 : Heap) (n0 : Nat) (Z0 : n0 ≤ h0.size) (f0_E_v0 : Exa Z h0 v0 "com/example/brisk_reasoner/briskreasoner/engine/milp/DisjointSets") (f1_F_v0 : Fld Z h0 v0 "com/example/brisk_reasoner/briskreasoner/engine/milp/DisjointSets" "parent" "[I" .null) (g_v0 : n0 ≤ v0) :
    MetFree l (⟨"com/example/brisk_reasoner/briskreasoner/engine/milp/DisjointSets", "<init>", "(I)V"⟩ : MethodName) (head1 (Jvm.Cond.code (⟨"com/example/brisk_reasoner/briskreasoner/engine/milp/DisjointSets", "<init>", "(I)V"⟩ : MethodName) prog_21_method_1_code 3 none :: ws) ({ frames := 1, cells := 1, slots := 4, locals := 12 } : Room)) (fun a U => a = #[(.ref v0), (.int (4 : Int32))] ∧ Z.Warmed39 U.vm ∧ U.heap = h0) (fun _ _ _ _ _ => True) (fun _ U o U' => ∃ v L, o = .returned v ∧ Q_dinit Z v0 h0 n0 v U'.heap L ∧ FrameEnd U o U' L ({ frames := 1, cells := 1, slots := 4, locals := 12 } : Room).cells ({ frames := 1, cells := 1, slots := 4, locals := 12 } : Room).slots) := by
  refine MetFree.of_bodySF (plainFor_of_name (by first | (simp [plainName, overriddenIn]; done) | decide +kernel)) hisR ?_
  intro p e s m args below meth c s₁ Bd hml0 hP hK
  obtain ⟨rfl, hZ, hh⟩ := hP
  have hx := Bd.exec
  have hby := Bd.bytes
  have hml : c.maxLocals = 3 := hml0
  have hown : s.vm.findClass "com/example/brisk_reasoner/briskreasoner/engine/milp/DisjointSets" = some m.cls := findClass_of_methodNamed Bd.named
  have hnm := (name_of_methodNamed Bd.named Bd.method).1
  have hlk : meth.locks = false := Bd.notSynchronized
  have X0 : Stand p l e ({ frames := 1, cells := 1, slots := 4, locals := 12 } : Room) s m #[(.ref v0), (.int (4 : Int32))] below meth c s₁ [] 0 0 := Stand.of_body Bd
  have e0 : s₁.heap = h0 := by rw [← hh, Bd.state]; rfl
  have N0 := Fr.nil n0
  refine Go.enter (Q := Q_dinit Z v0 h0 n0) (C := ({ frames := 1, cells := 1, slots := 4, locals := 12 } : Room).cells) (N := ({ frames := 1, cells := 1, slots := 4, locals := 12 } : Room).slots) (ef_dinit m v0) ?_
  show Go p e below s _ _ _ s₁ (mkF m 0 #[.val (.ref v0), .val (.int (4 : Int32)), .unset] [])
  refine G_aloadN X0 hx (pc' := 1) rfl (hb hby d_dinit_0) rfl rfl ?_
  obtain ⟨T1, X1, e1, st1⟩ := initO X0 hx hZ hown (hw _ (List.mem_of_getElem? (i := 7) rfl)) (hw _ (List.mem_of_getElem? (i := 8) rfl)) (hw _ (List.mem_of_getElem? (i := 9) rfl)) e0 (g := (mkF m 1 #[.val (.ref v0), .val (.int (4 : Int32)), .unset] [(.ref v0)])) rfl (by rw [hml]; rfl) rfl (hb hby d_dinit_1) (by decide) (W := 0) (by show 2 * 0 + _ ≤ _; exact Nat.le_of_eq rfl) (by decide)
  refine Go.st st1 ?_
  show Go p e below s _ _ _ T1 (mkF m 4 #[.val (.ref v0), .val (.int (4 : Int32)), .unset] [])
  refine G_aloadN X1 hx (pc' := 5) rfl (hb hby d_dinit_4) rfl rfl ?_
  refine G_iloadN X1 hx (pc' := 6) rfl (hb hby d_dinit_5) rfl ?_
  obtain ⟨T2, h2, X2, e2, E2, B2, A2, st2⟩ := newAI X1 hx hZ (hw _ (List.mem_of_getElem? (i := 0) rfl)) e1 (g := (mkF m 6 #[.val (.ref v0), .val (.int (4 : Int32)), .unset] [(.int (4 : Int32)), (.ref v0)])) rfl (hb hby d_dinit_6) rfl (by decide) (ty := .int) rfl ⟨rfl, rfl⟩ (cap := 4) (by decide) (by decide) (by decide) (by decide) (ad := "[I") (by decide)
  obtain ⟨b2, q2⟩ : ∃ z, z = h0.size := ⟨_, rfl⟩
  rw [← q2] at A2 B2 st2
  refine Go.st st2 ?_
  have ne_v0_b2 : v0 ≠ b2 := Nat.ne_of_lt (Nat.lt_of_lt_of_le f0_E_v0.lt (Nat.le_of_eq q2.symm))
  have g_b2 : n0 ≤ b2 := Nat.le_trans Z0 (Nat.le_of_eq q2.symm)
  have sz_b2 : h0.size ≤ b2 := Nat.le_trans (Nat.le_refl _) (Nat.le_of_eq q2.symm)
  have E_v0_2 := f0_E_v0.ext E2
  have F_v0_parent_2 := f1_F_v0.ext E2
  have A_b2 : AI Z h2 b2 .int [(0 : Int32), (0 : Int32), (0 : Int32), (0 : Int32)] := A2
  have K_2 : Keep h0 h2 [v0] := (Keep.refl h0 [v0]).ext E2
  have Z_2 : n0 ≤ h2.size := Nat.le_trans Z0 K_2.1
  show Go p e below s _ _ _ T2 (mkF m 8 #[.val (.ref v0), .val (.int (4 : Int32)), .unset] [(.ref b2), (.ref v0)])
  obtain ⟨T3, h3, X3, e3, W3, st3⟩ := putF X2 hx hZ hown (host := "") (Or.inl (hw _ (List.mem_of_getElem? (i := 10) rfl))) Via.refl e2 F_v0_parent_2 E_v0_2 (Or.inr ⟨(hw _ (List.mem_of_getElem? (i := 11) rfl)), rfl, hnm⟩) (hw _ (List.mem_of_getElem? (i := 2) rfl)) (ty := (.array .int)) (by decide) rfl rfl (g := (mkF m 8 #[.val (.ref v0), .val (.int (4 : Int32)), .unset] [(.ref b2), (.ref v0)])) rfl rfl (hb hby d_dinit_8)
  refine Go.st st3 ?_
  have F_v0_w3 := F_v0_parent_2.same W3
  have E_v0_3 := E_v0_2.wr W3
  have E_b2_3 := B2.wr W3
  have A_b2_3 := A_b2.other W3 (Ne.symm ne_v0_b2)
  have K_3 : Keep h0 h3 [v0] := K_2.wr W3 (Or.inl (List.mem_of_getElem? (i := 0) rfl))
  have Z_3 : n0 ≤ h3.size := Nat.le_trans Z0 K_3.1
  have N3 := Fr.snoc X3 N0 g_v0
  show Go p e below s _ _ _ T3 (mkF m 11 #[.val (.ref v0), .val (.int (4 : Int32)), .unset] [])
  refine G_iconst X3 hx (pc' := 12) rfl (hb hby d_dinit_11) (z := (0 : Int32)) rfl ?_
  refine G_istoreN X3 hx (pc' := 13) rfl (hb hby d_dinit_12) (L' := #[.val (.ref v0), .val (.int (4 : Int32)), .val (.int (0 : Int32))]) rfl ?_
  refine G_iloadN X3 hx (pc' := 14) rfl (hb hby d_dinit_13) rfl ?_
  refine G_iloadN X3 hx (pc' := 15) rfl (hb hby d_dinit_14) rfl ?_
  refine G_icmpNo X3 hx (pc' := 18) rfl (hb hby d_dinit_15) (tlt (by decide : (0 : Int32) < (4 : Int32))).2.1 ?_
  refine G_aloadN X3 hx (pc' := 19) rfl (hb hby d_dinit_18) rfl rfl ?_
  obtain ⟨T4, X4, e4, st4⟩ := getF X3 hx hZ hown (host := "") (Or.inl (hw _ (List.mem_of_getElem? (i := 10) rfl))) Via.refl e3 F_v0_w3 (g := (mkF m 19 #[.val (.ref v0), .val (.int (4 : Int32)), .val (.int (0 : Int32))] [(.ref v0)])) rfl rfl (hb hby d_dinit_19)
  refine Go.st st4 ?_
  show Go p e below s _ _ _ T4 (mkF m 22 #[.val (.ref v0), .val (.int (4 : Int32)), .val (.int (0 : Int32))] [(.ref b2)])
  refine G_iloadN X4 hx (pc' := 23) rfl (hb hby d_dinit_22) rfl ?_
  refine G_iloadN X4 hx (pc' := 24) rfl (hb hby d_dinit_23) rfl ?_
  obtain ⟨T5, h5, X5, e5, W5, A5, st5⟩ := stAI X4 hx hZ e4 A_b2_3 (j := (0 : Int32)) (by decide) (show Int32.toNatClampNeg 0 < 4 from by decide) (g := (mkF m 24 #[.val (.ref v0), .val (.int (4 : Int32)), .val (.int (0 : Int32))] [(.int (0 : Int32)), (.int (0 : Int32)), (.ref b2)])) rfl rfl (hb hby d_dinit_24)
  refine Go.st st5 ?_
  have E_v0_5 := E_v0_3.wr W5
  have E_b2_5 := E_b2_3.wr W5
  have F_v0_parent_5 := F_v0_w3.other W5 (Or.inl ne_v0_b2)
  have A_b2_5 : AI Z h5 b2 .int [(0 : Int32), (0 : Int32), (0 : Int32), (0 : Int32)] := A5
  have K_5 : Keep h0 h5 [v0] := K_3.wr W5 (Or.inr sz_b2)
  have Z_5 : n0 ≤ h5.size := Nat.le_trans Z0 K_5.1
  have N5 := Fr.snoc X5 N3 g_b2
  show Go p e below s _ _ _ T5 (mkF m 25 #[.val (.ref v0), .val (.int (4 : Int32)), .val (.int (0 : Int32))] [])
  refine G_iinc X5 hx (pc' := 28) rfl (hb hby d_dinit_25) rfl (z := (1 : Int32)) rfl (L' := #[.val (.ref v0), .val (.int (4 : Int32)), .val (.int (1 : Int32))]) rfl ?_
  refine G_goto X5 hx (pc' := 13) (hb hby d_dinit_28)  (by decide) (by decide) ?_
  refine G_iloadN X5 hx (pc' := 14) rfl (hb hby d_dinit_13) rfl ?_
  refine G_iloadN X5 hx (pc' := 15) rfl (hb hby d_dinit_14) rfl ?_
  refine G_icmpNo X5 hx (pc' := 18) rfl (hb hby d_dinit_15) (tlt (by decide : (1 : Int32) < (4 : Int32))).2.1 ?_
  refine G_aloadN X5 hx (pc' := 19) rfl (hb hby d_dinit_18) rfl rfl ?_
  obtain ⟨T6, X6, e6, st6⟩ := getF X5 hx hZ hown (host := "") (Or.inl (hw _ (List.mem_of_getElem? (i := 10) rfl))) Via.refl e5 F_v0_parent_5 (g := (mkF m 19 #[.val (.ref v0), .val (.int (4 : Int32)), .val (.int (1 : Int32))] [(.ref v0)])) rfl rfl (hb hby d_dinit_19)
  refine Go.st st6 ?_
  show Go p e below s _ _ _ T6 (mkF m 22 #[.val (.ref v0), .val (.int (4 : Int32)), .val (.int (1 : Int32))] [(.ref b2)])
  refine G_iloadN X6 hx (pc' := 23) rfl (hb hby d_dinit_22) rfl ?_
  refine G_iloadN X6 hx (pc' := 24) rfl (hb hby d_dinit_23) rfl ?_
  obtain ⟨T7, h7, X7, e7, W7, A7, st7⟩ := stAI X6 hx hZ e6 A_b2_5 (j := (1 : Int32)) (by decide) (show Int32.toNatClampNeg 1 < 4 from by decide) (g := (mkF m 24 #[.val (.ref v0), .val (.int (4 : Int32)), .val (.int (1 : Int32))] [(.int (1 : Int32)), (.int (1 : Int32)), (.ref b2)])) rfl rfl (hb hby d_dinit_24)
  refine Go.st st7 ?_
  have E_v0_7 := E_v0_5.wr W7
  have E_b2_7 := E_b2_5.wr W7
  have F_v0_parent_7 := F_v0_parent_5.other W7 (Or.inl ne_v0_b2)
  have A_b2_7 : AI Z h7 b2 .int [(0 : Int32), (1 : Int32), (0 : Int32), (0 : Int32)] := A7
  have K_7 : Keep h0 h7 [v0] := K_5.wr W7 (Or.inr sz_b2)
  have Z_7 : n0 ≤ h7.size := Nat.le_trans Z0 K_7.1
  have N7 := Fr.snoc X7 N5 g_b2
  show Go p e below s _ _ _ T7 (mkF m 25 #[.val (.ref v0), .val (.int (4 : Int32)), .val (.int (1 : Int32))] [])
  refine G_iinc X7 hx (pc' := 28) rfl (hb hby d_dinit_25) rfl (z := (2 : Int32)) rfl (L' := #[.val (.ref v0), .val (.int (4 : Int32)), .val (.int (2 : Int32))]) rfl ?_
  refine G_goto X7 hx (pc' := 13) (hb hby d_dinit_28)  (by decide) (by decide) ?_
  refine G_iloadN X7 hx (pc' := 14) rfl (hb hby d_dinit_13) rfl ?_
  refine G_iloadN X7 hx (pc' := 15) rfl (hb hby d_dinit_14) rfl ?_
  refine G_icmpNo X7 hx (pc' := 18) rfl (hb hby d_dinit_15) (tlt (by decide : (2 : Int32) < (4 : Int32))).2.1 ?_
  refine G_aloadN X7 hx (pc' := 19) rfl (hb hby d_dinit_18) rfl rfl ?_
  obtain ⟨T8, X8, e8, st8⟩ := getF X7 hx hZ hown (host := "") (Or.inl (hw _ (List.mem_of_getElem? (i := 10) rfl))) Via.refl e7 F_v0_parent_7 (g := (mkF m 19 #[.val (.ref v0), .val (.int (4 : Int32)), .val (.int (2 : Int32))] [(.ref v0)])) rfl rfl (hb hby d_dinit_19)
  refine Go.st st8 ?_
  show Go p e below s _ _ _ T8 (mkF m 22 #[.val (.ref v0), .val (.int (4 : Int32)), .val (.int (2 : Int32))] [(.ref b2)])
  refine G_iloadN X8 hx (pc' := 23) rfl (hb hby d_dinit_22) rfl ?_
  refine G_iloadN X8 hx (pc' := 24) rfl (hb hby d_dinit_23) rfl ?_
  obtain ⟨T9, h9, X9, e9, W9, A9, st9⟩ := stAI X8 hx hZ e8 A_b2_7 (j := (2 : Int32)) (by decide) (show Int32.toNatClampNeg 2 < 4 from by decide) (g := (mkF m 24 #[.val (.ref v0), .val (.int (4 : Int32)), .val (.int (2 : Int32))] [(.int (2 : Int32)), (.int (2 : Int32)), (.ref b2)])) rfl rfl (hb hby d_dinit_24)
  refine Go.st st9 ?_
  have E_v0_9 := E_v0_7.wr W9
  have E_b2_9 := E_b2_7.wr W9
  have F_v0_parent_9 := F_v0_parent_7.other W9 (Or.inl ne_v0_b2)
  have A_b2_9 : AI Z h9 b2 .int [(0 : Int32), (1 : Int32), (2 : Int32), (0 : Int32)] := A9
  have K_9 : Keep h0 h9 [v0] := K_7.wr W9 (Or.inr sz_b2)
  have Z_9 : n0 ≤ h9.size := Nat.le_trans Z0 K_9.1
  have N9 := Fr.snoc X9 N7 g_b2
  show Go p e below s _ _ _ T9 (mkF m 25 #[.val (.ref v0), .val (.int (4 : Int32)), .val (.int (2 : Int32))] [])
  refine G_iinc X9 hx (pc' := 28) rfl (hb hby d_dinit_25) rfl (z := (3 : Int32)) rfl (L' := #[.val (.ref v0), .val (.int (4 : Int32)), .val (.int (3 : Int32))]) rfl ?_
  refine G_goto X9 hx (pc' := 13) (hb hby d_dinit_28)  (by decide) (by decide) ?_
  refine G_iloadN X9 hx (pc' := 14) rfl (hb hby d_dinit_13) rfl ?_
  refine G_iloadN X9 hx (pc' := 15) rfl (hb hby d_dinit_14) rfl ?_
  refine G_icmpNo X9 hx (pc' := 18) rfl (hb hby d_dinit_15) (tlt (by decide : (3 : Int32) < (4 : Int32))).2.1 ?_
  refine G_aloadN X9 hx (pc' := 19) rfl (hb hby d_dinit_18) rfl rfl ?_
  obtain ⟨T10, X10, e10, st10⟩ := getF X9 hx hZ hown (host := "") (Or.inl (hw _ (List.mem_of_getElem? (i := 10) rfl))) Via.refl e9 F_v0_parent_9 (g := (mkF m 19 #[.val (.ref v0), .val (.int (4 : Int32)), .val (.int (3 : Int32))] [(.ref v0)])) rfl rfl (hb hby d_dinit_19)
  refine Go.st st10 ?_
  show Go p e below s _ _ _ T10 (mkF m 22 #[.val (.ref v0), .val (.int (4 : Int32)), .val (.int (3 : Int32))] [(.ref b2)])
  refine G_iloadN X10 hx (pc' := 23) rfl (hb hby d_dinit_22) rfl ?_
  refine G_iloadN X10 hx (pc' := 24) rfl (hb hby d_dinit_23) rfl ?_
  obtain ⟨T11, h11, X11, e11, W11, A11, st11⟩ := stAI X10 hx hZ e10 A_b2_9 (j := (3 : Int32)) (by decide) (show Int32.toNatClampNeg 3 < 4 from by decide) (g := (mkF m 24 #[.val (.ref v0), .val (.int (4 : Int32)), .val (.int (3 : Int32))] [(.int (3 : Int32)), (.int (3 : Int32)), (.ref b2)])) rfl rfl (hb hby d_dinit_24)
  refine Go.st st11 ?_
  have E_v0_11 := E_v0_9.wr W11
  have E_b2_11 := E_b2_9.wr W11
  have F_v0_parent_11 := F_v0_parent_9.other W11 (Or.inl ne_v0_b2)
  have A_b2_11 : AI Z h11 b2 .int [(0 : Int32), (1 : Int32), (2 : Int32), (3 : Int32)] := A11
  have K_11 : Keep h0 h11 [v0] := K_9.wr W11 (Or.inr sz_b2)
  have Z_11 : n0 ≤ h11.size := Nat.le_trans Z0 K_11.1
  have N11 := Fr.snoc X11 N9 g_b2
  show Go p e below s _ _ _ T11 (mkF m 25 #[.val (.ref v0), .val (.int (4 : Int32)), .val (.int (3 : Int32))] [])
  refine G_iinc X11 hx (pc' := 28) rfl (hb hby d_dinit_25) rfl (z := (4 : Int32)) rfl (L' := #[.val (.ref v0), .val (.int (4 : Int32)), .val (.int (4 : Int32))]) rfl ?_
  refine G_goto X11 hx (pc' := 13) (hb hby d_dinit_28)  (by decide) (by decide) ?_
  refine G_iloadN X11 hx (pc' := 14) rfl (hb hby d_dinit_13) rfl ?_
  refine G_iloadN X11 hx (pc' := 15) rfl (hb hby d_dinit_14) rfl ?_
  refine G_icmpYes X11 hx (pc' := 31) (hb hby d_dinit_15) (flt (by decide : ¬ ((4 : Int32) < (4 : Int32)))).2.1 (by decide) (by decide) ?_
  refine Go.fin X11 hlk (v := none) (fun _ => rfl) (by decide) (by decide) ?_ (fun fs hr => X11.returnOut hx Bd.returns (hb hby d_dinit_31) hr)
  show Q_dinit Z v0 h0 n0 _ T11.heap _
  rw [e11]
  exact ⟨b2, rfl, N11, K_11, sz_b2, E_v0_11, F_v0_parent_11, E_b2_11, A_b2_11⟩
theorem d_rt_0 : decode prog_21_method_3_code 0 = .ok (.iload_n 1, 1) := by decide +kernel
theorem d_rt_1 : decode prog_21_method_3_code 1 = .ok (.istore_n 2, 1) := by decide +kernel
theorem d_rt_2 : decode prog_21_method_3_code 2 = .ok (.aload_n 0, 1) := by decide +kernel
theorem d_rt_3 : decode prog_21_method_3_code 3 = .ok (.getfield 7, 3) := by decide +kernel
theorem d_rt_6 : decode prog_21_method_3_code 6 = .ok (.iload_n 2, 1) := by decide +kernel
theorem d_rt_7 : decode prog_21_method_3_code 7 = .ok (.iaload, 1) := by decide +kernel
theorem own_k1 : ∀ ps ∈ own_F, ∀ v1 ∈ own_four, ¬ (v1 < 0) := by decide +kernel
theorem own_k2 : ∀ ps ∈ own_F, ∀ v1 ∈ own_four, v1.toNatClampNeg < (ps).length := by decide +kernel
theorem d_rt_8 : decode prog_21_method_3_code 8 = .ok (.iload_n 2, 1) := by decide +kernel
theorem d_rt_9 : decode prog_21_method_3_code 9 = .ok (.if_icmp .eq 13, 3) := by decide +kernel
theorem d_rt_22 : decode prog_21_method_3_code 22 = .ok (.iload_n 1, 1) := by decide +kernel
theorem d_rt_23 : decode prog_21_method_3_code 23 = .ok (.istore_n 3, 1) := by decide +kernel
theorem d_rt_24 : decode prog_21_method_3_code 24 = .ok (.iload_n 3, 1) := by decide +kernel
theorem d_rt_25 : decode prog_21_method_3_code 25 = .ok (.iload_n 2, 1) := by decide +kernel
theorem d_rt_26 : decode prog_21_method_3_code 26 = .ok (.if_icmp .eq 24, 3) := by decide +kernel
theorem d_rt_50 : decode prog_21_method_3_code 50 = .ok (.iload_n 2, 1) := by decide +kernel
theorem d_rt_51 : decode prog_21_method_3_code 51 = .ok (.ireturn, 1) := by decide +kernel
theorem own_k3 : ∀ ps ∈ own_F, ∀ v1 ∈ own_four, ((own_f ps v1) = v1) → v1 = own_root ps v1 := by decide +kernel
theorem own_k4 : ∀ ps ∈ own_F, ∀ v1 ∈ own_four, ((own_f ps v1) = v1) → ps = own_comp ps v1 := by decide +kernel
theorem d_rt_12 : decode prog_21_method_3_code 12 = .ok (.aload_n 0, 1) := by decide +kernel
theorem d_rt_13 : decode prog_21_method_3_code 13 = .ok (.getfield 7, 3) := by decide +kernel
theorem d_rt_16 : decode prog_21_method_3_code 16 = .ok (.iload_n 2, 1) := by decide +kernel
theorem d_rt_17 : decode prog_21_method_3_code 17 = .ok (.iaload, 1) := by decide +kernel
theorem own_k5 : ∀ ps ∈ own_F, ∀ v1 ∈ own_four, (¬ ((own_f ps v1) = v1)) → ¬ (v1 < 0) := by decide +kernel
theorem own_k6 : ∀ ps ∈ own_F, ∀ v1 ∈ own_four, (¬ ((own_f ps v1) = v1)) → v1.toNatClampNeg < (ps).length := by decide +kernel
theorem d_rt_18 : decode prog_21_method_3_code 18 = .ok (.istore_n 2, 1) := by decide +kernel
theorem d_rt_19 : decode prog_21_method_3_code 19 = .ok (.goto (-17), 3) := by decide +kernel
theorem own_k7 : ∀ ps ∈ own_F, ∀ v1 ∈ own_four, (¬ ((own_f ps v1) = v1)) → ¬ ((own_f ps v1) < 0) := by decide +kernel
theorem own_k8 : ∀ ps ∈ own_F, ∀ v1 ∈ own_four, (¬ ((own_f ps v1) = v1)) → (own_f ps v1).toNatClampNeg < (ps).length := by decide +kernel
theorem own_k9 : ∀ ps ∈ own_F, ∀ v1 ∈ own_four, (¬ ((own_f ps v1) = v1)) → ((own_f ps (own_f ps v1)) = (own_f ps v1)) → ¬ (v1 = (own_f ps v1)) := by decide +kernel
theorem d_rt_29 : decode prog_21_method_3_code 29 = .ok (.aload_n 0, 1) := by decide +kernel
theorem d_rt_30 : decode prog_21_method_3_code 30 = .ok (.getfield 7, 3) := by decide +kernel
theorem d_rt_33 : decode prog_21_method_3_code 33 = .ok (.iload_n 3, 1) := by decide +kernel
theorem d_rt_34 : decode prog_21_method_3_code 34 = .ok (.iaload, 1) := by decide +kernel
theorem own_k10 : ∀ ps ∈ own_F, ∀ v1 ∈ own_four, (¬ ((own_f ps v1) = v1)) → ((own_f ps (own_f ps v1)) = (own_f ps v1)) → ¬ (v1 < 0) := by decide +kernel
theorem own_k11 : ∀ ps ∈ own_F, ∀ v1 ∈ own_four, (¬ ((own_f ps v1) = v1)) → ((own_f ps (own_f ps v1)) = (own_f ps v1)) → v1.toNatClampNeg < (ps).length := by decide +kernel
theorem d_rt_35 : decode prog_21_method_3_code 35 = .ok (.istore 4, 2) := by decide +kernel
theorem d_rt_37 : decode prog_21_method_3_code 37 = .ok (.aload_n 0, 1) := by decide +kernel
theorem d_rt_38 : decode prog_21_method_3_code 38 = .ok (.getfield 7, 3) := by decide +kernel
theorem d_rt_41 : decode prog_21_method_3_code 41 = .ok (.iload_n 3, 1) := by decide +kernel
theorem d_rt_42 : decode prog_21_method_3_code 42 = .ok (.iload_n 2, 1) := by decide +kernel
theorem d_rt_43 : decode prog_21_method_3_code 43 = .ok (.iastore, 1) := by decide +kernel
theorem d_rt_44 : decode prog_21_method_3_code 44 = .ok (.iload 4, 2) := by decide +kernel
theorem d_rt_46 : decode prog_21_method_3_code 46 = .ok (.istore_n 3, 1) := by decide +kernel
theorem d_rt_47 : decode prog_21_method_3_code 47 = .ok (.goto (-23), 3) := by decide +kernel
theorem own_k12 : ∀ ps ∈ own_F, ∀ v1 ∈ own_four, (¬ ((own_f ps v1) = v1)) → ((own_f ps (own_f ps v1)) = (own_f ps v1)) → (own_f ps v1) = (own_f ps v1) := by decide +kernel
theorem own_k13 : ∀ ps ∈ own_F, ∀ v1 ∈ own_four, (¬ ((own_f ps v1) = v1)) → ((own_f ps (own_f ps v1)) = (own_f ps v1)) → (own_f ps v1) = own_root ps v1 := by decide +kernel
theorem own_k14 : ∀ ps ∈ own_F, ∀ v1 ∈ own_four, (¬ ((own_f ps v1) = v1)) → ((own_f ps (own_f ps v1)) = (own_f ps v1)) → (own_st ps v1 (own_f ps v1)) = own_comp ps v1 := by decide +kernel
theorem own_k15 : ∀ ps ∈ own_F, ∀ v1 ∈ own_four, (¬ ((own_f ps v1) = v1)) → (¬ ((own_f ps (own_f ps v1)) = (own_f ps v1))) → ¬ ((own_f ps v1) < 0) := by decide +kernel
theorem own_k16 : ∀ ps ∈ own_F, ∀ v1 ∈ own_four, (¬ ((own_f ps v1) = v1)) → (¬ ((own_f ps (own_f ps v1)) = (own_f ps v1))) → (own_f ps v1).toNatClampNeg < (ps).length := by decide +kernel
theorem own_k17 : ∀ ps ∈ own_F, ∀ v1 ∈ own_four, (¬ ((own_f ps v1) = v1)) → (¬ ((own_f ps (own_f ps v1)) = (own_f ps v1))) → ¬ ((own_f ps (own_f ps v1)) < 0) := by decide +kernel
theorem own_k18 : ∀ ps ∈ own_F, ∀ v1 ∈ own_four, (¬ ((own_f ps v1) = v1)) → (¬ ((own_f ps (own_f ps v1)) = (own_f ps v1))) → (own_f ps (own_f ps v1)).toNatClampNeg < (ps).length := by decide +kernel
theorem own_k19 : ∀ ps ∈ own_F, ∀ v1 ∈ own_four, (¬ ((own_f ps v1) = v1)) → (¬ ((own_f ps (own_f ps v1)) = (own_f ps v1))) → ((own_f ps (own_f ps (own_f ps v1))) = (own_f ps (own_f ps v1))) → ¬ (v1 = (own_f ps (own_f ps v1))) := by decide +kernel
theorem own_k20 : ∀ ps ∈ own_F, ∀ v1 ∈ own_four, (¬ ((own_f ps v1) = v1)) → (¬ ((own_f ps (own_f ps v1)) = (own_f ps v1))) → ((own_f ps (own_f ps (own_f ps v1))) = (own_f ps (own_f ps v1))) → ¬ (v1 < 0) := by decide +kernel
theorem own_k21 : ∀ ps ∈ own_F, ∀ v1 ∈ own_four, (¬ ((own_f ps v1) = v1)) → (¬ ((own_f ps (own_f ps v1)) = (own_f ps v1))) → ((own_f ps (own_f ps (own_f ps v1))) = (own_f ps (own_f ps v1))) → v1.toNatClampNeg < (ps).length := by decide +kernel
theorem own_k22 : ∀ ps ∈ own_F, ∀ v1 ∈ own_four, (¬ ((own_f ps v1) = v1)) → (¬ ((own_f ps (own_f ps v1)) = (own_f ps v1))) → ((own_f ps (own_f ps (own_f ps v1))) = (own_f ps (own_f ps v1))) → ¬ ((own_f ps v1) = (own_f ps (own_f ps v1))) := by decide +kernel
theorem own_k23 : ∀ ps ∈ own_F, ∀ v1 ∈ own_four, (¬ ((own_f ps v1) = v1)) → (¬ ((own_f ps (own_f ps v1)) = (own_f ps v1))) → ((own_f ps (own_f ps (own_f ps v1))) = (own_f ps (own_f ps v1))) → ¬ ((own_f ps v1) < 0) := by decide +kernel
theorem own_k24 : ∀ ps ∈ own_F, ∀ v1 ∈ own_four, (¬ ((own_f ps v1) = v1)) → (¬ ((own_f ps (own_f ps v1)) = (own_f ps v1))) → ((own_f ps (own_f ps (own_f ps v1))) = (own_f ps (own_f ps v1))) → (own_f ps v1).toNatClampNeg < ((own_st ps v1 (own_f ps (own_f ps v1)))).length := by decide +kernel
theorem own_k25 : ∀ ps ∈ own_F, ∀ v1 ∈ own_four, (¬ ((own_f ps v1) = v1)) → (¬ ((own_f ps (own_f ps v1)) = (own_f ps v1))) → ((own_f ps (own_f ps (own_f ps v1))) = (own_f ps (own_f ps v1))) → (own_f (own_st ps v1 (own_f ps (own_f ps v1))) (own_f ps v1)) = (own_f ps (own_f ps v1)) := by decide +kernel
theorem own_k26 : ∀ ps ∈ own_F, ∀ v1 ∈ own_four, (¬ ((own_f ps v1) = v1)) → (¬ ((own_f ps (own_f ps v1)) = (own_f ps v1))) → ((own_f ps (own_f ps (own_f ps v1))) = (own_f ps (own_f ps v1))) → (own_f ps (own_f ps v1)) = own_root ps v1 := by decide +kernel
theorem own_k27 : ∀ ps ∈ own_F, ∀ v1 ∈ own_four, (¬ ((own_f ps v1) = v1)) → (¬ ((own_f ps (own_f ps v1)) = (own_f ps v1))) → ((own_f ps (own_f ps (own_f ps v1))) = (own_f ps (own_f ps v1))) → (own_st (own_st ps v1 (own_f ps (own_f ps v1))) (own_f ps v1) (own_f ps (own_f ps v1))) = own_comp ps v1 := by decide +kernel
theorem own_k28 : ∀ ps ∈ own_F, ∀ v1 ∈ own_four, (¬ ((own_f ps v1) = v1)) → (¬ ((own_f ps (own_f ps v1)) = (own_f ps v1))) → (¬ ((own_f ps (own_f ps (own_f ps v1))) = (own_f ps (own_f ps v1)))) → ¬ ((own_f ps (own_f ps v1)) < 0) := by decide +kernel
theorem own_k29 : ∀ ps ∈ own_F, ∀ v1 ∈ own_four, (¬ ((own_f ps v1) = v1)) → (¬ ((own_f ps (own_f ps v1)) = (own_f ps v1))) → (¬ ((own_f ps (own_f ps (own_f ps v1))) = (own_f ps (own_f ps v1)))) → (own_f ps (own_f ps v1)).toNatClampNeg < (ps).length := by decide +kernel
theorem own_k30 : ∀ ps ∈ own_F, ∀ v1 ∈ own_four, (¬ ((own_f ps v1) = v1)) → (¬ ((own_f ps (own_f ps v1)) = (own_f ps v1))) → (¬ ((own_f ps (own_f ps (own_f ps v1))) = (own_f ps (own_f ps v1)))) → ¬ ((own_f ps (own_f ps (own_f ps v1))) < 0) := by decide +kernel
theorem own_k31 : ∀ ps ∈ own_F, ∀ v1 ∈ own_four, (¬ ((own_f ps v1) = v1)) → (¬ ((own_f ps (own_f ps v1)) = (own_f ps v1))) → (¬ ((own_f ps (own_f ps (own_f ps v1))) = (own_f ps (own_f ps v1)))) → (own_f ps (own_f ps (own_f ps v1))).toNatClampNeg < (ps).length := by decide +kernel
theorem own_k32 : ∀ ps ∈ own_F, ∀ v1 ∈ own_four, (¬ ((own_f ps v1) = v1)) → (¬ ((own_f ps (own_f ps v1)) = (own_f ps v1))) → (¬ ((own_f ps (own_f ps (own_f ps v1))) = (own_f ps (own_f ps v1)))) → (own_f ps (own_f ps (own_f ps (own_f ps v1)))) = (own_f ps (own_f ps (own_f ps v1))) := by decide +kernel
theorem own_k33 : ∀ ps ∈ own_F, ∀ v1 ∈ own_four, (¬ ((own_f ps v1) = v1)) → (¬ ((own_f ps (own_f ps v1)) = (own_f ps v1))) → (¬ ((own_f ps (own_f ps (own_f ps v1))) = (own_f ps (own_f ps v1)))) → ¬ (v1 = (own_f ps (own_f ps (own_f ps v1)))) := by decide +kernel
theorem own_k34 : ∀ ps ∈ own_F, ∀ v1 ∈ own_four, (¬ ((own_f ps v1) = v1)) → (¬ ((own_f ps (own_f ps v1)) = (own_f ps v1))) → (¬ ((own_f ps (own_f ps (own_f ps v1))) = (own_f ps (own_f ps v1)))) → ¬ (v1 < 0) := by decide +kernel
theorem own_k35 : ∀ ps ∈ own_F, ∀ v1 ∈ own_four, (¬ ((own_f ps v1) = v1)) → (¬ ((own_f ps (own_f ps v1)) = (own_f ps v1))) → (¬ ((own_f ps (own_f ps (own_f ps v1))) = (own_f ps (own_f ps v1)))) → v1.toNatClampNeg < (ps).length := by decide +kernel
theorem own_k36 : ∀ ps ∈ own_F, ∀ v1 ∈ own_four, (¬ ((own_f ps v1) = v1)) → (¬ ((own_f ps (own_f ps v1)) = (own_f ps v1))) → (¬ ((own_f ps (own_f ps (own_f ps v1))) = (own_f ps (own_f ps v1)))) → ¬ ((own_f ps v1) = (own_f ps (own_f ps (own_f ps v1)))) := by decide +kernel
theorem own_k37 : ∀ ps ∈ own_F, ∀ v1 ∈ own_four, (¬ ((own_f ps v1) = v1)) → (¬ ((own_f ps (own_f ps v1)) = (own_f ps v1))) → (¬ ((own_f ps (own_f ps (own_f ps v1))) = (own_f ps (own_f ps v1)))) → ¬ ((own_f ps v1) < 0) := by decide +kernel
theorem own_k38 : ∀ ps ∈ own_F, ∀ v1 ∈ own_four, (¬ ((own_f ps v1) = v1)) → (¬ ((own_f ps (own_f ps v1)) = (own_f ps v1))) → (¬ ((own_f ps (own_f ps (own_f ps v1))) = (own_f ps (own_f ps v1)))) → (own_f ps v1).toNatClampNeg < ((own_st ps v1 (own_f ps (own_f ps (own_f ps v1))))).length := by decide +kernel
theorem own_k39 : ∀ ps ∈ own_F, ∀ v1 ∈ own_four, (¬ ((own_f ps v1) = v1)) → (¬ ((own_f ps (own_f ps v1)) = (own_f ps v1))) → (¬ ((own_f ps (own_f ps (own_f ps v1))) = (own_f ps (own_f ps v1)))) → ¬ ((own_f (own_st ps v1 (own_f ps (own_f ps (own_f ps v1)))) (own_f ps v1)) = (own_f ps (own_f ps (own_f ps v1)))) := by decide +kernel
theorem own_k40 : ∀ ps ∈ own_F, ∀ v1 ∈ own_four, (¬ ((own_f ps v1) = v1)) → (¬ ((own_f ps (own_f ps v1)) = (own_f ps v1))) → (¬ ((own_f ps (own_f ps (own_f ps v1))) = (own_f ps (own_f ps v1)))) → ¬ ((own_f (own_st ps v1 (own_f ps (own_f ps (own_f ps v1)))) (own_f ps v1)) < 0) := by decide +kernel
theorem own_k41 : ∀ ps ∈ own_F, ∀ v1 ∈ own_four, (¬ ((own_f ps v1) = v1)) → (¬ ((own_f ps (own_f ps v1)) = (own_f ps v1))) → (¬ ((own_f ps (own_f ps (own_f ps v1))) = (own_f ps (own_f ps v1)))) → (own_f (own_st ps v1 (own_f ps (own_f ps (own_f ps v1)))) (own_f ps v1)).toNatClampNeg < ((own_st (own_st ps v1 (own_f ps (own_f ps (own_f ps v1)))) (own_f ps v1) (own_f ps (own_f ps (own_f ps v1))))).length := by decide +kernel
theorem own_k42 : ∀ ps ∈ own_F, ∀ v1 ∈ own_four, (¬ ((own_f ps v1) = v1)) → (¬ ((own_f ps (own_f ps v1)) = (own_f ps v1))) → (¬ ((own_f ps (own_f ps (own_f ps v1))) = (own_f ps (own_f ps v1)))) → (own_f (own_st (own_st ps v1 (own_f ps (own_f ps (own_f ps v1)))) (own_f ps v1) (own_f ps (own_f ps (own_f ps v1)))) (own_f (own_st ps v1 (own_f ps (own_f ps (own_f ps v1)))) (own_f ps v1))) = (own_f ps (own_f ps (own_f ps v1))) := by decide +kernel
theorem own_k43 : ∀ ps ∈ own_F, ∀ v1 ∈ own_four, (¬ ((own_f ps v1) = v1)) → (¬ ((own_f ps (own_f ps v1)) = (own_f ps v1))) → (¬ ((own_f ps (own_f ps (own_f ps v1))) = (own_f ps (own_f ps v1)))) → (own_f ps (own_f ps (own_f ps v1))) = own_root ps v1 := by decide +kernel
theorem own_k44 : ∀ ps ∈ own_F, ∀ v1 ∈ own_four, (¬ ((own_f ps v1) = v1)) → (¬ ((own_f ps (own_f ps v1)) = (own_f ps v1))) → (¬ ((own_f ps (own_f ps (own_f ps v1))) = (own_f ps (own_f ps v1)))) → (own_st (own_st (own_st ps v1 (own_f ps (own_f ps (own_f ps v1)))) (own_f ps v1) (own_f ps (own_f ps (own_f ps v1)))) (own_f (own_st ps v1 (own_f ps (own_f ps (own_f ps v1)))) (own_f ps v1)) (own_f ps (own_f ps (own_f ps v1)))) = own_comp ps v1 := by decide +kernel
theorem ef_root (m : MethodId) (v0 : Addr) (v1 : Int32) : entryFrame m #[(.ref v0), (.int v1)] 5 = mkF m 0 #[.val (.ref v0), .val (.int v1), .unset, .unset, .unset] [] := by first | (simp [entryFrame, mkF, argsToLocals, Value.category]; done) | rfl
def Q_root (Z : State) (v0 : Addr) (v1 : Int32) (pa : Addr) (ps : List Int32) (h0 : Heap) (n0 : Nat) (v : Option Value) (h : Heap) (L : List Loc) : Prop := v = some (.int (own_root ps v1)) ∧ Fr n0 L ∧ Keep h0 h [pa] ∧ Exa Z h v0 "com/example/brisk_reasoner/briskreasoner/engine/milp/DisjointSets" ∧ Fld Z h v0 "com/example/brisk_reasoner/briskreasoner/engine/milp/DisjointSets" "parent" "[I" (.ref pa) ∧ AI Z h pa .int (own_comp ps v1)
set_option maxRecDepth 65536 in
set_option maxHeartbeats 40000000 in
theorem rm_root (l : Launch) (Z : State) (a0 : Array Value) (hw : ∀ d ∈ tables_1, d.before a0 Z = true) (ws : List Jvm.Cond) (v0 : Addr) (v1 : Int32) (pa : Addr) (ps : List Int32) (h0 : Heap) (n0 : Nat) (Z0 : n0 ≤ h0.size) (f0_E_v0 : Exa Z h0 v0 "com/example/brisk_reasoner/briskreasoner/engine/milp/DisjointSets") (f1_F_v0 : Fld Z h0 v0 "com/example/brisk_reasoner/briskreasoner/engine/milp/DisjointSets" "parent" "[I" (.ref pa)) (f2_A_pa : AI Z h0 pa .int ps) (g_pa : n0 ≤ pa) (ne_v0_pa : v0 ≠ pa) (hps : ps ∈ own_F) (hvx : v1 ∈ own_four) :
    MetFree l (⟨"com/example/brisk_reasoner/briskreasoner/engine/milp/DisjointSets", "root", "(I)I"⟩ : MethodName) (head1 (Jvm.Cond.code (⟨"com/example/brisk_reasoner/briskreasoner/engine/milp/DisjointSets", "root", "(I)I"⟩ : MethodName) prog_21_method_3_code 5 (some .int) :: ws) ({ frames := 0, cells := 0, slots := 0, locals := 0 } : Room)) (fun a U => a = #[(.ref v0), (.int v1)] ∧ Z.Warmed39 U.vm ∧ U.heap = h0) (fun _ _ _ _ _ => True) (fun _ U o U' => ∃ v L, o = .returned v ∧ Q_root Z v0 v1 pa ps h0 n0 v U'.heap L ∧ FrameEnd U o U' L ({ frames := 0, cells := 0, slots := 0, locals := 0 } : Room).cells ({ frames := 0, cells := 0, slots := 0, locals := 0 } : Room).slots) := by
  refine MetFree.of_bodySF (plainFor_of_name (by first | (simp [plainName, overriddenIn]; done) | decide +kernel)) hisR ?_
  intro p e s m args below meth c s₁ Bd hml0 hP hK
  obtain ⟨rfl, hZ, hh⟩ := hP
  have hx := Bd.exec
  have hby := Bd.bytes
  have hml : c.maxLocals = 5 := hml0
  have hown : s.vm.findClass "com/example/brisk_reasoner/briskreasoner/engine/milp/DisjointSets" = some m.cls := findClass_of_methodNamed Bd.named
  have hnm := (name_of_methodNamed Bd.named Bd.method).1
  have hlk : meth.locks = false := Bd.notSynchronized
  have X0 : Stand p l e ({ frames := 0, cells := 0, slots := 0, locals := 0 } : Room) s m #[(.ref v0), (.int v1)] below meth c s₁ [] 0 0 := Stand.of_body Bd
  have e0 : s₁.heap = h0 := by rw [← hh, Bd.state]; rfl
  have N0 := Fr.nil n0
  refine Go.enter (Q := Q_root Z v0 v1 pa ps h0 n0) (C := ({ frames := 0, cells := 0, slots := 0, locals := 0 } : Room).cells) (N := ({ frames := 0, cells := 0, slots := 0, locals := 0 } : Room).slots) (ef_root m v0 v1) ?_
  show Go p e below s _ _ _ s₁ (mkF m 0 #[.val (.ref v0), .val (.int v1), .unset, .unset, .unset] [])
  refine G_iloadN X0 hx (pc' := 1) rfl (hb hby d_rt_0) rfl ?_
  refine G_istoreN X0 hx (pc' := 2) rfl (hb hby d_rt_1) (L' := #[.val (.ref v0), .val (.int v1), .val (.int v1), .unset, .unset]) rfl ?_
  refine G_aloadN X0 hx (pc' := 3) rfl (hb hby d_rt_2) rfl rfl ?_
  obtain ⟨T12, X12, e12, st12⟩ := getF X0 hx hZ hown (host := "") (Or.inl (hw _ (List.mem_of_getElem? (i := 10) rfl))) Via.refl e0 f1_F_v0 (g := (mkF m 3 #[.val (.ref v0), .val (.int v1), .val (.int v1), .unset, .unset] [(.ref v0)])) rfl rfl (hb hby d_rt_3)
  refine Go.st st12 ?_
  show Go p e below s _ _ _ T12 (mkF m 6 #[.val (.ref v0), .val (.int v1), .val (.int v1), .unset, .unset] [(.ref pa)])
  refine G_iloadN X12 hx (pc' := 7) rfl (hb hby d_rt_6) rfl ?_
  refine Go.st (ldAI X12 hx hZ e12 f2_A_pa (j := v1) (own_k1 ps hps v1 hvx) (own_k2 ps hps v1 hvx) (g := (mkF m 7 #[.val (.ref v0), .val (.int v1), .val (.int v1), .unset, .unset] [(.int v1), (.ref pa)])) rfl rfl (hb hby d_rt_7)) ?_
  show Go p e below s _ _ _ T12 (mkF m 8 #[.val (.ref v0), .val (.int v1), .val (.int v1), .unset, .unset] [(.int (own_f ps v1))])
  refine G_iloadN X12 hx (pc' := 9) rfl (hb hby d_rt_8) rfl ?_
  by_cases hc9_1 : (own_f ps v1) = v1
  · refine G_icmpYes X12 hx (pc' := 22) (hb hby d_rt_9) (teq hc9_1).1 (by decide) (by decide) ?_
    refine G_iloadN X12 hx (pc' := 23) rfl (hb hby d_rt_22) rfl ?_
    refine G_istoreN X12 hx (pc' := 24) rfl (hb hby d_rt_23) (L' := #[.val (.ref v0), .val (.int v1), .val (.int v1), .val (.int v1), .unset]) rfl ?_
    refine G_iloadN X12 hx (pc' := 25) rfl (hb hby d_rt_24) rfl ?_
    refine G_iloadN X12 hx (pc' := 26) rfl (hb hby d_rt_25) rfl ?_
    refine G_icmpYes X12 hx (pc' := 50) (hb hby d_rt_26) (teq (rfl : v1 = v1)).1 (by decide) (by decide) ?_
    refine G_iloadN X12 hx (pc' := 51) rfl (hb hby d_rt_50) rfl ?_
    refine Go.fin X12 hlk (v := some (.int v1)) (fun h => by rw [Bd.returns] at h; cases h) (by decide) (by decide) ?_ (fun fs hr => retOut X12 hx Bd.returns rfl (Or.inl ⟨rfl, Or.inl rfl, _, rfl⟩) (hb hby d_rt_51) hr)
    show Q_root Z v0 v1 pa ps h0 n0 _ T12.heap _
    rw [e12]
    exact ⟨congrArg (fun z => some (Value.int z)) (own_k3 ps hps v1 hvx hc9_1), N0, (Keep.refl h0 [pa]), f0_E_v0, f1_F_v0, ((own_k4 ps hps v1 hvx hc9_1) ▸ f2_A_pa)⟩
  · refine G_icmpNo X12 hx (pc' := 12) rfl (hb hby d_rt_9) (feq hc9_1).1 ?_
    refine G_aloadN X12 hx (pc' := 13) rfl (hb hby d_rt_12) rfl rfl ?_
    obtain ⟨T13, X13, e13, st13⟩ := getF X12 hx hZ hown (host := "") (Or.inl (hw _ (List.mem_of_getElem? (i := 10) rfl))) Via.refl e12 f1_F_v0 (g := (mkF m 13 #[.val (.ref v0), .val (.int v1), .val (.int v1), .unset, .unset] [(.ref v0)])) rfl rfl (hb hby d_rt_13)
    refine Go.st st13 ?_
    show Go p e below s _ _ _ T13 (mkF m 16 #[.val (.ref v0), .val (.int v1), .val (.int v1), .unset, .unset] [(.ref pa)])
    refine G_iloadN X13 hx (pc' := 17) rfl (hb hby d_rt_16) rfl ?_
    refine Go.st (ldAI X13 hx hZ e13 f2_A_pa (j := v1) (own_k5 ps hps v1 hvx hc9_1) (own_k6 ps hps v1 hvx hc9_1) (g := (mkF m 17 #[.val (.ref v0), .val (.int v1), .val (.int v1), .unset, .unset] [(.int v1), (.ref pa)])) rfl rfl (hb hby d_rt_17)) ?_
    show Go p e below s _ _ _ T13 (mkF m 18 #[.val (.ref v0), .val (.int v1), .val (.int v1), .unset, .unset] [(.int (own_f ps v1))])
    refine G_istoreN X13 hx (pc' := 19) rfl (hb hby d_rt_18) (L' := #[.val (.ref v0), .val (.int v1), .val (.int (own_f ps v1)), .unset, .unset]) rfl ?_
    refine G_goto X13 hx (pc' := 2) (hb hby d_rt_19)  (by decide) (by decide) ?_
    refine G_aloadN X13 hx (pc' := 3) rfl (hb hby d_rt_2) rfl rfl ?_
    obtain ⟨T14, X14, e14, st14⟩ := getF X13 hx hZ hown (host := "") (Or.inl (hw _ (List.mem_of_getElem? (i := 10) rfl))) Via.refl e13 f1_F_v0 (g := (mkF m 3 #[.val (.ref v0), .val (.int v1), .val (.int (own_f ps v1)), .unset, .unset] [(.ref v0)])) rfl rfl (hb hby d_rt_3)
    refine Go.st st14 ?_
    show Go p e below s _ _ _ T14 (mkF m 6 #[.val (.ref v0), .val (.int v1), .val (.int (own_f ps v1)), .unset, .unset] [(.ref pa)])
    refine G_iloadN X14 hx (pc' := 7) rfl (hb hby d_rt_6) rfl ?_
    refine Go.st (ldAI X14 hx hZ e14 f2_A_pa (j := (own_f ps v1)) (own_k7 ps hps v1 hvx hc9_1) (own_k8 ps hps v1 hvx hc9_1) (g := (mkF m 7 #[.val (.ref v0), .val (.int v1), .val (.int (own_f ps v1)), .unset, .unset] [(.int (own_f ps v1)), (.ref pa)])) rfl rfl (hb hby d_rt_7)) ?_
    show Go p e below s _ _ _ T14 (mkF m 8 #[.val (.ref v0), .val (.int v1), .val (.int (own_f ps v1)), .unset, .unset] [(.int (own_f ps (own_f ps v1)))])
    refine G_iloadN X14 hx (pc' := 9) rfl (hb hby d_rt_8) rfl ?_
    by_cases hc9_2 : (own_f ps (own_f ps v1)) = (own_f ps v1)
    · refine G_icmpYes X14 hx (pc' := 22) (hb hby d_rt_9) (teq hc9_2).1 (by decide) (by decide) ?_
      refine G_iloadN X14 hx (pc' := 23) rfl (hb hby d_rt_22) rfl ?_
      refine G_istoreN X14 hx (pc' := 24) rfl (hb hby d_rt_23) (L' := #[.val (.ref v0), .val (.int v1), .val (.int (own_f ps v1)), .val (.int v1), .unset]) rfl ?_
      refine G_iloadN X14 hx (pc' := 25) rfl (hb hby d_rt_24) rfl ?_
      refine G_iloadN X14 hx (pc' := 26) rfl (hb hby d_rt_25) rfl ?_
      refine G_icmpNo X14 hx (pc' := 29) rfl (hb hby d_rt_26) (feq ((own_k9 ps hps v1 hvx hc9_1 hc9_2) : ¬ (v1 = (own_f ps v1)))).1 ?_
      refine G_aloadN X14 hx (pc' := 30) rfl (hb hby d_rt_29) rfl rfl ?_
      obtain ⟨T15, X15, e15, st15⟩ := getF X14 hx hZ hown (host := "") (Or.inl (hw _ (List.mem_of_getElem? (i := 10) rfl))) Via.refl e14 f1_F_v0 (g := (mkF m 30 #[.val (.ref v0), .val (.int v1), .val (.int (own_f ps v1)), .val (.int v1), .unset] [(.ref v0)])) rfl rfl (hb hby d_rt_30)
      refine Go.st st15 ?_
      show Go p e below s _ _ _ T15 (mkF m 33 #[.val (.ref v0), .val (.int v1), .val (.int (own_f ps v1)), .val (.int v1), .unset] [(.ref pa)])
      refine G_iloadN X15 hx (pc' := 34) rfl (hb hby d_rt_33) rfl ?_
      refine Go.st (ldAI X15 hx hZ e15 f2_A_pa (j := v1) (own_k10 ps hps v1 hvx hc9_1 hc9_2) (own_k11 ps hps v1 hvx hc9_1 hc9_2) (g := (mkF m 34 #[.val (.ref v0), .val (.int v1), .val (.int (own_f ps v1)), .val (.int v1), .unset] [(.int v1), (.ref pa)])) rfl rfl (hb hby d_rt_34)) ?_
      show Go p e below s _ _ _ T15 (mkF m 35 #[.val (.ref v0), .val (.int v1), .val (.int (own_f ps v1)), .val (.int v1), .unset] [(.int (own_f ps v1))])
      refine G_istore X15 hx (pc' := 37) rfl (hb hby d_rt_35) (L' := #[.val (.ref v0), .val (.int v1), .val (.int (own_f ps v1)), .val (.int v1), .val (.int (own_f ps v1))]) rfl ?_
      refine G_aloadN X15 hx (pc' := 38) rfl (hb hby d_rt_37) rfl rfl ?_
      obtain ⟨T16, X16, e16, st16⟩ := getF X15 hx hZ hown (host := "") (Or.inl (hw _ (List.mem_of_getElem? (i := 10) rfl))) Via.refl e15 f1_F_v0 (g := (mkF m 38 #[.val (.ref v0), .val (.int v1), .val (.int (own_f ps v1)), .val (.int v1), .val (.int (own_f ps v1))] [(.ref v0)])) rfl rfl (hb hby d_rt_38)
      refine Go.st st16 ?_
      show Go p e below s _ _ _ T16 (mkF m 41 #[.val (.ref v0), .val (.int v1), .val (.int (own_f ps v1)), .val (.int v1), .val (.int (own_f ps v1))] [(.ref pa)])
      refine G_iloadN X16 hx (pc' := 42) rfl (hb hby d_rt_41) rfl ?_
      refine G_iloadN X16 hx (pc' := 43) rfl (hb hby d_rt_42) rfl ?_
      obtain ⟨T17, h17, X17, e17, W17, A17, st17⟩ := stAI X16 hx hZ e16 f2_A_pa (j := v1) (own_k10 ps hps v1 hvx hc9_1 hc9_2) (own_k11 ps hps v1 hvx hc9_1 hc9_2) (g := (mkF m 43 #[.val (.ref v0), .val (.int v1), .val (.int (own_f ps v1)), .val (.int v1), .val (.int (own_f ps v1))] [(.int (own_f ps v1)), (.int v1), (.ref pa)])) rfl rfl (hb hby d_rt_43)
      refine Go.st st17 ?_
      have E_v0_17 := f0_E_v0.wr W17
      have F_v0_parent_17 := f1_F_v0.other W17 (Or.inl ne_v0_pa)
      have A_pa_17 : AI Z h17 pa .int (own_st ps v1 (own_f ps v1)) := A17
      have K_17 : Keep h0 h17 [pa] := (Keep.refl h0 [pa]).wr W17 (Or.inl (List.mem_of_getElem? (i := 0) rfl))
      have Z_17 : n0 ≤ h17.size := Nat.le_trans Z0 K_17.1
      have N17 := Fr.snoc X17 N0 g_pa
      show Go p e below s _ _ _ T17 (mkF m 44 #[.val (.ref v0), .val (.int v1), .val (.int (own_f ps v1)), .val (.int v1), .val (.int (own_f ps v1))] [])
      refine G_iload X17 hx (pc' := 46) rfl (hb hby d_rt_44) rfl ?_
      refine G_istoreN X17 hx (pc' := 47) rfl (hb hby d_rt_46) (L' := #[.val (.ref v0), .val (.int v1), .val (.int (own_f ps v1)), .val (.int (own_f ps v1)), .val (.int (own_f ps v1))]) rfl ?_
      refine G_goto X17 hx (pc' := 24) (hb hby d_rt_47)  (by decide) (by decide) ?_
      refine G_iloadN X17 hx (pc' := 25) rfl (hb hby d_rt_24) rfl ?_
      refine G_iloadN X17 hx (pc' := 26) rfl (hb hby d_rt_25) rfl ?_
      refine G_icmpYes X17 hx (pc' := 50) (hb hby d_rt_26) (teq ((own_k12 ps hps v1 hvx hc9_1 hc9_2) : (own_f ps v1) = (own_f ps v1))).1 (by decide) (by decide) ?_
      refine G_iloadN X17 hx (pc' := 51) rfl (hb hby d_rt_50) rfl ?_
      refine Go.fin X17 hlk (v := some (.int (own_f ps v1))) (fun h => by rw [Bd.returns] at h; cases h) (by decide) (by decide) ?_ (fun fs hr => retOut X17 hx Bd.returns rfl (Or.inl ⟨rfl, Or.inl rfl, _, rfl⟩) (hb hby d_rt_51) hr)
      show Q_root Z v0 v1 pa ps h0 n0 _ T17.heap _
      rw [e17]
      exact ⟨congrArg (fun z => some (Value.int z)) (own_k13 ps hps v1 hvx hc9_1 hc9_2), N17, K_17, E_v0_17, F_v0_parent_17, ((own_k14 ps hps v1 hvx hc9_1 hc9_2) ▸ A_pa_17)⟩
    · refine G_icmpNo X14 hx (pc' := 12) rfl (hb hby d_rt_9) (feq hc9_2).1 ?_
      refine G_aloadN X14 hx (pc' := 13) rfl (hb hby d_rt_12) rfl rfl ?_
      obtain ⟨T18, X18, e18, st18⟩ := getF X14 hx hZ hown (host := "") (Or.inl (hw _ (List.mem_of_getElem? (i := 10) rfl))) Via.refl e14 f1_F_v0 (g := (mkF m 13 #[.val (.ref v0), .val (.int v1), .val (.int (own_f ps v1)), .unset, .unset] [(.ref v0)])) rfl rfl (hb hby d_rt_13)
      refine Go.st st18 ?_
      show Go p e below s _ _ _ T18 (mkF m 16 #[.val (.ref v0), .val (.int v1), .val (.int (own_f ps v1)), .unset, .unset] [(.ref pa)])
      refine G_iloadN X18 hx (pc' := 17) rfl (hb hby d_rt_16) rfl ?_
      refine Go.st (ldAI X18 hx hZ e18 f2_A_pa (j := (own_f ps v1)) (own_k15 ps hps v1 hvx hc9_1 hc9_2) (own_k16 ps hps v1 hvx hc9_1 hc9_2) (g := (mkF m 17 #[.val (.ref v0), .val (.int v1), .val (.int (own_f ps v1)), .unset, .unset] [(.int (own_f ps v1)), (.ref pa)])) rfl rfl (hb hby d_rt_17)) ?_
      show Go p e below s _ _ _ T18 (mkF m 18 #[.val (.ref v0), .val (.int v1), .val (.int (own_f ps v1)), .unset, .unset] [(.int (own_f ps (own_f ps v1)))])
      refine G_istoreN X18 hx (pc' := 19) rfl (hb hby d_rt_18) (L' := #[.val (.ref v0), .val (.int v1), .val (.int (own_f ps (own_f ps v1))), .unset, .unset]) rfl ?_
      refine G_goto X18 hx (pc' := 2) (hb hby d_rt_19)  (by decide) (by decide) ?_
      refine G_aloadN X18 hx (pc' := 3) rfl (hb hby d_rt_2) rfl rfl ?_
      obtain ⟨T19, X19, e19, st19⟩ := getF X18 hx hZ hown (host := "") (Or.inl (hw _ (List.mem_of_getElem? (i := 10) rfl))) Via.refl e18 f1_F_v0 (g := (mkF m 3 #[.val (.ref v0), .val (.int v1), .val (.int (own_f ps (own_f ps v1))), .unset, .unset] [(.ref v0)])) rfl rfl (hb hby d_rt_3)
      refine Go.st st19 ?_
      show Go p e below s _ _ _ T19 (mkF m 6 #[.val (.ref v0), .val (.int v1), .val (.int (own_f ps (own_f ps v1))), .unset, .unset] [(.ref pa)])
      refine G_iloadN X19 hx (pc' := 7) rfl (hb hby d_rt_6) rfl ?_
      refine Go.st (ldAI X19 hx hZ e19 f2_A_pa (j := (own_f ps (own_f ps v1))) (own_k17 ps hps v1 hvx hc9_1 hc9_2) (own_k18 ps hps v1 hvx hc9_1 hc9_2) (g := (mkF m 7 #[.val (.ref v0), .val (.int v1), .val (.int (own_f ps (own_f ps v1))), .unset, .unset] [(.int (own_f ps (own_f ps v1))), (.ref pa)])) rfl rfl (hb hby d_rt_7)) ?_
      show Go p e below s _ _ _ T19 (mkF m 8 #[.val (.ref v0), .val (.int v1), .val (.int (own_f ps (own_f ps v1))), .unset, .unset] [(.int (own_f ps (own_f ps (own_f ps v1))))])
      refine G_iloadN X19 hx (pc' := 9) rfl (hb hby d_rt_8) rfl ?_
      by_cases hc9_3 : (own_f ps (own_f ps (own_f ps v1))) = (own_f ps (own_f ps v1))
      · refine G_icmpYes X19 hx (pc' := 22) (hb hby d_rt_9) (teq hc9_3).1 (by decide) (by decide) ?_
        refine G_iloadN X19 hx (pc' := 23) rfl (hb hby d_rt_22) rfl ?_
        refine G_istoreN X19 hx (pc' := 24) rfl (hb hby d_rt_23) (L' := #[.val (.ref v0), .val (.int v1), .val (.int (own_f ps (own_f ps v1))), .val (.int v1), .unset]) rfl ?_
        refine G_iloadN X19 hx (pc' := 25) rfl (hb hby d_rt_24) rfl ?_
        refine G_iloadN X19 hx (pc' := 26) rfl (hb hby d_rt_25) rfl ?_
        refine G_icmpNo X19 hx (pc' := 29) rfl (hb hby d_rt_26) (feq ((own_k19 ps hps v1 hvx hc9_1 hc9_2 hc9_3) : ¬ (v1 = (own_f ps (own_f ps v1))))).1 ?_
        refine G_aloadN X19 hx (pc' := 30) rfl (hb hby d_rt_29) rfl rfl ?_
        obtain ⟨T20, X20, e20, st20⟩ := getF X19 hx hZ hown (host := "") (Or.inl (hw _ (List.mem_of_getElem? (i := 10) rfl))) Via.refl e19 f1_F_v0 (g := (mkF m 30 #[.val (.ref v0), .val (.int v1), .val (.int (own_f ps (own_f ps v1))), .val (.int v1), .unset] [(.ref v0)])) rfl rfl (hb hby d_rt_30)
        refine Go.st st20 ?_
        show Go p e below s _ _ _ T20 (mkF m 33 #[.val (.ref v0), .val (.int v1), .val (.int (own_f ps (own_f ps v1))), .val (.int v1), .unset] [(.ref pa)])
        refine G_iloadN X20 hx (pc' := 34) rfl (hb hby d_rt_33) rfl ?_
        refine Go.st (ldAI X20 hx hZ e20 f2_A_pa (j := v1) (own_k20 ps hps v1 hvx hc9_1 hc9_2 hc9_3) (own_k21 ps hps v1 hvx hc9_1 hc9_2 hc9_3) (g := (mkF m 34 #[.val (.ref v0), .val (.int v1), .val (.int (own_f ps (own_f ps v1))), .val (.int v1), .unset] [(.int v1), (.ref pa)])) rfl rfl (hb hby d_rt_34)) ?_
        show Go p e below s _ _ _ T20 (mkF m 35 #[.val (.ref v0), .val (.int v1), .val (.int (own_f ps (own_f ps v1))), .val (.int v1), .unset] [(.int (own_f ps v1))])
        refine G_istore X20 hx (pc' := 37) rfl (hb hby d_rt_35) (L' := #[.val (.ref v0), .val (.int v1), .val (.int (own_f ps (own_f ps v1))), .val (.int v1), .val (.int (own_f ps v1))]) rfl ?_
        refine G_aloadN X20 hx (pc' := 38) rfl (hb hby d_rt_37) rfl rfl ?_
        obtain ⟨T21, X21, e21, st21⟩ := getF X20 hx hZ hown (host := "") (Or.inl (hw _ (List.mem_of_getElem? (i := 10) rfl))) Via.refl e20 f1_F_v0 (g := (mkF m 38 #[.val (.ref v0), .val (.int v1), .val (.int (own_f ps (own_f ps v1))), .val (.int v1), .val (.int (own_f ps v1))] [(.ref v0)])) rfl rfl (hb hby d_rt_38)
        refine Go.st st21 ?_
        show Go p e below s _ _ _ T21 (mkF m 41 #[.val (.ref v0), .val (.int v1), .val (.int (own_f ps (own_f ps v1))), .val (.int v1), .val (.int (own_f ps v1))] [(.ref pa)])
        refine G_iloadN X21 hx (pc' := 42) rfl (hb hby d_rt_41) rfl ?_
        refine G_iloadN X21 hx (pc' := 43) rfl (hb hby d_rt_42) rfl ?_
        obtain ⟨T22, h22, X22, e22, W22, A22, st22⟩ := stAI X21 hx hZ e21 f2_A_pa (j := v1) (own_k20 ps hps v1 hvx hc9_1 hc9_2 hc9_3) (own_k21 ps hps v1 hvx hc9_1 hc9_2 hc9_3) (g := (mkF m 43 #[.val (.ref v0), .val (.int v1), .val (.int (own_f ps (own_f ps v1))), .val (.int v1), .val (.int (own_f ps v1))] [(.int (own_f ps (own_f ps v1))), (.int v1), (.ref pa)])) rfl rfl (hb hby d_rt_43)
        refine Go.st st22 ?_
        have E_v0_22 := f0_E_v0.wr W22
        have F_v0_parent_22 := f1_F_v0.other W22 (Or.inl ne_v0_pa)
        have A_pa_22 : AI Z h22 pa .int (own_st ps v1 (own_f ps (own_f ps v1))) := A22
        have K_22 : Keep h0 h22 [pa] := (Keep.refl h0 [pa]).wr W22 (Or.inl (List.mem_of_getElem? (i := 0) rfl))
        have Z_22 : n0 ≤ h22.size := Nat.le_trans Z0 K_22.1
        have N22 := Fr.snoc X22 N0 g_pa
        show Go p e below s _ _ _ T22 (mkF m 44 #[.val (.ref v0), .val (.int v1), .val (.int (own_f ps (own_f ps v1))), .val (.int v1), .val (.int (own_f ps v1))] [])
        refine G_iload X22 hx (pc' := 46) rfl (hb hby d_rt_44) rfl ?_
        refine G_istoreN X22 hx (pc' := 47) rfl (hb hby d_rt_46) (L' := #[.val (.ref v0), .val (.int v1), .val (.int (own_f ps (own_f ps v1))), .val (.int (own_f ps v1)), .val (.int (own_f ps v1))]) rfl ?_
        refine G_goto X22 hx (pc' := 24) (hb hby d_rt_47)  (by decide) (by decide) ?_
        refine G_iloadN X22 hx (pc' := 25) rfl (hb hby d_rt_24) rfl ?_
        refine G_iloadN X22 hx (pc' := 26) rfl (hb hby d_rt_25) rfl ?_
        refine G_icmpNo X22 hx (pc' := 29) rfl (hb hby d_rt_26) (feq ((own_k22 ps hps v1 hvx hc9_1 hc9_2 hc9_3) : ¬ ((own_f ps v1) = (own_f ps (own_f ps v1))))).1 ?_
        refine G_aloadN X22 hx (pc' := 30) rfl (hb hby d_rt_29) rfl rfl ?_
        obtain ⟨T23, X23, e23, st23⟩ := getF X22 hx hZ hown (host := "") (Or.inl (hw _ (List.mem_of_getElem? (i := 10) rfl))) Via.refl e22 F_v0_parent_22 (g := (mkF m 30 #[.val (.ref v0), .val (.int v1), .val (.int (own_f ps (own_f ps v1))), .val (.int (own_f ps v1)), .val (.int (own_f ps v1))] [(.ref v0)])) rfl rfl (hb hby d_rt_30)
        refine Go.st st23 ?_
        show Go p e below s _ _ _ T23 (mkF m 33 #[.val (.ref v0), .val (.int v1), .val (.int (own_f ps (own_f ps v1))), .val (.int (own_f ps v1)), .val (.int (own_f ps v1))] [(.ref pa)])
        refine G_iloadN X23 hx (pc' := 34) rfl (hb hby d_rt_33) rfl ?_
        refine Go.st (ldAI X23 hx hZ e23 A_pa_22 (j := (own_f ps v1)) (own_k23 ps hps v1 hvx hc9_1 hc9_2 hc9_3) (own_k24 ps hps v1 hvx hc9_1 hc9_2 hc9_3) (g := (mkF m 34 #[.val (.ref v0), .val (.int v1), .val (.int (own_f ps (own_f ps v1))), .val (.int (own_f ps v1)), .val (.int (own_f ps v1))] [(.int (own_f ps v1)), (.ref pa)])) rfl rfl (hb hby d_rt_34)) ?_
        show Go p e below s _ _ _ T23 (mkF m 35 #[.val (.ref v0), .val (.int v1), .val (.int (own_f ps (own_f ps v1))), .val (.int (own_f ps v1)), .val (.int (own_f ps v1))] [(.int (own_f (own_st ps v1 (own_f ps (own_f ps v1))) (own_f ps v1)))])
        refine G_istore X23 hx (pc' := 37) rfl (hb hby d_rt_35) (L' := #[.val (.ref v0), .val (.int v1), .val (.int (own_f ps (own_f ps v1))), .val (.int (own_f ps v1)), .val (.int (own_f (own_st ps v1 (own_f ps (own_f ps v1))) (own_f ps v1)))]) rfl ?_
        refine G_aloadN X23 hx (pc' := 38) rfl (hb hby d_rt_37) rfl rfl ?_
        obtain ⟨T24, X24, e24, st24⟩ := getF X23 hx hZ hown (host := "") (Or.inl (hw _ (List.mem_of_getElem? (i := 10) rfl))) Via.refl e23 F_v0_parent_22 (g := (mkF m 38 #[.val (.ref v0), .val (.int v1), .val (.int (own_f ps (own_f ps v1))), .val (.int (own_f ps v1)), .val (.int (own_f (own_st ps v1 (own_f ps (own_f ps v1))) (own_f ps v1)))] [(.ref v0)])) rfl rfl (hb hby d_rt_38)
        refine Go.st st24 ?_
        show Go p e below s _ _ _ T24 (mkF m 41 #[.val (.ref v0), .val (.int v1), .val (.int (own_f ps (own_f ps v1))), .val (.int (own_f ps v1)), .val (.int (own_f (own_st ps v1 (own_f ps (own_f ps v1))) (own_f ps v1)))] [(.ref pa)])
        refine G_iloadN X24 hx (pc' := 42) rfl (hb hby d_rt_41) rfl ?_
        refine G_iloadN X24 hx (pc' := 43) rfl (hb hby d_rt_42) rfl ?_
        obtain ⟨T25, h25, X25, e25, W25, A25, st25⟩ := stAI X24 hx hZ e24 A_pa_22 (j := (own_f ps v1)) (own_k23 ps hps v1 hvx hc9_1 hc9_2 hc9_3) (own_k24 ps hps v1 hvx hc9_1 hc9_2 hc9_3) (g := (mkF m 43 #[.val (.ref v0), .val (.int v1), .val (.int (own_f ps (own_f ps v1))), .val (.int (own_f ps v1)), .val (.int (own_f (own_st ps v1 (own_f ps (own_f ps v1))) (own_f ps v1)))] [(.int (own_f ps (own_f ps v1))), (.int (own_f ps v1)), (.ref pa)])) rfl rfl (hb hby d_rt_43)
        refine Go.st st25 ?_
        have E_v0_25 := E_v0_22.wr W25
        have F_v0_parent_25 := F_v0_parent_22.other W25 (Or.inl ne_v0_pa)
        have A_pa_25 : AI Z h25 pa .int (own_st (own_st ps v1 (own_f ps (own_f ps v1))) (own_f ps v1) (own_f ps (own_f ps v1))) := A25
        have K_25 : Keep h0 h25 [pa] := K_22.wr W25 (Or.inl (List.mem_of_getElem? (i := 0) rfl))
        have Z_25 : n0 ≤ h25.size := Nat.le_trans Z0 K_25.1
        have N25 := Fr.snoc X25 N22 g_pa
        show Go p e below s _ _ _ T25 (mkF m 44 #[.val (.ref v0), .val (.int v1), .val (.int (own_f ps (own_f ps v1))), .val (.int (own_f ps v1)), .val (.int (own_f (own_st ps v1 (own_f ps (own_f ps v1))) (own_f ps v1)))] [])
        refine G_iload X25 hx (pc' := 46) rfl (hb hby d_rt_44) rfl ?_
        refine G_istoreN X25 hx (pc' := 47) rfl (hb hby d_rt_46) (L' := #[.val (.ref v0), .val (.int v1), .val (.int (own_f ps (own_f ps v1))), .val (.int (own_f (own_st ps v1 (own_f ps (own_f ps v1))) (own_f ps v1))), .val (.int (own_f (own_st ps v1 (own_f ps (own_f ps v1))) (own_f ps v1)))]) rfl ?_
        refine G_goto X25 hx (pc' := 24) (hb hby d_rt_47)  (by decide) (by decide) ?_
        refine G_iloadN X25 hx (pc' := 25) rfl (hb hby d_rt_24) rfl ?_
        refine G_iloadN X25 hx (pc' := 26) rfl (hb hby d_rt_25) rfl ?_
        refine G_icmpYes X25 hx (pc' := 50) (hb hby d_rt_26) (teq ((own_k25 ps hps v1 hvx hc9_1 hc9_2 hc9_3) : (own_f (own_st ps v1 (own_f ps (own_f ps v1))) (own_f ps v1)) = (own_f ps (own_f ps v1)))).1 (by decide) (by decide) ?_
        refine G_iloadN X25 hx (pc' := 51) rfl (hb hby d_rt_50) rfl ?_
        refine Go.fin X25 hlk (v := some (.int (own_f ps (own_f ps v1)))) (fun h => by rw [Bd.returns] at h; cases h) (by decide) (by decide) ?_ (fun fs hr => retOut X25 hx Bd.returns rfl (Or.inl ⟨rfl, Or.inl rfl, _, rfl⟩) (hb hby d_rt_51) hr)
        show Q_root Z v0 v1 pa ps h0 n0 _ T25.heap _
        rw [e25]
        exact ⟨congrArg (fun z => some (Value.int z)) (own_k26 ps hps v1 hvx hc9_1 hc9_2 hc9_3), N25, K_25, E_v0_25, F_v0_parent_25, ((own_k27 ps hps v1 hvx hc9_1 hc9_2 hc9_3) ▸ A_pa_25)⟩
      · refine G_icmpNo X19 hx (pc' := 12) rfl (hb hby d_rt_9) (feq hc9_3).1 ?_
        refine G_aloadN X19 hx (pc' := 13) rfl (hb hby d_rt_12) rfl rfl ?_
        obtain ⟨T26, X26, e26, st26⟩ := getF X19 hx hZ hown (host := "") (Or.inl (hw _ (List.mem_of_getElem? (i := 10) rfl))) Via.refl e19 f1_F_v0 (g := (mkF m 13 #[.val (.ref v0), .val (.int v1), .val (.int (own_f ps (own_f ps v1))), .unset, .unset] [(.ref v0)])) rfl rfl (hb hby d_rt_13)
        refine Go.st st26 ?_
        show Go p e below s _ _ _ T26 (mkF m 16 #[.val (.ref v0), .val (.int v1), .val (.int (own_f ps (own_f ps v1))), .unset, .unset] [(.ref pa)])
        refine G_iloadN X26 hx (pc' := 17) rfl (hb hby d_rt_16) rfl ?_
        refine Go.st (ldAI X26 hx hZ e26 f2_A_pa (j := (own_f ps (own_f ps v1))) (own_k28 ps hps v1 hvx hc9_1 hc9_2 hc9_3) (own_k29 ps hps v1 hvx hc9_1 hc9_2 hc9_3) (g := (mkF m 17 #[.val (.ref v0), .val (.int v1), .val (.int (own_f ps (own_f ps v1))), .unset, .unset] [(.int (own_f ps (own_f ps v1))), (.ref pa)])) rfl rfl (hb hby d_rt_17)) ?_
        show Go p e below s _ _ _ T26 (mkF m 18 #[.val (.ref v0), .val (.int v1), .val (.int (own_f ps (own_f ps v1))), .unset, .unset] [(.int (own_f ps (own_f ps (own_f ps v1))))])
        refine G_istoreN X26 hx (pc' := 19) rfl (hb hby d_rt_18) (L' := #[.val (.ref v0), .val (.int v1), .val (.int (own_f ps (own_f ps (own_f ps v1)))), .unset, .unset]) rfl ?_
        refine G_goto X26 hx (pc' := 2) (hb hby d_rt_19)  (by decide) (by decide) ?_
        refine G_aloadN X26 hx (pc' := 3) rfl (hb hby d_rt_2) rfl rfl ?_
        obtain ⟨T27, X27, e27, st27⟩ := getF X26 hx hZ hown (host := "") (Or.inl (hw _ (List.mem_of_getElem? (i := 10) rfl))) Via.refl e26 f1_F_v0 (g := (mkF m 3 #[.val (.ref v0), .val (.int v1), .val (.int (own_f ps (own_f ps (own_f ps v1)))), .unset, .unset] [(.ref v0)])) rfl rfl (hb hby d_rt_3)
        refine Go.st st27 ?_
        show Go p e below s _ _ _ T27 (mkF m 6 #[.val (.ref v0), .val (.int v1), .val (.int (own_f ps (own_f ps (own_f ps v1)))), .unset, .unset] [(.ref pa)])
        refine G_iloadN X27 hx (pc' := 7) rfl (hb hby d_rt_6) rfl ?_
        refine Go.st (ldAI X27 hx hZ e27 f2_A_pa (j := (own_f ps (own_f ps (own_f ps v1)))) (own_k30 ps hps v1 hvx hc9_1 hc9_2 hc9_3) (own_k31 ps hps v1 hvx hc9_1 hc9_2 hc9_3) (g := (mkF m 7 #[.val (.ref v0), .val (.int v1), .val (.int (own_f ps (own_f ps (own_f ps v1)))), .unset, .unset] [(.int (own_f ps (own_f ps (own_f ps v1)))), (.ref pa)])) rfl rfl (hb hby d_rt_7)) ?_
        show Go p e below s _ _ _ T27 (mkF m 8 #[.val (.ref v0), .val (.int v1), .val (.int (own_f ps (own_f ps (own_f ps v1)))), .unset, .unset] [(.int (own_f ps (own_f ps (own_f ps (own_f ps v1)))))])
        refine G_iloadN X27 hx (pc' := 9) rfl (hb hby d_rt_8) rfl ?_
        refine G_icmpYes X27 hx (pc' := 22) (hb hby d_rt_9) (teq ((own_k32 ps hps v1 hvx hc9_1 hc9_2 hc9_3) : (own_f ps (own_f ps (own_f ps (own_f ps v1)))) = (own_f ps (own_f ps (own_f ps v1))))).1 (by decide) (by decide) ?_
        refine G_iloadN X27 hx (pc' := 23) rfl (hb hby d_rt_22) rfl ?_
        refine G_istoreN X27 hx (pc' := 24) rfl (hb hby d_rt_23) (L' := #[.val (.ref v0), .val (.int v1), .val (.int (own_f ps (own_f ps (own_f ps v1)))), .val (.int v1), .unset]) rfl ?_
        refine G_iloadN X27 hx (pc' := 25) rfl (hb hby d_rt_24) rfl ?_
        refine G_iloadN X27 hx (pc' := 26) rfl (hb hby d_rt_25) rfl ?_
        refine G_icmpNo X27 hx (pc' := 29) rfl (hb hby d_rt_26) (feq ((own_k33 ps hps v1 hvx hc9_1 hc9_2 hc9_3) : ¬ (v1 = (own_f ps (own_f ps (own_f ps v1)))))).1 ?_
        refine G_aloadN X27 hx (pc' := 30) rfl (hb hby d_rt_29) rfl rfl ?_
        obtain ⟨T28, X28, e28, st28⟩ := getF X27 hx hZ hown (host := "") (Or.inl (hw _ (List.mem_of_getElem? (i := 10) rfl))) Via.refl e27 f1_F_v0 (g := (mkF m 30 #[.val (.ref v0), .val (.int v1), .val (.int (own_f ps (own_f ps (own_f ps v1)))), .val (.int v1), .unset] [(.ref v0)])) rfl rfl (hb hby d_rt_30)
        refine Go.st st28 ?_
        show Go p e below s _ _ _ T28 (mkF m 33 #[.val (.ref v0), .val (.int v1), .val (.int (own_f ps (own_f ps (own_f ps v1)))), .val (.int v1), .unset] [(.ref pa)])
        refine G_iloadN X28 hx (pc' := 34) rfl (hb hby d_rt_33) rfl ?_
        refine Go.st (ldAI X28 hx hZ e28 f2_A_pa (j := v1) (own_k34 ps hps v1 hvx hc9_1 hc9_2 hc9_3) (own_k35 ps hps v1 hvx hc9_1 hc9_2 hc9_3) (g := (mkF m 34 #[.val (.ref v0), .val (.int v1), .val (.int (own_f ps (own_f ps (own_f ps v1)))), .val (.int v1), .unset] [(.int v1), (.ref pa)])) rfl rfl (hb hby d_rt_34)) ?_
        show Go p e below s _ _ _ T28 (mkF m 35 #[.val (.ref v0), .val (.int v1), .val (.int (own_f ps (own_f ps (own_f ps v1)))), .val (.int v1), .unset] [(.int (own_f ps v1))])
        refine G_istore X28 hx (pc' := 37) rfl (hb hby d_rt_35) (L' := #[.val (.ref v0), .val (.int v1), .val (.int (own_f ps (own_f ps (own_f ps v1)))), .val (.int v1), .val (.int (own_f ps v1))]) rfl ?_
        refine G_aloadN X28 hx (pc' := 38) rfl (hb hby d_rt_37) rfl rfl ?_
        obtain ⟨T29, X29, e29, st29⟩ := getF X28 hx hZ hown (host := "") (Or.inl (hw _ (List.mem_of_getElem? (i := 10) rfl))) Via.refl e28 f1_F_v0 (g := (mkF m 38 #[.val (.ref v0), .val (.int v1), .val (.int (own_f ps (own_f ps (own_f ps v1)))), .val (.int v1), .val (.int (own_f ps v1))] [(.ref v0)])) rfl rfl (hb hby d_rt_38)
        refine Go.st st29 ?_
        show Go p e below s _ _ _ T29 (mkF m 41 #[.val (.ref v0), .val (.int v1), .val (.int (own_f ps (own_f ps (own_f ps v1)))), .val (.int v1), .val (.int (own_f ps v1))] [(.ref pa)])
        refine G_iloadN X29 hx (pc' := 42) rfl (hb hby d_rt_41) rfl ?_
        refine G_iloadN X29 hx (pc' := 43) rfl (hb hby d_rt_42) rfl ?_
        obtain ⟨T30, h30, X30, e30, W30, A30, st30⟩ := stAI X29 hx hZ e29 f2_A_pa (j := v1) (own_k34 ps hps v1 hvx hc9_1 hc9_2 hc9_3) (own_k35 ps hps v1 hvx hc9_1 hc9_2 hc9_3) (g := (mkF m 43 #[.val (.ref v0), .val (.int v1), .val (.int (own_f ps (own_f ps (own_f ps v1)))), .val (.int v1), .val (.int (own_f ps v1))] [(.int (own_f ps (own_f ps (own_f ps v1)))), (.int v1), (.ref pa)])) rfl rfl (hb hby d_rt_43)
        refine Go.st st30 ?_
        have E_v0_30 := f0_E_v0.wr W30
        have F_v0_parent_30 := f1_F_v0.other W30 (Or.inl ne_v0_pa)
        have A_pa_30 : AI Z h30 pa .int (own_st ps v1 (own_f ps (own_f ps (own_f ps v1)))) := A30
        have K_30 : Keep h0 h30 [pa] := (Keep.refl h0 [pa]).wr W30 (Or.inl (List.mem_of_getElem? (i := 0) rfl))
        have Z_30 : n0 ≤ h30.size := Nat.le_trans Z0 K_30.1
        have N30 := Fr.snoc X30 N0 g_pa
        show Go p e below s _ _ _ T30 (mkF m 44 #[.val (.ref v0), .val (.int v1), .val (.int (own_f ps (own_f ps (own_f ps v1)))), .val (.int v1), .val (.int (own_f ps v1))] [])
        refine G_iload X30 hx (pc' := 46) rfl (hb hby d_rt_44) rfl ?_
        refine G_istoreN X30 hx (pc' := 47) rfl (hb hby d_rt_46) (L' := #[.val (.ref v0), .val (.int v1), .val (.int (own_f ps (own_f ps (own_f ps v1)))), .val (.int (own_f ps v1)), .val (.int (own_f ps v1))]) rfl ?_
        refine G_goto X30 hx (pc' := 24) (hb hby d_rt_47)  (by decide) (by decide) ?_
        refine G_iloadN X30 hx (pc' := 25) rfl (hb hby d_rt_24) rfl ?_
        refine G_iloadN X30 hx (pc' := 26) rfl (hb hby d_rt_25) rfl ?_
        refine G_icmpNo X30 hx (pc' := 29) rfl (hb hby d_rt_26) (feq ((own_k36 ps hps v1 hvx hc9_1 hc9_2 hc9_3) : ¬ ((own_f ps v1) = (own_f ps (own_f ps (own_f ps v1)))))).1 ?_
        refine G_aloadN X30 hx (pc' := 30) rfl (hb hby d_rt_29) rfl rfl ?_
        obtain ⟨T31, X31, e31, st31⟩ := getF X30 hx hZ hown (host := "") (Or.inl (hw _ (List.mem_of_getElem? (i := 10) rfl))) Via.refl e30 F_v0_parent_30 (g := (mkF m 30 #[.val (.ref v0), .val (.int v1), .val (.int (own_f ps (own_f ps (own_f ps v1)))), .val (.int (own_f ps v1)), .val (.int (own_f ps v1))] [(.ref v0)])) rfl rfl (hb hby d_rt_30)
        refine Go.st st31 ?_
        show Go p e below s _ _ _ T31 (mkF m 33 #[.val (.ref v0), .val (.int v1), .val (.int (own_f ps (own_f ps (own_f ps v1)))), .val (.int (own_f ps v1)), .val (.int (own_f ps v1))] [(.ref pa)])
        refine G_iloadN X31 hx (pc' := 34) rfl (hb hby d_rt_33) rfl ?_
        refine Go.st (ldAI X31 hx hZ e31 A_pa_30 (j := (own_f ps v1)) (own_k37 ps hps v1 hvx hc9_1 hc9_2 hc9_3) (own_k38 ps hps v1 hvx hc9_1 hc9_2 hc9_3) (g := (mkF m 34 #[.val (.ref v0), .val (.int v1), .val (.int (own_f ps (own_f ps (own_f ps v1)))), .val (.int (own_f ps v1)), .val (.int (own_f ps v1))] [(.int (own_f ps v1)), (.ref pa)])) rfl rfl (hb hby d_rt_34)) ?_
        show Go p e below s _ _ _ T31 (mkF m 35 #[.val (.ref v0), .val (.int v1), .val (.int (own_f ps (own_f ps (own_f ps v1)))), .val (.int (own_f ps v1)), .val (.int (own_f ps v1))] [(.int (own_f (own_st ps v1 (own_f ps (own_f ps (own_f ps v1)))) (own_f ps v1)))])
        refine G_istore X31 hx (pc' := 37) rfl (hb hby d_rt_35) (L' := #[.val (.ref v0), .val (.int v1), .val (.int (own_f ps (own_f ps (own_f ps v1)))), .val (.int (own_f ps v1)), .val (.int (own_f (own_st ps v1 (own_f ps (own_f ps (own_f ps v1)))) (own_f ps v1)))]) rfl ?_
        refine G_aloadN X31 hx (pc' := 38) rfl (hb hby d_rt_37) rfl rfl ?_
        obtain ⟨T32, X32, e32, st32⟩ := getF X31 hx hZ hown (host := "") (Or.inl (hw _ (List.mem_of_getElem? (i := 10) rfl))) Via.refl e31 F_v0_parent_30 (g := (mkF m 38 #[.val (.ref v0), .val (.int v1), .val (.int (own_f ps (own_f ps (own_f ps v1)))), .val (.int (own_f ps v1)), .val (.int (own_f (own_st ps v1 (own_f ps (own_f ps (own_f ps v1)))) (own_f ps v1)))] [(.ref v0)])) rfl rfl (hb hby d_rt_38)
        refine Go.st st32 ?_
        show Go p e below s _ _ _ T32 (mkF m 41 #[.val (.ref v0), .val (.int v1), .val (.int (own_f ps (own_f ps (own_f ps v1)))), .val (.int (own_f ps v1)), .val (.int (own_f (own_st ps v1 (own_f ps (own_f ps (own_f ps v1)))) (own_f ps v1)))] [(.ref pa)])
        refine G_iloadN X32 hx (pc' := 42) rfl (hb hby d_rt_41) rfl ?_
        refine G_iloadN X32 hx (pc' := 43) rfl (hb hby d_rt_42) rfl ?_
        obtain ⟨T33, h33, X33, e33, W33, A33, st33⟩ := stAI X32 hx hZ e32 A_pa_30 (j := (own_f ps v1)) (own_k37 ps hps v1 hvx hc9_1 hc9_2 hc9_3) (own_k38 ps hps v1 hvx hc9_1 hc9_2 hc9_3) (g := (mkF m 43 #[.val (.ref v0), .val (.int v1), .val (.int (own_f ps (own_f ps (own_f ps v1)))), .val (.int (own_f ps v1)), .val (.int (own_f (own_st ps v1 (own_f ps (own_f ps (own_f ps v1)))) (own_f ps v1)))] [(.int (own_f ps (own_f ps (own_f ps v1)))), (.int (own_f ps v1)), (.ref pa)])) rfl rfl (hb hby d_rt_43)
        refine Go.st st33 ?_
        have E_v0_33 := E_v0_30.wr W33
        have F_v0_parent_33 := F_v0_parent_30.other W33 (Or.inl ne_v0_pa)
        have A_pa_33 : AI Z h33 pa .int (own_st (own_st ps v1 (own_f ps (own_f ps (own_f ps v1)))) (own_f ps v1) (own_f ps (own_f ps (own_f ps v1)))) := A33
        have K_33 : Keep h0 h33 [pa] := K_30.wr W33 (Or.inl (List.mem_of_getElem? (i := 0) rfl))
        have Z_33 : n0 ≤ h33.size := Nat.le_trans Z0 K_33.1
        have N33 := Fr.snoc X33 N30 g_pa
        show Go p e below s _ _ _ T33 (mkF m 44 #[.val (.ref v0), .val (.int v1), .val (.int (own_f ps (own_f ps (own_f ps v1)))), .val (.int (own_f ps v1)), .val (.int (own_f (own_st ps v1 (own_f ps (own_f ps (own_f ps v1)))) (own_f ps v1)))] [])
        refine G_iload X33 hx (pc' := 46) rfl (hb hby d_rt_44) rfl ?_
        refine G_istoreN X33 hx (pc' := 47) rfl (hb hby d_rt_46) (L' := #[.val (.ref v0), .val (.int v1), .val (.int (own_f ps (own_f ps (own_f ps v1)))), .val (.int (own_f (own_st ps v1 (own_f ps (own_f ps (own_f ps v1)))) (own_f ps v1))), .val (.int (own_f (own_st ps v1 (own_f ps (own_f ps (own_f ps v1)))) (own_f ps v1)))]) rfl ?_
        refine G_goto X33 hx (pc' := 24) (hb hby d_rt_47)  (by decide) (by decide) ?_
        refine G_iloadN X33 hx (pc' := 25) rfl (hb hby d_rt_24) rfl ?_
        refine G_iloadN X33 hx (pc' := 26) rfl (hb hby d_rt_25) rfl ?_
        refine G_icmpNo X33 hx (pc' := 29) rfl (hb hby d_rt_26) (feq ((own_k39 ps hps v1 hvx hc9_1 hc9_2 hc9_3) : ¬ ((own_f (own_st ps v1 (own_f ps (own_f ps (own_f ps v1)))) (own_f ps v1)) = (own_f ps (own_f ps (own_f ps v1)))))).1 ?_
        refine G_aloadN X33 hx (pc' := 30) rfl (hb hby d_rt_29) rfl rfl ?_
        obtain ⟨T34, X34, e34, st34⟩ := getF X33 hx hZ hown (host := "") (Or.inl (hw _ (List.mem_of_getElem? (i := 10) rfl))) Via.refl e33 F_v0_parent_33 (g := (mkF m 30 #[.val (.ref v0), .val (.int v1), .val (.int (own_f ps (own_f ps (own_f ps v1)))), .val (.int (own_f (own_st ps v1 (own_f ps (own_f ps (own_f ps v1)))) (own_f ps v1))), .val (.int (own_f (own_st ps v1 (own_f ps (own_f ps (own_f ps v1)))) (own_f ps v1)))] [(.ref v0)])) rfl rfl (hb hby d_rt_30)
        refine Go.st st34 ?_
        show Go p e below s _ _ _ T34 (mkF m 33 #[.val (.ref v0), .val (.int v1), .val (.int (own_f ps (own_f ps (own_f ps v1)))), .val (.int (own_f (own_st ps v1 (own_f ps (own_f ps (own_f ps v1)))) (own_f ps v1))), .val (.int (own_f (own_st ps v1 (own_f ps (own_f ps (own_f ps v1)))) (own_f ps v1)))] [(.ref pa)])
        refine G_iloadN X34 hx (pc' := 34) rfl (hb hby d_rt_33) rfl ?_
        refine Go.st (ldAI X34 hx hZ e34 A_pa_33 (j := (own_f (own_st ps v1 (own_f ps (own_f ps (own_f ps v1)))) (own_f ps v1))) (own_k40 ps hps v1 hvx hc9_1 hc9_2 hc9_3) (own_k41 ps hps v1 hvx hc9_1 hc9_2 hc9_3) (g := (mkF m 34 #[.val (.ref v0), .val (.int v1), .val (.int (own_f ps (own_f ps (own_f ps v1)))), .val (.int (own_f (own_st ps v1 (own_f ps (own_f ps (own_f ps v1)))) (own_f ps v1))), .val (.int (own_f (own_st ps v1 (own_f ps (own_f ps (own_f ps v1)))) (own_f ps v1)))] [(.int (own_f (own_st ps v1 (own_f ps (own_f ps (own_f ps v1)))) (own_f ps v1))), (.ref pa)])) rfl rfl (hb hby d_rt_34)) ?_
        show Go p e below s _ _ _ T34 (mkF m 35 #[.val (.ref v0), .val (.int v1), .val (.int (own_f ps (own_f ps (own_f ps v1)))), .val (.int (own_f (own_st ps v1 (own_f ps (own_f ps (own_f ps v1)))) (own_f ps v1))), .val (.int (own_f (own_st ps v1 (own_f ps (own_f ps (own_f ps v1)))) (own_f ps v1)))] [(.int (own_f (own_st (own_st ps v1 (own_f ps (own_f ps (own_f ps v1)))) (own_f ps v1) (own_f ps (own_f ps (own_f ps v1)))) (own_f (own_st ps v1 (own_f ps (own_f ps (own_f ps v1)))) (own_f ps v1))))])
        refine G_istore X34 hx (pc' := 37) rfl (hb hby d_rt_35) (L' := #[.val (.ref v0), .val (.int v1), .val (.int (own_f ps (own_f ps (own_f ps v1)))), .val (.int (own_f (own_st ps v1 (own_f ps (own_f ps (own_f ps v1)))) (own_f ps v1))), .val (.int (own_f (own_st (own_st ps v1 (own_f ps (own_f ps (own_f ps v1)))) (own_f ps v1) (own_f ps (own_f ps (own_f ps v1)))) (own_f (own_st ps v1 (own_f ps (own_f ps (own_f ps v1)))) (own_f ps v1))))]) rfl ?_
        refine G_aloadN X34 hx (pc' := 38) rfl (hb hby d_rt_37) rfl rfl ?_
        obtain ⟨T35, X35, e35, st35⟩ := getF X34 hx hZ hown (host := "") (Or.inl (hw _ (List.mem_of_getElem? (i := 10) rfl))) Via.refl e34 F_v0_parent_33 (g := (mkF m 38 #[.val (.ref v0), .val (.int v1), .val (.int (own_f ps (own_f ps (own_f ps v1)))), .val (.int (own_f (own_st ps v1 (own_f ps (own_f ps (own_f ps v1)))) (own_f ps v1))), .val (.int (own_f (own_st (own_st ps v1 (own_f ps (own_f ps (own_f ps v1)))) (own_f ps v1) (own_f ps (own_f ps (own_f ps v1)))) (own_f (own_st ps v1 (own_f ps (own_f ps (own_f ps v1)))) (own_f ps v1))))] [(.ref v0)])) rfl rfl (hb hby d_rt_38)
        refine Go.st st35 ?_
        show Go p e below s _ _ _ T35 (mkF m 41 #[.val (.ref v0), .val (.int v1), .val (.int (own_f ps (own_f ps (own_f ps v1)))), .val (.int (own_f (own_st ps v1 (own_f ps (own_f ps (own_f ps v1)))) (own_f ps v1))), .val (.int (own_f (own_st (own_st ps v1 (own_f ps (own_f ps (own_f ps v1)))) (own_f ps v1) (own_f ps (own_f ps (own_f ps v1)))) (own_f (own_st ps v1 (own_f ps (own_f ps (own_f ps v1)))) (own_f ps v1))))] [(.ref pa)])
        refine G_iloadN X35 hx (pc' := 42) rfl (hb hby d_rt_41) rfl ?_
        refine G_iloadN X35 hx (pc' := 43) rfl (hb hby d_rt_42) rfl ?_
        obtain ⟨T36, h36, X36, e36, W36, A36, st36⟩ := stAI X35 hx hZ e35 A_pa_33 (j := (own_f (own_st ps v1 (own_f ps (own_f ps (own_f ps v1)))) (own_f ps v1))) (own_k40 ps hps v1 hvx hc9_1 hc9_2 hc9_3) (own_k41 ps hps v1 hvx hc9_1 hc9_2 hc9_3) (g := (mkF m 43 #[.val (.ref v0), .val (.int v1), .val (.int (own_f ps (own_f ps (own_f ps v1)))), .val (.int (own_f (own_st ps v1 (own_f ps (own_f ps (own_f ps v1)))) (own_f ps v1))), .val (.int (own_f (own_st (own_st ps v1 (own_f ps (own_f ps (own_f ps v1)))) (own_f ps v1) (own_f ps (own_f ps (own_f ps v1)))) (own_f (own_st ps v1 (own_f ps (own_f ps (own_f ps v1)))) (own_f ps v1))))] [(.int (own_f ps (own_f ps (own_f ps v1)))), (.int (own_f (own_st ps v1 (own_f ps (own_f ps (own_f ps v1)))) (own_f ps v1))), (.ref pa)])) rfl rfl (hb hby d_rt_43)
        refine Go.st st36 ?_
        have E_v0_36 := E_v0_33.wr W36
        have F_v0_parent_36 := F_v0_parent_33.other W36 (Or.inl ne_v0_pa)
        have A_pa_36 : AI Z h36 pa .int (own_st (own_st (own_st ps v1 (own_f ps (own_f ps (own_f ps v1)))) (own_f ps v1) (own_f ps (own_f ps (own_f ps v1)))) (own_f (own_st ps v1 (own_f ps (own_f ps (own_f ps v1)))) (own_f ps v1)) (own_f ps (own_f ps (own_f ps v1)))) := A36
        have K_36 : Keep h0 h36 [pa] := K_33.wr W36 (Or.inl (List.mem_of_getElem? (i := 0) rfl))
        have Z_36 : n0 ≤ h36.size := Nat.le_trans Z0 K_36.1
        have N36 := Fr.snoc X36 N33 g_pa
        show Go p e below s _ _ _ T36 (mkF m 44 #[.val (.ref v0), .val (.int v1), .val (.int (own_f ps (own_f ps (own_f ps v1)))), .val (.int (own_f (own_st ps v1 (own_f ps (own_f ps (own_f ps v1)))) (own_f ps v1))), .val (.int (own_f (own_st (own_st ps v1 (own_f ps (own_f ps (own_f ps v1)))) (own_f ps v1) (own_f ps (own_f ps (own_f ps v1)))) (own_f (own_st ps v1 (own_f ps (own_f ps (own_f ps v1)))) (own_f ps v1))))] [])
        refine G_iload X36 hx (pc' := 46) rfl (hb hby d_rt_44) rfl ?_
        refine G_istoreN X36 hx (pc' := 47) rfl (hb hby d_rt_46) (L' := #[.val (.ref v0), .val (.int v1), .val (.int (own_f ps (own_f ps (own_f ps v1)))), .val (.int (own_f (own_st (own_st ps v1 (own_f ps (own_f ps (own_f ps v1)))) (own_f ps v1) (own_f ps (own_f ps (own_f ps v1)))) (own_f (own_st ps v1 (own_f ps (own_f ps (own_f ps v1)))) (own_f ps v1)))), .val (.int (own_f (own_st (own_st ps v1 (own_f ps (own_f ps (own_f ps v1)))) (own_f ps v1) (own_f ps (own_f ps (own_f ps v1)))) (own_f (own_st ps v1 (own_f ps (own_f ps (own_f ps v1)))) (own_f ps v1))))]) rfl ?_
        refine G_goto X36 hx (pc' := 24) (hb hby d_rt_47)  (by decide) (by decide) ?_
        refine G_iloadN X36 hx (pc' := 25) rfl (hb hby d_rt_24) rfl ?_
        refine G_iloadN X36 hx (pc' := 26) rfl (hb hby d_rt_25) rfl ?_
        refine G_icmpYes X36 hx (pc' := 50) (hb hby d_rt_26) (teq ((own_k42 ps hps v1 hvx hc9_1 hc9_2 hc9_3) : (own_f (own_st (own_st ps v1 (own_f ps (own_f ps (own_f ps v1)))) (own_f ps v1) (own_f ps (own_f ps (own_f ps v1)))) (own_f (own_st ps v1 (own_f ps (own_f ps (own_f ps v1)))) (own_f ps v1))) = (own_f ps (own_f ps (own_f ps v1))))).1 (by decide) (by decide) ?_
        refine G_iloadN X36 hx (pc' := 51) rfl (hb hby d_rt_50) rfl ?_
        refine Go.fin X36 hlk (v := some (.int (own_f ps (own_f ps (own_f ps v1))))) (fun h => by rw [Bd.returns] at h; cases h) (by decide) (by decide) ?_ (fun fs hr => retOut X36 hx Bd.returns rfl (Or.inl ⟨rfl, Or.inl rfl, _, rfl⟩) (hb hby d_rt_51) hr)
        show Q_root Z v0 v1 pa ps h0 n0 _ T36.heap _
        rw [e36]
        exact ⟨congrArg (fun z => some (Value.int z)) (own_k43 ps hps v1 hvx hc9_1 hc9_2 hc9_3), N36, K_36, E_v0_36, F_v0_parent_36, ((own_k44 ps hps v1 hvx hc9_1 hc9_2 hc9_3) ▸ A_pa_36)⟩
theorem d_join_0 : decode prog_21_method_2_code 0 = .ok (.aload_n 0, 1) := by decide +kernel
theorem d_join_1 : decode prog_21_method_2_code 1 = .ok (.getfield 7, 3) := by decide +kernel
theorem d_join_4 : decode prog_21_method_2_code 4 = .ok (.aload_n 0, 1) := by decide +kernel
theorem d_join_5 : decode prog_21_method_2_code 5 = .ok (.iload_n 2, 1) := by decide +kernel
theorem d_join_6 : decode prog_21_method_2_code 6 = .ok (.invokevirtual 13, 3) := by decide +kernel
theorem pd_0 : parseMethodDescriptor "(I)I" = some ⟨[.int], some .int⟩ := by decide +kernel
theorem d_join_9 : decode prog_21_method_2_code 9 = .ok (.aload_n 0, 1) := by decide +kernel
theorem d_join_10 : decode prog_21_method_2_code 10 = .ok (.iload_n 1, 1) := by decide +kernel
theorem d_join_11 : decode prog_21_method_2_code 11 = .ok (.invokevirtual 13, 3) := by decide +kernel
theorem d_join_14 : decode prog_21_method_2_code 14 = .ok (.iastore, 1) := by decide +kernel
theorem own_k45 : ∀ ps ∈ own_F, ∀ v1 ∈ own_four, ∀ v2 ∈ own_four, ¬ ((own_root ps v2) < 0) := by decide +kernel
theorem own_k46 : ∀ ps ∈ own_F, ∀ v1 ∈ own_four, ∀ v2 ∈ own_four, (own_root ps v2).toNatClampNeg < ((own_comp (own_comp ps v2) v1)).length := by decide +kernel
theorem d_join_15 : decode prog_21_method_2_code 15 = .ok (.return_, 1) := by decide +kernel
theorem ef_join (m : MethodId) (v0 : Addr) (v1 : Int32) (v2 : Int32) : entryFrame m #[(.ref v0), (.int v1), (.int v2)] 3 = mkF m 0 #[.val (.ref v0), .val (.int v1), .val (.int v2)] [] := by first | (simp [entryFrame, mkF, argsToLocals, Value.category]; done) | rfl
def Q_join (Z : State) (v0 : Addr) (v1 : Int32) (v2 : Int32) (pa : Addr) (ps : List Int32) (h0 : Heap) (n0 : Nat) (v : Option Value) (h : Heap) (L : List Loc) : Prop := v = none ∧ Fr n0 L ∧ Keep h0 h [pa] ∧ Exa Z h v0 "com/example/brisk_reasoner/briskreasoner/engine/milp/DisjointSets" ∧ Fld Z h v0 "com/example/brisk_reasoner/briskreasoner/engine/milp/DisjointSets" "parent" "[I" (.ref pa) ∧ AI Z h pa .int (own_join ps v1 v2)
set_option maxRecDepth 65536 in
set_option maxHeartbeats 40000000 in
theorem rm_join (l : Launch) (Z : State) (a0 : Array Value) (hw : ∀ d ∈ tables_1, d.before a0 Z = true) (ws : List Jvm.Cond) (v0 : Addr) (v1 : Int32) (v2 : Int32) (pa : Addr) (ps : List Int32) (h0 : Heap) (n0 : Nat) (Z0 : n0 ≤ h0.size) (f0_E_v0 : Exa Z h0 v0 "com/example/brisk_reasoner/briskreasoner/engine/milp/DisjointSets") (f1_F_v0 : Fld Z h0 v0 "com/example/brisk_reasoner/briskreasoner/engine/milp/DisjointSets" "parent" "[I" (.ref pa)) (f2_A_pa : AI Z h0 pa .int ps) (g_pa : n0 ≤ pa) (ne_v0_pa : v0 ≠ pa) (hps : ps ∈ own_F) (hja : v1 ∈ own_four) (hjb : v2 ∈ own_four) :
    MetFree l (⟨"com/example/brisk_reasoner/briskreasoner/engine/milp/DisjointSets", "join", "(II)V"⟩ : MethodName) (head1 (Jvm.Cond.code (⟨"com/example/brisk_reasoner/briskreasoner/engine/milp/DisjointSets", "join", "(II)V"⟩ : MethodName) prog_21_method_2_code 3 none :: ws) ({ frames := 1, cells := 0, slots := 0, locals := 18 } : Room)) (fun a U => a = #[(.ref v0), (.int v1), (.int v2)] ∧ Z.Warmed39 U.vm ∧ U.heap = h0) (fun _ _ _ _ _ => True) (fun _ U o U' => ∃ v L, o = .returned v ∧ Q_join Z v0 v1 v2 pa ps h0 n0 v U'.heap L ∧ FrameEnd U o U' L ({ frames := 1, cells := 0, slots := 0, locals := 18 } : Room).cells ({ frames := 1, cells := 0, slots := 0, locals := 18 } : Room).slots) := by
  refine MetFree.of_bodySF (plainFor_of_name (by first | (simp [plainName, overriddenIn]; done) | decide +kernel)) hisR ?_
  intro p e s m args below meth c s₁ Bd hml0 hP hK
  obtain ⟨rfl, hZ, hh⟩ := hP
  have hx := Bd.exec
  have hby := Bd.bytes
  have hml : c.maxLocals = 3 := hml0
  have hown : s.vm.findClass "com/example/brisk_reasoner/briskreasoner/engine/milp/DisjointSets" = some m.cls := findClass_of_methodNamed Bd.named
  have hnm := (name_of_methodNamed Bd.named Bd.method).1
  have hlk : meth.locks = false := Bd.notSynchronized
  have X0 : Stand p l e ({ frames := 1, cells := 0, slots := 0, locals := 18 } : Room) s m #[(.ref v0), (.int v1), (.int v2)] below meth c s₁ [] 0 0 := Stand.of_body Bd
  have e0 : s₁.heap = h0 := by rw [← hh, Bd.state]; rfl
  have N0 := Fr.nil n0
  refine Go.enter (Q := Q_join Z v0 v1 v2 pa ps h0 n0) (C := ({ frames := 1, cells := 0, slots := 0, locals := 18 } : Room).cells) (N := ({ frames := 1, cells := 0, slots := 0, locals := 18 } : Room).slots) (ef_join m v0 v1 v2) ?_
  show Go p e below s _ _ _ s₁ (mkF m 0 #[.val (.ref v0), .val (.int v1), .val (.int v2)] [])
  refine G_aloadN X0 hx (pc' := 1) rfl (hb hby d_join_0) rfl rfl ?_
  obtain ⟨T37, X37, e37, st37⟩ := getF X0 hx hZ hown (host := "") (Or.inl (hw _ (List.mem_of_getElem? (i := 10) rfl))) Via.refl e0 f1_F_v0 (g := (mkF m 1 #[.val (.ref v0), .val (.int v1), .val (.int v2)] [(.ref v0)])) rfl rfl (hb hby d_join_1)
  refine Go.st st37 ?_
  show Go p e below s _ _ _ T37 (mkF m 4 #[.val (.ref v0), .val (.int v1), .val (.int v2)] [(.ref pa)])
  refine G_aloadN X37 hx (pc' := 5) rfl (hb hby d_join_4) rfl rfl ?_
  refine G_iloadN X37 hx (pc' := 6) rfl (hb hby d_join_5) rfl ?_
  obtain ⟨cq38, kq38, q38a, q38b, q38c⟩ := isOf hZ e37 f0_E_v0
  obtain ⟨_, _, ⟨T38, L38, k38, n38⟩, -, X38, ⟨Lc38, hQ38, l38, y38, z38⟩, st38⟩ := X37.virtualBack hx (y := (⟨"com/example/brisk_reasoner/briskreasoner/engine/milp/DisjointSets", "root", "(I)I"⟩ : MethodName)) (z := (⟨"com/example/brisk_reasoner/briskreasoner/engine/milp/DisjointSets", "root", "(I)I"⟩ : MethodName)) hown (mvT hZ (hw _ (List.mem_of_getElem? (i := 17) rfl))) (mvT hZ (hw _ (List.mem_of_getElem? (i := 18) rfl))) (notFace_of_selects (args := #[]) (mvT hZ (hw _ (List.mem_of_getElem? (i := 20) rfl)))) (mvT hZ (hw _ (List.mem_of_getElem? (i := 20) rfl))) (mvT hZ (hw _ (List.mem_of_getElem? (i := 19) rfl))) (by decide) (backOf (W := 1) (rm_root l Z a0 hw [] v0 v2 pa ps h0 n0 Z0 f0_E_v0 f1_F_v0 f2_A_pa g_pa ne_v0_pa hps hjb) hZ (hw _ (List.mem_of_getElem? (i := 21) rfl)) (hw _ (List.mem_of_getElem? (i := 3) rfl)) (by decide) (by decide)) q38a q38c (g := (mkF m 6 #[.val (.ref v0), .val (.int v1), .val (.int v2)] [(.int v2), (.ref v0), (.ref pa)])) rfl (by rw [hml]; rfl) (Steps.refl _) (argsL := [(.int v2)]) (rest := [(.ref pa)]) (lenOf pd_0 rfl) rfl (by show 2 * 0 + _ ≤ _; exact Nat.le_of_eq rfl) (hb hby d_join_6) (fun _ _ => ⟨rfl, e37, (by decide : 0 + 0 ≤ _), (by decide : 0 + 0 ≤ _)⟩)
  dsimp only [Pt.U, Pt.locs, Pt.cells, Pt.slots] at X38 l38 y38 z38 st38 hQ38
  subst l38 y38 z38
  obtain ⟨rfl, N38q, K38, p38_0, p38_1, p38_2⟩ := hQ38
  have N38 := Fr.app N0 N38q
  refine Go.st (fun _ k => st38.trans k) ?_
  have K_38 : Keep h0 T38.heap [pa] := (Keep.refl h0 [pa]).trans K38 (allS (Or.inl (List.mem_of_getElem? (i := 0) rfl)) all0)
  have Z_38 : n0 ≤ T38.heap.size := Nat.le_trans Z0 K_38.1
  show Go p e below s _ _ _ T38 (mkF m 9 #[.val (.ref v0), .val (.int v1), .val (.int v2)] [(.int (own_root ps v2)), (.ref pa)])
  refine G_aloadN X38 hx (pc' := 10) rfl (hb hby d_join_9) rfl rfl ?_
  refine G_iloadN X38 hx (pc' := 11) rfl (hb hby d_join_10) rfl ?_
  obtain ⟨cq39, kq39, q39a, q39b, q39c⟩ := isOf hZ rfl p38_0
  obtain ⟨_, _, ⟨T39, L39, k39, n39⟩, -, X39, ⟨Lc39, hQ39, l39, y39, z39⟩, st39⟩ := X38.virtualBack hx (y := (⟨"com/example/brisk_reasoner/briskreasoner/engine/milp/DisjointSets", "root", "(I)I"⟩ : MethodName)) (z := (⟨"com/example/brisk_reasoner/briskreasoner/engine/milp/DisjointSets", "root", "(I)I"⟩ : MethodName)) hown (mvT hZ (hw _ (List.mem_of_getElem? (i := 17) rfl))) (mvT hZ (hw _ (List.mem_of_getElem? (i := 18) rfl))) (notFace_of_selects (args := #[]) (mvT hZ (hw _ (List.mem_of_getElem? (i := 20) rfl)))) (mvT hZ (hw _ (List.mem_of_getElem? (i := 20) rfl))) (mvT hZ (hw _ (List.mem_of_getElem? (i := 19) rfl))) (by decide) (backOf (W := 2) (rm_root l Z a0 hw [] v0 v1 pa (own_comp ps v2) T38.heap n0 Z_38 p38_0 p38_1 p38_2 g_pa ne_v0_pa (own_cF ps hps v2 hjb) hja) hZ (hw _ (List.mem_of_getElem? (i := 21) rfl)) (hw _ (List.mem_of_getElem? (i := 3) rfl)) (by decide) (by decide)) q39a q39c (g := (mkF m 11 #[.val (.ref v0), .val (.int v1), .val (.int v2)] [(.int v1), (.ref v0), (.int (own_root ps v2)), (.ref pa)])) rfl (by rw [hml]; rfl) (Steps.refl _) (argsL := [(.int v1)]) (rest := [(.int (own_root ps v2)), (.ref pa)]) (lenOf pd_0 rfl) rfl (by show 2 * 0 + _ ≤ _; exact Nat.le_of_eq rfl) (hb hby d_join_11) (fun _ _ => ⟨rfl, rfl, (by decide : 0 + 0 ≤ _), (by decide : 0 + 0 ≤ _)⟩)
  dsimp only [Pt.U, Pt.locs, Pt.cells, Pt.slots] at X39 l39 y39 z39 st39 hQ39
  subst l39 y39 z39
  obtain ⟨rfl, N39q, K39, p39_0, p39_1, p39_2⟩ := hQ39
  have N39 := Fr.app N38 N39q
  refine Go.st (fun _ k => st39.trans k) ?_
  have K_39 : Keep h0 T39.heap [pa] := K_38.trans K39 (allS (Or.inl (List.mem_of_getElem? (i := 0) rfl)) all0)
  have Z_39 : n0 ≤ T39.heap.size := Nat.le_trans Z0 K_39.1
  show Go p e below s _ _ _ T39 (mkF m 14 #[.val (.ref v0), .val (.int v1), .val (.int v2)] [(.int (own_root (own_comp ps v2) v1)), (.int (own_root ps v2)), (.ref pa)])
  obtain ⟨T40, h40, X40, e40, W40, A40, st40⟩ := stAI X39 hx hZ rfl p39_2 (j := (own_root ps v2)) (own_k45 ps hps v1 hja v2 hjb) (own_k46 ps hps v1 hja v2 hjb) (g := (mkF m 14 #[.val (.ref v0), .val (.int v1), .val (.int v2)] [(.int (own_root (own_comp ps v2) v1)), (.int (own_root ps v2)), (.ref pa)])) rfl rfl (hb hby d_join_14)
  refine Go.st st40 ?_
  have E_v0_40 := p39_0.wr W40
  have F_v0_parent_40 := p39_1.other W40 (Or.inl ne_v0_pa)
  have A_pa_40 : AI Z h40 pa .int (own_join ps v1 v2) := A40
  have K_40 : Keep h0 h40 [pa] := K_39.wr W40 (Or.inl (List.mem_of_getElem? (i := 0) rfl))
  have Z_40 : n0 ≤ h40.size := Nat.le_trans Z0 K_40.1
  have N40 := Fr.snoc X40 N39 g_pa
  show Go p e below s _ _ _ T40 (mkF m 15 #[.val (.ref v0), .val (.int v1), .val (.int v2)] [])
  refine Go.fin X40 hlk (v := none) (fun _ => rfl) (by decide) (by decide) ?_ (fun fs hr => X40.returnOut hx Bd.returns (hb hby d_join_15) hr)
  show Q_join Z v0 v1 v2 pa ps h0 n0 _ T40.heap _
  rw [e40]
  exact ⟨rfl, N40, K_40, E_v0_40, F_v0_parent_40, A_pa_40⟩
theorem own_mg {Z : State} {h : Heap} {a : Addr} {l0 l1 l2 l3 x y r0 r1 r2 r3 : Int32} (e0 : own_sel l0 (own_f [l0, l1, l2, l3] y) (own_f [l0, l1, l2, l3] x) = r0) (e1 : own_sel l1 (own_f [l0, l1, l2, l3] y) (own_f [l0, l1, l2, l3] x) = r1) (e2 : own_sel l2 (own_f [l0, l1, l2, l3] y) (own_f [l0, l1, l2, l3] x) = r2) (e3 : own_sel l3 (own_f [l0, l1, l2, l3] y) (own_f [l0, l1, l2, l3] x) = r3) (A : AI Z h a .int [r0, r1, r2, r3]) : AI Z h a .int (own_merge [l0, l1, l2, l3] x y) := by
  have q : own_merge [l0, l1, l2, l3] x y = [r0, r1, r2, r3] := by
    show [own_sel l0 (own_f [l0, l1, l2, l3] y) (own_f [l0, l1, l2, l3] x), own_sel l1 (own_f [l0, l1, l2, l3] y) (own_f [l0, l1, l2, l3] x), own_sel l2 (own_f [l0, l1, l2, l3] y) (own_f [l0, l1, l2, l3] x), own_sel l3 (own_f [l0, l1, l2, l3] y) (own_f [l0, l1, l2, l3] x)] = _
    rw [e0, e1, e2, e3]
  rw [q]; exact A
theorem d_merge_0 : decode method_2_code 0 = .ok (.aload_n 0, 1) := by decide +kernel
theorem d_merge_1 : decode method_2_code 1 = .ok (.iload_n 2, 1) := by decide +kernel
theorem d_merge_2 : decode method_2_code 2 = .ok (.iaload, 1) := by decide +kernel
theorem d_merge_3 : decode method_2_code 3 = .ok (.istore_n 3, 1) := by decide +kernel
theorem d_merge_4 : decode method_2_code 4 = .ok (.aload_n 0, 1) := by decide +kernel
theorem d_merge_5 : decode method_2_code 5 = .ok (.iload_n 1, 1) := by decide +kernel
theorem d_merge_6 : decode method_2_code 6 = .ok (.iaload, 1) := by decide +kernel
theorem d_merge_7 : decode method_2_code 7 = .ok (.istore 4, 2) := by decide +kernel
theorem d_merge_9 : decode method_2_code 9 = .ok (.aload_n 0, 1) := by decide +kernel
theorem d_merge_10 : decode method_2_code 10 = .ok (.iconst 0, 1) := by decide +kernel
theorem d_merge_11 : decode method_2_code 11 = .ok (.iaload, 1) := by decide +kernel
theorem d_merge_12 : decode method_2_code 12 = .ok (.iload_n 3, 1) := by decide +kernel
theorem d_merge_13 : decode method_2_code 13 = .ok (.if_icmp .ne 8, 3) := by decide +kernel
theorem d_merge_16 : decode method_2_code 16 = .ok (.aload_n 0, 1) := by decide +kernel
theorem d_merge_17 : decode method_2_code 17 = .ok (.iconst 0, 1) := by decide +kernel
theorem d_merge_18 : decode method_2_code 18 = .ok (.iload 4, 2) := by decide +kernel
theorem d_merge_20 : decode method_2_code 20 = .ok (.iastore, 1) := by decide +kernel
theorem d_merge_21 : decode method_2_code 21 = .ok (.aload_n 0, 1) := by decide +kernel
theorem d_merge_22 : decode method_2_code 22 = .ok (.iconst 1, 1) := by decide +kernel
theorem d_merge_23 : decode method_2_code 23 = .ok (.iaload, 1) := by decide +kernel
theorem d_merge_24 : decode method_2_code 24 = .ok (.iload_n 3, 1) := by decide +kernel
theorem d_merge_25 : decode method_2_code 25 = .ok (.if_icmp .ne 8, 3) := by decide +kernel
theorem d_merge_28 : decode method_2_code 28 = .ok (.aload_n 0, 1) := by decide +kernel
theorem d_merge_29 : decode method_2_code 29 = .ok (.iconst 1, 1) := by decide +kernel
theorem d_merge_30 : decode method_2_code 30 = .ok (.iload 4, 2) := by decide +kernel
theorem d_merge_32 : decode method_2_code 32 = .ok (.iastore, 1) := by decide +kernel
theorem d_merge_33 : decode method_2_code 33 = .ok (.aload_n 0, 1) := by decide +kernel
theorem d_merge_34 : decode method_2_code 34 = .ok (.iconst 2, 1) := by decide +kernel
theorem d_merge_35 : decode method_2_code 35 = .ok (.iaload, 1) := by decide +kernel
theorem d_merge_36 : decode method_2_code 36 = .ok (.iload_n 3, 1) := by decide +kernel
theorem d_merge_37 : decode method_2_code 37 = .ok (.if_icmp .ne 8, 3) := by decide +kernel
theorem d_merge_40 : decode method_2_code 40 = .ok (.aload_n 0, 1) := by decide +kernel
theorem d_merge_41 : decode method_2_code 41 = .ok (.iconst 2, 1) := by decide +kernel
theorem d_merge_42 : decode method_2_code 42 = .ok (.iload 4, 2) := by decide +kernel
theorem d_merge_44 : decode method_2_code 44 = .ok (.iastore, 1) := by decide +kernel
theorem d_merge_45 : decode method_2_code 45 = .ok (.aload_n 0, 1) := by decide +kernel
theorem d_merge_46 : decode method_2_code 46 = .ok (.iconst 3, 1) := by decide +kernel
theorem d_merge_47 : decode method_2_code 47 = .ok (.iaload, 1) := by decide +kernel
theorem d_merge_48 : decode method_2_code 48 = .ok (.iload_n 3, 1) := by decide +kernel
theorem d_merge_49 : decode method_2_code 49 = .ok (.if_icmp .ne 8, 3) := by decide +kernel
theorem d_merge_52 : decode method_2_code 52 = .ok (.aload_n 0, 1) := by decide +kernel
theorem d_merge_53 : decode method_2_code 53 = .ok (.iconst 3, 1) := by decide +kernel
theorem d_merge_54 : decode method_2_code 54 = .ok (.iload 4, 2) := by decide +kernel
theorem d_merge_56 : decode method_2_code 56 = .ok (.iastore, 1) := by decide +kernel
theorem d_merge_57 : decode method_2_code 57 = .ok (.return_, 1) := by decide +kernel
theorem ef_merge (m : MethodId) (v0 : Addr) (v1 : Int32) (v2 : Int32) : entryFrame m #[(.ref v0), (.int v1), (.int v2)] 5 = mkF m 0 #[.val (.ref v0), .val (.int v1), .val (.int v2), .unset, .unset] [] := by first | (simp [entryFrame, mkF, argsToLocals, Value.category]; done) | rfl
def Q_merge (Z : State) (v0 : Addr) (v1 : Int32) (v2 : Int32) (ls : List Int32) (h0 : Heap) (n0 : Nat) (v : Option Value) (h : Heap) (L : List Loc) : Prop := v = none ∧ Fr n0 L ∧ Keep h0 h [v0] ∧ AI Z h v0 .int (own_merge ls v1 v2)
set_option maxRecDepth 65536 in
set_option maxHeartbeats 40000000 in
theorem rm_merge (l : Launch) (Z : State) (a0 : Array Value) (hw : ∀ d ∈ tables_1, d.before a0 Z = true) (ws : List Jvm.Cond) (v0 : Addr) (v1 : Int32) (v2 : Int32) (ls : List Int32) (h0 : Heap) (n0 : Nat) (Z0 : n0 ≤ h0.size) (f0_A_v0 : AI Z h0 v0 .int ls) (g_v0 : n0 ≤ v0) (hlen : ls.length = 4) (hvx : v1 ∈ own_four) (hvy : v2 ∈ own_four) :
    MetFree l (⟨"com/example/brisk_reasoner/briskreasoner/engine/milp/DisjointSetsJoinPinLaw", "merge", "([III)V"⟩ : MethodName) (head1 (Jvm.Cond.code (⟨"com/example/brisk_reasoner/briskreasoner/engine/milp/DisjointSetsJoinPinLaw", "merge", "([III)V"⟩ : MethodName) method_2_code 5 none :: ws) ({ frames := 0, cells := 0, slots := 0, locals := 0 } : Room)) (fun a U => a = #[(.ref v0), (.int v1), (.int v2)] ∧ Z.Warmed39 U.vm ∧ U.heap = h0) (fun _ _ _ _ _ => True) (fun _ U o U' => ∃ v L, o = .returned v ∧ Q_merge Z v0 v1 v2 ls h0 n0 v U'.heap L ∧ FrameEnd U o U' L ({ frames := 0, cells := 0, slots := 0, locals := 0 } : Room).cells ({ frames := 0, cells := 0, slots := 0, locals := 0 } : Room).slots) := by
  refine MetFree.of_bodySF (plainFor_of_name (by first | (simp [plainName, overriddenIn]; done) | decide +kernel)) hisR ?_
  intro p e s m args below meth c s₁ Bd hml0 hP hK
  obtain ⟨rfl, hZ, hh⟩ := hP
  have hx := Bd.exec
  have hby := Bd.bytes
  have hml : c.maxLocals = 5 := hml0
  have hown : s.vm.findClass "com/example/brisk_reasoner/briskreasoner/engine/milp/DisjointSetsJoinPinLaw" = some m.cls := findClass_of_methodNamed Bd.named
  have hnm := (name_of_methodNamed Bd.named Bd.method).1
  have hlk : meth.locks = false := Bd.notSynchronized
  have X0 : Stand p l e ({ frames := 0, cells := 0, slots := 0, locals := 0 } : Room) s m #[(.ref v0), (.int v1), (.int v2)] below meth c s₁ [] 0 0 := Stand.of_body Bd
  have e0 : s₁.heap = h0 := by rw [← hh, Bd.state]; rfl
  have N0 := Fr.nil n0
  refine Go.enter (Q := Q_merge Z v0 v1 v2 ls h0 n0) (C := ({ frames := 0, cells := 0, slots := 0, locals := 0 } : Room).cells) (N := ({ frames := 0, cells := 0, slots := 0, locals := 0 } : Room).slots) (ef_merge m v0 v1 v2) ?_
  obtain ⟨l0, l1, l2, l3, rfl⟩ := own_len4 hlen
  show Go p e below s _ _ _ s₁ (mkF m 0 #[.val (.ref v0), .val (.int v1), .val (.int v2), .unset, .unset] [])
  refine G_aloadN X0 hx (pc' := 1) rfl (hb hby d_merge_0) rfl rfl ?_
  refine G_iloadN X0 hx (pc' := 2) rfl (hb hby d_merge_1) rfl ?_
  refine Go.st (ldAI X0 hx hZ e0 f0_A_v0 (j := v2) (own_b4 _ hvy).1 (own_b4 _ hvy).2 (g := (mkF m 2 #[.val (.ref v0), .val (.int v1), .val (.int v2), .unset, .unset] [(.int v2), (.ref v0)])) rfl rfl (hb hby d_merge_2)) ?_
  show Go p e below s _ _ _ s₁ (mkF m 3 #[.val (.ref v0), .val (.int v1), .val (.int v2), .unset, .unset] [(.int (own_f [l0, l1, l2, l3] v2))])
  refine G_istoreN X0 hx (pc' := 4) rfl (hb hby d_merge_3) (L' := #[.val (.ref v0), .val (.int v1), .val (.int v2), .val (.int (own_f [l0, l1, l2, l3] v2)), .unset]) rfl ?_
  refine G_aloadN X0 hx (pc' := 5) rfl (hb hby d_merge_4) rfl rfl ?_
  refine G_iloadN X0 hx (pc' := 6) rfl (hb hby d_merge_5) rfl ?_
  refine Go.st (ldAI X0 hx hZ e0 f0_A_v0 (j := v1) (own_b4 _ hvx).1 (own_b4 _ hvx).2 (g := (mkF m 6 #[.val (.ref v0), .val (.int v1), .val (.int v2), .val (.int (own_f [l0, l1, l2, l3] v2)), .unset] [(.int v1), (.ref v0)])) rfl rfl (hb hby d_merge_6)) ?_
  show Go p e below s _ _ _ s₁ (mkF m 7 #[.val (.ref v0), .val (.int v1), .val (.int v2), .val (.int (own_f [l0, l1, l2, l3] v2)), .unset] [(.int (own_f [l0, l1, l2, l3] v1))])
  refine G_istore X0 hx (pc' := 9) rfl (hb hby d_merge_7) (L' := #[.val (.ref v0), .val (.int v1), .val (.int v2), .val (.int (own_f [l0, l1, l2, l3] v2)), .val (.int (own_f [l0, l1, l2, l3] v1))]) rfl ?_
  refine G_aloadN X0 hx (pc' := 10) rfl (hb hby d_merge_9) rfl rfl ?_
  refine G_iconst X0 hx (pc' := 11) rfl (hb hby d_merge_10) (z := (0 : Int32)) rfl ?_
  refine Go.st (ldAI X0 hx hZ e0 f0_A_v0 (j := (0 : Int32)) (by decide) (show Int32.toNatClampNeg 0 < 4 from by decide) (g := (mkF m 11 #[.val (.ref v0), .val (.int v1), .val (.int v2), .val (.int (own_f [l0, l1, l2, l3] v2)), .val (.int (own_f [l0, l1, l2, l3] v1))] [(.int (0 : Int32)), (.ref v0)])) rfl rfl (hb hby d_merge_11)) ?_
  show Go p e below s _ _ _ s₁ (mkF m 12 #[.val (.ref v0), .val (.int v1), .val (.int v2), .val (.int (own_f [l0, l1, l2, l3] v2)), .val (.int (own_f [l0, l1, l2, l3] v1))] [(.int l0)])
  refine G_iloadN X0 hx (pc' := 13) rfl (hb hby d_merge_12) rfl ?_
  by_cases hc13_1 : l0 = (own_f [l0, l1, l2, l3] v2)
  · refine G_icmpNo X0 hx (pc' := 16) rfl (hb hby d_merge_13) (teq hc13_1).2 ?_
    refine G_aloadN X0 hx (pc' := 17) rfl (hb hby d_merge_16) rfl rfl ?_
    refine G_iconst X0 hx (pc' := 18) rfl (hb hby d_merge_17) (z := (0 : Int32)) rfl ?_
    refine G_iload X0 hx (pc' := 20) rfl (hb hby d_merge_18) rfl ?_
    obtain ⟨T41, h41, X41, e41, W41, A41, st41⟩ := stAI X0 hx hZ e0 f0_A_v0 (j := (0 : Int32)) (by decide) (show Int32.toNatClampNeg 0 < 4 from by decide) (g := (mkF m 20 #[.val (.ref v0), .val (.int v1), .val (.int v2), .val (.int (own_f [l0, l1, l2, l3] v2)), .val (.int (own_f [l0, l1, l2, l3] v1))] [(.int (own_f [l0, l1, l2, l3] v1)), (.int (0 : Int32)), (.ref v0)])) rfl rfl (hb hby d_merge_20)
    refine Go.st st41 ?_
    have A_v0_41 : AI Z h41 v0 .int [(own_f [l0, l1, l2, l3] v1), l1, l2, l3] := A41
    have K_41 : Keep h0 h41 [v0] := (Keep.refl h0 [v0]).wr W41 (Or.inl (List.mem_of_getElem? (i := 0) rfl))
    have Z_41 : n0 ≤ h41.size := Nat.le_trans Z0 K_41.1
    have N41 := Fr.snoc X41 N0 g_v0
    show Go p e below s _ _ _ T41 (mkF m 21 #[.val (.ref v0), .val (.int v1), .val (.int v2), .val (.int (own_f [l0, l1, l2, l3] v2)), .val (.int (own_f [l0, l1, l2, l3] v1))] [])
    refine G_aloadN X41 hx (pc' := 22) rfl (hb hby d_merge_21) rfl rfl ?_
    refine G_iconst X41 hx (pc' := 23) rfl (hb hby d_merge_22) (z := (1 : Int32)) rfl ?_
    refine Go.st (ldAI X41 hx hZ e41 A_v0_41 (j := (1 : Int32)) (by decide) (show Int32.toNatClampNeg 1 < 4 from by decide) (g := (mkF m 23 #[.val (.ref v0), .val (.int v1), .val (.int v2), .val (.int (own_f [l0, l1, l2, l3] v2)), .val (.int (own_f [l0, l1, l2, l3] v1))] [(.int (1 : Int32)), (.ref v0)])) rfl rfl (hb hby d_merge_23)) ?_
    show Go p e below s _ _ _ T41 (mkF m 24 #[.val (.ref v0), .val (.int v1), .val (.int v2), .val (.int (own_f [l0, l1, l2, l3] v2)), .val (.int (own_f [l0, l1, l2, l3] v1))] [(.int l1)])
    refine G_iloadN X41 hx (pc' := 25) rfl (hb hby d_merge_24) rfl ?_
    by_cases hc25_2 : l1 = (own_f [l0, l1, l2, l3] v2)
    · refine G_icmpNo X41 hx (pc' := 28) rfl (hb hby d_merge_25) (teq hc25_2).2 ?_
      refine G_aloadN X41 hx (pc' := 29) rfl (hb hby d_merge_28) rfl rfl ?_
      refine G_iconst X41 hx (pc' := 30) rfl (hb hby d_merge_29) (z := (1 : Int32)) rfl ?_
      refine G_iload X41 hx (pc' := 32) rfl (hb hby d_merge_30) rfl ?_
      obtain ⟨T42, h42, X42, e42, W42, A42, st42⟩ := stAI X41 hx hZ e41 A_v0_41 (j := (1 : Int32)) (by decide) (show Int32.toNatClampNeg 1 < 4 from by decide) (g := (mkF m 32 #[.val (.ref v0), .val (.int v1), .val (.int v2), .val (.int (own_f [l0, l1, l2, l3] v2)), .val (.int (own_f [l0, l1, l2, l3] v1))] [(.int (own_f [l0, l1, l2, l3] v1)), (.int (1 : Int32)), (.ref v0)])) rfl rfl (hb hby d_merge_32)
      refine Go.st st42 ?_
      have A_v0_42 : AI Z h42 v0 .int [(own_f [l0, l1, l2, l3] v1), (own_f [l0, l1, l2, l3] v1), l2, l3] := A42
      have K_42 : Keep h0 h42 [v0] := K_41.wr W42 (Or.inl (List.mem_of_getElem? (i := 0) rfl))
      have Z_42 : n0 ≤ h42.size := Nat.le_trans Z0 K_42.1
      have N42 := Fr.snoc X42 N41 g_v0
      show Go p e below s _ _ _ T42 (mkF m 33 #[.val (.ref v0), .val (.int v1), .val (.int v2), .val (.int (own_f [l0, l1, l2, l3] v2)), .val (.int (own_f [l0, l1, l2, l3] v1))] [])
      refine G_aloadN X42 hx (pc' := 34) rfl (hb hby d_merge_33) rfl rfl ?_
      refine G_iconst X42 hx (pc' := 35) rfl (hb hby d_merge_34) (z := (2 : Int32)) rfl ?_
      refine Go.st (ldAI X42 hx hZ e42 A_v0_42 (j := (2 : Int32)) (by decide) (show Int32.toNatClampNeg 2 < 4 from by decide) (g := (mkF m 35 #[.val (.ref v0), .val (.int v1), .val (.int v2), .val (.int (own_f [l0, l1, l2, l3] v2)), .val (.int (own_f [l0, l1, l2, l3] v1))] [(.int (2 : Int32)), (.ref v0)])) rfl rfl (hb hby d_merge_35)) ?_
      show Go p e below s _ _ _ T42 (mkF m 36 #[.val (.ref v0), .val (.int v1), .val (.int v2), .val (.int (own_f [l0, l1, l2, l3] v2)), .val (.int (own_f [l0, l1, l2, l3] v1))] [(.int l2)])
      refine G_iloadN X42 hx (pc' := 37) rfl (hb hby d_merge_36) rfl ?_
      by_cases hc37_3 : l2 = (own_f [l0, l1, l2, l3] v2)
      · refine G_icmpNo X42 hx (pc' := 40) rfl (hb hby d_merge_37) (teq hc37_3).2 ?_
        refine G_aloadN X42 hx (pc' := 41) rfl (hb hby d_merge_40) rfl rfl ?_
        refine G_iconst X42 hx (pc' := 42) rfl (hb hby d_merge_41) (z := (2 : Int32)) rfl ?_
        refine G_iload X42 hx (pc' := 44) rfl (hb hby d_merge_42) rfl ?_
        obtain ⟨T43, h43, X43, e43, W43, A43, st43⟩ := stAI X42 hx hZ e42 A_v0_42 (j := (2 : Int32)) (by decide) (show Int32.toNatClampNeg 2 < 4 from by decide) (g := (mkF m 44 #[.val (.ref v0), .val (.int v1), .val (.int v2), .val (.int (own_f [l0, l1, l2, l3] v2)), .val (.int (own_f [l0, l1, l2, l3] v1))] [(.int (own_f [l0, l1, l2, l3] v1)), (.int (2 : Int32)), (.ref v0)])) rfl rfl (hb hby d_merge_44)
        refine Go.st st43 ?_
        have A_v0_43 : AI Z h43 v0 .int [(own_f [l0, l1, l2, l3] v1), (own_f [l0, l1, l2, l3] v1), (own_f [l0, l1, l2, l3] v1), l3] := A43
        have K_43 : Keep h0 h43 [v0] := K_42.wr W43 (Or.inl (List.mem_of_getElem? (i := 0) rfl))
        have Z_43 : n0 ≤ h43.size := Nat.le_trans Z0 K_43.1
        have N43 := Fr.snoc X43 N42 g_v0
        show Go p e below s _ _ _ T43 (mkF m 45 #[.val (.ref v0), .val (.int v1), .val (.int v2), .val (.int (own_f [l0, l1, l2, l3] v2)), .val (.int (own_f [l0, l1, l2, l3] v1))] [])
        refine G_aloadN X43 hx (pc' := 46) rfl (hb hby d_merge_45) rfl rfl ?_
        refine G_iconst X43 hx (pc' := 47) rfl (hb hby d_merge_46) (z := (3 : Int32)) rfl ?_
        refine Go.st (ldAI X43 hx hZ e43 A_v0_43 (j := (3 : Int32)) (by decide) (show Int32.toNatClampNeg 3 < 4 from by decide) (g := (mkF m 47 #[.val (.ref v0), .val (.int v1), .val (.int v2), .val (.int (own_f [l0, l1, l2, l3] v2)), .val (.int (own_f [l0, l1, l2, l3] v1))] [(.int (3 : Int32)), (.ref v0)])) rfl rfl (hb hby d_merge_47)) ?_
        show Go p e below s _ _ _ T43 (mkF m 48 #[.val (.ref v0), .val (.int v1), .val (.int v2), .val (.int (own_f [l0, l1, l2, l3] v2)), .val (.int (own_f [l0, l1, l2, l3] v1))] [(.int l3)])
        refine G_iloadN X43 hx (pc' := 49) rfl (hb hby d_merge_48) rfl ?_
        by_cases hc49_4 : l3 = (own_f [l0, l1, l2, l3] v2)
        · refine G_icmpNo X43 hx (pc' := 52) rfl (hb hby d_merge_49) (teq hc49_4).2 ?_
          refine G_aloadN X43 hx (pc' := 53) rfl (hb hby d_merge_52) rfl rfl ?_
          refine G_iconst X43 hx (pc' := 54) rfl (hb hby d_merge_53) (z := (3 : Int32)) rfl ?_
          refine G_iload X43 hx (pc' := 56) rfl (hb hby d_merge_54) rfl ?_
          obtain ⟨T44, h44, X44, e44, W44, A44, st44⟩ := stAI X43 hx hZ e43 A_v0_43 (j := (3 : Int32)) (by decide) (show Int32.toNatClampNeg 3 < 4 from by decide) (g := (mkF m 56 #[.val (.ref v0), .val (.int v1), .val (.int v2), .val (.int (own_f [l0, l1, l2, l3] v2)), .val (.int (own_f [l0, l1, l2, l3] v1))] [(.int (own_f [l0, l1, l2, l3] v1)), (.int (3 : Int32)), (.ref v0)])) rfl rfl (hb hby d_merge_56)
          refine Go.st st44 ?_
          have A_v0_44 : AI Z h44 v0 .int [(own_f [l0, l1, l2, l3] v1), (own_f [l0, l1, l2, l3] v1), (own_f [l0, l1, l2, l3] v1), (own_f [l0, l1, l2, l3] v1)] := A44
          have K_44 : Keep h0 h44 [v0] := K_43.wr W44 (Or.inl (List.mem_of_getElem? (i := 0) rfl))
          have Z_44 : n0 ≤ h44.size := Nat.le_trans Z0 K_44.1
          have N44 := Fr.snoc X44 N43 g_v0
          show Go p e below s _ _ _ T44 (mkF m 57 #[.val (.ref v0), .val (.int v1), .val (.int v2), .val (.int (own_f [l0, l1, l2, l3] v2)), .val (.int (own_f [l0, l1, l2, l3] v1))] [])
          refine Go.fin X44 hlk (v := none) (fun _ => rfl) (by decide) (by decide) ?_ (fun fs hr => X44.returnOut hx Bd.returns (hb hby d_merge_57) hr)
          show Q_merge Z v0 v1 v2 [l0, l1, l2, l3] h0 n0 _ T44.heap _
          rw [e44]
          exact ⟨rfl, N44, K_44, (own_mg (show own_sel l0 (own_f [l0, l1, l2, l3] v2) (own_f [l0, l1, l2, l3] v1) = (own_f [l0, l1, l2, l3] v1) from if_pos hc13_1) (show own_sel l1 (own_f [l0, l1, l2, l3] v2) (own_f [l0, l1, l2, l3] v1) = (own_f [l0, l1, l2, l3] v1) from if_pos hc25_2) (show own_sel l2 (own_f [l0, l1, l2, l3] v2) (own_f [l0, l1, l2, l3] v1) = (own_f [l0, l1, l2, l3] v1) from if_pos hc37_3) (show own_sel l3 (own_f [l0, l1, l2, l3] v2) (own_f [l0, l1, l2, l3] v1) = (own_f [l0, l1, l2, l3] v1) from if_pos hc49_4) A_v0_44)⟩
        · refine G_icmpYes X43 hx (pc' := 57) (hb hby d_merge_49) (feq hc49_4).2 (by decide) (by decide) ?_
          refine Go.fin X43 hlk (v := none) (fun _ => rfl) (by decide) (by decide) ?_ (fun fs hr => X43.returnOut hx Bd.returns (hb hby d_merge_57) hr)
          show Q_merge Z v0 v1 v2 [l0, l1, l2, l3] h0 n0 _ T43.heap _
          rw [e43]
          exact ⟨rfl, N43, K_43, (own_mg (show own_sel l0 (own_f [l0, l1, l2, l3] v2) (own_f [l0, l1, l2, l3] v1) = (own_f [l0, l1, l2, l3] v1) from if_pos hc13_1) (show own_sel l1 (own_f [l0, l1, l2, l3] v2) (own_f [l0, l1, l2, l3] v1) = (own_f [l0, l1, l2, l3] v1) from if_pos hc25_2) (show own_sel l2 (own_f [l0, l1, l2, l3] v2) (own_f [l0, l1, l2, l3] v1) = (own_f [l0, l1, l2, l3] v1) from if_pos hc37_3) (show own_sel l3 (own_f [l0, l1, l2, l3] v2) (own_f [l0, l1, l2, l3] v1) = l3 from if_neg hc49_4) A_v0_43)⟩
      · refine G_icmpYes X42 hx (pc' := 45) (hb hby d_merge_37) (feq hc37_3).2 (by decide) (by decide) ?_
        refine G_aloadN X42 hx (pc' := 46) rfl (hb hby d_merge_45) rfl rfl ?_
        refine G_iconst X42 hx (pc' := 47) rfl (hb hby d_merge_46) (z := (3 : Int32)) rfl ?_
        refine Go.st (ldAI X42 hx hZ e42 A_v0_42 (j := (3 : Int32)) (by decide) (show Int32.toNatClampNeg 3 < 4 from by decide) (g := (mkF m 47 #[.val (.ref v0), .val (.int v1), .val (.int v2), .val (.int (own_f [l0, l1, l2, l3] v2)), .val (.int (own_f [l0, l1, l2, l3] v1))] [(.int (3 : Int32)), (.ref v0)])) rfl rfl (hb hby d_merge_47)) ?_
        show Go p e below s _ _ _ T42 (mkF m 48 #[.val (.ref v0), .val (.int v1), .val (.int v2), .val (.int (own_f [l0, l1, l2, l3] v2)), .val (.int (own_f [l0, l1, l2, l3] v1))] [(.int l3)])
        refine G_iloadN X42 hx (pc' := 49) rfl (hb hby d_merge_48) rfl ?_
        by_cases hc49_5 : l3 = (own_f [l0, l1, l2, l3] v2)
        · refine G_icmpNo X42 hx (pc' := 52) rfl (hb hby d_merge_49) (teq hc49_5).2 ?_
          refine G_aloadN X42 hx (pc' := 53) rfl (hb hby d_merge_52) rfl rfl ?_
          refine G_iconst X42 hx (pc' := 54) rfl (hb hby d_merge_53) (z := (3 : Int32)) rfl ?_
          refine G_iload X42 hx (pc' := 56) rfl (hb hby d_merge_54) rfl ?_
          obtain ⟨T45, h45, X45, e45, W45, A45, st45⟩ := stAI X42 hx hZ e42 A_v0_42 (j := (3 : Int32)) (by decide) (show Int32.toNatClampNeg 3 < 4 from by decide) (g := (mkF m 56 #[.val (.ref v0), .val (.int v1), .val (.int v2), .val (.int (own_f [l0, l1, l2, l3] v2)), .val (.int (own_f [l0, l1, l2, l3] v1))] [(.int (own_f [l0, l1, l2, l3] v1)), (.int (3 : Int32)), (.ref v0)])) rfl rfl (hb hby d_merge_56)
          refine Go.st st45 ?_
          have A_v0_45 : AI Z h45 v0 .int [(own_f [l0, l1, l2, l3] v1), (own_f [l0, l1, l2, l3] v1), l2, (own_f [l0, l1, l2, l3] v1)] := A45
          have K_45 : Keep h0 h45 [v0] := K_42.wr W45 (Or.inl (List.mem_of_getElem? (i := 0) rfl))
          have Z_45 : n0 ≤ h45.size := Nat.le_trans Z0 K_45.1
          have N45 := Fr.snoc X45 N42 g_v0
          show Go p e below s _ _ _ T45 (mkF m 57 #[.val (.ref v0), .val (.int v1), .val (.int v2), .val (.int (own_f [l0, l1, l2, l3] v2)), .val (.int (own_f [l0, l1, l2, l3] v1))] [])
          refine Go.fin X45 hlk (v := none) (fun _ => rfl) (by decide) (by decide) ?_ (fun fs hr => X45.returnOut hx Bd.returns (hb hby d_merge_57) hr)
          show Q_merge Z v0 v1 v2 [l0, l1, l2, l3] h0 n0 _ T45.heap _
          rw [e45]
          exact ⟨rfl, N45, K_45, (own_mg (show own_sel l0 (own_f [l0, l1, l2, l3] v2) (own_f [l0, l1, l2, l3] v1) = (own_f [l0, l1, l2, l3] v1) from if_pos hc13_1) (show own_sel l1 (own_f [l0, l1, l2, l3] v2) (own_f [l0, l1, l2, l3] v1) = (own_f [l0, l1, l2, l3] v1) from if_pos hc25_2) (show own_sel l2 (own_f [l0, l1, l2, l3] v2) (own_f [l0, l1, l2, l3] v1) = l2 from if_neg hc37_3) (show own_sel l3 (own_f [l0, l1, l2, l3] v2) (own_f [l0, l1, l2, l3] v1) = (own_f [l0, l1, l2, l3] v1) from if_pos hc49_5) A_v0_45)⟩
        · refine G_icmpYes X42 hx (pc' := 57) (hb hby d_merge_49) (feq hc49_5).2 (by decide) (by decide) ?_
          refine Go.fin X42 hlk (v := none) (fun _ => rfl) (by decide) (by decide) ?_ (fun fs hr => X42.returnOut hx Bd.returns (hb hby d_merge_57) hr)
          show Q_merge Z v0 v1 v2 [l0, l1, l2, l3] h0 n0 _ T42.heap _
          rw [e42]
          exact ⟨rfl, N42, K_42, (own_mg (show own_sel l0 (own_f [l0, l1, l2, l3] v2) (own_f [l0, l1, l2, l3] v1) = (own_f [l0, l1, l2, l3] v1) from if_pos hc13_1) (show own_sel l1 (own_f [l0, l1, l2, l3] v2) (own_f [l0, l1, l2, l3] v1) = (own_f [l0, l1, l2, l3] v1) from if_pos hc25_2) (show own_sel l2 (own_f [l0, l1, l2, l3] v2) (own_f [l0, l1, l2, l3] v1) = l2 from if_neg hc37_3) (show own_sel l3 (own_f [l0, l1, l2, l3] v2) (own_f [l0, l1, l2, l3] v1) = l3 from if_neg hc49_5) A_v0_42)⟩
    · refine G_icmpYes X41 hx (pc' := 33) (hb hby d_merge_25) (feq hc25_2).2 (by decide) (by decide) ?_
      refine G_aloadN X41 hx (pc' := 34) rfl (hb hby d_merge_33) rfl rfl ?_
      refine G_iconst X41 hx (pc' := 35) rfl (hb hby d_merge_34) (z := (2 : Int32)) rfl ?_
      refine Go.st (ldAI X41 hx hZ e41 A_v0_41 (j := (2 : Int32)) (by decide) (show Int32.toNatClampNeg 2 < 4 from by decide) (g := (mkF m 35 #[.val (.ref v0), .val (.int v1), .val (.int v2), .val (.int (own_f [l0, l1, l2, l3] v2)), .val (.int (own_f [l0, l1, l2, l3] v1))] [(.int (2 : Int32)), (.ref v0)])) rfl rfl (hb hby d_merge_35)) ?_
      show Go p e below s _ _ _ T41 (mkF m 36 #[.val (.ref v0), .val (.int v1), .val (.int v2), .val (.int (own_f [l0, l1, l2, l3] v2)), .val (.int (own_f [l0, l1, l2, l3] v1))] [(.int l2)])
      refine G_iloadN X41 hx (pc' := 37) rfl (hb hby d_merge_36) rfl ?_
      by_cases hc37_6 : l2 = (own_f [l0, l1, l2, l3] v2)
      · refine G_icmpNo X41 hx (pc' := 40) rfl (hb hby d_merge_37) (teq hc37_6).2 ?_
        refine G_aloadN X41 hx (pc' := 41) rfl (hb hby d_merge_40) rfl rfl ?_
        refine G_iconst X41 hx (pc' := 42) rfl (hb hby d_merge_41) (z := (2 : Int32)) rfl ?_
        refine G_iload X41 hx (pc' := 44) rfl (hb hby d_merge_42) rfl ?_
        obtain ⟨T46, h46, X46, e46, W46, A46, st46⟩ := stAI X41 hx hZ e41 A_v0_41 (j := (2 : Int32)) (by decide) (show Int32.toNatClampNeg 2 < 4 from by decide) (g := (mkF m 44 #[.val (.ref v0), .val (.int v1), .val (.int v2), .val (.int (own_f [l0, l1, l2, l3] v2)), .val (.int (own_f [l0, l1, l2, l3] v1))] [(.int (own_f [l0, l1, l2, l3] v1)), (.int (2 : Int32)), (.ref v0)])) rfl rfl (hb hby d_merge_44)
        refine Go.st st46 ?_
        have A_v0_46 : AI Z h46 v0 .int [(own_f [l0, l1, l2, l3] v1), l1, (own_f [l0, l1, l2, l3] v1), l3] := A46
        have K_46 : Keep h0 h46 [v0] := K_41.wr W46 (Or.inl (List.mem_of_getElem? (i := 0) rfl))
        have Z_46 : n0 ≤ h46.size := Nat.le_trans Z0 K_46.1
        have N46 := Fr.snoc X46 N41 g_v0
        show Go p e below s _ _ _ T46 (mkF m 45 #[.val (.ref v0), .val (.int v1), .val (.int v2), .val (.int (own_f [l0, l1, l2, l3] v2)), .val (.int (own_f [l0, l1, l2, l3] v1))] [])
        refine G_aloadN X46 hx (pc' := 46) rfl (hb hby d_merge_45) rfl rfl ?_
        refine G_iconst X46 hx (pc' := 47) rfl (hb hby d_merge_46) (z := (3 : Int32)) rfl ?_
        refine Go.st (ldAI X46 hx hZ e46 A_v0_46 (j := (3 : Int32)) (by decide) (show Int32.toNatClampNeg 3 < 4 from by decide) (g := (mkF m 47 #[.val (.ref v0), .val (.int v1), .val (.int v2), .val (.int (own_f [l0, l1, l2, l3] v2)), .val (.int (own_f [l0, l1, l2, l3] v1))] [(.int (3 : Int32)), (.ref v0)])) rfl rfl (hb hby d_merge_47)) ?_
        show Go p e below s _ _ _ T46 (mkF m 48 #[.val (.ref v0), .val (.int v1), .val (.int v2), .val (.int (own_f [l0, l1, l2, l3] v2)), .val (.int (own_f [l0, l1, l2, l3] v1))] [(.int l3)])
        refine G_iloadN X46 hx (pc' := 49) rfl (hb hby d_merge_48) rfl ?_
        by_cases hc49_7 : l3 = (own_f [l0, l1, l2, l3] v2)
        · refine G_icmpNo X46 hx (pc' := 52) rfl (hb hby d_merge_49) (teq hc49_7).2 ?_
          refine G_aloadN X46 hx (pc' := 53) rfl (hb hby d_merge_52) rfl rfl ?_
          refine G_iconst X46 hx (pc' := 54) rfl (hb hby d_merge_53) (z := (3 : Int32)) rfl ?_
          refine G_iload X46 hx (pc' := 56) rfl (hb hby d_merge_54) rfl ?_
          obtain ⟨T47, h47, X47, e47, W47, A47, st47⟩ := stAI X46 hx hZ e46 A_v0_46 (j := (3 : Int32)) (by decide) (show Int32.toNatClampNeg 3 < 4 from by decide) (g := (mkF m 56 #[.val (.ref v0), .val (.int v1), .val (.int v2), .val (.int (own_f [l0, l1, l2, l3] v2)), .val (.int (own_f [l0, l1, l2, l3] v1))] [(.int (own_f [l0, l1, l2, l3] v1)), (.int (3 : Int32)), (.ref v0)])) rfl rfl (hb hby d_merge_56)
          refine Go.st st47 ?_
          have A_v0_47 : AI Z h47 v0 .int [(own_f [l0, l1, l2, l3] v1), l1, (own_f [l0, l1, l2, l3] v1), (own_f [l0, l1, l2, l3] v1)] := A47
          have K_47 : Keep h0 h47 [v0] := K_46.wr W47 (Or.inl (List.mem_of_getElem? (i := 0) rfl))
          have Z_47 : n0 ≤ h47.size := Nat.le_trans Z0 K_47.1
          have N47 := Fr.snoc X47 N46 g_v0
          show Go p e below s _ _ _ T47 (mkF m 57 #[.val (.ref v0), .val (.int v1), .val (.int v2), .val (.int (own_f [l0, l1, l2, l3] v2)), .val (.int (own_f [l0, l1, l2, l3] v1))] [])
          refine Go.fin X47 hlk (v := none) (fun _ => rfl) (by decide) (by decide) ?_ (fun fs hr => X47.returnOut hx Bd.returns (hb hby d_merge_57) hr)
          show Q_merge Z v0 v1 v2 [l0, l1, l2, l3] h0 n0 _ T47.heap _
          rw [e47]
          exact ⟨rfl, N47, K_47, (own_mg (show own_sel l0 (own_f [l0, l1, l2, l3] v2) (own_f [l0, l1, l2, l3] v1) = (own_f [l0, l1, l2, l3] v1) from if_pos hc13_1) (show own_sel l1 (own_f [l0, l1, l2, l3] v2) (own_f [l0, l1, l2, l3] v1) = l1 from if_neg hc25_2) (show own_sel l2 (own_f [l0, l1, l2, l3] v2) (own_f [l0, l1, l2, l3] v1) = (own_f [l0, l1, l2, l3] v1) from if_pos hc37_6) (show own_sel l3 (own_f [l0, l1, l2, l3] v2) (own_f [l0, l1, l2, l3] v1) = (own_f [l0, l1, l2, l3] v1) from if_pos hc49_7) A_v0_47)⟩
        · refine G_icmpYes X46 hx (pc' := 57) (hb hby d_merge_49) (feq hc49_7).2 (by decide) (by decide) ?_
          refine Go.fin X46 hlk (v := none) (fun _ => rfl) (by decide) (by decide) ?_ (fun fs hr => X46.returnOut hx Bd.returns (hb hby d_merge_57) hr)
          show Q_merge Z v0 v1 v2 [l0, l1, l2, l3] h0 n0 _ T46.heap _
          rw [e46]
          exact ⟨rfl, N46, K_46, (own_mg (show own_sel l0 (own_f [l0, l1, l2, l3] v2) (own_f [l0, l1, l2, l3] v1) = (own_f [l0, l1, l2, l3] v1) from if_pos hc13_1) (show own_sel l1 (own_f [l0, l1, l2, l3] v2) (own_f [l0, l1, l2, l3] v1) = l1 from if_neg hc25_2) (show own_sel l2 (own_f [l0, l1, l2, l3] v2) (own_f [l0, l1, l2, l3] v1) = (own_f [l0, l1, l2, l3] v1) from if_pos hc37_6) (show own_sel l3 (own_f [l0, l1, l2, l3] v2) (own_f [l0, l1, l2, l3] v1) = l3 from if_neg hc49_7) A_v0_46)⟩
      · refine G_icmpYes X41 hx (pc' := 45) (hb hby d_merge_37) (feq hc37_6).2 (by decide) (by decide) ?_
        refine G_aloadN X41 hx (pc' := 46) rfl (hb hby d_merge_45) rfl rfl ?_
        refine G_iconst X41 hx (pc' := 47) rfl (hb hby d_merge_46) (z := (3 : Int32)) rfl ?_
        refine Go.st (ldAI X41 hx hZ e41 A_v0_41 (j := (3 : Int32)) (by decide) (show Int32.toNatClampNeg 3 < 4 from by decide) (g := (mkF m 47 #[.val (.ref v0), .val (.int v1), .val (.int v2), .val (.int (own_f [l0, l1, l2, l3] v2)), .val (.int (own_f [l0, l1, l2, l3] v1))] [(.int (3 : Int32)), (.ref v0)])) rfl rfl (hb hby d_merge_47)) ?_
        show Go p e below s _ _ _ T41 (mkF m 48 #[.val (.ref v0), .val (.int v1), .val (.int v2), .val (.int (own_f [l0, l1, l2, l3] v2)), .val (.int (own_f [l0, l1, l2, l3] v1))] [(.int l3)])
        refine G_iloadN X41 hx (pc' := 49) rfl (hb hby d_merge_48) rfl ?_
        by_cases hc49_8 : l3 = (own_f [l0, l1, l2, l3] v2)
        · refine G_icmpNo X41 hx (pc' := 52) rfl (hb hby d_merge_49) (teq hc49_8).2 ?_
          refine G_aloadN X41 hx (pc' := 53) rfl (hb hby d_merge_52) rfl rfl ?_
          refine G_iconst X41 hx (pc' := 54) rfl (hb hby d_merge_53) (z := (3 : Int32)) rfl ?_
          refine G_iload X41 hx (pc' := 56) rfl (hb hby d_merge_54) rfl ?_
          obtain ⟨T48, h48, X48, e48, W48, A48, st48⟩ := stAI X41 hx hZ e41 A_v0_41 (j := (3 : Int32)) (by decide) (show Int32.toNatClampNeg 3 < 4 from by decide) (g := (mkF m 56 #[.val (.ref v0), .val (.int v1), .val (.int v2), .val (.int (own_f [l0, l1, l2, l3] v2)), .val (.int (own_f [l0, l1, l2, l3] v1))] [(.int (own_f [l0, l1, l2, l3] v1)), (.int (3 : Int32)), (.ref v0)])) rfl rfl (hb hby d_merge_56)
          refine Go.st st48 ?_
          have A_v0_48 : AI Z h48 v0 .int [(own_f [l0, l1, l2, l3] v1), l1, l2, (own_f [l0, l1, l2, l3] v1)] := A48
          have K_48 : Keep h0 h48 [v0] := K_41.wr W48 (Or.inl (List.mem_of_getElem? (i := 0) rfl))
          have Z_48 : n0 ≤ h48.size := Nat.le_trans Z0 K_48.1
          have N48 := Fr.snoc X48 N41 g_v0
          show Go p e below s _ _ _ T48 (mkF m 57 #[.val (.ref v0), .val (.int v1), .val (.int v2), .val (.int (own_f [l0, l1, l2, l3] v2)), .val (.int (own_f [l0, l1, l2, l3] v1))] [])
          refine Go.fin X48 hlk (v := none) (fun _ => rfl) (by decide) (by decide) ?_ (fun fs hr => X48.returnOut hx Bd.returns (hb hby d_merge_57) hr)
          show Q_merge Z v0 v1 v2 [l0, l1, l2, l3] h0 n0 _ T48.heap _
          rw [e48]
          exact ⟨rfl, N48, K_48, (own_mg (show own_sel l0 (own_f [l0, l1, l2, l3] v2) (own_f [l0, l1, l2, l3] v1) = (own_f [l0, l1, l2, l3] v1) from if_pos hc13_1) (show own_sel l1 (own_f [l0, l1, l2, l3] v2) (own_f [l0, l1, l2, l3] v1) = l1 from if_neg hc25_2) (show own_sel l2 (own_f [l0, l1, l2, l3] v2) (own_f [l0, l1, l2, l3] v1) = l2 from if_neg hc37_6) (show own_sel l3 (own_f [l0, l1, l2, l3] v2) (own_f [l0, l1, l2, l3] v1) = (own_f [l0, l1, l2, l3] v1) from if_pos hc49_8) A_v0_48)⟩
        · refine G_icmpYes X41 hx (pc' := 57) (hb hby d_merge_49) (feq hc49_8).2 (by decide) (by decide) ?_
          refine Go.fin X41 hlk (v := none) (fun _ => rfl) (by decide) (by decide) ?_ (fun fs hr => X41.returnOut hx Bd.returns (hb hby d_merge_57) hr)
          show Q_merge Z v0 v1 v2 [l0, l1, l2, l3] h0 n0 _ T41.heap _
          rw [e41]
          exact ⟨rfl, N41, K_41, (own_mg (show own_sel l0 (own_f [l0, l1, l2, l3] v2) (own_f [l0, l1, l2, l3] v1) = (own_f [l0, l1, l2, l3] v1) from if_pos hc13_1) (show own_sel l1 (own_f [l0, l1, l2, l3] v2) (own_f [l0, l1, l2, l3] v1) = l1 from if_neg hc25_2) (show own_sel l2 (own_f [l0, l1, l2, l3] v2) (own_f [l0, l1, l2, l3] v1) = l2 from if_neg hc37_6) (show own_sel l3 (own_f [l0, l1, l2, l3] v2) (own_f [l0, l1, l2, l3] v1) = l3 from if_neg hc49_8) A_v0_41)⟩
  · refine G_icmpYes X0 hx (pc' := 21) (hb hby d_merge_13) (feq hc13_1).2 (by decide) (by decide) ?_
    refine G_aloadN X0 hx (pc' := 22) rfl (hb hby d_merge_21) rfl rfl ?_
    refine G_iconst X0 hx (pc' := 23) rfl (hb hby d_merge_22) (z := (1 : Int32)) rfl ?_
    refine Go.st (ldAI X0 hx hZ e0 f0_A_v0 (j := (1 : Int32)) (by decide) (show Int32.toNatClampNeg 1 < 4 from by decide) (g := (mkF m 23 #[.val (.ref v0), .val (.int v1), .val (.int v2), .val (.int (own_f [l0, l1, l2, l3] v2)), .val (.int (own_f [l0, l1, l2, l3] v1))] [(.int (1 : Int32)), (.ref v0)])) rfl rfl (hb hby d_merge_23)) ?_
    show Go p e below s _ _ _ s₁ (mkF m 24 #[.val (.ref v0), .val (.int v1), .val (.int v2), .val (.int (own_f [l0, l1, l2, l3] v2)), .val (.int (own_f [l0, l1, l2, l3] v1))] [(.int l1)])
    refine G_iloadN X0 hx (pc' := 25) rfl (hb hby d_merge_24) rfl ?_
    by_cases hc25_9 : l1 = (own_f [l0, l1, l2, l3] v2)
    · refine G_icmpNo X0 hx (pc' := 28) rfl (hb hby d_merge_25) (teq hc25_9).2 ?_
      refine G_aloadN X0 hx (pc' := 29) rfl (hb hby d_merge_28) rfl rfl ?_
      refine G_iconst X0 hx (pc' := 30) rfl (hb hby d_merge_29) (z := (1 : Int32)) rfl ?_
      refine G_iload X0 hx (pc' := 32) rfl (hb hby d_merge_30) rfl ?_
      obtain ⟨T49, h49, X49, e49, W49, A49, st49⟩ := stAI X0 hx hZ e0 f0_A_v0 (j := (1 : Int32)) (by decide) (show Int32.toNatClampNeg 1 < 4 from by decide) (g := (mkF m 32 #[.val (.ref v0), .val (.int v1), .val (.int v2), .val (.int (own_f [l0, l1, l2, l3] v2)), .val (.int (own_f [l0, l1, l2, l3] v1))] [(.int (own_f [l0, l1, l2, l3] v1)), (.int (1 : Int32)), (.ref v0)])) rfl rfl (hb hby d_merge_32)
      refine Go.st st49 ?_
      have A_v0_49 : AI Z h49 v0 .int [l0, (own_f [l0, l1, l2, l3] v1), l2, l3] := A49
      have K_49 : Keep h0 h49 [v0] := (Keep.refl h0 [v0]).wr W49 (Or.inl (List.mem_of_getElem? (i := 0) rfl))
      have Z_49 : n0 ≤ h49.size := Nat.le_trans Z0 K_49.1
      have N49 := Fr.snoc X49 N0 g_v0
      show Go p e below s _ _ _ T49 (mkF m 33 #[.val (.ref v0), .val (.int v1), .val (.int v2), .val (.int (own_f [l0, l1, l2, l3] v2)), .val (.int (own_f [l0, l1, l2, l3] v1))] [])
      refine G_aloadN X49 hx (pc' := 34) rfl (hb hby d_merge_33) rfl rfl ?_
      refine G_iconst X49 hx (pc' := 35) rfl (hb hby d_merge_34) (z := (2 : Int32)) rfl ?_
      refine Go.st (ldAI X49 hx hZ e49 A_v0_49 (j := (2 : Int32)) (by decide) (show Int32.toNatClampNeg 2 < 4 from by decide) (g := (mkF m 35 #[.val (.ref v0), .val (.int v1), .val (.int v2), .val (.int (own_f [l0, l1, l2, l3] v2)), .val (.int (own_f [l0, l1, l2, l3] v1))] [(.int (2 : Int32)), (.ref v0)])) rfl rfl (hb hby d_merge_35)) ?_
      show Go p e below s _ _ _ T49 (mkF m 36 #[.val (.ref v0), .val (.int v1), .val (.int v2), .val (.int (own_f [l0, l1, l2, l3] v2)), .val (.int (own_f [l0, l1, l2, l3] v1))] [(.int l2)])
      refine G_iloadN X49 hx (pc' := 37) rfl (hb hby d_merge_36) rfl ?_
      by_cases hc37_10 : l2 = (own_f [l0, l1, l2, l3] v2)
      · refine G_icmpNo X49 hx (pc' := 40) rfl (hb hby d_merge_37) (teq hc37_10).2 ?_
        refine G_aloadN X49 hx (pc' := 41) rfl (hb hby d_merge_40) rfl rfl ?_
        refine G_iconst X49 hx (pc' := 42) rfl (hb hby d_merge_41) (z := (2 : Int32)) rfl ?_
        refine G_iload X49 hx (pc' := 44) rfl (hb hby d_merge_42) rfl ?_
        obtain ⟨T50, h50, X50, e50, W50, A50, st50⟩ := stAI X49 hx hZ e49 A_v0_49 (j := (2 : Int32)) (by decide) (show Int32.toNatClampNeg 2 < 4 from by decide) (g := (mkF m 44 #[.val (.ref v0), .val (.int v1), .val (.int v2), .val (.int (own_f [l0, l1, l2, l3] v2)), .val (.int (own_f [l0, l1, l2, l3] v1))] [(.int (own_f [l0, l1, l2, l3] v1)), (.int (2 : Int32)), (.ref v0)])) rfl rfl (hb hby d_merge_44)
        refine Go.st st50 ?_
        have A_v0_50 : AI Z h50 v0 .int [l0, (own_f [l0, l1, l2, l3] v1), (own_f [l0, l1, l2, l3] v1), l3] := A50
        have K_50 : Keep h0 h50 [v0] := K_49.wr W50 (Or.inl (List.mem_of_getElem? (i := 0) rfl))
        have Z_50 : n0 ≤ h50.size := Nat.le_trans Z0 K_50.1
        have N50 := Fr.snoc X50 N49 g_v0
        show Go p e below s _ _ _ T50 (mkF m 45 #[.val (.ref v0), .val (.int v1), .val (.int v2), .val (.int (own_f [l0, l1, l2, l3] v2)), .val (.int (own_f [l0, l1, l2, l3] v1))] [])
        refine G_aloadN X50 hx (pc' := 46) rfl (hb hby d_merge_45) rfl rfl ?_
        refine G_iconst X50 hx (pc' := 47) rfl (hb hby d_merge_46) (z := (3 : Int32)) rfl ?_
        refine Go.st (ldAI X50 hx hZ e50 A_v0_50 (j := (3 : Int32)) (by decide) (show Int32.toNatClampNeg 3 < 4 from by decide) (g := (mkF m 47 #[.val (.ref v0), .val (.int v1), .val (.int v2), .val (.int (own_f [l0, l1, l2, l3] v2)), .val (.int (own_f [l0, l1, l2, l3] v1))] [(.int (3 : Int32)), (.ref v0)])) rfl rfl (hb hby d_merge_47)) ?_
        show Go p e below s _ _ _ T50 (mkF m 48 #[.val (.ref v0), .val (.int v1), .val (.int v2), .val (.int (own_f [l0, l1, l2, l3] v2)), .val (.int (own_f [l0, l1, l2, l3] v1))] [(.int l3)])
        refine G_iloadN X50 hx (pc' := 49) rfl (hb hby d_merge_48) rfl ?_
        by_cases hc49_11 : l3 = (own_f [l0, l1, l2, l3] v2)
        · refine G_icmpNo X50 hx (pc' := 52) rfl (hb hby d_merge_49) (teq hc49_11).2 ?_
          refine G_aloadN X50 hx (pc' := 53) rfl (hb hby d_merge_52) rfl rfl ?_
          refine G_iconst X50 hx (pc' := 54) rfl (hb hby d_merge_53) (z := (3 : Int32)) rfl ?_
          refine G_iload X50 hx (pc' := 56) rfl (hb hby d_merge_54) rfl ?_
          obtain ⟨T51, h51, X51, e51, W51, A51, st51⟩ := stAI X50 hx hZ e50 A_v0_50 (j := (3 : Int32)) (by decide) (show Int32.toNatClampNeg 3 < 4 from by decide) (g := (mkF m 56 #[.val (.ref v0), .val (.int v1), .val (.int v2), .val (.int (own_f [l0, l1, l2, l3] v2)), .val (.int (own_f [l0, l1, l2, l3] v1))] [(.int (own_f [l0, l1, l2, l3] v1)), (.int (3 : Int32)), (.ref v0)])) rfl rfl (hb hby d_merge_56)
          refine Go.st st51 ?_
          have A_v0_51 : AI Z h51 v0 .int [l0, (own_f [l0, l1, l2, l3] v1), (own_f [l0, l1, l2, l3] v1), (own_f [l0, l1, l2, l3] v1)] := A51
          have K_51 : Keep h0 h51 [v0] := K_50.wr W51 (Or.inl (List.mem_of_getElem? (i := 0) rfl))
          have Z_51 : n0 ≤ h51.size := Nat.le_trans Z0 K_51.1
          have N51 := Fr.snoc X51 N50 g_v0
          show Go p e below s _ _ _ T51 (mkF m 57 #[.val (.ref v0), .val (.int v1), .val (.int v2), .val (.int (own_f [l0, l1, l2, l3] v2)), .val (.int (own_f [l0, l1, l2, l3] v1))] [])
          refine Go.fin X51 hlk (v := none) (fun _ => rfl) (by decide) (by decide) ?_ (fun fs hr => X51.returnOut hx Bd.returns (hb hby d_merge_57) hr)
          show Q_merge Z v0 v1 v2 [l0, l1, l2, l3] h0 n0 _ T51.heap _
          rw [e51]
          exact ⟨rfl, N51, K_51, (own_mg (show own_sel l0 (own_f [l0, l1, l2, l3] v2) (own_f [l0, l1, l2, l3] v1) = l0 from if_neg hc13_1) (show own_sel l1 (own_f [l0, l1, l2, l3] v2) (own_f [l0, l1, l2, l3] v1) = (own_f [l0, l1, l2, l3] v1) from if_pos hc25_9) (show own_sel l2 (own_f [l0, l1, l2, l3] v2) (own_f [l0, l1, l2, l3] v1) = (own_f [l0, l1, l2, l3] v1) from if_pos hc37_10) (show own_sel l3 (own_f [l0, l1, l2, l3] v2) (own_f [l0, l1, l2, l3] v1) = (own_f [l0, l1, l2, l3] v1) from if_pos hc49_11) A_v0_51)⟩
        · refine G_icmpYes X50 hx (pc' := 57) (hb hby d_merge_49) (feq hc49_11).2 (by decide) (by decide) ?_
          refine Go.fin X50 hlk (v := none) (fun _ => rfl) (by decide) (by decide) ?_ (fun fs hr => X50.returnOut hx Bd.returns (hb hby d_merge_57) hr)
          show Q_merge Z v0 v1 v2 [l0, l1, l2, l3] h0 n0 _ T50.heap _
          rw [e50]
          exact ⟨rfl, N50, K_50, (own_mg (show own_sel l0 (own_f [l0, l1, l2, l3] v2) (own_f [l0, l1, l2, l3] v1) = l0 from if_neg hc13_1) (show own_sel l1 (own_f [l0, l1, l2, l3] v2) (own_f [l0, l1, l2, l3] v1) = (own_f [l0, l1, l2, l3] v1) from if_pos hc25_9) (show own_sel l2 (own_f [l0, l1, l2, l3] v2) (own_f [l0, l1, l2, l3] v1) = (own_f [l0, l1, l2, l3] v1) from if_pos hc37_10) (show own_sel l3 (own_f [l0, l1, l2, l3] v2) (own_f [l0, l1, l2, l3] v1) = l3 from if_neg hc49_11) A_v0_50)⟩
      · refine G_icmpYes X49 hx (pc' := 45) (hb hby d_merge_37) (feq hc37_10).2 (by decide) (by decide) ?_
        refine G_aloadN X49 hx (pc' := 46) rfl (hb hby d_merge_45) rfl rfl ?_
        refine G_iconst X49 hx (pc' := 47) rfl (hb hby d_merge_46) (z := (3 : Int32)) rfl ?_
        refine Go.st (ldAI X49 hx hZ e49 A_v0_49 (j := (3 : Int32)) (by decide) (show Int32.toNatClampNeg 3 < 4 from by decide) (g := (mkF m 47 #[.val (.ref v0), .val (.int v1), .val (.int v2), .val (.int (own_f [l0, l1, l2, l3] v2)), .val (.int (own_f [l0, l1, l2, l3] v1))] [(.int (3 : Int32)), (.ref v0)])) rfl rfl (hb hby d_merge_47)) ?_
        show Go p e below s _ _ _ T49 (mkF m 48 #[.val (.ref v0), .val (.int v1), .val (.int v2), .val (.int (own_f [l0, l1, l2, l3] v2)), .val (.int (own_f [l0, l1, l2, l3] v1))] [(.int l3)])
        refine G_iloadN X49 hx (pc' := 49) rfl (hb hby d_merge_48) rfl ?_
        by_cases hc49_12 : l3 = (own_f [l0, l1, l2, l3] v2)
        · refine G_icmpNo X49 hx (pc' := 52) rfl (hb hby d_merge_49) (teq hc49_12).2 ?_
          refine G_aloadN X49 hx (pc' := 53) rfl (hb hby d_merge_52) rfl rfl ?_
          refine G_iconst X49 hx (pc' := 54) rfl (hb hby d_merge_53) (z := (3 : Int32)) rfl ?_
          refine G_iload X49 hx (pc' := 56) rfl (hb hby d_merge_54) rfl ?_
          obtain ⟨T52, h52, X52, e52, W52, A52, st52⟩ := stAI X49 hx hZ e49 A_v0_49 (j := (3 : Int32)) (by decide) (show Int32.toNatClampNeg 3 < 4 from by decide) (g := (mkF m 56 #[.val (.ref v0), .val (.int v1), .val (.int v2), .val (.int (own_f [l0, l1, l2, l3] v2)), .val (.int (own_f [l0, l1, l2, l3] v1))] [(.int (own_f [l0, l1, l2, l3] v1)), (.int (3 : Int32)), (.ref v0)])) rfl rfl (hb hby d_merge_56)
          refine Go.st st52 ?_
          have A_v0_52 : AI Z h52 v0 .int [l0, (own_f [l0, l1, l2, l3] v1), l2, (own_f [l0, l1, l2, l3] v1)] := A52
          have K_52 : Keep h0 h52 [v0] := K_49.wr W52 (Or.inl (List.mem_of_getElem? (i := 0) rfl))
          have Z_52 : n0 ≤ h52.size := Nat.le_trans Z0 K_52.1
          have N52 := Fr.snoc X52 N49 g_v0
          show Go p e below s _ _ _ T52 (mkF m 57 #[.val (.ref v0), .val (.int v1), .val (.int v2), .val (.int (own_f [l0, l1, l2, l3] v2)), .val (.int (own_f [l0, l1, l2, l3] v1))] [])
          refine Go.fin X52 hlk (v := none) (fun _ => rfl) (by decide) (by decide) ?_ (fun fs hr => X52.returnOut hx Bd.returns (hb hby d_merge_57) hr)
          show Q_merge Z v0 v1 v2 [l0, l1, l2, l3] h0 n0 _ T52.heap _
          rw [e52]
          exact ⟨rfl, N52, K_52, (own_mg (show own_sel l0 (own_f [l0, l1, l2, l3] v2) (own_f [l0, l1, l2, l3] v1) = l0 from if_neg hc13_1) (show own_sel l1 (own_f [l0, l1, l2, l3] v2) (own_f [l0, l1, l2, l3] v1) = (own_f [l0, l1, l2, l3] v1) from if_pos hc25_9) (show own_sel l2 (own_f [l0, l1, l2, l3] v2) (own_f [l0, l1, l2, l3] v1) = l2 from if_neg hc37_10) (show own_sel l3 (own_f [l0, l1, l2, l3] v2) (own_f [l0, l1, l2, l3] v1) = (own_f [l0, l1, l2, l3] v1) from if_pos hc49_12) A_v0_52)⟩
        · refine G_icmpYes X49 hx (pc' := 57) (hb hby d_merge_49) (feq hc49_12).2 (by decide) (by decide) ?_
          refine Go.fin X49 hlk (v := none) (fun _ => rfl) (by decide) (by decide) ?_ (fun fs hr => X49.returnOut hx Bd.returns (hb hby d_merge_57) hr)
          show Q_merge Z v0 v1 v2 [l0, l1, l2, l3] h0 n0 _ T49.heap _
          rw [e49]
          exact ⟨rfl, N49, K_49, (own_mg (show own_sel l0 (own_f [l0, l1, l2, l3] v2) (own_f [l0, l1, l2, l3] v1) = l0 from if_neg hc13_1) (show own_sel l1 (own_f [l0, l1, l2, l3] v2) (own_f [l0, l1, l2, l3] v1) = (own_f [l0, l1, l2, l3] v1) from if_pos hc25_9) (show own_sel l2 (own_f [l0, l1, l2, l3] v2) (own_f [l0, l1, l2, l3] v1) = l2 from if_neg hc37_10) (show own_sel l3 (own_f [l0, l1, l2, l3] v2) (own_f [l0, l1, l2, l3] v1) = l3 from if_neg hc49_12) A_v0_49)⟩
    · refine G_icmpYes X0 hx (pc' := 33) (hb hby d_merge_25) (feq hc25_9).2 (by decide) (by decide) ?_
      refine G_aloadN X0 hx (pc' := 34) rfl (hb hby d_merge_33) rfl rfl ?_
      refine G_iconst X0 hx (pc' := 35) rfl (hb hby d_merge_34) (z := (2 : Int32)) rfl ?_
      refine Go.st (ldAI X0 hx hZ e0 f0_A_v0 (j := (2 : Int32)) (by decide) (show Int32.toNatClampNeg 2 < 4 from by decide) (g := (mkF m 35 #[.val (.ref v0), .val (.int v1), .val (.int v2), .val (.int (own_f [l0, l1, l2, l3] v2)), .val (.int (own_f [l0, l1, l2, l3] v1))] [(.int (2 : Int32)), (.ref v0)])) rfl rfl (hb hby d_merge_35)) ?_
      show Go p e below s _ _ _ s₁ (mkF m 36 #[.val (.ref v0), .val (.int v1), .val (.int v2), .val (.int (own_f [l0, l1, l2, l3] v2)), .val (.int (own_f [l0, l1, l2, l3] v1))] [(.int l2)])
      refine G_iloadN X0 hx (pc' := 37) rfl (hb hby d_merge_36) rfl ?_
      by_cases hc37_13 : l2 = (own_f [l0, l1, l2, l3] v2)
      · refine G_icmpNo X0 hx (pc' := 40) rfl (hb hby d_merge_37) (teq hc37_13).2 ?_
        refine G_aloadN X0 hx (pc' := 41) rfl (hb hby d_merge_40) rfl rfl ?_
        refine G_iconst X0 hx (pc' := 42) rfl (hb hby d_merge_41) (z := (2 : Int32)) rfl ?_
        refine G_iload X0 hx (pc' := 44) rfl (hb hby d_merge_42) rfl ?_
        obtain ⟨T53, h53, X53, e53, W53, A53, st53⟩ := stAI X0 hx hZ e0 f0_A_v0 (j := (2 : Int32)) (by decide) (show Int32.toNatClampNeg 2 < 4 from by decide) (g := (mkF m 44 #[.val (.ref v0), .val (.int v1), .val (.int v2), .val (.int (own_f [l0, l1, l2, l3] v2)), .val (.int (own_f [l0, l1, l2, l3] v1))] [(.int (own_f [l0, l1, l2, l3] v1)), (.int (2 : Int32)), (.ref v0)])) rfl rfl (hb hby d_merge_44)
        refine Go.st st53 ?_
        have A_v0_53 : AI Z h53 v0 .int [l0, l1, (own_f [l0, l1, l2, l3] v1), l3] := A53
        have K_53 : Keep h0 h53 [v0] := (Keep.refl h0 [v0]).wr W53 (Or.inl (List.mem_of_getElem? (i := 0) rfl))
        have Z_53 : n0 ≤ h53.size := Nat.le_trans Z0 K_53.1
        have N53 := Fr.snoc X53 N0 g_v0
        show Go p e below s _ _ _ T53 (mkF m 45 #[.val (.ref v0), .val (.int v1), .val (.int v2), .val (.int (own_f [l0, l1, l2, l3] v2)), .val (.int (own_f [l0, l1, l2, l3] v1))] [])
        refine G_aloadN X53 hx (pc' := 46) rfl (hb hby d_merge_45) rfl rfl ?_
        refine G_iconst X53 hx (pc' := 47) rfl (hb hby d_merge_46) (z := (3 : Int32)) rfl ?_
        refine Go.st (ldAI X53 hx hZ e53 A_v0_53 (j := (3 : Int32)) (by decide) (show Int32.toNatClampNeg 3 < 4 from by decide) (g := (mkF m 47 #[.val (.ref v0), .val (.int v1), .val (.int v2), .val (.int (own_f [l0, l1, l2, l3] v2)), .val (.int (own_f [l0, l1, l2, l3] v1))] [(.int (3 : Int32)), (.ref v0)])) rfl rfl (hb hby d_merge_47)) ?_
        show Go p e below s _ _ _ T53 (mkF m 48 #[.val (.ref v0), .val (.int v1), .val (.int v2), .val (.int (own_f [l0, l1, l2, l3] v2)), .val (.int (own_f [l0, l1, l2, l3] v1))] [(.int l3)])
        refine G_iloadN X53 hx (pc' := 49) rfl (hb hby d_merge_48) rfl ?_
        by_cases hc49_14 : l3 = (own_f [l0, l1, l2, l3] v2)
        · refine G_icmpNo X53 hx (pc' := 52) rfl (hb hby d_merge_49) (teq hc49_14).2 ?_
          refine G_aloadN X53 hx (pc' := 53) rfl (hb hby d_merge_52) rfl rfl ?_
          refine G_iconst X53 hx (pc' := 54) rfl (hb hby d_merge_53) (z := (3 : Int32)) rfl ?_
          refine G_iload X53 hx (pc' := 56) rfl (hb hby d_merge_54) rfl ?_
          obtain ⟨T54, h54, X54, e54, W54, A54, st54⟩ := stAI X53 hx hZ e53 A_v0_53 (j := (3 : Int32)) (by decide) (show Int32.toNatClampNeg 3 < 4 from by decide) (g := (mkF m 56 #[.val (.ref v0), .val (.int v1), .val (.int v2), .val (.int (own_f [l0, l1, l2, l3] v2)), .val (.int (own_f [l0, l1, l2, l3] v1))] [(.int (own_f [l0, l1, l2, l3] v1)), (.int (3 : Int32)), (.ref v0)])) rfl rfl (hb hby d_merge_56)
          refine Go.st st54 ?_
          have A_v0_54 : AI Z h54 v0 .int [l0, l1, (own_f [l0, l1, l2, l3] v1), (own_f [l0, l1, l2, l3] v1)] := A54
          have K_54 : Keep h0 h54 [v0] := K_53.wr W54 (Or.inl (List.mem_of_getElem? (i := 0) rfl))
          have Z_54 : n0 ≤ h54.size := Nat.le_trans Z0 K_54.1
          have N54 := Fr.snoc X54 N53 g_v0
          show Go p e below s _ _ _ T54 (mkF m 57 #[.val (.ref v0), .val (.int v1), .val (.int v2), .val (.int (own_f [l0, l1, l2, l3] v2)), .val (.int (own_f [l0, l1, l2, l3] v1))] [])
          refine Go.fin X54 hlk (v := none) (fun _ => rfl) (by decide) (by decide) ?_ (fun fs hr => X54.returnOut hx Bd.returns (hb hby d_merge_57) hr)
          show Q_merge Z v0 v1 v2 [l0, l1, l2, l3] h0 n0 _ T54.heap _
          rw [e54]
          exact ⟨rfl, N54, K_54, (own_mg (show own_sel l0 (own_f [l0, l1, l2, l3] v2) (own_f [l0, l1, l2, l3] v1) = l0 from if_neg hc13_1) (show own_sel l1 (own_f [l0, l1, l2, l3] v2) (own_f [l0, l1, l2, l3] v1) = l1 from if_neg hc25_9) (show own_sel l2 (own_f [l0, l1, l2, l3] v2) (own_f [l0, l1, l2, l3] v1) = (own_f [l0, l1, l2, l3] v1) from if_pos hc37_13) (show own_sel l3 (own_f [l0, l1, l2, l3] v2) (own_f [l0, l1, l2, l3] v1) = (own_f [l0, l1, l2, l3] v1) from if_pos hc49_14) A_v0_54)⟩
        · refine G_icmpYes X53 hx (pc' := 57) (hb hby d_merge_49) (feq hc49_14).2 (by decide) (by decide) ?_
          refine Go.fin X53 hlk (v := none) (fun _ => rfl) (by decide) (by decide) ?_ (fun fs hr => X53.returnOut hx Bd.returns (hb hby d_merge_57) hr)
          show Q_merge Z v0 v1 v2 [l0, l1, l2, l3] h0 n0 _ T53.heap _
          rw [e53]
          exact ⟨rfl, N53, K_53, (own_mg (show own_sel l0 (own_f [l0, l1, l2, l3] v2) (own_f [l0, l1, l2, l3] v1) = l0 from if_neg hc13_1) (show own_sel l1 (own_f [l0, l1, l2, l3] v2) (own_f [l0, l1, l2, l3] v1) = l1 from if_neg hc25_9) (show own_sel l2 (own_f [l0, l1, l2, l3] v2) (own_f [l0, l1, l2, l3] v1) = (own_f [l0, l1, l2, l3] v1) from if_pos hc37_13) (show own_sel l3 (own_f [l0, l1, l2, l3] v2) (own_f [l0, l1, l2, l3] v1) = l3 from if_neg hc49_14) A_v0_53)⟩
      · refine G_icmpYes X0 hx (pc' := 45) (hb hby d_merge_37) (feq hc37_13).2 (by decide) (by decide) ?_
        refine G_aloadN X0 hx (pc' := 46) rfl (hb hby d_merge_45) rfl rfl ?_
        refine G_iconst X0 hx (pc' := 47) rfl (hb hby d_merge_46) (z := (3 : Int32)) rfl ?_
        refine Go.st (ldAI X0 hx hZ e0 f0_A_v0 (j := (3 : Int32)) (by decide) (show Int32.toNatClampNeg 3 < 4 from by decide) (g := (mkF m 47 #[.val (.ref v0), .val (.int v1), .val (.int v2), .val (.int (own_f [l0, l1, l2, l3] v2)), .val (.int (own_f [l0, l1, l2, l3] v1))] [(.int (3 : Int32)), (.ref v0)])) rfl rfl (hb hby d_merge_47)) ?_
        show Go p e below s _ _ _ s₁ (mkF m 48 #[.val (.ref v0), .val (.int v1), .val (.int v2), .val (.int (own_f [l0, l1, l2, l3] v2)), .val (.int (own_f [l0, l1, l2, l3] v1))] [(.int l3)])
        refine G_iloadN X0 hx (pc' := 49) rfl (hb hby d_merge_48) rfl ?_
        by_cases hc49_15 : l3 = (own_f [l0, l1, l2, l3] v2)
        · refine G_icmpNo X0 hx (pc' := 52) rfl (hb hby d_merge_49) (teq hc49_15).2 ?_
          refine G_aloadN X0 hx (pc' := 53) rfl (hb hby d_merge_52) rfl rfl ?_
          refine G_iconst X0 hx (pc' := 54) rfl (hb hby d_merge_53) (z := (3 : Int32)) rfl ?_
          refine G_iload X0 hx (pc' := 56) rfl (hb hby d_merge_54) rfl ?_
          obtain ⟨T55, h55, X55, e55, W55, A55, st55⟩ := stAI X0 hx hZ e0 f0_A_v0 (j := (3 : Int32)) (by decide) (show Int32.toNatClampNeg 3 < 4 from by decide) (g := (mkF m 56 #[.val (.ref v0), .val (.int v1), .val (.int v2), .val (.int (own_f [l0, l1, l2, l3] v2)), .val (.int (own_f [l0, l1, l2, l3] v1))] [(.int (own_f [l0, l1, l2, l3] v1)), (.int (3 : Int32)), (.ref v0)])) rfl rfl (hb hby d_merge_56)
          refine Go.st st55 ?_
          have A_v0_55 : AI Z h55 v0 .int [l0, l1, l2, (own_f [l0, l1, l2, l3] v1)] := A55
          have K_55 : Keep h0 h55 [v0] := (Keep.refl h0 [v0]).wr W55 (Or.inl (List.mem_of_getElem? (i := 0) rfl))
          have Z_55 : n0 ≤ h55.size := Nat.le_trans Z0 K_55.1
          have N55 := Fr.snoc X55 N0 g_v0
          show Go p e below s _ _ _ T55 (mkF m 57 #[.val (.ref v0), .val (.int v1), .val (.int v2), .val (.int (own_f [l0, l1, l2, l3] v2)), .val (.int (own_f [l0, l1, l2, l3] v1))] [])
          refine Go.fin X55 hlk (v := none) (fun _ => rfl) (by decide) (by decide) ?_ (fun fs hr => X55.returnOut hx Bd.returns (hb hby d_merge_57) hr)
          show Q_merge Z v0 v1 v2 [l0, l1, l2, l3] h0 n0 _ T55.heap _
          rw [e55]
          exact ⟨rfl, N55, K_55, (own_mg (show own_sel l0 (own_f [l0, l1, l2, l3] v2) (own_f [l0, l1, l2, l3] v1) = l0 from if_neg hc13_1) (show own_sel l1 (own_f [l0, l1, l2, l3] v2) (own_f [l0, l1, l2, l3] v1) = l1 from if_neg hc25_9) (show own_sel l2 (own_f [l0, l1, l2, l3] v2) (own_f [l0, l1, l2, l3] v1) = l2 from if_neg hc37_13) (show own_sel l3 (own_f [l0, l1, l2, l3] v2) (own_f [l0, l1, l2, l3] v1) = (own_f [l0, l1, l2, l3] v1) from if_pos hc49_15) A_v0_55)⟩
        · refine G_icmpYes X0 hx (pc' := 57) (hb hby d_merge_49) (feq hc49_15).2 (by decide) (by decide) ?_
          refine Go.fin X0 hlk (v := none) (fun _ => rfl) (by decide) (by decide) ?_ (fun fs hr => X0.returnOut hx Bd.returns (hb hby d_merge_57) hr)
          show Q_merge Z v0 v1 v2 [l0, l1, l2, l3] h0 n0 _ s₁.heap _
          rw [e0]
          exact ⟨rfl, N0, (Keep.refl h0 [v0]), (own_mg (show own_sel l0 (own_f [l0, l1, l2, l3] v2) (own_f [l0, l1, l2, l3] v1) = l0 from if_neg hc13_1) (show own_sel l1 (own_f [l0, l1, l2, l3] v2) (own_f [l0, l1, l2, l3] v1) = l1 from if_neg hc25_9) (show own_sel l2 (own_f [l0, l1, l2, l3] v2) (own_f [l0, l1, l2, l3] v1) = l2 from if_neg hc37_13) (show own_sel l3 (own_f [l0, l1, l2, l3] v2) (own_f [l0, l1, l2, l3] v1) = l3 from if_neg hc49_15) f0_A_v0)⟩
theorem pd_1 : parseMethodDescriptor "(I)V" = some ⟨[.int], none⟩ := by decide +kernel
theorem pd_2 : parseMethodDescriptor "(II)V" = some ⟨[.int, .int], none⟩ := by decide +kernel
theorem pd_3 : parseMethodDescriptor "([III)V" = some ⟨[(.array .int), .int, .int], none⟩ := by decide +kernel
theorem own_k47 : ∀ ps ∈ own_F, ∀ xp ∈ own_four, ∀ xq ∈ own_four, ¬ ((own_root ps xp) < (0 : Int32)) := by decide +kernel
theorem own_k48 : ∀ ps ∈ own_F, ∀ xp ∈ own_four, ∀ xq ∈ own_four, ¬ ((3 : Int32) < (own_root ps xp)) := by decide +kernel
theorem own_k49 : ∀ ps ∈ own_F, ∀ xp ∈ own_four, ∀ xq ∈ own_four, ¬ ((own_root (own_comp ps xp) xq) < (0 : Int32)) := by decide +kernel
theorem own_k50 : ∀ ps ∈ own_F, ∀ xp ∈ own_four, ∀ xq ∈ own_four, ¬ ((3 : Int32) < (own_root (own_comp ps xp) xq)) := by decide +kernel
theorem own_k51 : ∀ ps ∈ own_F, ∀ xp ∈ own_four, ∀ xq ∈ own_four, ¬ ((own_root ps xp) < 0) := by decide +kernel
theorem own_k52 : ∀ ps ∈ own_F, ∀ xp ∈ own_four, ∀ xq ∈ own_four, (own_root ps xp).toNatClampNeg < ((own_lab ps)).length := by decide +kernel
theorem own_k53 : ∀ ps ∈ own_F, ∀ xp ∈ own_four, ∀ xq ∈ own_four, ¬ (xp < 0) := by decide +kernel
theorem own_k54 : ∀ ps ∈ own_F, ∀ xp ∈ own_four, ∀ xq ∈ own_four, xp.toNatClampNeg < ((own_lab ps)).length := by decide +kernel
theorem own_k55 : ∀ ps ∈ own_F, ∀ xp ∈ own_four, ∀ xq ∈ own_four, (own_f (own_lab ps) (own_root ps xp)) = (own_f (own_lab ps) xp) := by decide +kernel
theorem own_k56 : ∀ ps ∈ own_F, ∀ xp ∈ own_four, ∀ xq ∈ own_four, ¬ ((own_root (own_comp ps xp) xq) < 0) := by decide +kernel
theorem own_k57 : ∀ ps ∈ own_F, ∀ xp ∈ own_four, ∀ xq ∈ own_four, (own_root (own_comp ps xp) xq).toNatClampNeg < ((own_lab ps)).length := by decide +kernel
theorem own_k58 : ∀ ps ∈ own_F, ∀ xp ∈ own_four, ∀ xq ∈ own_four, ¬ (xq < 0) := by decide +kernel
theorem own_k59 : ∀ ps ∈ own_F, ∀ xp ∈ own_four, ∀ xq ∈ own_four, xq.toNatClampNeg < ((own_lab ps)).length := by decide +kernel
theorem own_k60 : ∀ ps ∈ own_F, ∀ xp ∈ own_four, ∀ xq ∈ own_four, (own_f (own_lab ps) (own_root (own_comp ps xp) xq)) = (own_f (own_lab ps) xq) := by decide +kernel
theorem own_k61 : ∀ ps ∈ own_F, ∀ xp ∈ own_four, ∀ xq ∈ own_four, (own_root (own_comp (own_comp ps xp) xq) (own_root ps xp)) = (own_root ps xp) := by decide +kernel
theorem own_k62 : ∀ ps ∈ own_F, ∀ xp ∈ own_four, ∀ xq ∈ own_four, ((own_root ps xp) = (own_root (own_comp ps xp) xq)) → ¬ (xp < 0) := by decide +kernel
theorem own_k63 : ∀ ps ∈ own_F, ∀ xp ∈ own_four, ∀ xq ∈ own_four, ((own_root ps xp) = (own_root (own_comp ps xp) xq)) → xp.toNatClampNeg < ((own_lab ps)).length := by decide +kernel
theorem own_k64 : ∀ ps ∈ own_F, ∀ xp ∈ own_four, ∀ xq ∈ own_four, ((own_root ps xp) = (own_root (own_comp ps xp) xq)) → ¬ (xq < 0) := by decide +kernel
theorem own_k65 : ∀ ps ∈ own_F, ∀ xp ∈ own_four, ∀ xq ∈ own_four, ((own_root ps xp) = (own_root (own_comp ps xp) xq)) → xq.toNatClampNeg < ((own_lab ps)).length := by decide +kernel
theorem own_k66 : ∀ ps ∈ own_F, ∀ xp ∈ own_four, ∀ xq ∈ own_four, ((own_root ps xp) = (own_root (own_comp ps xp) xq)) → (own_f (own_lab ps) xp) = (own_f (own_lab ps) xq) := by decide +kernel
theorem own_k67 : ∀ ps ∈ own_F, ∀ xp ∈ own_four, ∀ xq ∈ own_four, (¬ ((own_root ps xp) = (own_root (own_comp ps xp) xq))) → ¬ (xp < 0) := by decide +kernel
theorem own_k68 : ∀ ps ∈ own_F, ∀ xp ∈ own_four, ∀ xq ∈ own_four, (¬ ((own_root ps xp) = (own_root (own_comp ps xp) xq))) → xp.toNatClampNeg < ((own_lab ps)).length := by decide +kernel
theorem own_k69 : ∀ ps ∈ own_F, ∀ xp ∈ own_four, ∀ xq ∈ own_four, (¬ ((own_root ps xp) = (own_root (own_comp ps xp) xq))) → ¬ (xq < 0) := by decide +kernel
theorem own_k70 : ∀ ps ∈ own_F, ∀ xp ∈ own_four, ∀ xq ∈ own_four, (¬ ((own_root ps xp) = (own_root (own_comp ps xp) xq))) → xq.toNatClampNeg < ((own_lab ps)).length := by decide +kernel
theorem own_k71 : ∀ ps ∈ own_F, ∀ xp ∈ own_four, ∀ xq ∈ own_four, (¬ ((own_root ps xp) = (own_root (own_comp ps xp) xq))) → ¬ ((own_f (own_lab ps) xp) = (own_f (own_lab ps) xq)) := by decide +kernel
theorem ef_law (m : MethodId) (v0 : Int32) (v1 : Int32) (v2 : Int32) (v3 : Int32) : entryFrame m #[(.int v0), (.int v1), (.int v2), (.int v3)] maxLocals = mkF m 0 #[.val (.int v0), .val (.int v1), .val (.int v2), .val (.int v3), .unset, .unset, .unset, .unset, .unset, .unset, .unset, .unset, .unset, .unset, .unset, .unset] [] := by first | (simp [entryFrame, mkF, argsToLocals, Value.category, maxLocals]; done) | rfl
def Q_law (Z : State) (v0 : Int32) (v1 : Int32) (v2 : Int32) (v3 : Int32) (h0 : Heap) (n0 : Nat) (v : Option Value) (h : Heap) (L : List Loc) : Prop := v = some (.int (1 : Int32)) ∧ Fr n0 L
set_option maxRecDepth 65536 in
set_option maxHeartbeats 40000000 in
theorem rm_law (l : Launch) (Z : State) (a0 : Array Value) (hw : ∀ d ∈ tables_1, d.before a0 Z = true) (ws : List Jvm.Cond) (v0 : Int32) (v1 : Int32) (v2 : Int32) (v3 : Int32) (h0 : Heap) (n0 : Nat) (Z0 : n0 ≤ h0.size) :
    MetFree l x (head1 (Jvm.Cond.code x code maxLocals ret :: ws) room_1) (fun a U => a = #[(.int v0), (.int v1), (.int v2), (.int v3)] ∧ Z.Warmed39 U.vm ∧ U.heap = h0) (fun _ _ _ _ _ => True) (fun _ U o U' => ∃ v L, o = .returned v ∧ Q_law Z v0 v1 v2 v3 h0 n0 v U'.heap L ∧ FrameEnd U o U' L room_1.cells room_1.slots) := by
  refine MetFree.of_bodySF (plainFor_of_name (by first | (simp [plainName, overriddenIn]; done) | decide +kernel)) hisR ?_
  intro p e s m args below meth c s₁ Bd hml0 hP hK
  obtain ⟨rfl, hZ, hh⟩ := hP
  have hx := Bd.exec
  have hby := Bd.bytes
  have hml : c.maxLocals = 16 := hml0
  have hown : s.vm.findClass "com/example/brisk_reasoner/briskreasoner/engine/milp/DisjointSetsJoinPinLaw" = some m.cls := findClass_of_methodNamed Bd.named
  have hnm := (name_of_methodNamed Bd.named Bd.method).1
  have hlk : meth.locks = false := Bd.notSynchronized
  have X0 : Stand p l e room_1 s m #[(.int v0), (.int v1), (.int v2), (.int v3)] below meth c s₁ [] 0 0 := Stand.of_body Bd
  have e0 : s₁.heap = h0 := by rw [← hh, Bd.state]; rfl
  have N0 := Fr.nil n0
  refine Go.enter (Q := Q_law Z v0 v1 v2 v3 h0 n0) (C := room_1.cells) (N := room_1.slots) (ef_law m v0 v1 v2 v3) ?_
  show Go p e below s _ _ _ s₁ (mkF m 0 #[.val (.int v0), .val (.int v1), .val (.int v2), .val (.int v3), .unset, .unset, .unset, .unset, .unset, .unset, .unset, .unset, .unset, .unset, .unset, .unset] [])
  refine G_iconst X0 hx (pc' := 1) rfl (hb hby at_0) (z := (4 : Int32)) rfl ?_
  obtain ⟨T56, h56, X56, e56, E56, B56, A56, st56⟩ := newAI X0 hx hZ (hw _ (List.mem_of_getElem? (i := 0) rfl)) e0 (g := (mkF m 1 #[.val (.int v0), .val (.int v1), .val (.int v2), .val (.int v3), .unset, .unset, .unset, .unset, .unset, .unset, .unset, .unset, .unset, .unset, .unset, .unset] [(.int (4 : Int32))])) rfl (hb hby at_1) rfl (by decide) (ty := .int) rfl ⟨rfl, rfl⟩ (cap := 4) (by decide) (by decide) (by decide) (by decide) (ad := "[I") (by decide)
  obtain ⟨b56, q56⟩ : ∃ z, z = h0.size := ⟨_, rfl⟩
  rw [← q56] at A56 B56 st56
  refine Go.st st56 ?_
  have g_b56 : n0 ≤ b56 := Nat.le_trans Z0 (Nat.le_of_eq q56.symm)
  have sz_b56 : h0.size ≤ b56 := Nat.le_trans (Nat.le_refl _) (Nat.le_of_eq q56.symm)
  have A_b56 : AI Z h56 b56 .int [(0 : Int32), (0 : Int32), (0 : Int32), (0 : Int32)] := A56
  have K_56 : Keep h0 h56 [] := (Keep.refl h0 []).ext E56
  have Z_56 : n0 ≤ h56.size := Nat.le_trans Z0 K_56.1
  show Go p e below s _ _ _ T56 (mkF m 3 #[.val (.int v0), .val (.int v1), .val (.int v2), .val (.int v3), .unset, .unset, .unset, .unset, .unset, .unset, .unset, .unset, .unset, .unset, .unset, .unset] [(.ref b56)])
  refine G_dup X56 hx (pc' := 4) rfl (hb hby at_3) rfl ?_
  refine G_iconst X56 hx (pc' := 5) rfl (hb hby at_4) (z := (0 : Int32)) rfl ?_
  refine G_iconst X56 hx (pc' := 6) rfl (hb hby at_5) (z := (0 : Int32)) rfl ?_
  obtain ⟨T57, h57, X57, e57, W57, A57, st57⟩ := stAI X56 hx hZ e56 A_b56 (j := (0 : Int32)) (by decide) (show Int32.toNatClampNeg 0 < 4 from by decide) (g := (mkF m 6 #[.val (.int v0), .val (.int v1), .val (.int v2), .val (.int v3), .unset, .unset, .unset, .unset, .unset, .unset, .unset, .unset, .unset, .unset, .unset, .unset] [(.int (0 : Int32)), (.int (0 : Int32)), (.ref b56), (.ref b56)])) rfl rfl (hb hby at_6)
  refine Go.st st57 ?_
  have E_b56_57 := B56.wr W57
  have A_b56_57 : AI Z h57 b56 .int [(0 : Int32), (0 : Int32), (0 : Int32), (0 : Int32)] := A57
  have K_57 : Keep h0 h57 [] := K_56.wr W57 (Or.inr sz_b56)
  have Z_57 : n0 ≤ h57.size := Nat.le_trans Z0 K_57.1
  have N57 := Fr.snoc X57 N0 g_b56
  show Go p e below s _ _ _ T57 (mkF m 7 #[.val (.int v0), .val (.int v1), .val (.int v2), .val (.int v3), .unset, .unset, .unset, .unset, .unset, .unset, .unset, .unset, .unset, .unset, .unset, .unset] [(.ref b56)])
  refine G_dup X57 hx (pc' := 8) rfl (hb hby at_7) rfl ?_
  refine G_iconst X57 hx (pc' := 9) rfl (hb hby at_8) (z := (1 : Int32)) rfl ?_
  refine G_iconst X57 hx (pc' := 10) rfl (hb hby at_9) (z := (1 : Int32)) rfl ?_
  obtain ⟨T58, h58, X58, e58, W58, A58, st58⟩ := stAI X57 hx hZ e57 A_b56_57 (j := (1 : Int32)) (by decide) (show Int32.toNatClampNeg 1 < 4 from by decide) (g := (mkF m 10 #[.val (.int v0), .val (.int v1), .val (.int v2), .val (.int v3), .unset, .unset, .unset, .unset, .unset, .unset, .unset, .unset, .unset, .unset, .unset, .unset] [(.int (1 : Int32)), (.int (1 : Int32)), (.ref b56), (.ref b56)])) rfl rfl (hb hby at_10)
  refine Go.st st58 ?_
  have E_b56_58 := E_b56_57.wr W58
  have A_b56_58 : AI Z h58 b56 .int [(0 : Int32), (1 : Int32), (0 : Int32), (0 : Int32)] := A58
  have K_58 : Keep h0 h58 [] := K_57.wr W58 (Or.inr sz_b56)
  have Z_58 : n0 ≤ h58.size := Nat.le_trans Z0 K_58.1
  have N58 := Fr.snoc X58 N57 g_b56
  show Go p e below s _ _ _ T58 (mkF m 11 #[.val (.int v0), .val (.int v1), .val (.int v2), .val (.int v3), .unset, .unset, .unset, .unset, .unset, .unset, .unset, .unset, .unset, .unset, .unset, .unset] [(.ref b56)])
  refine G_dup X58 hx (pc' := 12) rfl (hb hby at_11) rfl ?_
  refine G_iconst X58 hx (pc' := 13) rfl (hb hby at_12) (z := (2 : Int32)) rfl ?_
  refine G_iconst X58 hx (pc' := 14) rfl (hb hby at_13) (z := (2 : Int32)) rfl ?_
  obtain ⟨T59, h59, X59, e59, W59, A59, st59⟩ := stAI X58 hx hZ e58 A_b56_58 (j := (2 : Int32)) (by decide) (show Int32.toNatClampNeg 2 < 4 from by decide) (g := (mkF m 14 #[.val (.int v0), .val (.int v1), .val (.int v2), .val (.int v3), .unset, .unset, .unset, .unset, .unset, .unset, .unset, .unset, .unset, .unset, .unset, .unset] [(.int (2 : Int32)), (.int (2 : Int32)), (.ref b56), (.ref b56)])) rfl rfl (hb hby at_14)
  refine Go.st st59 ?_
  have E_b56_59 := E_b56_58.wr W59
  have A_b56_59 : AI Z h59 b56 .int [(0 : Int32), (1 : Int32), (2 : Int32), (0 : Int32)] := A59
  have K_59 : Keep h0 h59 [] := K_58.wr W59 (Or.inr sz_b56)
  have Z_59 : n0 ≤ h59.size := Nat.le_trans Z0 K_59.1
  have N59 := Fr.snoc X59 N58 g_b56
  show Go p e below s _ _ _ T59 (mkF m 15 #[.val (.int v0), .val (.int v1), .val (.int v2), .val (.int v3), .unset, .unset, .unset, .unset, .unset, .unset, .unset, .unset, .unset, .unset, .unset, .unset] [(.ref b56)])
  refine G_dup X59 hx (pc' := 16) rfl (hb hby at_15) rfl ?_
  refine G_iconst X59 hx (pc' := 17) rfl (hb hby at_16) (z := (3 : Int32)) rfl ?_
  refine G_iconst X59 hx (pc' := 18) rfl (hb hby at_17) (z := (3 : Int32)) rfl ?_
  obtain ⟨T60, h60, X60, e60, W60, A60, st60⟩ := stAI X59 hx hZ e59 A_b56_59 (j := (3 : Int32)) (by decide) (show Int32.toNatClampNeg 3 < 4 from by decide) (g := (mkF m 18 #[.val (.int v0), .val (.int v1), .val (.int v2), .val (.int v3), .unset, .unset, .unset, .unset, .unset, .unset, .unset, .unset, .unset, .unset, .unset, .unset] [(.int (3 : Int32)), (.int (3 : Int32)), (.ref b56), (.ref b56)])) rfl rfl (hb hby at_18)
  refine Go.st st60 ?_
  have E_b56_60 := E_b56_59.wr W60
  have A_b56_60 : AI Z h60 b56 .int [(0 : Int32), (1 : Int32), (2 : Int32), (3 : Int32)] := A60
  have K_60 : Keep h0 h60 [] := K_59.wr W60 (Or.inr sz_b56)
  have Z_60 : n0 ≤ h60.size := Nat.le_trans Z0 K_60.1
  have N60 := Fr.snoc X60 N59 g_b56
  show Go p e below s _ _ _ T60 (mkF m 19 #[.val (.int v0), .val (.int v1), .val (.int v2), .val (.int v3), .unset, .unset, .unset, .unset, .unset, .unset, .unset, .unset, .unset, .unset, .unset, .unset] [(.ref b56)])
  refine G_astore X60 hx (pc' := 21) rfl (hb hby at_19) rfl (L' := #[.val (.int v0), .val (.int v1), .val (.int v2), .val (.int v3), .val (.ref b56), .unset, .unset, .unset, .unset, .unset, .unset, .unset, .unset, .unset, .unset, .unset]) rfl ?_
  have L0 : AI Z h60 b56 .int (own_lab [(0 : Int32), (1 : Int32), (2 : Int32), (3 : Int32)]) := (show [(0 : Int32), (1 : Int32), (2 : Int32), (3 : Int32)] = own_lab [(0 : Int32), (1 : Int32), (2 : Int32), (3 : Int32)] from by decide) ▸ A_b56_60
  have hF0 : [(0 : Int32), (1 : Int32), (2 : Int32), (3 : Int32)] ∈ own_F := by decide
  obtain ⟨T61, h61, X61, e61, E61, A61, D61, -, st61⟩ := newO X60 hx hZ hown (hw _ (List.mem_of_getElem? (i := 1) rfl)) (hw _ (List.mem_of_getElem? (i := 2) rfl)) (hw _ (List.mem_of_getElem? (i := 3) rfl)) e60 (g := (mkF m 21 #[.val (.int v0), .val (.int v1), .val (.int v2), .val (.int v3), .val (.ref b56), .unset, .unset, .unset, .unset, .unset, .unset, .unset, .unset, .unset, .unset, .unset] [])) rfl (hb hby at_21) (by decide) (by decide)
  obtain ⟨b61, q61⟩ : ∃ z, z = h60.size := ⟨_, rfl⟩
  rw [← q61] at A61 D61 st61
  refine Go.st st61 ?_
  have ne_b56_b61 : b56 ≠ b61 := Nat.ne_of_lt (Nat.lt_of_lt_of_le E_b56_60.lt (Nat.le_of_eq q61.symm))
  have g_b61 : n0 ≤ b61 := Nat.le_trans Z_60 (Nat.le_of_eq q61.symm)
  have sz_b61 : h0.size ≤ b61 := Nat.le_trans K_60.1 (Nat.le_of_eq q61.symm)
  have E_b56_61 := E_b56_60.ext E61
  have A_b56_61 := L0.ext E61
  have F_b61_parent : Fld Z h61 b61 "com/example/brisk_reasoner/briskreasoner/engine/milp/DisjointSets" "parent" "[I" .null := D61 (Or.inr (hw _ (List.mem_of_getElem? (i := 11) rfl))) (ty := (.array .int)) (by decide)
  have K_61 : Keep h0 h61 [] := K_60.ext E61
  have Z_61 : n0 ≤ h61.size := Nat.le_trans Z0 K_61.1
  show Go p e below s _ _ _ T61 (mkF m 24 #[.val (.int v0), .val (.int v1), .val (.int v2), .val (.int v3), .val (.ref b56), .unset, .unset, .unset, .unset, .unset, .unset, .unset, .unset, .unset, .unset, .unset] [(.ref b61)])
  refine G_dup X61 hx (pc' := 25) rfl (hb hby at_24) rfl ?_
  refine G_iconst X61 hx (pc' := 26) rfl (hb hby at_25) (z := (4 : Int32)) rfl ?_
  obtain ⟨_, _, ⟨T62, L62, k62, n62⟩, -, X62, ⟨Lc62, hQ62, l62, y62, z62⟩, st62⟩ := X61.specialBack hx (y := (⟨"com/example/brisk_reasoner/briskreasoner/engine/milp/DisjointSets", "<init>", "(I)V"⟩ : MethodName)) rfl hown (mvT hZ (hw _ (List.mem_of_getElem? (i := 4) rfl))) (mvT hZ (hw _ (List.mem_of_getElem? (i := 5) rfl))) (mvT hZ (hw _ (List.mem_of_getElem? (i := 6) rfl))) (by decide) (backOf (W := 1) (rm_dinit l Z a0 hw [] b61 h61 n0 Z_61 A61 F_b61_parent g_b61) hZ (hw _ (List.mem_of_getElem? (i := 6) rfl)) (hw _ (List.mem_of_getElem? (i := 3) rfl)) (by decide) (by decide)) (g := (mkF m 26 #[.val (.int v0), .val (.int v1), .val (.int v2), .val (.int v3), .val (.ref b56), .unset, .unset, .unset, .unset, .unset, .unset, .unset, .unset, .unset, .unset, .unset] [(.int (4 : Int32)), (.ref b61), (.ref b61)])) rfl (by rw [hml]; rfl) (Steps.refl _) (a := b61) (argsL := [(.int (4 : Int32))]) (rest := [(.ref b61)]) (lenOf pd_1 rfl) rfl (by show 2 * 0 + _ ≤ _; exact Nat.le_of_eq rfl) (hb hby at_26) (fun _ _ => ⟨rfl, e61, (by decide : 2 + 1 ≤ _), (by decide : 5 + 4 ≤ _)⟩)
  dsimp only [Pt.U, Pt.locs, Pt.cells, Pt.slots] at X62 l62 y62 z62 st62 hQ62
  subst l62 y62 z62
  obtain ⟨b0_62, rfl, N62q, K62, le_b0_62, p62_0, p62_1, p62_2, p62_3⟩ := hQ62
  have N62 := Fr.app N60 N62q
  refine Go.st (fun _ k => st62.trans k) ?_
  have ne_b56_b0_62 : b56 ≠ b0_62 := Nat.ne_of_lt (Nat.lt_of_lt_of_le E_b56_61.lt le_b0_62)
  have ne_b61_b0_62 : b61 ≠ b0_62 := Nat.ne_of_lt (Nat.lt_of_lt_of_le A61.lt le_b0_62)
  have g_b0_62 : n0 ≤ b0_62 := Nat.le_trans Z_61 le_b0_62
  have sz_b0_62 : h0.size ≤ b0_62 := Nat.le_trans K_61.1 le_b0_62
  have E_b56_62 := E_b56_61.keep K62
  have A_b56_62 := A_b56_61.keep K62 (ninS ne_b56_b61 nin0)
  have K_62 : Keep h0 T62.heap [] := K_61.trans K62 (allS (Or.inr sz_b61) all0)
  have Z_62 : n0 ≤ T62.heap.size := Nat.le_trans Z0 K_62.1
  show Go p e below s _ _ _ T62 (mkF m 29 #[.val (.int v0), .val (.int v1), .val (.int v2), .val (.int v3), .val (.ref b56), .unset, .unset, .unset, .unset, .unset, .unset, .unset, .unset, .unset, .unset, .unset] [(.ref b61)])
  refine G_astore X62 hx (pc' := 31) rfl (hb hby at_29) rfl (L' := #[.val (.int v0), .val (.int v1), .val (.int v2), .val (.int v3), .val (.ref b56), .val (.ref b61), .unset, .unset, .unset, .unset, .unset, .unset, .unset, .unset, .unset, .unset]) rfl ?_
  refine G_iloadN X62 hx (pc' := 32) rfl (hb hby at_31) rfl ?_
  refine G_iconst X62 hx (pc' := 33) rfl (hb hby at_32) (z := (3 : Int32)) rfl ?_
  refine G_iand X62 hx (pc' := 34) rfl (hb hby at_33)  ?_
  refine G_istore X62 hx (pc' := 36) rfl (hb hby at_34) (L' := #[.val (.int v0), .val (.int v1), .val (.int v2), .val (.int v3), .val (.ref b56), .val (.ref b61), .val (.int (v0 &&& (3 : Int32))), .unset, .unset, .unset, .unset, .unset, .unset, .unset, .unset, .unset]) rfl ?_
  obtain ⟨xa1, h_xa1, m_xa1⟩ : ∃ xa1 : Int32, (v0 &&& (3 : Int32)) = xa1 ∧ xa1 ∈ own_four := ⟨_, rfl, (own_and3 _)⟩
  rw [h_xa1]
  refine G_iloadN X62 hx (pc' := 37) rfl (hb hby at_36) rfl ?_
  refine G_iconst X62 hx (pc' := 38) rfl (hb hby at_37) (z := (2 : Int32)) rfl ?_
  refine G_iushr X62 hx (pc' := 39) rfl (hb hby at_38)  ?_
  refine G_iconst X62 hx (pc' := 40) rfl (hb hby at_39) (z := (3 : Int32)) rfl ?_
  refine G_iand X62 hx (pc' := 41) rfl (hb hby at_40)  ?_
  refine G_istore X62 hx (pc' := 43) rfl (hb hby at_41) (L' := #[.val (.int v0), .val (.int v1), .val (.int v2), .val (.int v3), .val (.ref b56), .val (.ref b61), .val (.int xa1), .val (.int (((v0.toUInt32 >>> ((2 : Int32) &&& 31).toUInt32).toInt32) &&& (3 : Int32))), .unset, .unset, .unset, .unset, .unset, .unset, .unset, .unset]) rfl ?_
  obtain ⟨xb1, h_xb1, m_xb1⟩ : ∃ xb1 : Int32, (((v0.toUInt32 >>> ((2 : Int32) &&& 31).toUInt32).toInt32) &&& (3 : Int32)) = xb1 ∧ xb1 ∈ own_four := ⟨_, rfl, (own_and3 _)⟩
  rw [h_xb1]
  refine G_iloadN X62 hx (pc' := 44) rfl (hb hby at_43) rfl ?_
  refine G_iconst X62 hx (pc' := 45) rfl (hb hby at_44) (z := (3 : Int32)) rfl ?_
  refine G_iand X62 hx (pc' := 46) rfl (hb hby at_45)  ?_
  refine G_istore X62 hx (pc' := 48) rfl (hb hby at_46) (L' := #[.val (.int v0), .val (.int v1), .val (.int v2), .val (.int v3), .val (.ref b56), .val (.ref b61), .val (.int xa1), .val (.int xb1), .val (.int (v1 &&& (3 : Int32))), .unset, .unset, .unset, .unset, .unset, .unset, .unset]) rfl ?_
  obtain ⟨xa2, h_xa2, m_xa2⟩ : ∃ xa2 : Int32, (v1 &&& (3 : Int32)) = xa2 ∧ xa2 ∈ own_four := ⟨_, rfl, (own_and3 _)⟩
  rw [h_xa2]
  refine G_iloadN X62 hx (pc' := 49) rfl (hb hby at_48) rfl ?_
  refine G_iconst X62 hx (pc' := 50) rfl (hb hby at_49) (z := (2 : Int32)) rfl ?_
  refine G_iushr X62 hx (pc' := 51) rfl (hb hby at_50)  ?_
  refine G_iconst X62 hx (pc' := 52) rfl (hb hby at_51) (z := (3 : Int32)) rfl ?_
  refine G_iand X62 hx (pc' := 53) rfl (hb hby at_52)  ?_
  refine G_istore X62 hx (pc' := 55) rfl (hb hby at_53) (L' := #[.val (.int v0), .val (.int v1), .val (.int v2), .val (.int v3), .val (.ref b56), .val (.ref b61), .val (.int xa1), .val (.int xb1), .val (.int xa2), .val (.int (((v1.toUInt32 >>> ((2 : Int32) &&& 31).toUInt32).toInt32) &&& (3 : Int32))), .unset, .unset, .unset, .unset, .unset, .unset]) rfl ?_
  obtain ⟨xb2, h_xb2, m_xb2⟩ : ∃ xb2 : Int32, (((v1.toUInt32 >>> ((2 : Int32) &&& 31).toUInt32).toInt32) &&& (3 : Int32)) = xb2 ∧ xb2 ∈ own_four := ⟨_, rfl, (own_and3 _)⟩
  rw [h_xb2]
  refine G_iloadN X62 hx (pc' := 56) rfl (hb hby at_55) rfl ?_
  refine G_iconst X62 hx (pc' := 57) rfl (hb hby at_56) (z := (3 : Int32)) rfl ?_
  refine G_iand X62 hx (pc' := 58) rfl (hb hby at_57)  ?_
  refine G_istore X62 hx (pc' := 60) rfl (hb hby at_58) (L' := #[.val (.int v0), .val (.int v1), .val (.int v2), .val (.int v3), .val (.ref b56), .val (.ref b61), .val (.int xa1), .val (.int xb1), .val (.int xa2), .val (.int xb2), .val (.int (v2 &&& (3 : Int32))), .unset, .unset, .unset, .unset, .unset]) rfl ?_
  obtain ⟨xa3, h_xa3, m_xa3⟩ : ∃ xa3 : Int32, (v2 &&& (3 : Int32)) = xa3 ∧ xa3 ∈ own_four := ⟨_, rfl, (own_and3 _)⟩
  rw [h_xa3]
  refine G_iloadN X62 hx (pc' := 61) rfl (hb hby at_60) rfl ?_
  refine G_iconst X62 hx (pc' := 62) rfl (hb hby at_61) (z := (2 : Int32)) rfl ?_
  refine G_iushr X62 hx (pc' := 63) rfl (hb hby at_62)  ?_
  refine G_iconst X62 hx (pc' := 64) rfl (hb hby at_63) (z := (3 : Int32)) rfl ?_
  refine G_iand X62 hx (pc' := 65) rfl (hb hby at_64)  ?_
  refine G_istore X62 hx (pc' := 67) rfl (hb hby at_65) (L' := #[.val (.int v0), .val (.int v1), .val (.int v2), .val (.int v3), .val (.ref b56), .val (.ref b61), .val (.int xa1), .val (.int xb1), .val (.int xa2), .val (.int xb2), .val (.int xa3), .val (.int (((v2.toUInt32 >>> ((2 : Int32) &&& 31).toUInt32).toInt32) &&& (3 : Int32))), .unset, .unset, .unset, .unset]) rfl ?_
  obtain ⟨xb3, h_xb3, m_xb3⟩ : ∃ xb3 : Int32, (((v2.toUInt32 >>> ((2 : Int32) &&& 31).toUInt32).toInt32) &&& (3 : Int32)) = xb3 ∧ xb3 ∈ own_four := ⟨_, rfl, (own_and3 _)⟩
  rw [h_xb3]
  refine G_aload X62 hx (pc' := 69) rfl (hb hby at_67) rfl rfl ?_
  refine G_iload X62 hx (pc' := 71) rfl (hb hby at_69) rfl ?_
  refine G_iload X62 hx (pc' := 73) rfl (hb hby at_71) rfl ?_
  obtain ⟨cq63, kq63, q63a, q63b, q63c⟩ := isOf hZ rfl p62_0
  obtain ⟨_, _, ⟨T63, L63, k63, n63⟩, -, X63, ⟨Lc63, hQ63, l63, y63, z63⟩, st63⟩ := X62.virtualBack hx (y := (⟨"com/example/brisk_reasoner/briskreasoner/engine/milp/DisjointSets", "join", "(II)V"⟩ : MethodName)) (z := (⟨"com/example/brisk_reasoner/briskreasoner/engine/milp/DisjointSets", "join", "(II)V"⟩ : MethodName)) hown (mvT hZ (hw _ (List.mem_of_getElem? (i := 12) rfl))) (mvT hZ (hw _ (List.mem_of_getElem? (i := 13) rfl))) (notFace_of_selects (args := #[]) (mvT hZ (hw _ (List.mem_of_getElem? (i := 15) rfl)))) (mvT hZ (hw _ (List.mem_of_getElem? (i := 15) rfl))) (mvT hZ (hw _ (List.mem_of_getElem? (i := 14) rfl))) (by decide) (backOf (W := 0) (rm_join l Z a0 hw [] b61 xa1 xb1 b0_62 [(0 : Int32), (1 : Int32), (2 : Int32), (3 : Int32)] T62.heap n0 Z_62 p62_0 p62_1 p62_3 g_b0_62 ne_b61_b0_62 hF0 m_xa1 m_xb1) hZ (hw _ (List.mem_of_getElem? (i := 16) rfl)) (hw _ (List.mem_of_getElem? (i := 3) rfl)) (by decide) (by decide)) q63a q63c (g := (mkF m 73 #[.val (.int v0), .val (.int v1), .val (.int v2), .val (.int v3), .val (.ref b56), .val (.ref b61), .val (.int xa1), .val (.int xb1), .val (.int xa2), .val (.int xb2), .val (.int xa3), .val (.int xb3), .unset, .unset, .unset, .unset] [(.int xb1), (.int xa1), (.ref b61)])) rfl (by rw [hml]; rfl) (Steps.refl _) (argsL := [(.int xa1), (.int xb1)]) (rest := []) (lenOf pd_2 rfl) rfl (by show 2 * 0 + _ ≤ _; exact Nat.le_of_eq rfl) (hb hby at_73) (fun _ _ => ⟨rfl, rfl, (by decide : 3 + 0 ≤ _), (by decide : 9 + 0 ≤ _)⟩)
  dsimp only [Pt.U, Pt.locs, Pt.cells, Pt.slots] at X63 l63 y63 z63 st63 hQ63
  subst l63 y63 z63
  obtain ⟨rfl, N63q, K63, p63_0, p63_1, p63_2⟩ := hQ63
  have N63 := Fr.app N62 N63q
  refine Go.st (fun _ k => st63.trans k) ?_
  have E_b56_63 := E_b56_62.keep K63
  have A_b56_63 := A_b56_62.keep K63 (ninS ne_b56_b0_62 nin0)
  have E_b0_62_63 := p62_2.keep K63
  have K_63 : Keep h0 T63.heap [] := K_62.trans K63 (allS (Or.inr sz_b0_62) all0)
  have Z_63 : n0 ≤ T63.heap.size := Nat.le_trans Z0 K_63.1
  have hF1 := own_jF _ hF0 _ m_xa1 _ m_xb1
  show Go p e below s _ _ _ T63 (mkF m 76 #[.val (.int v0), .val (.int v1), .val (.int v2), .val (.int v3), .val (.ref b56), .val (.ref b61), .val (.int xa1), .val (.int xb1), .val (.int xa2), .val (.int xb2), .val (.int xa3), .val (.int xb3), .unset, .unset, .unset, .unset] [])
  refine G_aload X63 hx (pc' := 78) rfl (hb hby at_76) rfl rfl ?_
  refine G_iload X63 hx (pc' := 80) rfl (hb hby at_78) rfl ?_
  refine G_iload X63 hx (pc' := 82) rfl (hb hby at_80) rfl ?_
  obtain ⟨_, _, ⟨T64, L64, k64, n64⟩, -, X64, ⟨Lc64, hQ64, l64, y64, z64⟩, st64⟩ := Jvm.LawKit.callS X63 hx (y := (⟨"com/example/brisk_reasoner/briskreasoner/engine/milp/DisjointSetsJoinPinLaw", "merge", "([III)V"⟩ : MethodName)) hown (mvT hZ (hw _ (List.mem_of_getElem? (i := 22) rfl))) (mvT hZ (hw _ (List.mem_of_getElem? (i := 23) rfl))) (mvT hZ (hw _ (List.mem_of_getElem? (i := 24) rfl))) (mvT hZ (hw _ (List.mem_of_getElem? (i := 25) rfl))) (by decide) (backOf (W := 0) (rm_merge l Z a0 hw [] b56 xa1 xb1 (own_lab [(0 : Int32), (1 : Int32), (2 : Int32), (3 : Int32)]) T63.heap n0 Z_63 A_b56_63 g_b56 rfl m_xa1 m_xb1) hZ (hw _ (List.mem_of_getElem? (i := 25) rfl)) (hw _ (List.mem_of_getElem? (i := 24) rfl)) (by decide) (by decide)) (g := (mkF m 82 #[.val (.int v0), .val (.int v1), .val (.int v2), .val (.int v3), .val (.ref b56), .val (.ref b61), .val (.int xa1), .val (.int xb1), .val (.int xa2), .val (.int xb2), .val (.int xa3), .val (.int xb3), .unset, .unset, .unset, .unset] [(.int xb1), (.int xa1), (.ref b56)])) rfl (by rw [hml]; rfl) (argsL := [(.ref b56), (.int xa1), (.int xb1)]) (rest := []) (lenOf pd_3 rfl) rfl (by show 2 * 0 + _ ≤ _; exact Nat.le_of_eq rfl) (hb hby at_82) (fun _ _ => ⟨rfl, rfl, (by decide : 3 + 0 ≤ _), (by decide : 9 + 0 ≤ _)⟩)
  dsimp only [Pt.U, Pt.locs, Pt.cells, Pt.slots] at X64 l64 y64 z64 st64 hQ64
  subst l64 y64 z64
  obtain ⟨rfl, N64q, K64, p64_0⟩ := hQ64
  have N64 := Fr.app N63 N64q
  refine Go.st st64 ?_
  have E_b56_64 := E_b56_63.keep K64
  have E_b0_62_64 := E_b0_62_63.keep K64
  have E_b61_64 := p63_0.keep K64
  have F_b61_parent_64 := p63_1.keep K64 (ninS (Ne.symm ne_b56_b61) nin0)
  have A_b0_62_64 := p63_2.keep K64 (ninS (Ne.symm ne_b56_b0_62) nin0)
  have K_64 : Keep h0 T64.heap [] := K_63.trans K64 (allS (Or.inr sz_b56) all0)
  have Z_64 : n0 ≤ T64.heap.size := Nat.le_trans Z0 K_64.1
  have L1 : AI Z T64.heap b56 .int (own_lab (own_join [(0 : Int32), (1 : Int32), (2 : Int32), (3 : Int32)] xa1 xb1)) := (own_jL _ hF0 _ m_xa1 _ m_xb1) ▸ p64_0
  show Go p e below s _ _ _ T64 (mkF m 85 #[.val (.int v0), .val (.int v1), .val (.int v2), .val (.int v3), .val (.ref b56), .val (.ref b61), .val (.int xa1), .val (.int xb1), .val (.int xa2), .val (.int xb2), .val (.int xa3), .val (.int xb3), .unset, .unset, .unset, .unset] [])
  refine G_aload X64 hx (pc' := 87) rfl (hb hby at_85) rfl rfl ?_
  refine G_iload X64 hx (pc' := 89) rfl (hb hby at_87) rfl ?_
  refine G_iload X64 hx (pc' := 91) rfl (hb hby at_89) rfl ?_
  obtain ⟨cq65, kq65, q65a, q65b, q65c⟩ := isOf hZ rfl E_b61_64
  obtain ⟨_, _, ⟨T65, L65, k65, n65⟩, -, X65, ⟨Lc65, hQ65, l65, y65, z65⟩, st65⟩ := X64.virtualBack hx (y := (⟨"com/example/brisk_reasoner/briskreasoner/engine/milp/DisjointSets", "join", "(II)V"⟩ : MethodName)) (z := (⟨"com/example/brisk_reasoner/briskreasoner/engine/milp/DisjointSets", "join", "(II)V"⟩ : MethodName)) hown (mvT hZ (hw _ (List.mem_of_getElem? (i := 12) rfl))) (mvT hZ (hw _ (List.mem_of_getElem? (i := 13) rfl))) (notFace_of_selects (args := #[]) (mvT hZ (hw _ (List.mem_of_getElem? (i := 15) rfl)))) (mvT hZ (hw _ (List.mem_of_getElem? (i := 15) rfl))) (mvT hZ (hw _ (List.mem_of_getElem? (i := 14) rfl))) (by decide) (backOf (W := 0) (rm_join l Z a0 hw [] b61 xa2 xb2 b0_62 (own_join [(0 : Int32), (1 : Int32), (2 : Int32), (3 : Int32)] xa1 xb1) T64.heap n0 Z_64 E_b61_64 F_b61_parent_64 A_b0_62_64 g_b0_62 ne_b61_b0_62 hF1 m_xa2 m_xb2) hZ (hw _ (List.mem_of_getElem? (i := 16) rfl)) (hw _ (List.mem_of_getElem? (i := 3) rfl)) (by decide) (by decide)) q65a q65c (g := (mkF m 91 #[.val (.int v0), .val (.int v1), .val (.int v2), .val (.int v3), .val (.ref b56), .val (.ref b61), .val (.int xa1), .val (.int xb1), .val (.int xa2), .val (.int xb2), .val (.int xa3), .val (.int xb3), .unset, .unset, .unset, .unset] [(.int xb2), (.int xa2), (.ref b61)])) rfl (by rw [hml]; rfl) (Steps.refl _) (argsL := [(.int xa2), (.int xb2)]) (rest := []) (lenOf pd_2 rfl) rfl (by show 2 * 0 + _ ≤ _; exact Nat.le_of_eq rfl) (hb hby at_91) (fun _ _ => ⟨rfl, rfl, (by decide : 3 + 0 ≤ _), (by decide : 9 + 0 ≤ _)⟩)
  dsimp only [Pt.U, Pt.locs, Pt.cells, Pt.slots] at X65 l65 y65 z65 st65 hQ65
  subst l65 y65 z65
  obtain ⟨rfl, N65q, K65, p65_0, p65_1, p65_2⟩ := hQ65
  have N65 := Fr.app N64 N65q
  refine Go.st (fun _ k => st65.trans k) ?_
  have E_b56_65 := E_b56_64.keep K65
  have E_b0_62_65 := E_b0_62_64.keep K65
  have A_b56_65 := L1.keep K65 (ninS ne_b56_b0_62 nin0)
  have K_65 : Keep h0 T65.heap [] := K_64.trans K65 (allS (Or.inr sz_b0_62) all0)
  have Z_65 : n0 ≤ T65.heap.size := Nat.le_trans Z0 K_65.1
  have hF2 := own_jF _ hF1 _ m_xa2 _ m_xb2
  show Go p e below s _ _ _ T65 (mkF m 94 #[.val (.int v0), .val (.int v1), .val (.int v2), .val (.int v3), .val (.ref b56), .val (.ref b61), .val (.int xa1), .val (.int xb1), .val (.int xa2), .val (.int xb2), .val (.int xa3), .val (.int xb3), .unset, .unset, .unset, .unset] [])
  refine G_aload X65 hx (pc' := 96) rfl (hb hby at_94) rfl rfl ?_
  refine G_iload X65 hx (pc' := 98) rfl (hb hby at_96) rfl ?_
  refine G_iload X65 hx (pc' := 100) rfl (hb hby at_98) rfl ?_
  obtain ⟨_, _, ⟨T66, L66, k66, n66⟩, -, X66, ⟨Lc66, hQ66, l66, y66, z66⟩, st66⟩ := Jvm.LawKit.callS X65 hx (y := (⟨"com/example/brisk_reasoner/briskreasoner/engine/milp/DisjointSetsJoinPinLaw", "merge", "([III)V"⟩ : MethodName)) hown (mvT hZ (hw _ (List.mem_of_getElem? (i := 22) rfl))) (mvT hZ (hw _ (List.mem_of_getElem? (i := 23) rfl))) (mvT hZ (hw _ (List.mem_of_getElem? (i := 24) rfl))) (mvT hZ (hw _ (List.mem_of_getElem? (i := 25) rfl))) (by decide) (backOf (W := 0) (rm_merge l Z a0 hw [] b56 xa2 xb2 (own_lab (own_join [(0 : Int32), (1 : Int32), (2 : Int32), (3 : Int32)] xa1 xb1)) T65.heap n0 Z_65 A_b56_65 g_b56 rfl m_xa2 m_xb2) hZ (hw _ (List.mem_of_getElem? (i := 25) rfl)) (hw _ (List.mem_of_getElem? (i := 24) rfl)) (by decide) (by decide)) (g := (mkF m 100 #[.val (.int v0), .val (.int v1), .val (.int v2), .val (.int v3), .val (.ref b56), .val (.ref b61), .val (.int xa1), .val (.int xb1), .val (.int xa2), .val (.int xb2), .val (.int xa3), .val (.int xb3), .unset, .unset, .unset, .unset] [(.int xb2), (.int xa2), (.ref b56)])) rfl (by rw [hml]; rfl) (argsL := [(.ref b56), (.int xa2), (.int xb2)]) (rest := []) (lenOf pd_3 rfl) rfl (by show 2 * 0 + _ ≤ _; exact Nat.le_of_eq rfl) (hb hby at_100) (fun _ _ => ⟨rfl, rfl, (by decide : 3 + 0 ≤ _), (by decide : 9 + 0 ≤ _)⟩)
  dsimp only [Pt.U, Pt.locs, Pt.cells, Pt.slots] at X66 l66 y66 z66 st66 hQ66
  subst l66 y66 z66
  obtain ⟨rfl, N66q, K66, p66_0⟩ := hQ66
  have N66 := Fr.app N65 N66q
  refine Go.st st66 ?_
  have E_b56_66 := E_b56_65.keep K66
  have E_b0_62_66 := E_b0_62_65.keep K66
  have E_b61_66 := p65_0.keep K66
  have F_b61_parent_66 := p65_1.keep K66 (ninS (Ne.symm ne_b56_b61) nin0)
  have A_b0_62_66 := p65_2.keep K66 (ninS (Ne.symm ne_b56_b0_62) nin0)
  have K_66 : Keep h0 T66.heap [] := K_65.trans K66 (allS (Or.inr sz_b56) all0)
  have Z_66 : n0 ≤ T66.heap.size := Nat.le_trans Z0 K_66.1
  have L2 : AI Z T66.heap b56 .int (own_lab (own_join (own_join [(0 : Int32), (1 : Int32), (2 : Int32), (3 : Int32)] xa1 xb1) xa2 xb2)) := (own_jL _ hF1 _ m_xa2 _ m_xb2) ▸ p66_0
  show Go p e below s _ _ _ T66 (mkF m 103 #[.val (.int v0), .val (.int v1), .val (.int v2), .val (.int v3), .val (.ref b56), .val (.ref b61), .val (.int xa1), .val (.int xb1), .val (.int xa2), .val (.int xb2), .val (.int xa3), .val (.int xb3), .unset, .unset, .unset, .unset] [])
  refine G_aload X66 hx (pc' := 105) rfl (hb hby at_103) rfl rfl ?_
  refine G_iload X66 hx (pc' := 107) rfl (hb hby at_105) rfl ?_
  refine G_iload X66 hx (pc' := 109) rfl (hb hby at_107) rfl ?_
  obtain ⟨cq67, kq67, q67a, q67b, q67c⟩ := isOf hZ rfl E_b61_66
  obtain ⟨_, _, ⟨T67, L67, k67, n67⟩, -, X67, ⟨Lc67, hQ67, l67, y67, z67⟩, st67⟩ := X66.virtualBack hx (y := (⟨"com/example/brisk_reasoner/briskreasoner/engine/milp/DisjointSets", "join", "(II)V"⟩ : MethodName)) (z := (⟨"com/example/brisk_reasoner/briskreasoner/engine/milp/DisjointSets", "join", "(II)V"⟩ : MethodName)) hown (mvT hZ (hw _ (List.mem_of_getElem? (i := 12) rfl))) (mvT hZ (hw _ (List.mem_of_getElem? (i := 13) rfl))) (notFace_of_selects (args := #[]) (mvT hZ (hw _ (List.mem_of_getElem? (i := 15) rfl)))) (mvT hZ (hw _ (List.mem_of_getElem? (i := 15) rfl))) (mvT hZ (hw _ (List.mem_of_getElem? (i := 14) rfl))) (by decide) (backOf (W := 0) (rm_join l Z a0 hw [] b61 xa3 xb3 b0_62 (own_join (own_join [(0 : Int32), (1 : Int32), (2 : Int32), (3 : Int32)] xa1 xb1) xa2 xb2) T66.heap n0 Z_66 E_b61_66 F_b61_parent_66 A_b0_62_66 g_b0_62 ne_b61_b0_62 hF2 m_xa3 m_xb3) hZ (hw _ (List.mem_of_getElem? (i := 16) rfl)) (hw _ (List.mem_of_getElem? (i := 3) rfl)) (by decide) (by decide)) q67a q67c (g := (mkF m 109 #[.val (.int v0), .val (.int v1), .val (.int v2), .val (.int v3), .val (.ref b56), .val (.ref b61), .val (.int xa1), .val (.int xb1), .val (.int xa2), .val (.int xb2), .val (.int xa3), .val (.int xb3), .unset, .unset, .unset, .unset] [(.int xb3), (.int xa3), (.ref b61)])) rfl (by rw [hml]; rfl) (Steps.refl _) (argsL := [(.int xa3), (.int xb3)]) (rest := []) (lenOf pd_2 rfl) rfl (by show 2 * 0 + _ ≤ _; exact Nat.le_of_eq rfl) (hb hby at_109) (fun _ _ => ⟨rfl, rfl, (by decide : 3 + 0 ≤ _), (by decide : 9 + 0 ≤ _)⟩)
  dsimp only [Pt.U, Pt.locs, Pt.cells, Pt.slots] at X67 l67 y67 z67 st67 hQ67
  subst l67 y67 z67
  obtain ⟨rfl, N67q, K67, p67_0, p67_1, p67_2⟩ := hQ67
  have N67 := Fr.app N66 N67q
  refine Go.st (fun _ k => st67.trans k) ?_
  have E_b56_67 := E_b56_66.keep K67
  have E_b0_62_67 := E_b0_62_66.keep K67
  have A_b56_67 := L2.keep K67 (ninS ne_b56_b0_62 nin0)
  have K_67 : Keep h0 T67.heap [] := K_66.trans K67 (allS (Or.inr sz_b0_62) all0)
  have Z_67 : n0 ≤ T67.heap.size := Nat.le_trans Z0 K_67.1
  have hF3 := own_jF _ hF2 _ m_xa3 _ m_xb3
  show Go p e below s _ _ _ T67 (mkF m 112 #[.val (.int v0), .val (.int v1), .val (.int v2), .val (.int v3), .val (.ref b56), .val (.ref b61), .val (.int xa1), .val (.int xb1), .val (.int xa2), .val (.int xb2), .val (.int xa3), .val (.int xb3), .unset, .unset, .unset, .unset] [])
  refine G_aload X67 hx (pc' := 114) rfl (hb hby at_112) rfl rfl ?_
  refine G_iload X67 hx (pc' := 116) rfl (hb hby at_114) rfl ?_
  refine G_iload X67 hx (pc' := 118) rfl (hb hby at_116) rfl ?_
  obtain ⟨_, _, ⟨T68, L68, k68, n68⟩, -, X68, ⟨Lc68, hQ68, l68, y68, z68⟩, st68⟩ := Jvm.LawKit.callS X67 hx (y := (⟨"com/example/brisk_reasoner/briskreasoner/engine/milp/DisjointSetsJoinPinLaw", "merge", "([III)V"⟩ : MethodName)) hown (mvT hZ (hw _ (List.mem_of_getElem? (i := 22) rfl))) (mvT hZ (hw _ (List.mem_of_getElem? (i := 23) rfl))) (mvT hZ (hw _ (List.mem_of_getElem? (i := 24) rfl))) (mvT hZ (hw _ (List.mem_of_getElem? (i := 25) rfl))) (by decide) (backOf (W := 0) (rm_merge l Z a0 hw [] b56 xa3 xb3 (own_lab (own_join (own_join [(0 : Int32), (1 : Int32), (2 : Int32), (3 : Int32)] xa1 xb1) xa2 xb2)) T67.heap n0 Z_67 A_b56_67 g_b56 rfl m_xa3 m_xb3) hZ (hw _ (List.mem_of_getElem? (i := 25) rfl)) (hw _ (List.mem_of_getElem? (i := 24) rfl)) (by decide) (by decide)) (g := (mkF m 118 #[.val (.int v0), .val (.int v1), .val (.int v2), .val (.int v3), .val (.ref b56), .val (.ref b61), .val (.int xa1), .val (.int xb1), .val (.int xa2), .val (.int xb2), .val (.int xa3), .val (.int xb3), .unset, .unset, .unset, .unset] [(.int xb3), (.int xa3), (.ref b56)])) rfl (by rw [hml]; rfl) (argsL := [(.ref b56), (.int xa3), (.int xb3)]) (rest := []) (lenOf pd_3 rfl) rfl (by show 2 * 0 + _ ≤ _; exact Nat.le_of_eq rfl) (hb hby at_118) (fun _ _ => ⟨rfl, rfl, (by decide : 3 + 0 ≤ _), (by decide : 9 + 0 ≤ _)⟩)
  dsimp only [Pt.U, Pt.locs, Pt.cells, Pt.slots] at X68 l68 y68 z68 st68 hQ68
  subst l68 y68 z68
  obtain ⟨rfl, N68q, K68, p68_0⟩ := hQ68
  have N68 := Fr.app N67 N68q
  refine Go.st st68 ?_
  have E_b56_68 := E_b56_67.keep K68
  have E_b0_62_68 := E_b0_62_67.keep K68
  have E_b61_68 := p67_0.keep K68
  have F_b61_parent_68 := p67_1.keep K68 (ninS (Ne.symm ne_b56_b61) nin0)
  have A_b0_62_68 := p67_2.keep K68 (ninS (Ne.symm ne_b56_b0_62) nin0)
  have K_68 : Keep h0 T68.heap [] := K_67.trans K68 (allS (Or.inr sz_b56) all0)
  have Z_68 : n0 ≤ T68.heap.size := Nat.le_trans Z0 K_68.1
  have L3 : AI Z T68.heap b56 .int (own_lab (own_join (own_join (own_join [(0 : Int32), (1 : Int32), (2 : Int32), (3 : Int32)] xa1 xb1) xa2 xb2) xa3 xb3)) := (own_jL _ hF2 _ m_xa3 _ m_xb3) ▸ p68_0
  show Go p e below s _ _ _ T68 (mkF m 121 #[.val (.int v0), .val (.int v1), .val (.int v2), .val (.int v3), .val (.ref b56), .val (.ref b61), .val (.int xa1), .val (.int xb1), .val (.int xa2), .val (.int xb2), .val (.int xa3), .val (.int xb3), .unset, .unset, .unset, .unset] [])
  obtain ⟨ps, hpsE⟩ : ∃ z, z = (own_join (own_join (own_join [(0 : Int32), (1 : Int32), (2 : Int32), (3 : Int32)] xa1 xb1) xa2 xb2) xa3 xb3) := ⟨_, rfl⟩
  have hps : ps ∈ own_F := hpsE ▸ hF3
  have Aps : AI Z T68.heap b0_62 .int ps := hpsE ▸ A_b0_62_68
  have Lps : AI Z T68.heap b56 .int (own_lab ps) := hpsE ▸ L3
  refine G_iloadN X68 hx (pc' := 122) rfl (hb hby at_121) rfl ?_
  refine G_iconst X68 hx (pc' := 123) rfl (hb hby at_122) (z := (3 : Int32)) rfl ?_
  refine G_iand X68 hx (pc' := 124) rfl (hb hby at_123)  ?_
  refine G_istore X68 hx (pc' := 126) rfl (hb hby at_124) (L' := #[.val (.int v0), .val (.int v1), .val (.int v2), .val (.int v3), .val (.ref b56), .val (.ref b61), .val (.int xa1), .val (.int xb1), .val (.int xa2), .val (.int xb2), .val (.int xa3), .val (.int xb3), .val (.int (v3 &&& (3 : Int32))), .unset, .unset, .unset]) rfl ?_
  obtain ⟨xp, h_xp, m_xp⟩ : ∃ xp : Int32, (v3 &&& (3 : Int32)) = xp ∧ xp ∈ own_four := ⟨_, rfl, (own_and3 _)⟩
  rw [h_xp]
  refine G_iloadN X68 hx (pc' := 127) rfl (hb hby at_126) rfl ?_
  refine G_iconst X68 hx (pc' := 128) rfl (hb hby at_127) (z := (2 : Int32)) rfl ?_
  refine G_iushr X68 hx (pc' := 129) rfl (hb hby at_128)  ?_
  refine G_iconst X68 hx (pc' := 130) rfl (hb hby at_129) (z := (3 : Int32)) rfl ?_
  refine G_iand X68 hx (pc' := 131) rfl (hb hby at_130)  ?_
  refine G_istore X68 hx (pc' := 133) rfl (hb hby at_131) (L' := #[.val (.int v0), .val (.int v1), .val (.int v2), .val (.int v3), .val (.ref b56), .val (.ref b61), .val (.int xa1), .val (.int xb1), .val (.int xa2), .val (.int xb2), .val (.int xa3), .val (.int xb3), .val (.int xp), .val (.int (((v3.toUInt32 >>> ((2 : Int32) &&& 31).toUInt32).toInt32) &&& (3 : Int32))), .unset, .unset]) rfl ?_
  obtain ⟨xq, h_xq, m_xq⟩ : ∃ xq : Int32, (((v3.toUInt32 >>> ((2 : Int32) &&& 31).toUInt32).toInt32) &&& (3 : Int32)) = xq ∧ xq ∈ own_four := ⟨_, rfl, (own_and3 _)⟩
  rw [h_xq]
  refine G_aload X68 hx (pc' := 135) rfl (hb hby at_133) rfl rfl ?_
  refine G_iload X68 hx (pc' := 137) rfl (hb hby at_135) rfl ?_
  obtain ⟨cq69, kq69, q69a, q69b, q69c⟩ := isOf hZ rfl E_b61_68
  obtain ⟨_, _, ⟨T69, L69, k69, n69⟩, -, X69, ⟨Lc69, hQ69, l69, y69, z69⟩, st69⟩ := X68.virtualBack hx (y := (⟨"com/example/brisk_reasoner/briskreasoner/engine/milp/DisjointSets", "root", "(I)I"⟩ : MethodName)) (z := (⟨"com/example/brisk_reasoner/briskreasoner/engine/milp/DisjointSets", "root", "(I)I"⟩ : MethodName)) hown (mvT hZ (hw _ (List.mem_of_getElem? (i := 26) rfl))) (mvT hZ (hw _ (List.mem_of_getElem? (i := 18) rfl))) (notFace_of_selects (args := #[]) (mvT hZ (hw _ (List.mem_of_getElem? (i := 20) rfl)))) (mvT hZ (hw _ (List.mem_of_getElem? (i := 20) rfl))) (mvT hZ (hw _ (List.mem_of_getElem? (i := 19) rfl))) (by decide) (backOf (W := 0) (rm_root l Z a0 hw [] b61 xp b0_62 ps T68.heap n0 Z_68 E_b61_68 F_b61_parent_68 Aps g_b0_62 ne_b61_b0_62 hps m_xp) hZ (hw _ (List.mem_of_getElem? (i := 21) rfl)) (hw _ (List.mem_of_getElem? (i := 3) rfl)) (by decide) (by decide)) q69a q69c (g := (mkF m 137 #[.val (.int v0), .val (.int v1), .val (.int v2), .val (.int v3), .val (.ref b56), .val (.ref b61), .val (.int xa1), .val (.int xb1), .val (.int xa2), .val (.int xb2), .val (.int xa3), .val (.int xb3), .val (.int xp), .val (.int xq), .unset, .unset] [(.int xp), (.ref b61)])) rfl (by rw [hml]; rfl) (Steps.refl _) (argsL := [(.int xp)]) (rest := []) (lenOf pd_0 rfl) rfl (by show 2 * 0 + _ ≤ _; exact Nat.le_of_eq rfl) (hb hby at_137) (fun _ _ => ⟨rfl, rfl, (by decide : 3 + 0 ≤ _), (by decide : 9 + 0 ≤ _)⟩)
  dsimp only [Pt.U, Pt.locs, Pt.cells, Pt.slots] at X69 l69 y69 z69 st69 hQ69
  subst l69 y69 z69
  obtain ⟨rfl, N69q, K69, p69_0, p69_1, p69_2⟩ := hQ69
  have N69 := Fr.app N68 N69q
  refine Go.st (fun _ k => st69.trans k) ?_
  have E_b56_69 := E_b56_68.keep K69
  have E_b0_62_69 := E_b0_62_68.keep K69
  have A_b56_69 := Lps.keep K69 (ninS ne_b56_b0_62 nin0)
  have K_69 : Keep h0 T69.heap [] := K_68.trans K69 (allS (Or.inr sz_b0_62) all0)
  have Z_69 : n0 ≤ T69.heap.size := Nat.le_trans Z0 K_69.1
  show Go p e below s _ _ _ T69 (mkF m 140 #[.val (.int v0), .val (.int v1), .val (.int v2), .val (.int v3), .val (.ref b56), .val (.ref b61), .val (.int xa1), .val (.int xb1), .val (.int xa2), .val (.int xb2), .val (.int xa3), .val (.int xb3), .val (.int xp), .val (.int xq), .unset, .unset] [(.int (own_root ps xp))])
  refine G_istore X69 hx (pc' := 142) rfl (hb hby at_140) (L' := #[.val (.int v0), .val (.int v1), .val (.int v2), .val (.int v3), .val (.ref b56), .val (.ref b61), .val (.int xa1), .val (.int xb1), .val (.int xa2), .val (.int xb2), .val (.int xa3), .val (.int xb3), .val (.int xp), .val (.int xq), .val (.int (own_root ps xp)), .unset]) rfl ?_
  refine G_aload X69 hx (pc' := 144) rfl (hb hby at_142) rfl rfl ?_
  refine G_iload X69 hx (pc' := 146) rfl (hb hby at_144) rfl ?_
  obtain ⟨cq70, kq70, q70a, q70b, q70c⟩ := isOf hZ rfl p69_0
  obtain ⟨_, _, ⟨T70, L70, k70, n70⟩, -, X70, ⟨Lc70, hQ70, l70, y70, z70⟩, st70⟩ := X69.virtualBack hx (y := (⟨"com/example/brisk_reasoner/briskreasoner/engine/milp/DisjointSets", "root", "(I)I"⟩ : MethodName)) (z := (⟨"com/example/brisk_reasoner/briskreasoner/engine/milp/DisjointSets", "root", "(I)I"⟩ : MethodName)) hown (mvT hZ (hw _ (List.mem_of_getElem? (i := 26) rfl))) (mvT hZ (hw _ (List.mem_of_getElem? (i := 18) rfl))) (notFace_of_selects (args := #[]) (mvT hZ (hw _ (List.mem_of_getElem? (i := 20) rfl)))) (mvT hZ (hw _ (List.mem_of_getElem? (i := 20) rfl))) (mvT hZ (hw _ (List.mem_of_getElem? (i := 19) rfl))) (by decide) (backOf (W := 0) (rm_root l Z a0 hw [] b61 xq b0_62 (own_comp ps xp) T69.heap n0 Z_69 p69_0 p69_1 p69_2 g_b0_62 ne_b61_b0_62 (own_cF _ hps _ m_xp) m_xq) hZ (hw _ (List.mem_of_getElem? (i := 21) rfl)) (hw _ (List.mem_of_getElem? (i := 3) rfl)) (by decide) (by decide)) q70a q70c (g := (mkF m 146 #[.val (.int v0), .val (.int v1), .val (.int v2), .val (.int v3), .val (.ref b56), .val (.ref b61), .val (.int xa1), .val (.int xb1), .val (.int xa2), .val (.int xb2), .val (.int xa3), .val (.int xb3), .val (.int xp), .val (.int xq), .val (.int (own_root ps xp)), .unset] [(.int xq), (.ref b61)])) rfl (by rw [hml]; rfl) (Steps.refl _) (argsL := [(.int xq)]) (rest := []) (lenOf pd_0 rfl) rfl (by show 2 * 0 + _ ≤ _; exact Nat.le_of_eq rfl) (hb hby at_146) (fun _ _ => ⟨rfl, rfl, (by decide : 3 + 0 ≤ _), (by decide : 9 + 0 ≤ _)⟩)
  dsimp only [Pt.U, Pt.locs, Pt.cells, Pt.slots] at X70 l70 y70 z70 st70 hQ70
  subst l70 y70 z70
  obtain ⟨rfl, N70q, K70, p70_0, p70_1, p70_2⟩ := hQ70
  have N70 := Fr.app N69 N70q
  refine Go.st (fun _ k => st70.trans k) ?_
  have E_b56_70 := E_b56_69.keep K70
  have E_b0_62_70 := E_b0_62_69.keep K70
  have A_b56_70 := A_b56_69.keep K70 (ninS ne_b56_b0_62 nin0)
  have K_70 : Keep h0 T70.heap [] := K_69.trans K70 (allS (Or.inr sz_b0_62) all0)
  have Z_70 : n0 ≤ T70.heap.size := Nat.le_trans Z0 K_70.1
  show Go p e below s _ _ _ T70 (mkF m 149 #[.val (.int v0), .val (.int v1), .val (.int v2), .val (.int v3), .val (.ref b56), .val (.ref b61), .val (.int xa1), .val (.int xb1), .val (.int xa2), .val (.int xb2), .val (.int xa3), .val (.int xb3), .val (.int xp), .val (.int xq), .val (.int (own_root ps xp)), .unset] [(.int (own_root (own_comp ps xp) xq))])
  refine G_istore X70 hx (pc' := 151) rfl (hb hby at_149) (L' := #[.val (.int v0), .val (.int v1), .val (.int v2), .val (.int v3), .val (.ref b56), .val (.ref b61), .val (.int xa1), .val (.int xb1), .val (.int xa2), .val (.int xb2), .val (.int xa3), .val (.int xb3), .val (.int xp), .val (.int xq), .val (.int (own_root ps xp)), .val (.int (own_root (own_comp ps xp) xq))]) rfl ?_
  refine G_iload X70 hx (pc' := 153) rfl (hb hby at_151) rfl ?_
  refine G_ifNo X70 hx (pc' := 156) rfl (hb hby at_153) ((if0 _ _).trans (flt ((own_k47 ps hps xp m_xp xq m_xq) : ¬ ((own_root ps xp) < (0 : Int32)))).1) ?_
  refine G_iload X70 hx (pc' := 158) rfl (hb hby at_156) rfl ?_
  refine G_iconst X70 hx (pc' := 159) rfl (hb hby at_158) (z := (3 : Int32)) rfl ?_
  refine G_icmpNo X70 hx (pc' := 162) rfl (hb hby at_159) (flt ((own_k48 ps hps xp m_xp xq m_xq) : ¬ ((3 : Int32) < (own_root ps xp)))).2.2.1 ?_
  refine G_iload X70 hx (pc' := 164) rfl (hb hby at_162) rfl ?_
  refine G_ifNo X70 hx (pc' := 167) rfl (hb hby at_164) ((if0 _ _).trans (flt ((own_k49 ps hps xp m_xp xq m_xq) : ¬ ((own_root (own_comp ps xp) xq) < (0 : Int32)))).1) ?_
  refine G_iload X70 hx (pc' := 169) rfl (hb hby at_167) rfl ?_
  refine G_iconst X70 hx (pc' := 170) rfl (hb hby at_169) (z := (3 : Int32)) rfl ?_
  refine G_icmpYes X70 hx (pc' := 175) (hb hby at_170) (flt ((own_k50 ps hps xp m_xp xq m_xq) : ¬ ((3 : Int32) < (own_root (own_comp ps xp) xq)))).2.2.2 (by decide) (by decide) ?_
  refine G_aload X70 hx (pc' := 177) rfl (hb hby at_175) rfl rfl ?_
  refine G_iload X70 hx (pc' := 179) rfl (hb hby at_177) rfl ?_
  refine Go.st (ldAI X70 hx hZ rfl A_b56_70 (j := (own_root ps xp)) (own_k51 ps hps xp m_xp xq m_xq) (own_k52 ps hps xp m_xp xq m_xq) (g := (mkF m 179 #[.val (.int v0), .val (.int v1), .val (.int v2), .val (.int v3), .val (.ref b56), .val (.ref b61), .val (.int xa1), .val (.int xb1), .val (.int xa2), .val (.int xb2), .val (.int xa3), .val (.int xb3), .val (.int xp), .val (.int xq), .val (.int (own_root ps xp)), .val (.int (own_root (own_comp ps xp) xq))] [(.int (own_root ps xp)), (.ref b56)])) rfl rfl (hb hby at_179)) ?_
  show Go p e below s _ _ _ T70 (mkF m 180 #[.val (.int v0), .val (.int v1), .val (.int v2), .val (.int v3), .val (.ref b56), .val (.ref b61), .val (.int xa1), .val (.int xb1), .val (.int xa2), .val (.int xb2), .val (.int xa3), .val (.int xb3), .val (.int xp), .val (.int xq), .val (.int (own_root ps xp)), .val (.int (own_root (own_comp ps xp) xq))] [(.int (own_f (own_lab ps) (own_root ps xp)))])
  refine G_aload X70 hx (pc' := 182) rfl (hb hby at_180) rfl rfl ?_
  refine G_iload X70 hx (pc' := 184) rfl (hb hby at_182) rfl ?_
  refine Go.st (ldAI X70 hx hZ rfl A_b56_70 (j := xp) (own_k53 ps hps xp m_xp xq m_xq) (own_k54 ps hps xp m_xp xq m_xq) (g := (mkF m 184 #[.val (.int v0), .val (.int v1), .val (.int v2), .val (.int v3), .val (.ref b56), .val (.ref b61), .val (.int xa1), .val (.int xb1), .val (.int xa2), .val (.int xb2), .val (.int xa3), .val (.int xb3), .val (.int xp), .val (.int xq), .val (.int (own_root ps xp)), .val (.int (own_root (own_comp ps xp) xq))] [(.int xp), (.ref b56), (.int (own_f (own_lab ps) (own_root ps xp)))])) rfl rfl (hb hby at_184)) ?_
  show Go p e below s _ _ _ T70 (mkF m 185 #[.val (.int v0), .val (.int v1), .val (.int v2), .val (.int v3), .val (.ref b56), .val (.ref b61), .val (.int xa1), .val (.int xb1), .val (.int xa2), .val (.int xb2), .val (.int xa3), .val (.int xb3), .val (.int xp), .val (.int xq), .val (.int (own_root ps xp)), .val (.int (own_root (own_comp ps xp) xq))] [(.int (own_f (own_lab ps) xp)), (.int (own_f (own_lab ps) (own_root ps xp)))])
  refine G_icmpNo X70 hx (pc' := 188) rfl (hb hby at_185) (teq ((own_k55 ps hps xp m_xp xq m_xq) : (own_f (own_lab ps) (own_root ps xp)) = (own_f (own_lab ps) xp))).2 ?_
  refine G_aload X70 hx (pc' := 190) rfl (hb hby at_188) rfl rfl ?_
  refine G_iload X70 hx (pc' := 192) rfl (hb hby at_190) rfl ?_
  refine Go.st (ldAI X70 hx hZ rfl A_b56_70 (j := (own_root (own_comp ps xp) xq)) (own_k56 ps hps xp m_xp xq m_xq) (own_k57 ps hps xp m_xp xq m_xq) (g := (mkF m 192 #[.val (.int v0), .val (.int v1), .val (.int v2), .val (.int v3), .val (.ref b56), .val (.ref b61), .val (.int xa1), .val (.int xb1), .val (.int xa2), .val (.int xb2), .val (.int xa3), .val (.int xb3), .val (.int xp), .val (.int xq), .val (.int (own_root ps xp)), .val (.int (own_root (own_comp ps xp) xq))] [(.int (own_root (own_comp ps xp) xq)), (.ref b56)])) rfl rfl (hb hby at_192)) ?_
  show Go p e below s _ _ _ T70 (mkF m 193 #[.val (.int v0), .val (.int v1), .val (.int v2), .val (.int v3), .val (.ref b56), .val (.ref b61), .val (.int xa1), .val (.int xb1), .val (.int xa2), .val (.int xb2), .val (.int xa3), .val (.int xb3), .val (.int xp), .val (.int xq), .val (.int (own_root ps xp)), .val (.int (own_root (own_comp ps xp) xq))] [(.int (own_f (own_lab ps) (own_root (own_comp ps xp) xq)))])
  refine G_aload X70 hx (pc' := 195) rfl (hb hby at_193) rfl rfl ?_
  refine G_iload X70 hx (pc' := 197) rfl (hb hby at_195) rfl ?_
  refine Go.st (ldAI X70 hx hZ rfl A_b56_70 (j := xq) (own_k58 ps hps xp m_xp xq m_xq) (own_k59 ps hps xp m_xp xq m_xq) (g := (mkF m 197 #[.val (.int v0), .val (.int v1), .val (.int v2), .val (.int v3), .val (.ref b56), .val (.ref b61), .val (.int xa1), .val (.int xb1), .val (.int xa2), .val (.int xb2), .val (.int xa3), .val (.int xb3), .val (.int xp), .val (.int xq), .val (.int (own_root ps xp)), .val (.int (own_root (own_comp ps xp) xq))] [(.int xq), (.ref b56), (.int (own_f (own_lab ps) (own_root (own_comp ps xp) xq)))])) rfl rfl (hb hby at_197)) ?_
  show Go p e below s _ _ _ T70 (mkF m 198 #[.val (.int v0), .val (.int v1), .val (.int v2), .val (.int v3), .val (.ref b56), .val (.ref b61), .val (.int xa1), .val (.int xb1), .val (.int xa2), .val (.int xb2), .val (.int xa3), .val (.int xb3), .val (.int xp), .val (.int xq), .val (.int (own_root ps xp)), .val (.int (own_root (own_comp ps xp) xq))] [(.int (own_f (own_lab ps) xq)), (.int (own_f (own_lab ps) (own_root (own_comp ps xp) xq)))])
  refine G_icmpYes X70 hx (pc' := 203) (hb hby at_198) (teq ((own_k60 ps hps xp m_xp xq m_xq) : (own_f (own_lab ps) (own_root (own_comp ps xp) xq)) = (own_f (own_lab ps) xq))).1 (by decide) (by decide) ?_
  refine G_aload X70 hx (pc' := 205) rfl (hb hby at_203) rfl rfl ?_
  refine G_iload X70 hx (pc' := 207) rfl (hb hby at_205) rfl ?_
  obtain ⟨cq71, kq71, q71a, q71b, q71c⟩ := isOf hZ rfl p70_0
  obtain ⟨_, _, ⟨T71, L71, k71, n71⟩, -, X71, ⟨Lc71, hQ71, l71, y71, z71⟩, st71⟩ := X70.virtualBack hx (y := (⟨"com/example/brisk_reasoner/briskreasoner/engine/milp/DisjointSets", "root", "(I)I"⟩ : MethodName)) (z := (⟨"com/example/brisk_reasoner/briskreasoner/engine/milp/DisjointSets", "root", "(I)I"⟩ : MethodName)) hown (mvT hZ (hw _ (List.mem_of_getElem? (i := 26) rfl))) (mvT hZ (hw _ (List.mem_of_getElem? (i := 18) rfl))) (notFace_of_selects (args := #[]) (mvT hZ (hw _ (List.mem_of_getElem? (i := 20) rfl)))) (mvT hZ (hw _ (List.mem_of_getElem? (i := 20) rfl))) (mvT hZ (hw _ (List.mem_of_getElem? (i := 19) rfl))) (by decide) (backOf (W := 0) (rm_root l Z a0 hw [] b61 (own_root ps xp) b0_62 (own_comp (own_comp ps xp) xq) T70.heap n0 Z_70 p70_0 p70_1 p70_2 g_b0_62 ne_b61_b0_62 (own_cF _ (own_cF _ hps _ m_xp) _ m_xq) (own_rm _ hps _ m_xp)) hZ (hw _ (List.mem_of_getElem? (i := 21) rfl)) (hw _ (List.mem_of_getElem? (i := 3) rfl)) (by decide) (by decide)) q71a q71c (g := (mkF m 207 #[.val (.int v0), .val (.int v1), .val (.int v2), .val (.int v3), .val (.ref b56), .val (.ref b61), .val (.int xa1), .val (.int xb1), .val (.int xa2), .val (.int xb2), .val (.int xa3), .val (.int xb3), .val (.int xp), .val (.int xq), .val (.int (own_root ps xp)), .val (.int (own_root (own_comp ps xp) xq))] [(.int (own_root ps xp)), (.ref b61)])) rfl (by rw [hml]; rfl) (Steps.refl _) (argsL := [(.int (own_root ps xp))]) (rest := []) (lenOf pd_0 rfl) rfl (by show 2 * 0 + _ ≤ _; exact Nat.le_of_eq rfl) (hb hby at_207) (fun _ _ => ⟨rfl, rfl, (by decide : 3 + 0 ≤ _), (by decide : 9 + 0 ≤ _)⟩)
  dsimp only [Pt.U, Pt.locs, Pt.cells, Pt.slots] at X71 l71 y71 z71 st71 hQ71
  subst l71 y71 z71
  obtain ⟨rfl, N71q, K71, p71_0, p71_1, p71_2⟩ := hQ71
  have N71 := Fr.app N70 N71q
  refine Go.st (fun _ k => st71.trans k) ?_
  have E_b56_71 := E_b56_70.keep K71
  have E_b0_62_71 := E_b0_62_70.keep K71
  have A_b56_71 := A_b56_70.keep K71 (ninS ne_b56_b0_62 nin0)
  have K_71 : Keep h0 T71.heap [] := K_70.trans K71 (allS (Or.inr sz_b0_62) all0)
  have Z_71 : n0 ≤ T71.heap.size := Nat.le_trans Z0 K_71.1
  show Go p e below s _ _ _ T71 (mkF m 210 #[.val (.int v0), .val (.int v1), .val (.int v2), .val (.int v3), .val (.ref b56), .val (.ref b61), .val (.int xa1), .val (.int xb1), .val (.int xa2), .val (.int xb2), .val (.int xa3), .val (.int xb3), .val (.int xp), .val (.int xq), .val (.int (own_root ps xp)), .val (.int (own_root (own_comp ps xp) xq))] [(.int (own_root (own_comp (own_comp ps xp) xq) (own_root ps xp)))])
  refine G_iload X71 hx (pc' := 212) rfl (hb hby at_210) rfl ?_
  refine G_icmpYes X71 hx (pc' := 217) (hb hby at_212) (teq ((own_k61 ps hps xp m_xp xq m_xq) : (own_root (own_comp (own_comp ps xp) xq) (own_root ps xp)) = (own_root ps xp))).1 (by decide) (by decide) ?_
  refine G_iload X71 hx (pc' := 219) rfl (hb hby at_217) rfl ?_
  refine G_iload X71 hx (pc' := 221) rfl (hb hby at_219) rfl ?_
  by_cases hc221_1 : (own_root ps xp) = (own_root (own_comp ps xp) xq)
  · refine G_icmpNo X71 hx (pc' := 224) rfl (hb hby at_221) (teq hc221_1).2 ?_
    refine G_iconst X71 hx (pc' := 225) rfl (hb hby at_224) (z := (1 : Int32)) rfl ?_
    refine G_goto X71 hx (pc' := 229) (hb hby at_225)  (by decide) (by decide) ?_
    refine G_aload X71 hx (pc' := 231) rfl (hb hby at_229) rfl rfl ?_
    refine G_iload X71 hx (pc' := 233) rfl (hb hby at_231) rfl ?_
    refine Go.st (ldAI X71 hx hZ rfl A_b56_71 (j := xp) (own_k62 ps hps xp m_xp xq m_xq hc221_1) (own_k63 ps hps xp m_xp xq m_xq hc221_1) (g := (mkF m 233 #[.val (.int v0), .val (.int v1), .val (.int v2), .val (.int v3), .val (.ref b56), .val (.ref b61), .val (.int xa1), .val (.int xb1), .val (.int xa2), .val (.int xb2), .val (.int xa3), .val (.int xb3), .val (.int xp), .val (.int xq), .val (.int (own_root ps xp)), .val (.int (own_root (own_comp ps xp) xq))] [(.int xp), (.ref b56), (.int (1 : Int32))])) rfl rfl (hb hby at_233)) ?_
    show Go p e below s _ _ _ T71 (mkF m 234 #[.val (.int v0), .val (.int v1), .val (.int v2), .val (.int v3), .val (.ref b56), .val (.ref b61), .val (.int xa1), .val (.int xb1), .val (.int xa2), .val (.int xb2), .val (.int xa3), .val (.int xb3), .val (.int xp), .val (.int xq), .val (.int (own_root ps xp)), .val (.int (own_root (own_comp ps xp) xq))] [(.int (own_f (own_lab ps) xp)), (.int (1 : Int32))])
    refine G_aload X71 hx (pc' := 236) rfl (hb hby at_234) rfl rfl ?_
    refine G_iload X71 hx (pc' := 238) rfl (hb hby at_236) rfl ?_
    refine Go.st (ldAI X71 hx hZ rfl A_b56_71 (j := xq) (own_k64 ps hps xp m_xp xq m_xq hc221_1) (own_k65 ps hps xp m_xp xq m_xq hc221_1) (g := (mkF m 238 #[.val (.int v0), .val (.int v1), .val (.int v2), .val (.int v3), .val (.ref b56), .val (.ref b61), .val (.int xa1), .val (.int xb1), .val (.int xa2), .val (.int xb2), .val (.int xa3), .val (.int xb3), .val (.int xp), .val (.int xq), .val (.int (own_root ps xp)), .val (.int (own_root (own_comp ps xp) xq))] [(.int xq), (.ref b56), (.int (own_f (own_lab ps) xp)), (.int (1 : Int32))])) rfl rfl (hb hby at_238)) ?_
    show Go p e below s _ _ _ T71 (mkF m 239 #[.val (.int v0), .val (.int v1), .val (.int v2), .val (.int v3), .val (.ref b56), .val (.ref b61), .val (.int xa1), .val (.int xb1), .val (.int xa2), .val (.int xb2), .val (.int xa3), .val (.int xb3), .val (.int xp), .val (.int xq), .val (.int (own_root ps xp)), .val (.int (own_root (own_comp ps xp) xq))] [(.int (own_f (own_lab ps) xq)), (.int (own_f (own_lab ps) xp)), (.int (1 : Int32))])
    refine G_icmpNo X71 hx (pc' := 242) rfl (hb hby at_239) (teq ((own_k66 ps hps xp m_xp xq m_xq hc221_1) : (own_f (own_lab ps) xp) = (own_f (own_lab ps) xq))).2 ?_
    refine G_iconst X71 hx (pc' := 243) rfl (hb hby at_242) (z := (1 : Int32)) rfl ?_
    refine G_goto X71 hx (pc' := 247) (hb hby at_243)  (by decide) (by decide) ?_
    refine G_icmpNo X71 hx (pc' := 250) rfl (hb hby at_247) (teq (by decide : (1 : Int32) = (1 : Int32))).2 ?_
    refine G_iconst X71 hx (pc' := 251) rfl (hb hby at_250) (z := (1 : Int32)) rfl ?_
    refine G_goto X71 hx (pc' := 255) (hb hby at_251)  (by decide) (by decide) ?_
    refine Go.fin X71 hlk (v := some (.int (1 : Int32))) (fun h => by rw [Bd.returns] at h; cases h) (by decide) (by decide) ?_ (fun fs hr => retN X71 hx (t := .boolean) Bd.returns (by simp) (hb hby at_255) hr)
    show Q_law Z v0 v1 v2 v3 h0 n0 _ T71.heap _
    exact ⟨rfl, N71⟩
  · refine G_icmpYes X71 hx (pc' := 228) (hb hby at_221) (feq hc221_1).2 (by decide) (by decide) ?_
    refine G_iconst X71 hx (pc' := 229) rfl (hb hby at_228) (z := (0 : Int32)) rfl ?_
    refine G_aload X71 hx (pc' := 231) rfl (hb hby at_229) rfl rfl ?_
    refine G_iload X71 hx (pc' := 233) rfl (hb hby at_231) rfl ?_
    refine Go.st (ldAI X71 hx hZ rfl A_b56_71 (j := xp) (own_k67 ps hps xp m_xp xq m_xq hc221_1) (own_k68 ps hps xp m_xp xq m_xq hc221_1) (g := (mkF m 233 #[.val (.int v0), .val (.int v1), .val (.int v2), .val (.int v3), .val (.ref b56), .val (.ref b61), .val (.int xa1), .val (.int xb1), .val (.int xa2), .val (.int xb2), .val (.int xa3), .val (.int xb3), .val (.int xp), .val (.int xq), .val (.int (own_root ps xp)), .val (.int (own_root (own_comp ps xp) xq))] [(.int xp), (.ref b56), (.int (0 : Int32))])) rfl rfl (hb hby at_233)) ?_
    show Go p e below s _ _ _ T71 (mkF m 234 #[.val (.int v0), .val (.int v1), .val (.int v2), .val (.int v3), .val (.ref b56), .val (.ref b61), .val (.int xa1), .val (.int xb1), .val (.int xa2), .val (.int xb2), .val (.int xa3), .val (.int xb3), .val (.int xp), .val (.int xq), .val (.int (own_root ps xp)), .val (.int (own_root (own_comp ps xp) xq))] [(.int (own_f (own_lab ps) xp)), (.int (0 : Int32))])
    refine G_aload X71 hx (pc' := 236) rfl (hb hby at_234) rfl rfl ?_
    refine G_iload X71 hx (pc' := 238) rfl (hb hby at_236) rfl ?_
    refine Go.st (ldAI X71 hx hZ rfl A_b56_71 (j := xq) (own_k69 ps hps xp m_xp xq m_xq hc221_1) (own_k70 ps hps xp m_xp xq m_xq hc221_1) (g := (mkF m 238 #[.val (.int v0), .val (.int v1), .val (.int v2), .val (.int v3), .val (.ref b56), .val (.ref b61), .val (.int xa1), .val (.int xb1), .val (.int xa2), .val (.int xb2), .val (.int xa3), .val (.int xb3), .val (.int xp), .val (.int xq), .val (.int (own_root ps xp)), .val (.int (own_root (own_comp ps xp) xq))] [(.int xq), (.ref b56), (.int (own_f (own_lab ps) xp)), (.int (0 : Int32))])) rfl rfl (hb hby at_238)) ?_
    show Go p e below s _ _ _ T71 (mkF m 239 #[.val (.int v0), .val (.int v1), .val (.int v2), .val (.int v3), .val (.ref b56), .val (.ref b61), .val (.int xa1), .val (.int xb1), .val (.int xa2), .val (.int xb2), .val (.int xa3), .val (.int xb3), .val (.int xp), .val (.int xq), .val (.int (own_root ps xp)), .val (.int (own_root (own_comp ps xp) xq))] [(.int (own_f (own_lab ps) xq)), (.int (own_f (own_lab ps) xp)), (.int (0 : Int32))])
    refine G_icmpYes X71 hx (pc' := 246) (hb hby at_239) (feq ((own_k71 ps hps xp m_xp xq m_xq hc221_1) : ¬ ((own_f (own_lab ps) xp) = (own_f (own_lab ps) xq)))).2 (by decide) (by decide) ?_
    refine G_iconst X71 hx (pc' := 247) rfl (hb hby at_246) (z := (0 : Int32)) rfl ?_
    refine G_icmpNo X71 hx (pc' := 250) rfl (hb hby at_247) (teq (by decide : (0 : Int32) = (0 : Int32))).2 ?_
    refine G_iconst X71 hx (pc' := 251) rfl (hb hby at_250) (z := (1 : Int32)) rfl ?_
    refine G_goto X71 hx (pc' := 255) (hb hby at_251)  (by decide) (by decide) ?_
    refine Go.fin X71 hlk (v := some (.int (1 : Int32))) (fun h => by rw [Bd.returns] at h; cases h) (by decide) (by decide) ?_ (fun fs hr => retN X71 hx (t := .boolean) Bd.returns (by simp) (hb hby at_255) hr)
    show Q_law Z v0 v1 v2 v3 h0 n0 _ T71.heap _
    exact ⟨rfl, N71⟩
set_option maxRecDepth 65536 in
set_option maxHeartbeats 40000000 in
theorem comes_1 {Post : Tables → Env → Array Value → State → Outcome → State → Prop} (hpost : ∀ tb e args s v u, (limb_1_1.after args s (.returned v) u = true ∧ limb_1_2.after args s (.returned v) u = true ∧ True) → FrameEnd s (.returned v) u (Jvm.fieldLocs frame_1_writes args s ++ Jvm.arrayLocs frame_1_arrays args s ++ Jvm.staticLocs frame_1_statics s) 16 128 → Post tb e args s (.returned v) u) :
    ArmFor flags0 classFile x code maxLocals ret World_1 tables_1 room_1 Calls_1 rest_1 Pre_1 Post := by
  intro l hfl _ _ p e ha hc hk s m args below hf hA hF happ hP
  obtain ⟨hcalls, hrest, hpre⟩ := hP
  obtain ⟨-, -, -, hnamed, -, -, -, hat⟩ := (Spec.applies_iff hf).mp happ
  obtain ⟨hg, hn⟩ := and_e (Cond.before_iff.mp (show (Jvm.Cond.and given_1 narrow_1).before args s = true from hpre))
  obtain ⟨hcnt, hg0⟩ := and_e hg
  obtain ⟨ha0, hg1⟩ := and_e hg0
  obtain ⟨ha1, hg2⟩ := and_e hg1
  obtain ⟨ha2, hg3⟩ := and_e hg2
  have ha3 := hg3
  obtain ⟨w0, w1, w2, w3, rfl⟩ : ∃ w0 w1 w2 w3 : Value, args = #[w0, w1, w2, w3] := by
    have hs : args.size = 4 := by simpa [Cond.value, given_1] using hcnt
    obtain ⟨L⟩ := args
    match L, hs with
    | [w0, w1, w2, w3], _ => exact ⟨w0, w1, w2, w3, rfl⟩
  have hw := fun d (hd : d ∈ tables_1) => atoms_spec (ws := Jvm.Cond.code x code maxLocals ret :: tables_1) hat d (List.mem_cons_of_mem _ hd)
  have hfit : Fit s := fun {y c} hc i hi => by
    obtain ⟨ha, rfl⟩ := Array.getElem?_eq_some_iff.mp hc
    have q := List.all_eq_true.mp ((Array.all_eq_true_iff_forall_mem.mp hF) _ (Array.getElem_mem ha)) i (List.mem_range.mpr hi)
    simpa [Array.getElem?_eq_getElem hi] using q
  obtain ⟨i0, ei0⟩ := is_v ha0
  obtain rfl : w0 = (.int i0) := Option.some.inj ei0
  obtain ⟨i1, ei1⟩ := is_v ha1
  obtain rfl : w1 = (.int i1) := Option.some.inj ei1
  obtain ⟨i2, ei2⟩ := is_v ha2
  obtain rfl : w2 = (.int i2) := Option.some.inj ei2
  obtain ⟨i3, ei3⟩ := is_v ha3
  obtain rfl : w3 = (.int i3) := Option.some.inj ei3
  obtain ⟨n, o, h1, h2, h3, v, L, rfl, ⟨hv, N⟩, hq⟩ := rm_law l s _ hw tables_1 i0 i1 i2 i3  s.heap s.heap.size (Nat.le_refl _)  p e ha hc hk s m _ below hf ((Spec.applies_iff_loose hf).mp happ).1 ⟨rfl, State.Warmed39.refl s, rfl⟩ trivial
  subst hv
  refine ⟨n, _, h1, h2, h3, hpost _ _ _ _ _ _ ⟨Cond.after_iff.mpr rfl, Cond.after_iff.mpr (eq_i res_at (Term.int_eval (1)) rfl), trivial⟩ ⟨hq.1, hq.2.1, (hq.2.2.sift fun y hy => Or.inr (N y hy)).mono (by decide) (by decide)⟩⟩
theorem main_1_1 : Claimed_1_1 := comes_1 fun _ _ _ _ _ _ h hF => ⟨h.1, hF⟩
theorem main_1_2 : Claimed_1_2 := comes_1 fun _ _ _ _ _ _ h hF => ⟨h.2.1, hF⟩
end Jvm.Pilot.@@N@@
namespace Jvm.Pilot.@@N@@
open Jvm Jvm.ClassFile Sem Op Lib Jvm.Free Jvm.Stand Jvm.Pilot.@@N@@.Jvm.D
/-! MADE BY PROGRAM (witnessworld.py) out of the Statement's table words and the real class files: 9 classes; the members and pool entries that the words name. The judged class is class 1, her method 2. -/
namespace start1
open Jvm.ClassFile
def u (s : String) : CpInfo := .utf8 (stringToUtf16 s)
/-- a pool by its gaps: so many unusable entries, then the entry; so many at the end -/
def gap : Nat → List CpInfo → List CpInfo
  | 0, r => r
  | n + 1, r => .unusable :: gap n r
def poolList (es : List (Nat × CpInfo)) (last : Nat) : List CpInfo := es.foldr (fun e r => gap e.1 (e.2 :: r)) (gap last [])
def pool (es : List (Nat × CpInfo)) (last : Nat) : Array CpInfo := ⟨poolList es last⟩
def fileOf (pool : Array CpInfo) (this : Nat) (attrs : Array Attribute := #[]) (ms : Array MethodInfo := #[]) (fl : Nat := 33) (sup : Nat := 0) (ifs : Array Nat := #[]) (fds : Array FieldInfo := #[]) : ClassFile where
  minorVersion := 0
  majorVersion := 65
  constantPool := pool
  accessFlags := fl
  thisClass := this
  superClass := sup
  interfaces := ifs
  fields := fds
  methods := ms
  attributes := attrs
def plain (name : String) (sup : Option ClassId) : Class where
  name := name
  kind := .ordinary
  loader := none
  accessFlags := 33
  super := sup
  interfaces := #[]
  cf := none
  fields := #[]
  methods := #[]
  instanceTypes := #[]
  staticTypes := #[]
  resolved := #[]
  callSites := []
  init := .initialized
  statics := none
  mirror := none

def pool0 : Array CpInfo := pool [(5, u "<init>"), (0, u "()V"), (1, .class_ 10), (1, u "java/lang/Object")] 113

def k0c0 : Code := { maxStack := 0, maxLocals := 1, code := object_method_1_code, exceptionTable := #[], attributes := #[] }
def k0m0 : Method := { name := "<init>", desc := "()V", sig := { parameters := [], returnType := none }, accessFlags := 1, code := some k0c0 }
/-- java/lang/Object -/
def k0 : Class := { plain "java/lang/Object" none with
  accessFlags := 33
  interfaces := #[]
  cf := some (fileOf pool0 8 #[] #[{ accessFlags := 1, nameIndex := 5, descriptorIndex := 6, attributes := #[] }] 33 0 #[] #[])
  fields := #[]
  methods := #[k0m0]
  instanceTypes := #[]
  staticTypes := #[]
  resolved := Array.replicate 124 none
  statics := none }

def pool1 : Array CpInfo := pool [(2, .class_ 4), (1, u "java/lang/Object"), (0, u "<init>"), (0, u "()V"), (0, .class_ 8), (0, u "com/example/brisk_reasoner/briskreasoner/engine/milp/DisjointSets"), (0, .methodref 7 10), (0, .nameAndType 5 11), (0, u "(I)V"), (0, .methodref 7 13), (0, .nameAndType 14 15), (0, u "join"), (0, u "(II)V"), (0, .methodref 17 18), (0, .class_ 19), (0, .nameAndType 20 21), (0, u "com/example/brisk_reasoner/briskreasoner/engine/milp/DisjointSetsJoinPinLaw"), (0, u "merge"), (0, u "([III)V"), (0, .methodref 7 23), (0, .nameAndType 24 25), (0, u "root"), (0, u "(I)I"), (3, u "law"), (0, u "(IIII)Z")] 4

def k1m0 : Method := { name := "<init>", desc := "()V", sig := { parameters := [], returnType := none }, accessFlags := 1, code := none }
def k1c1 : Code := { maxStack := 3, maxLocals := 5, code := method_2_code, exceptionTable := #[], attributes := #[] }
def k1m1 : Method := { name := "merge", desc := "([III)V", sig := { parameters := [(.array .int), .int, .int], returnType := none }, accessFlags := 10, code := some k1c1 }
def k1c2 : Code := { maxStack := 4, maxLocals := 16, code := code, exceptionTable := #[], attributes := #[] }
def k1m2 : Method := { name := "law", desc := "(IIII)Z", sig := { parameters := [.int, .int, .int, .int], returnType := some .boolean }, accessFlags := 9, code := some k1c2 }
/-- com/example/brisk_reasoner/briskreasoner/engine/milp/DisjointSetsJoinPinLaw -/
def k1 : Class := { plain "com/example/brisk_reasoner/briskreasoner/engine/milp/DisjointSetsJoinPinLaw" (some 0) with
  accessFlags := 49
  interfaces := #[]
  cf := some (fileOf pool1 17 #[] #[{ accessFlags := 1, nameIndex := 5, descriptorIndex := 6, attributes := #[] }, { accessFlags := 10, nameIndex := 20, descriptorIndex := 21, attributes := #[] }, { accessFlags := 9, nameIndex := 29, descriptorIndex := 30, attributes := #[] }] 49 2 #[] #[])
  fields := #[]
  methods := #[k1m0, k1m1, k1m2]
  instanceTypes := #[]
  staticTypes := #[]
  resolved := Array.replicate 35 none
  statics := none }

def pool2 : Array CpInfo := pool [(1, .methodref 2 3), (0, .class_ 4), (0, .nameAndType 5 6), (0, u "java/lang/Object"), (0, u "<init>"), (0, u "()V"), (0, .fieldref 8 9), (0, .class_ 10), (0, .nameAndType 11 12), (0, u "com/example/brisk_reasoner/briskreasoner/engine/milp/DisjointSets"), (0, u "parent"), (0, u "[I"), (0, .methodref 8 14), (0, .nameAndType 15 16), (0, u "root"), (0, u "(I)I"), (0, u "(I)V"), (3, u "join"), (0, u "(II)V")] 2

def k2c0 : Code := { maxStack := 3, maxLocals := 3, code := prog_21_method_1_code, exceptionTable := #[], attributes := #[] }
def k2m0 : Method := { name := "<init>", desc := "(I)V", sig := { parameters := [.int], returnType := none }, accessFlags := 0, code := some k2c0 }
def k2c1 : Code := { maxStack := 4, maxLocals := 3, code := prog_21_method_2_code, exceptionTable := #[], attributes := #[] }
def k2m1 : Method := { name := "join", desc := "(II)V", sig := { parameters := [.int, .int], returnType := none }, accessFlags := 0, code := some k2c1 }
def k2c2 : Code := { maxStack := 3, maxLocals := 5, code := prog_21_method_3_code, exceptionTable := #[], attributes := #[] }
def k2m2 : Method := { name := "root", desc := "(I)I", sig := { parameters := [.int], returnType := some .int }, accessFlags := 0, code := some k2c2 }
/-- com/example/brisk_reasoner/briskreasoner/engine/milp/DisjointSets -/
def k2 : Class := { plain "com/example/brisk_reasoner/briskreasoner/engine/milp/DisjointSets" (some 0) with
  accessFlags := 48
  interfaces := #[]
  cf := some (fileOf pool2 8 #[] #[{ accessFlags := 0, nameIndex := 5, descriptorIndex := 17, attributes := #[] }, { accessFlags := 0, nameIndex := 21, descriptorIndex := 22, attributes := #[] }, { accessFlags := 0, nameIndex := 15, descriptorIndex := 16, attributes := #[] }] 48 2 #[] #[{ accessFlags := 18, nameIndex := 11, descriptorIndex := 12, attributes := #[] }])
  fields := #[{ name := "parent", type := (.array .int), accessFlags := 18, slot := 0, constantValue := 0 }]
  methods := #[k2m0, k2m1, k2m2]
  instanceTypes := #[(.array .int)]
  staticTypes := #[]
  resolved := Array.replicate 25 none
  statics := none }

def pool3 : Array CpInfo := pool [(1, u "java/lang/Cloneable"), (0, .class_ 1), (0, u "java/lang/Object"), (0, .class_ 3)] 3

/-- java/lang/Cloneable -/
def k3 : Class := { plain "java/lang/Cloneable" (some 0) with
  accessFlags := 1537
  interfaces := #[]
  cf := some (fileOf pool3 2 #[] #[] 1537 4 #[] #[])
  fields := #[]
  methods := #[]
  instanceTypes := #[]
  staticTypes := #[]
  resolved := Array.replicate 8 none
  statics := none }

def pool4 : Array CpInfo := pool [(1, u "java/io/Serializable"), (0, .class_ 1), (0, u "java/lang/Object"), (0, .class_ 3)] 3

/-- java/io/Serializable -/
def k4 : Class := { plain "java/io/Serializable" (some 0) with
  accessFlags := 1537
  interfaces := #[]
  cf := some (fileOf pool4 2 #[] #[] 1537 4 #[] #[])
  fields := #[]
  methods := #[]
  instanceTypes := #[]
  staticTypes := #[]
  resolved := Array.replicate 8 none
  statics := none }

/-- the primitive byte -/
def k5 : Class := { plain "byte" none with kind := .primitive 'B', accessFlags := 0x411 }
/-- [B -/
def k6 : Class := { plain "[B" (some 0) with kind := .array 5 .byte, interfaces := #[3, 4], accessFlags := 1041 }

/-- the primitive int -/
def k7 : Class := { plain "int" none with kind := .primitive 'I', accessFlags := 0x411 }
/-- [I -/
def k8 : Class := { plain "[I" (some 0) with kind := .array 7 .int, interfaces := #[3, 4], accessFlags := 1041 }

def heap : Heap := #[]
def classes : Array Class := #[k0, k1, k2, k3, k4, k5, k6, k7, k8]
def interned : List (Array UInt16 × Addr) := []
def slotsUsed : Nat := 0
def theMethod : MethodId := ⟨1, 2⟩
def args0 : Array Value := #[.int 3, .int 7, .int 3, .int 1]
def aboutOver (below : List Frame) : State where
  vm := { classes := classes, interned := interned.toArray }
  heap := heap
  slotsUsed := slotsUsed
  threads := #[{ frames := .invoking theMethod args0 :: below }]
def below0 : List Frame := [.native { method := ⟨0, 0⟩, args := #[] }]
def about1 : State := aboutOver below0
def p0 : Program := .bare "" "" ""
def e0 : Env := launch0.env 0 0 0
theorem w_frames : about1.frames = Frame.invoking theMethod args0 :: below0 := rfl
set_option maxRecDepth 65536 in
theorem w_args : argsFit about1.vm theMethod args0 = true := by decide +kernel
set_option maxRecDepth 65536 in
theorem w_heap : heapFits about1 = true := by decide +kernel
set_option maxRecDepth 65536 in
theorem w_runnable : about1.curStatus? = some .runnable := by decide +kernel
set_option maxRecDepth 65536 in
theorem w_alone : about1.alone = true := by decide +kernel
set_option maxRecDepth 65536 in
theorem w_named : about1.methodNamed? x = some theMethod := by decide +kernel
set_option maxRecDepth 65536 in
theorem w_hears : about1.hears theMethod below0 = true := by decide +kernel
set_option maxRecDepth 65536 in
theorem w_ripe : about1.ripe theMethod args0 below0 = true := by decide +kernel
theorem w_running : about1.status = .running := rfl
set_option maxRecDepth 65536 in
theorem w_room : about1.hasRoom e0.platform room_1 = true :=
  launch0.hasRoom_least _ room_1 (by decide +kernel) (by decide +kernel) (by decide +kernel) (by decide +kernel) (by decide +kernel) (by decide +kernel)
theorem allAtoms_all (ts : List Jvm.Cond) (a : Array Jvm.Value) (st : Jvm.State) : (allAtoms ts).before a st = ts.all (fun c => c.before a st) := by
  induction ts with
  | nil => rfl
  | cons c t ih =>
    show (Jvm.Cond.and c (allAtoms t)).before a st = _
    rw [Jvm.Cond.before_and, ih, List.all_cons]
def words1 : List Jvm.Cond := Jvm.Cond.code x code maxLocals ret :: tables_1
/-- a 'code' word, met by the world's own term for the bytes: nothing is compared byte by byte -/
theorem code_word {y : MethodName} {bytes : ByteArray} {mx : Nat} {rt : Option FieldType} {a : Array Value} {s : State} {m : MethodId} {meth : Method} {c : Code} (h1 : s.methodNamed? y = some m) (h2 : s.vm.method? m = some meth) (h3 : meth.code = some c) (h4 : c.code = bytes)
    (h5 : (c.maxLocals == mx && c.exceptionTable.isEmpty && decide (c.maxStack ≤ mostOperands) && decide (meth.sig.returnType = rt) && !meth.locks && decide (parseMethodDescriptor y.desc = some meth.sig)) = true) : (Jvm.Cond.code y bytes mx rt).before a s = true := by
  simp only [Bool.and_eq_true, beq_iff_eq, Bool.not_eq_true', decide_eq_true_eq] at h5
  obtain ⟨⟨⟨⟨⟨g1, g2⟩, g3⟩, g4⟩, g5⟩, g6⟩ := h5
  simp [Cond.before, Cond.holds, Cond.value, h1, h2, h3, h4, g1, g2, g3, g4, g5, g6]
def isCode : Jvm.Cond → Bool
  | .code _ _ _ _ => true
  | _ => false
theorem all_split {L : List Jvm.Cond} {P : Jvm.Cond → Bool} (h1 : L.all (fun c => isCode c || P c) = true) (h2 : ∀ c ∈ L.filter isCode, P c = true) : L.all P = true := by
  refine List.all_eq_true.mpr fun c hc => ?_
  have h := List.all_eq_true.mp h1 c hc
  rcases Bool.eq_false_or_eq_true (isCode c) with hi | hi
  · exact h2 c (List.mem_filter.mpr ⟨hc, hi⟩)
  · simpa [hi] using h
set_option maxRecDepth 65536 in
theorem w_c0 : (Jvm.Cond.code x code maxLocals ret).before args0 about1 = true := code_word (m := ⟨1, 2⟩) (meth := k1m2) (c := k1c2) (by decide +kernel) rfl rfl rfl (by decide +kernel)
set_option maxRecDepth 65536 in
theorem w_c1 : (Jvm.Cond.code ({ cls := "com/example/brisk_reasoner/briskreasoner/engine/milp/DisjointSets", name := "<init>", desc := "(I)V" } : Jvm.MethodName) prog_21_method_1_code (3 : Nat) (Option.none : Option Jvm.ClassFile.FieldType)).before args0 about1 = true := code_word (m := ⟨2, 0⟩) (meth := k2m0) (c := k2c0) (by decide +kernel) rfl rfl rfl (by decide +kernel)
set_option maxRecDepth 65536 in
theorem w_c2 : (Jvm.Cond.code ({ cls := "java/lang/Object", name := "<init>", desc := "()V" } : Jvm.MethodName) object_method_1_code (1 : Nat) (Option.none : Option Jvm.ClassFile.FieldType)).before args0 about1 = true := code_word (m := ⟨0, 0⟩) (meth := k0m0) (c := k0c0) (by decide +kernel) rfl rfl rfl (by decide +kernel)
set_option maxRecDepth 65536 in
theorem w_c3 : (Jvm.Cond.code ({ cls := "com/example/brisk_reasoner/briskreasoner/engine/milp/DisjointSets", name := "join", desc := "(II)V" } : Jvm.MethodName) prog_21_method_2_code (3 : Nat) (Option.none : Option Jvm.ClassFile.FieldType)).before args0 about1 = true := code_word (m := ⟨2, 1⟩) (meth := k2m1) (c := k2c1) (by decide +kernel) rfl rfl rfl (by decide +kernel)
set_option maxRecDepth 65536 in
theorem w_c4 : (Jvm.Cond.code ({ cls := "com/example/brisk_reasoner/briskreasoner/engine/milp/DisjointSets", name := "root", desc := "(I)I" } : Jvm.MethodName) prog_21_method_3_code (5 : Nat) (Option.some Jvm.ClassFile.FieldType.int)).before args0 about1 = true := code_word (m := ⟨2, 2⟩) (meth := k2m2) (c := k2c2) (by decide +kernel) rfl rfl rfl (by decide +kernel)
set_option maxRecDepth 65536 in
theorem w_c5 : (Jvm.Cond.code ({ cls := "com/example/brisk_reasoner/briskreasoner/engine/milp/DisjointSetsJoinPinLaw", name := "merge", desc := "([III)V" } : Jvm.MethodName) method_2_code (5 : Nat) (Option.none : Option Jvm.ClassFile.FieldType)).before args0 about1 = true := code_word (m := ⟨1, 1⟩) (meth := k1m1) (c := k1c1) (by decide +kernel) rfl rfl rfl (by decide +kernel)
def codes1 : List Jvm.Cond := [Jvm.Cond.code x code maxLocals ret, Jvm.Cond.code ({ cls := "com/example/brisk_reasoner/briskreasoner/engine/milp/DisjointSets", name := "<init>", desc := "(I)V" } : Jvm.MethodName) prog_21_method_1_code (3 : Nat) (Option.none : Option Jvm.ClassFile.FieldType), Jvm.Cond.code ({ cls := "java/lang/Object", name := "<init>", desc := "()V" } : Jvm.MethodName) object_method_1_code (1 : Nat) (Option.none : Option Jvm.ClassFile.FieldType), Jvm.Cond.code ({ cls := "com/example/brisk_reasoner/briskreasoner/engine/milp/DisjointSets", name := "join", desc := "(II)V" } : Jvm.MethodName) prog_21_method_2_code (3 : Nat) (Option.none : Option Jvm.ClassFile.FieldType), Jvm.Cond.code ({ cls := "com/example/brisk_reasoner/briskreasoner/engine/milp/DisjointSets", name := "root", desc := "(I)I" } : Jvm.MethodName) prog_21_method_3_code (5 : Nat) (Option.some Jvm.ClassFile.FieldType.int), Jvm.Cond.code ({ cls := "com/example/brisk_reasoner/briskreasoner/engine/milp/DisjointSetsJoinPinLaw", name := "merge", desc := "([III)V" } : Jvm.MethodName) method_2_code (5 : Nat) (Option.none : Option Jvm.ClassFile.FieldType)]
set_option maxRecDepth 65536 in
theorem codes_eq : words1.filter isCode = codes1 := rfl
theorem w_codes : ∀ c ∈ words1.filter isCode, c.before args0 about1 = true := by
  rw [codes_eq]
  intro c hc
  simp only [codes1, List.mem_cons, List.not_mem_nil, or_false] at hc
  rcases hc with rfl | rfl | rfl | rfl | rfl | rfl
  · exact w_c0
  · exact w_c1
  · exact w_c2
  · exact w_c3
  · exact w_c4
  · exact w_c5
set_option maxRecDepth 65536 in
theorem w_t1 : (words1.take 24).all (fun c => isCode c || c.before args0 about1) = true := by decide +kernel
set_option maxRecDepth 65536 in
theorem w_t2 : (words1.drop 24).all (fun c => isCode c || c.before args0 about1) = true := by decide +kernel
theorem w_tables : (allAtoms (Jvm.Cond.code x code maxLocals ret :: tables_1)).before args0 about1 = true := by
  rw [allAtoms_all]
  show words1.all (fun c => c.before args0 about1) = true
  refine all_split ?_ w_codes
  rw [← List.take_append_drop 24 words1, List.all_append, w_t1, w_t2]
  rfl
set_option maxRecDepth 65536 in
theorem w_case : (Jvm.Cond.and given_1 narrow_1).before args0 about1 = true := by decide +kernel
theorem w_applies : (headSpec (Jvm.Cond.code x code maxLocals ret :: tables_1) room_1).applies x e0.platform about1 = true :=
  (Spec.applies_iff w_frames).mpr ⟨w_running, w_runnable, w_alone, w_named, w_hears, w_ripe, w_room, w_tables⟩
theorem atStart : AtStart classFile x code maxLocals ret World_1 tables_1 room_1 Calls_1 rest_1 Pre_1 launch0 p0 e0 about1 theMethod args0 below0 :=
  ⟨lists_1, trivial, launch0.admits_env _ _ _, launch0.least_env, fairChoices_fair.cas, fairChoices_fair.clock, w_frames, w_args, w_heap, w_applies, trivial, trivial, w_case⟩
end start1
theorem witness_1 : WitnessClaimed_1 := ⟨start1.p0, start1.e0, start1.about1, start1.theMethod, start1.args0, start1.below0, start1.atStart⟩
end Jvm.Pilot.@@N@@
