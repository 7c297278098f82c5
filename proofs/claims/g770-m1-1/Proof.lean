import JvmDerived
import JvmDerived.Pilot.@@N@@Statement
import JvmDerived.Pilot.@@N@@Code
set_option linter.unusedVariables false
set_option linter.unusedSimpArgs false
namespace Jvm.Pilot.@@N@@
open Jvm Jvm.ClassFile Sem Op Lib Jvm.Free Jvm.Stand Jvm.LawKit Jvm.RoadKit Bundle Jvm.Pilot.@@N@@.Jvm.D
section Own
variable {p : Program} {l : Launch} {e : Env} {R : Room} {s : State} {m : MethodId} {args : Array Value} {below : List Frame} {meth : Method} {c : Code} {T T' : State} {locs : List Loc} {cells slots C N : Nat} {Q : Option Value → Heap → List Loc → Prop} {g g' : JFrame}
/-- from T with the frame g on top the invocation of s comes to its end: it returns, and Q holds of what it returns, of the heap and of the places written -/
def Go (p : Program) (e : Env) (below : List Frame) (s : State) (C N : Nat) (Q : Option Value → Heap → List Loc → Prop) (T : State) (g : JFrame) : Prop :=
  ∃ s₂ o, Steps p.tables e below (T.setTop g) s₂ ∧ s₂.status = .running ∧ Ended s₂ below o ∧ ∃ v L, o = .returned v ∧ Q v s₂.heap L ∧ FrameEnd s o s₂ L C N
theorem Go.st (h : ∀ t, Steps p.tables e below (T'.setTop g') t → Steps p.tables e below (T.setTop g) t) (k : Go p e below s C N Q T' g') : Go p e below s C N Q T g := by
  obtain ⟨s2, o, h1, h2⟩ := k
  exact ⟨s2, o, h _ h1, h2⟩
theorem Go.enter (q : g = g') (k : Go p e below s C N Q T g') : ∃ s₂ o, Steps p.tables e below (T.setTop g) s₂ ∧ s₂.status = .running ∧ Ended s₂ below o ∧ ∃ v L, o = .returned v ∧ Q v s₂.heap L ∧ FrameEnd s o s₂ L C N := by
  subst q; exact k
theorem Go.fin (X : Stand p l e R s m args below meth c T locs cells slots) (hlk : meth.locks = false) {v : Option Value} (hv : meth.sig.returnType = none → v = none) (hC : cells ≤ C) (hN : slots ≤ N) (hq : Q v T.heap locs)
    (hs : ∀ fs, (∀ (f : JFrame) (acts : List Action), f.method = m → f.locked = none → f.entered = [] → (doReturn e (T.setTop f) acts v).1 = T.setFrames fs) → Steps p.tables e below (T.setTop g) (T.setFrames fs)) : Go p e below s C N Q T g := by
  obtain ⟨fs, hr, hrun, hended, hW, hsame⟩ := X.leave hv hlk
  exact ⟨_, _, hs fs hr, hrun, hended, _, _, rfl, hq, ⟨_, rfl⟩, hW, hsame.mono hC hN⟩
end Own
theorem own_selp {s : State} {args : Array Value} {y : MethodName} {n : Nat} (wi : (Cond.instantiable y.cls n).before args s = true) (wp : (Cond.privateMethod y).before args s = true) (hinst : (Cond.instanceMethod y).before args s = true) (hy : y.cls ≠ "java/lang/invoke/MethodHandle" ∧ y.cls ≠ "java/lang/invoke/VarHandle") : (Cond.selects y.cls y y).before args s = true := by
  obtain ⟨c, k, h1, h2, -, h4, -⟩ := Cond.instantiable_spec wi
  exact Jvm.Stand.selects_self_of_private h1 h2 (by simp only [Bool.or_eq_false_iff] at h4; exact h4.1) (Cond.privateMethod_at wp) hinst hy

section OwnG
variable {p : Program} {l : Launch} {e : Env} {R : Room} {s : State} {m : MethodId} {args : Array Value} {below : List Frame} {meth : Method} {c : Code} {T : State} {locs : List Loc} {cells slots C N : Nat} {Q : Option Value → Heap → List Loc → Prop} {pc pc' : Nat} {L L' : Array Slot} {S : List Value}
theorem G_iloadN (X : Stand p l e R s m args below meth c T locs cells slots) (hx : p.tables.exec = Jvm.exec) {k : Fin 4} {v : Int32} (hp : pc + 1 = pc') (hd : decode c.code pc = .ok (.iload_n k, 1)) (hl : L[k.val]? = some (.val (.int v))) (h : Go p e below s C N Q T (mkF m pc' L (.int v :: S))) : Go p e below s C N Q T (mkF m pc L S) := by
  subst hp; exact Go.st (fun _ k => XS.iloadN X.here hx rfl hd hl k) h
theorem G_iload (X : Stand p l e R s m args below meth c T locs cells slots) (hx : p.tables.exec = Jvm.exec) {k : Nat} {v : Int32} (hp : pc + 2 = pc') (hd : decode c.code pc = .ok (.iload k, 2)) (hl : L[k]? = some (.val (.int v))) (h : Go p e below s C N Q T (mkF m pc' L (.int v :: S))) : Go p e below s C N Q T (mkF m pc L S) := by
  subst hp; exact Go.st (fun _ k => XS.iload X.here hx rfl hd hl k) h
theorem G_istoreN (X : Stand p l e R s m args below meth c T locs cells slots) (hx : p.tables.exec = Jvm.exec) {k : Fin 4} {v : Int32} (hp : pc + 1 = pc') (hd : decode c.code pc = .ok (.istore_n k, 1)) (hl : storeLocals L k.val (.int v) = some L') (h : Go p e below s C N Q T (mkF m pc' L' S)) : Go p e below s C N Q T (mkF m pc L (.int v :: S)) := by
  subst hp; exact Go.st (fun _ k => XS.istoreN X.here hx rfl hd rfl hl k) h
theorem G_istore (X : Stand p l e R s m args below meth c T locs cells slots) (hx : p.tables.exec = Jvm.exec) {k : Nat} {v : Int32} (hp : pc + 2 = pc') (hd : decode c.code pc = .ok (.istore k, 2)) (hl : storeLocals L k (.int v) = some L') (h : Go p e below s C N Q T (mkF m pc' L' S)) : Go p e below s C N Q T (mkF m pc L (.int v :: S)) := by
  subst hp; exact Go.st (fun _ k => XS.istore X.here hx rfl hd rfl hl k) h
theorem G_lloadN (X : Stand p l e R s m args below meth c T locs cells slots) (hx : p.tables.exec = Jvm.exec) {k : Fin 4} {v : Int64} (hp : pc + 1 = pc') (hd : decode c.code pc = .ok (.lload_n k, 1)) (hl : L[k.val]? = some (.val (.long v))) (h : Go p e below s C N Q T (mkF m pc' L (.long v :: S))) : Go p e below s C N Q T (mkF m pc L S) := by
  subst hp; exact Go.st (fun _ k => XS.lloadN X.here hx rfl hd hl k) h
theorem G_lload (X : Stand p l e R s m args below meth c T locs cells slots) (hx : p.tables.exec = Jvm.exec) {k : Nat} {v : Int64} (hp : pc + 2 = pc') (hd : decode c.code pc = .ok (.lload k, 2)) (hl : L[k]? = some (.val (.long v))) (h : Go p e below s C N Q T (mkF m pc' L (.long v :: S))) : Go p e below s C N Q T (mkF m pc L S) := by
  subst hp; exact Go.st (fun _ k => XS.lload X.here hx rfl hd hl k) h
theorem G_lstoreN (X : Stand p l e R s m args below meth c T locs cells slots) (hx : p.tables.exec = Jvm.exec) {k : Fin 4} {v : Int64} (hp : pc + 1 = pc') (hd : decode c.code pc = .ok (.lstore_n k, 1)) (hl : storeLocals L k.val (.long v) = some L') (h : Go p e below s C N Q T (mkF m pc' L' S)) : Go p e below s C N Q T (mkF m pc L (.long v :: S)) := by
  subst hp; exact Go.st (fun _ k => XS.lstoreN X.here hx rfl hd rfl hl k) h
theorem G_lstore (X : Stand p l e R s m args below meth c T locs cells slots) (hx : p.tables.exec = Jvm.exec) {k : Nat} {v : Int64} (hp : pc + 2 = pc') (hd : decode c.code pc = .ok (.lstore k, 2)) (hl : storeLocals L k (.long v) = some L') (h : Go p e below s C N Q T (mkF m pc' L' S)) : Go p e below s C N Q T (mkF m pc L (.long v :: S)) := by
  subst hp; exact Go.st (fun _ k => XS.lstore X.here hx rfl hd rfl hl k) h
theorem G_aloadN (X : Stand p l e R s m args below meth c T locs cells slots) (hx : p.tables.exec = Jvm.exec) {k : Fin 4} {v : Value} (hp : pc + 1 = pc') (hd : decode c.code pc = .ok (.aload_n k, 1)) (hl : L[k.val]? = some (.val v)) (hv : v.isRef = true) (h : Go p e below s C N Q T (mkF m pc' L (v :: S))) : Go p e below s C N Q T (mkF m pc L S) := by
  subst hp; exact Go.st (fun _ k => XS.aloadN X.here hx rfl hd hl hv k) h
theorem G_aload (X : Stand p l e R s m args below meth c T locs cells slots) (hx : p.tables.exec = Jvm.exec) {k : Nat} {v : Value} (hp : pc + 2 = pc') (hd : decode c.code pc = .ok (.aload k, 2)) (hl : L[k]? = some (.val v)) (hv : v.isRef = true) (h : Go p e below s C N Q T (mkF m pc' L (v :: S))) : Go p e below s C N Q T (mkF m pc L S) := by
  subst hp; exact Go.st (fun _ k => XS.aload X.here hx rfl hd hl hv k) h
theorem G_astoreN (X : Stand p l e R s m args below meth c T locs cells slots) (hx : p.tables.exec = Jvm.exec) {k : Fin 4} {v : Value} (hp : pc + 1 = pc') (hd : decode c.code pc = .ok (.astore_n k, 1)) (hv : v.isRef = true) (hl : storeLocals L k.val v = some L') (h : Go p e below s C N Q T (mkF m pc' L' S)) : Go p e below s C N Q T (mkF m pc L (v :: S)) := by
  subst hp; exact Go.st (fun _ k => XS.astoreN X.here hx rfl hd rfl hv hl k) h
theorem G_astore (X : Stand p l e R s m args below meth c T locs cells slots) (hx : p.tables.exec = Jvm.exec) {k : Nat} {v : Value} (hp : pc + 2 = pc') (hd : decode c.code pc = .ok (.astore k, 2)) (hv : v.isRef = true) (hl : storeLocals L k v = some L') (h : Go p e below s C N Q T (mkF m pc' L' S)) : Go p e below s C N Q T (mkF m pc L (v :: S)) := by
  subst hp; exact Go.st (fun _ k => XS.astore X.here hx rfl hd rfl hv hl k) h
theorem G_iconst (X : Stand p l e R s m args below meth c T locs cells slots) (hx : p.tables.exec = Jvm.exec) {i : Int} {z : Int32} (hp : pc + 1 = pc') (hd : decode c.code pc = .ok (.iconst i, 1)) (hz : Int32.ofInt i = z) (h : Go p e below s C N Q T (mkF m pc' L (.int z :: S))) : Go p e below s C N Q T (mkF m pc L S) := by
  subst hp; exact Go.st (fun _ k => XS.iconst X.here hx rfl hd (by rw [hz]; exact k)) h
theorem G_bipush (X : Stand p l e R s m args below meth c T locs cells slots) (hx : p.tables.exec = Jvm.exec) {i : Int} {z : Int32} (hp : pc + 2 = pc') (hd : decode c.code pc = .ok (.bipush i, 2)) (hz : (Int8.ofInt i).toInt32 = z) (h : Go p e below s C N Q T (mkF m pc' L (.int z :: S))) : Go p e below s C N Q T (mkF m pc L S) := by
  subst hp; exact Go.st (fun _ k => XS.bipush X.here hx rfl hd (by rw [hz]; exact k)) h
theorem G_sipush (X : Stand p l e R s m args below meth c T locs cells slots) (hx : p.tables.exec = Jvm.exec) {i : Int} {z : Int32} (hp : pc + 3 = pc') (hd : decode c.code pc = .ok (.sipush i, 3)) (hz : (Int16.ofInt i).toInt32 = z) (h : Go p e below s C N Q T (mkF m pc' L (.int z :: S))) : Go p e below s C N Q T (mkF m pc L S) := by
  subst hp; exact Go.st (fun _ k => XS.sipush X.here hx rfl hd (by rw [hz]; exact k)) h
theorem G_lconst (X : Stand p l e R s m args below meth c T locs cells slots) (hx : p.tables.exec = Jvm.exec) {i : Fin 2} {z : Int64} (hp : pc + 1 = pc') (hd : decode c.code pc = .ok (.lconst i, 1)) (hz : Int64.ofNat i = z) (h : Go p e below s C N Q T (mkF m pc' L (.long z :: S))) : Go p e below s C N Q T (mkF m pc L S) := by
  subst hp; exact Go.st (fun _ k => XS.lconst X.here hx rfl hd (by rw [hz]; exact k)) h
theorem G_aconstNull (X : Stand p l e R s m args below meth c T locs cells slots) (hx : p.tables.exec = Jvm.exec)  (hp : pc + 1 = pc') (hd : decode c.code pc = .ok (.aconst_null, 1))  (h : Go p e below s C N Q T (mkF m pc' L (.null :: S))) : Go p e below s C N Q T (mkF m pc L S) := by
  subst hp; exact Go.st (fun _ k => XS.aconstNull X.here hx rfl hd k) h
theorem G_iadd (X : Stand p l e R s m args below meth c T locs cells slots) (hx : p.tables.exec = Jvm.exec) {x y : Int32} (hp : pc + 1 = pc') (hd : decode c.code pc = .ok (.iadd, 1))  (h : Go p e below s C N Q T (mkF m pc' L (.int (x + y) :: S))) : Go p e below s C N Q T (mkF m pc L (.int y :: .int x :: S)) := by
  subst hp; exact Go.st (fun _ k => XS.iadd X.here hx rfl hd rfl k) h
theorem G_isub (X : Stand p l e R s m args below meth c T locs cells slots) (hx : p.tables.exec = Jvm.exec) {x y : Int32} (hp : pc + 1 = pc') (hd : decode c.code pc = .ok (.isub, 1))  (h : Go p e below s C N Q T (mkF m pc' L (.int (x - y) :: S))) : Go p e below s C N Q T (mkF m pc L (.int y :: .int x :: S)) := by
  subst hp; exact Go.st (fun _ k => XS.isub X.here hx rfl hd rfl k) h
theorem G_imul (X : Stand p l e R s m args below meth c T locs cells slots) (hx : p.tables.exec = Jvm.exec) {x y : Int32} (hp : pc + 1 = pc') (hd : decode c.code pc = .ok (.imul, 1))  (h : Go p e below s C N Q T (mkF m pc' L (.int (x * y) :: S))) : Go p e below s C N Q T (mkF m pc L (.int y :: .int x :: S)) := by
  subst hp; exact Go.st (fun _ k => XS.imul X.here hx rfl hd rfl k) h
theorem G_iand (X : Stand p l e R s m args below meth c T locs cells slots) (hx : p.tables.exec = Jvm.exec) {x y : Int32} (hp : pc + 1 = pc') (hd : decode c.code pc = .ok (.iand, 1))  (h : Go p e below s C N Q T (mkF m pc' L (.int (x &&& y) :: S))) : Go p e below s C N Q T (mkF m pc L (.int y :: .int x :: S)) := by
  subst hp; exact Go.st (fun _ k => XS.iand X.here hx rfl hd rfl k) h
theorem G_ior (X : Stand p l e R s m args below meth c T locs cells slots) (hx : p.tables.exec = Jvm.exec) {x y : Int32} (hp : pc + 1 = pc') (hd : decode c.code pc = .ok (.ior, 1))  (h : Go p e below s C N Q T (mkF m pc' L (.int (x ||| y) :: S))) : Go p e below s C N Q T (mkF m pc L (.int y :: .int x :: S)) := by
  subst hp; exact Go.st (fun _ k => XS.ior X.here hx rfl hd rfl k) h
theorem G_ixor (X : Stand p l e R s m args below meth c T locs cells slots) (hx : p.tables.exec = Jvm.exec) {x y : Int32} (hp : pc + 1 = pc') (hd : decode c.code pc = .ok (.ixor, 1))  (h : Go p e below s C N Q T (mkF m pc' L (.int (x ^^^ y) :: S))) : Go p e below s C N Q T (mkF m pc L (.int y :: .int x :: S)) := by
  subst hp; exact Go.st (fun _ k => XS.ixor X.here hx rfl hd rfl k) h
theorem G_ishl (X : Stand p l e R s m args below meth c T locs cells slots) (hx : p.tables.exec = Jvm.exec) {x y : Int32} (hp : pc + 1 = pc') (hd : decode c.code pc = .ok (.ishl, 1))  (h : Go p e below s C N Q T (mkF m pc' L (.int (x <<< (y &&& 31)) :: S))) : Go p e below s C N Q T (mkF m pc L (.int y :: .int x :: S)) := by
  subst hp; exact Go.st (fun _ k => XS.ishl X.here hx rfl hd rfl k) h
theorem G_ishr (X : Stand p l e R s m args below meth c T locs cells slots) (hx : p.tables.exec = Jvm.exec) {x y : Int32} (hp : pc + 1 = pc') (hd : decode c.code pc = .ok (.ishr, 1))  (h : Go p e below s C N Q T (mkF m pc' L (.int (x >>> (y &&& 31)) :: S))) : Go p e below s C N Q T (mkF m pc L (.int y :: .int x :: S)) := by
  subst hp; exact Go.st (fun _ k => XS.ishr X.here hx rfl hd rfl k) h
theorem G_iushr (X : Stand p l e R s m args below meth c T locs cells slots) (hx : p.tables.exec = Jvm.exec) {x y : Int32} (hp : pc + 1 = pc') (hd : decode c.code pc = .ok (.iushr, 1))  (h : Go p e below s C N Q T (mkF m pc' L (.int ((x.toUInt32 >>> (y &&& 31).toUInt32).toInt32) :: S))) : Go p e below s C N Q T (mkF m pc L (.int y :: .int x :: S)) := by
  subst hp; exact Go.st (fun _ k => XS.iushr X.here hx rfl hd rfl k) h
theorem G_ladd (X : Stand p l e R s m args below meth c T locs cells slots) (hx : p.tables.exec = Jvm.exec) {x y : Int64} (hp : pc + 1 = pc') (hd : decode c.code pc = .ok (.ladd, 1))  (h : Go p e below s C N Q T (mkF m pc' L (.long (x + y) :: S))) : Go p e below s C N Q T (mkF m pc L (.long y :: .long x :: S)) := by
  subst hp; exact Go.st (fun _ k => XS.ladd X.here hx rfl hd rfl k) h
theorem G_lsub (X : Stand p l e R s m args below meth c T locs cells slots) (hx : p.tables.exec = Jvm.exec) {x y : Int64} (hp : pc + 1 = pc') (hd : decode c.code pc = .ok (.lsub, 1))  (h : Go p e below s C N Q T (mkF m pc' L (.long (x - y) :: S))) : Go p e below s C N Q T (mkF m pc L (.long y :: .long x :: S)) := by
  subst hp; exact Go.st (fun _ k => XS.lsub X.here hx rfl hd rfl k) h
theorem G_lmul (X : Stand p l e R s m args below meth c T locs cells slots) (hx : p.tables.exec = Jvm.exec) {x y : Int64} (hp : pc + 1 = pc') (hd : decode c.code pc = .ok (.lmul, 1))  (h : Go p e below s C N Q T (mkF m pc' L (.long (x * y) :: S))) : Go p e below s C N Q T (mkF m pc L (.long y :: .long x :: S)) := by
  subst hp; exact Go.st (fun _ k => XS.lmul X.here hx rfl hd rfl k) h
theorem G_land (X : Stand p l e R s m args below meth c T locs cells slots) (hx : p.tables.exec = Jvm.exec) {x y : Int64} (hp : pc + 1 = pc') (hd : decode c.code pc = .ok (.land, 1))  (h : Go p e below s C N Q T (mkF m pc' L (.long (x &&& y) :: S))) : Go p e below s C N Q T (mkF m pc L (.long y :: .long x :: S)) := by
  subst hp; exact Go.st (fun _ k => XS.land X.here hx rfl hd rfl k) h
theorem G_lor (X : Stand p l e R s m args below meth c T locs cells slots) (hx : p.tables.exec = Jvm.exec) {x y : Int64} (hp : pc + 1 = pc') (hd : decode c.code pc = .ok (.lor, 1))  (h : Go p e below s C N Q T (mkF m pc' L (.long (x ||| y) :: S))) : Go p e below s C N Q T (mkF m pc L (.long y :: .long x :: S)) := by
  subst hp; exact Go.st (fun _ k => XS.lor X.here hx rfl hd rfl k) h
theorem G_lxor (X : Stand p l e R s m args below meth c T locs cells slots) (hx : p.tables.exec = Jvm.exec) {x y : Int64} (hp : pc + 1 = pc') (hd : decode c.code pc = .ok (.lxor, 1))  (h : Go p e below s C N Q T (mkF m pc' L (.long (x ^^^ y) :: S))) : Go p e below s C N Q T (mkF m pc L (.long y :: .long x :: S)) := by
  subst hp; exact Go.st (fun _ k => XS.lxor X.here hx rfl hd rfl k) h
theorem G_lshl (X : Stand p l e R s m args below meth c T locs cells slots) (hx : p.tables.exec = Jvm.exec) {x : Int64} {y : Int32} (hp : pc + 1 = pc') (hd : decode c.code pc = .ok (.lshl, 1))  (h : Go p e below s C N Q T (mkF m pc' L (.long (x <<< (y &&& 0x3f).toInt64) :: S))) : Go p e below s C N Q T (mkF m pc L (.int y :: .long x :: S)) := by
  subst hp; exact Go.st (fun _ k => XS.lshl X.here hx rfl hd rfl k) h
theorem G_lshr (X : Stand p l e R s m args below meth c T locs cells slots) (hx : p.tables.exec = Jvm.exec) {x : Int64} {y : Int32} (hp : pc + 1 = pc') (hd : decode c.code pc = .ok (.lshr, 1))  (h : Go p e below s C N Q T (mkF m pc' L (.long (x >>> (y &&& 0x3f).toInt64) :: S))) : Go p e below s C N Q T (mkF m pc L (.int y :: .long x :: S)) := by
  subst hp; exact Go.st (fun _ k => XS.lshr X.here hx rfl hd rfl k) h
theorem G_lushr (X : Stand p l e R s m args below meth c T locs cells slots) (hx : p.tables.exec = Jvm.exec) {x : Int64} {y : Int32} (hp : pc + 1 = pc') (hd : decode c.code pc = .ok (.lushr, 1))  (h : Go p e below s C N Q T (mkF m pc' L (.long ((x.toUInt64 >>> (y &&& 0x3f).toInt64.toUInt64).toInt64) :: S))) : Go p e below s C N Q T (mkF m pc L (.int y :: .long x :: S)) := by
  subst hp; exact Go.st (fun _ k => XS.lushr X.here hx rfl hd rfl k) h
theorem G_idiv (X : Stand p l e R s m args below meth c T locs cells slots) (hx : p.tables.exec = Jvm.exec) {x y : Int32} (hp : pc + 1 = pc') (hd : decode c.code pc = .ok (.idiv, 1)) (hy : y ≠ 0) (h : Go p e below s C N Q T (mkF m pc' L (.int (x / y) :: S))) : Go p e below s C N Q T (mkF m pc L (.int y :: .int x :: S)) := by
  subst hp; exact Go.st (fun _ k => XS.idiv X.here hx rfl hd rfl hy k) h
theorem G_irem (X : Stand p l e R s m args below meth c T locs cells slots) (hx : p.tables.exec = Jvm.exec) {x y : Int32} (hp : pc + 1 = pc') (hd : decode c.code pc = .ok (.irem, 1)) (hy : y ≠ 0) (h : Go p e below s C N Q T (mkF m pc' L (.int (x % y) :: S))) : Go p e below s C N Q T (mkF m pc L (.int y :: .int x :: S)) := by
  subst hp; exact Go.st (fun _ k => iremM X hx rfl hd rfl hy k) h
theorem G_ldiv (X : Stand p l e R s m args below meth c T locs cells slots) (hx : p.tables.exec = Jvm.exec) {x y : Int64} (hp : pc + 1 = pc') (hd : decode c.code pc = .ok (.ldiv, 1)) (hy : y ≠ 0) (h : Go p e below s C N Q T (mkF m pc' L (.long (x / y) :: S))) : Go p e below s C N Q T (mkF m pc L (.long y :: .long x :: S)) := by
  subst hp; exact Go.st (fun _ k => XS.ldiv X.here hx rfl hd rfl hy k) h
theorem G_lrem (X : Stand p l e R s m args below meth c T locs cells slots) (hx : p.tables.exec = Jvm.exec) {x y : Int64} (hp : pc + 1 = pc') (hd : decode c.code pc = .ok (.lrem, 1)) (hy : y ≠ 0) (h : Go p e below s C N Q T (mkF m pc' L (.long (x % y) :: S))) : Go p e below s C N Q T (mkF m pc L (.long y :: .long x :: S)) := by
  subst hp; exact Go.st (fun _ k => XS.lrem X.here hx rfl hd rfl hy (by rw [lrem_mod]; exact k)) h
theorem G_ineg (X : Stand p l e R s m args below meth c T locs cells slots) (hx : p.tables.exec = Jvm.exec) {x : Int32} (hp : pc + 1 = pc') (hd : decode c.code pc = .ok (.ineg, 1))  (h : Go p e below s C N Q T (mkF m pc' L (.int (-x) :: S))) : Go p e below s C N Q T (mkF m pc L (.int x :: S)) := by
  subst hp; exact Go.st (fun _ k => XS.ineg X.here hx rfl hd rfl k) h
theorem G_lneg (X : Stand p l e R s m args below meth c T locs cells slots) (hx : p.tables.exec = Jvm.exec) {x : Int64} (hp : pc + 1 = pc') (hd : decode c.code pc = .ok (.lneg, 1))  (h : Go p e below s C N Q T (mkF m pc' L (.long (-x) :: S))) : Go p e below s C N Q T (mkF m pc L (.long x :: S)) := by
  subst hp; exact Go.st (fun _ k => XS.lneg X.here hx rfl hd rfl k) h
theorem G_i2l (X : Stand p l e R s m args below meth c T locs cells slots) (hx : p.tables.exec = Jvm.exec) {x : Int32} (hp : pc + 1 = pc') (hd : decode c.code pc = .ok (.i2l, 1))  (h : Go p e below s C N Q T (mkF m pc' L (.long (x.toInt64) :: S))) : Go p e below s C N Q T (mkF m pc L (.int x :: S)) := by
  subst hp; exact Go.st (fun _ k => XS.i2l X.here hx rfl hd rfl k) h
theorem G_l2i (X : Stand p l e R s m args below meth c T locs cells slots) (hx : p.tables.exec = Jvm.exec) {x : Int64} (hp : pc + 1 = pc') (hd : decode c.code pc = .ok (.l2i, 1))  (h : Go p e below s C N Q T (mkF m pc' L (.int (x.toInt32) :: S))) : Go p e below s C N Q T (mkF m pc L (.long x :: S)) := by
  subst hp; exact Go.st (fun _ k => XS.l2i X.here hx rfl hd rfl k) h
theorem G_i2b (X : Stand p l e R s m args below meth c T locs cells slots) (hx : p.tables.exec = Jvm.exec) {x : Int32} (hp : pc + 1 = pc') (hd : decode c.code pc = .ok (.i2b, 1))  (h : Go p e below s C N Q T (mkF m pc' L (.int (x.toInt8.toInt32) :: S))) : Go p e below s C N Q T (mkF m pc L (.int x :: S)) := by
  subst hp; exact Go.st (fun _ k => XS.i2b X.here hx rfl hd rfl k) h
theorem G_i2s (X : Stand p l e R s m args below meth c T locs cells slots) (hx : p.tables.exec = Jvm.exec) {x : Int32} (hp : pc + 1 = pc') (hd : decode c.code pc = .ok (.i2s, 1))  (h : Go p e below s C N Q T (mkF m pc' L (.int (x.toInt16.toInt32) :: S))) : Go p e below s C N Q T (mkF m pc L (.int x :: S)) := by
  subst hp; exact Go.st (fun _ k => XS.i2s X.here hx rfl hd rfl k) h
theorem G_i2c (X : Stand p l e R s m args below meth c T locs cells slots) (hx : p.tables.exec = Jvm.exec) {x : Int32} (hp : pc + 1 = pc') (hd : decode c.code pc = .ok (.i2c, 1))  (h : Go p e below s C N Q T (mkF m pc' L (.int (x.toUInt32.toUInt16.toUInt32.toInt32) :: S))) : Go p e below s C N Q T (mkF m pc L (.int x :: S)) := by
  subst hp; exact Go.st (fun _ k => XS.i2c X.here hx rfl hd rfl k) h
theorem G_lcmp (X : Stand p l e R s m args below meth c T locs cells slots) (hx : p.tables.exec = Jvm.exec) {x y : Int64} (hp : pc + 1 = pc') (hd : decode c.code pc = .ok (.lcmp, 1))  (h : Go p e below s C N Q T (mkF m pc' L (.int (lcmpW x y) :: S))) : Go p e below s C N Q T (mkF m pc L (.long y :: .long x :: S)) := by
  subst hp; exact Go.st (fun _ k => XS.lcmp X.here hx rfl hd rfl k) h
theorem G_iinc (X : Stand p l e R s m args below meth c T locs cells slots) (hx : p.tables.exec = Jvm.exec) {k : Nat} {cst : Int} {x z : Int32} (hp : pc + 3 = pc') (hd : decode c.code pc = .ok (.iinc k cst, 3)) (hl : L[k]? = some (.val (.int x))) (hz : x + Int32.ofInt cst = z) (hl' : storeLocals L k (.int z) = some L') (h : Go p e below s C N Q T (mkF m pc' L' S)) : Go p e below s C N Q T (mkF m pc L S) := by
  subst hp; exact Go.st (fun _ k => XS.iinc X.here hx rfl hd hl (by rw [hz]; exact hl') k) h
theorem G_dup (X : Stand p l e R s m args below meth c T locs cells slots) (hx : p.tables.exec = Jvm.exec) {x : Value} (hp : pc + 1 = pc') (hd : decode c.code pc = .ok (.dup, 1)) (hc : x.category = 1) (h : Go p e below s C N Q T (mkF m pc' L (x :: x :: S))) : Go p e below s C N Q T (mkF m pc L (x :: S)) := by
  subst hp; exact Go.st (fun _ k => XS.dup X.here hx rfl hd rfl hc k) h
theorem G_pop (X : Stand p l e R s m args below meth c T locs cells slots) (hx : p.tables.exec = Jvm.exec) {x : Value} (hp : pc + 1 = pc') (hd : decode c.code pc = .ok (.pop, 1)) (hc : x.category = 1) (h : Go p e below s C N Q T (mkF m pc' L S)) : Go p e below s C N Q T (mkF m pc L (x :: S)) := by
  subst hp; exact Go.st (fun _ k => XS.pop X.here hx rfl hd rfl hc k) h
theorem G_dupX1 (X : Stand p l e R s m args below meth c T locs cells slots) (hx : p.tables.exec = Jvm.exec) {x y : Value} (hp : pc + 1 = pc') (hd : decode c.code pc = .ok (.dup_x1, 1)) (hc : x.category = 1) (hc' : y.category = 1) (h : Go p e below s C N Q T (mkF m pc' L (x :: y :: x :: S))) : Go p e below s C N Q T (mkF m pc L (x :: y :: S)) := by
  subst hp; exact Go.st (fun _ k => XS.dupX1 X.here hx rfl hd rfl hc hc' k) h
theorem G_goto (X : Stand p l e R s m args below meth c T locs cells slots) (hx : p.tables.exec = Jvm.exec)  {o : Int} (hd : decode c.code pc = .ok (.goto o, 3))  (ho : 0 ≤ (pc : Int) + o) (hp : ((pc : Int) + o).toNat = pc') (h : Go p e below s C N Q T (mkF m pc' L S)) : Go p e below s C N Q T (mkF m pc L S) :=
  Go.st (fun _ k => XS.goto X.here hx rfl rfl hd ho hp k) h
theorem G_ifYes (X : Stand p l e R s m args below meth c T locs cells slots) (hx : p.tables.exec = Jvm.exec) {cd : ClassFile.Cond} {x : Int32} {o : Int} (hd : decode c.code pc = .ok (.ifCond cd o, 3)) (hc : ifCond.holds cd x = true) (ho : 0 ≤ (pc : Int) + o) (hp : ((pc : Int) + o).toNat = pc') (h : Go p e below s C N Q T (mkF m pc' L S)) : Go p e below s C N Q T (mkF m pc L (.int x :: S)) :=
  Go.st (fun _ k => XS.ifYes X.here hx rfl rfl hd rfl hc ho hp k) h
theorem G_icmpYes (X : Stand p l e R s m args below meth c T locs cells slots) (hx : p.tables.exec = Jvm.exec) {cd : ClassFile.Cond} {x y : Int32} {o : Int} (hd : decode c.code pc = .ok (.if_icmp cd o, 3)) (hc : if_icmp.holds cd x y = true) (ho : 0 ≤ (pc : Int) + o) (hp : ((pc : Int) + o).toNat = pc') (h : Go p e below s C N Q T (mkF m pc' L S)) : Go p e below s C N Q T (mkF m pc L (.int y :: .int x :: S)) :=
  Go.st (fun _ k => XS.icmpYes X.here hx rfl rfl hd rfl hc ho hp k) h
theorem G_ifnullYes (X : Stand p l e R s m args below meth c T locs cells slots) (hx : p.tables.exec = Jvm.exec)  {o : Int} (hd : decode c.code pc = .ok (.ifnull o, 3))  (ho : 0 ≤ (pc : Int) + o) (hp : ((pc : Int) + o).toNat = pc') (h : Go p e below s C N Q T (mkF m pc' L S)) : Go p e below s C N Q T (mkF m pc L (.null :: S)) :=
  Go.st (fun _ k => XS.ifnullYes X.here hx rfl rfl hd rfl ho hp k) h
theorem G_ifnonnullYes (X : Stand p l e R s m args below meth c T locs cells slots) (hx : p.tables.exec = Jvm.exec) {b : Addr} {o : Int} (hd : decode c.code pc = .ok (.ifnonnull o, 3))  (ho : 0 ≤ (pc : Int) + o) (hp : ((pc : Int) + o).toNat = pc') (h : Go p e below s C N Q T (mkF m pc' L S)) : Go p e below s C N Q T (mkF m pc L (.ref b :: S)) :=
  Go.st (fun _ k => XS.ifnonnullYes X.here hx rfl rfl hd rfl ho hp k) h
theorem G_ifNo (X : Stand p l e R s m args below meth c T locs cells slots) (hx : p.tables.exec = Jvm.exec) {cd : ClassFile.Cond} {x : Int32} {o : Int} (hp : pc + 3 = pc') (hd : decode c.code pc = .ok (.ifCond cd o, 3)) (hc : ifCond.holds cd x = false) (h : Go p e below s C N Q T (mkF m pc' L S)) : Go p e below s C N Q T (mkF m pc L (.int x :: S)) := by
  subst hp; exact Go.st (fun _ k => XS.ifNo X.here hx rfl hd rfl hc k) h
theorem G_icmpNo (X : Stand p l e R s m args below meth c T locs cells slots) (hx : p.tables.exec = Jvm.exec) {cd : ClassFile.Cond} {x y : Int32} {o : Int} (hp : pc + 3 = pc') (hd : decode c.code pc = .ok (.if_icmp cd o, 3)) (hc : if_icmp.holds cd x y = false) (h : Go p e below s C N Q T (mkF m pc' L S)) : Go p e below s C N Q T (mkF m pc L (.int y :: .int x :: S)) := by
  subst hp; exact Go.st (fun _ k => XS.icmpNo X.here hx rfl hd rfl hc k) h
theorem G_ifnullNo (X : Stand p l e R s m args below meth c T locs cells slots) (hx : p.tables.exec = Jvm.exec) {b : Addr} {o : Int} (hp : pc + 3 = pc') (hd : decode c.code pc = .ok (.ifnull o, 3))  (h : Go p e below s C N Q T (mkF m pc' L S)) : Go p e below s C N Q T (mkF m pc L (.ref b :: S)) := by
  subst hp; exact Go.st (fun _ k => XS.ifnullNo X.here hx rfl hd rfl k) h
theorem G_ifnonnullNo (X : Stand p l e R s m args below meth c T locs cells slots) (hx : p.tables.exec = Jvm.exec) {o : Int} (hp : pc + 3 = pc') (hd : decode c.code pc = .ok (.ifnonnull o, 3))  (h : Go p e below s C N Q T (mkF m pc' L S)) : Go p e below s C N Q T (mkF m pc L (.null :: S)) := by
  subst hp; exact Go.st (fun _ k => XS.ifnonnullNo X.here hx rfl hd rfl k) h
theorem G_ldc (X : Stand p l e R s m args below meth c T locs cells slots) (hx : p.tables.exec = Jvm.exec) (hp : pc + 2 = pc') {own : String} {index : Nat} {v : Int32} (hown : s.vm.findClass own = some m.cls) (hw : (Cond.constant own index v).before args s = true) (hd : decode c.code pc = .ok (.ldc index, 2)) (h : Go p e below s C N Q T (mkF m pc' L (.int v :: S))) : Go p e below s C N Q T (mkF m pc L S) := by
  subst hp; exact Go.st (X.ldcInt hx hown hw (g := mkF m pc L S) rfl hd) h
theorem G_ldc2 (X : Stand p l e R s m args below meth c T locs cells slots) (hx : p.tables.exec = Jvm.exec) (hp : pc + 3 = pc') {own : String} {index : Nat} {v : Int64} (hown : s.vm.findClass own = some m.cls) (hw : (Cond.constantLong own index v).before args s = true) (hd : decode c.code pc = .ok (.ldc2_w index, 3)) (h : Go p e below s C N Q T (mkF m pc' L (.long v :: S))) : Go p e below s C N Q T (mkF m pc L S) := by
  subst hp; exact Go.st (X.ldc2Long hx hown hw (g := mkF m pc L S) rfl hd) h
end OwnG

section OwnArr
variable {p : Program} {l : Launch} {e : Env} {R : Room} {s : State} {m : MethodId} {args : Array Value} {below : List Frame} {meth : Method} {c : Code} {T T' : State} {locs : List Loc} {cells slots : Nat} {Z : State} {a0 : Array Value} {h h' : Heap} {a b : Addr} {ty : FieldType} {vs : List Value} {xs : List Int32} {ys : List Int64} {v : Value} {sl : Nat} {ws : List Addr}
/-- the array at a, of components ty, holds just these values -/
def AV (Z : State) (h : Heap) (a : Addr) (ty : FieldType) (vs : List Value) : Prop := ∃ c : Cell, Arr Z h a c ty ∧ c.slots = vs.toArray ∧ vs.length < 2147483648 ∧ ∀ v ∈ vs, fits ty v = true
def AI (Z : State) (h : Heap) (a : Addr) (ty : FieldType) (xs : List Int32) : Prop := AV Z h a ty (xs.map Value.int)
def AJ (Z : State) (h : Heap) (a : Addr) (ys : List Int64) : Prop := AV Z h a .long (ys.map Value.long)
theorem AV.lt (F : AV Z h a ty vs) : a < h.size := by obtain ⟨c, A, -⟩ := F; exact A.lt
theorem AV.ext (F : AV Z h a ty vs) (E : Ext h h') : AV Z h' a ty vs := by obtain ⟨c, A, r⟩ := F; exact ⟨c, A.ext E, r⟩
theorem AV.other (F : AV Z h b ty vs) (W : Wr h h' a sl v) (q : b ≠ a) : AV Z h' b ty vs := by obtain ⟨c, A, r⟩ := F; exact ⟨c, A.other W q, r⟩
theorem AV.keep (F : AV Z h a ty vs) (K : Keep h h' ws) (q : a ∉ ws) : AV Z h' a ty vs := by obtain ⟨c, A, r⟩ := F; exact ⟨c, ⟨K.2.1 a c A.1 q, A.2⟩, r⟩
theorem AI.lt (F : AI Z h a ty xs) : a < h.size := AV.lt F
theorem AI.ext (F : AI Z h a ty xs) (E : Ext h h') : AI Z h' a ty xs := AV.ext F E
theorem AI.other (F : AI Z h b ty xs) (W : Wr h h' a sl v) (q : b ≠ a) : AI Z h' b ty xs := AV.other F W q
theorem AI.keep (F : AI Z h a ty xs) (K : Keep h h' ws) (q : a ∉ ws) : AI Z h' a ty xs := AV.keep F K q
theorem AJ.lt (F : AJ Z h a ys) : a < h.size := AV.lt F
theorem AJ.ext (F : AJ Z h a ys) (E : Ext h h') : AJ Z h' a ys := AV.ext F E
theorem AJ.other (F : AJ Z h b ys) (W : Wr h h' a sl v) (q : b ≠ a) : AJ Z h' b ys := AV.other F W q
theorem AJ.keep (F : AJ Z h a ys) (K : Keep h h' ws) (q : a ∉ ws) : AJ Z h' a ys := AV.keep F K q
theorem own_in {j : Int32} {n : Nat} (h1 : ¬ j < 0) (h2 : j.toNatClampNeg < n) : ¬ (j < 0 ∨ n ≤ j.toNatClampNeg) := fun q => q.elim h1 (fun r => by omega)
theorem AV.new {k : ClassId} {n : Int32} (A : Arr Z h a (newA k ty n) ty) (q : ¬ n < 0) (hf : fits ty (defaultValue ty) = true) : AV Z h a ty (List.replicate n.toNatClampNeg (defaultValue ty)) := by
  refine ⟨_, A, by simp [newA], ?_, fun v hv => ?_⟩
  · rw [List.length_replicate]; exact (back32 q).2
  · rw [List.eq_of_mem_replicate hv]; exact hf
theorem AV.set {cl : Cell} {jn : Nat} (A : Arr Z h a cl ty) (e1 : cl.slots = vs.toArray) (e2 : vs.length < 2147483648) (e3 : ∀ v ∈ vs, fits ty v = true) (hv : fits ty v = true) (W : Wr h h' a jn v) : AV Z h' a ty (vs.set jn v) := by
  refine ⟨cl.setSlot jn v, A.same W, ?_, by rw [List.length_set]; exact e2, fun w hw => ?_⟩
  · simp [Cell.setSlot, e1]
  · rcases List.mem_or_eq_of_mem_set hw with q | q
    · exact e3 w q
    · rw [q]; exact hv
theorem newAI (X : Stand p l e R s m args below meth c T locs cells slots) (hx : p.tables.exec = Jvm.exec) (hZ : Z.Warmed39 s.vm) {aty : ArrayType} (w : (Cond.arrayClass (newarray.typeOf aty)).before a0 Z = true) (eT : T.heap = h) {g : JFrame} (hg : g.method = m) (hd : decode c.code g.pc = .ok (.newarray aty, 2)) {n : Int32} {rest : List Value} (hs : g.stack = .int n :: rest)
    (hn : ¬ n < 0) {ty : FieldType} (hty : newarray.typeOf aty = ty) (hdv : defaultValue ty = .int 0 ∧ fits ty (.int 0) = true) {cap : Nat} (hcap : n.toNatClampNeg ≤ cap) (hb : cap * 8 ≤ 536870912) (hc : cells + 1 ≤ R.cells) (hl : slots + cap ≤ R.slots) {ad : String} (had : "[" ++ (newarray.typeOf aty).toString = ad) :
    ∃ T' h', Stand p l e R s m args below meth c T' locs (cells + 1) (slots + cap) ∧ T'.heap = h' ∧ Ext h h' ∧ Exa Z h' h.size ad ∧ AI Z h' h.size ty (List.replicate n.toNatClampNeg 0) ∧
      ∀ target, Steps p.tables e below (T'.setTop { g with pc := g.pc + 2, stack := .ref h.size :: rest }) target → Steps p.tables e below (T.setTop g) target := by
  subst hty
  obtain ⟨T', h', cA, X', e', E', A', B', st⟩ := newPE X hx hZ w eT hg hd hs hn hcap hb hc hl had
  have V := AV.new A' hn (by rw [hdv.1]; exact hdv.2)
  refine ⟨T', h', X', e', E', B', ?_, st⟩
  unfold AI
  rw [List.map_replicate, ← hdv.1]
  exact V
theorem newAJ (X : Stand p l e R s m args below meth c T locs cells slots) (hx : p.tables.exec = Jvm.exec) (hZ : Z.Warmed39 s.vm) (w : (Cond.arrayClass .long).before a0 Z = true) (eT : T.heap = h) {g : JFrame} (hg : g.method = m) (hd : decode c.code g.pc = .ok (.newarray .long, 2)) {n : Int32} {rest : List Value} (hs : g.stack = .int n :: rest)
    (hn : ¬ n < 0) {cap : Nat} (hcap : n.toNatClampNeg ≤ cap) (hb : cap * 8 ≤ 536870912) (hc : cells + 1 ≤ R.cells) (hl : slots + cap ≤ R.slots) {ad : String} (had : "[" ++ (newarray.typeOf .long).toString = ad) :
    ∃ T' h', Stand p l e R s m args below meth c T' locs (cells + 1) (slots + cap) ∧ T'.heap = h' ∧ Ext h h' ∧ Exa Z h' h.size ad ∧ AJ Z h' h.size (List.replicate n.toNatClampNeg 0) ∧
      ∀ target, Steps p.tables e below (T'.setTop { g with pc := g.pc + 2, stack := .ref h.size :: rest }) target → Steps p.tables e below (T.setTop g) target := by
  obtain ⟨T', h', cA, X', e', E', A', B', st⟩ := newPE X hx hZ (aty := .long) w eT hg hd hs hn hcap hb hc hl had
  have V := AV.new A' hn rfl
  refine ⟨T', h', X', e', E', B', ?_, st⟩
  unfold AJ
  rw [List.map_replicate]
  exact V
theorem own_len {n : Nat} (h : n < 2147483648) : n.toInt32 = Int32.ofNat n := rfl
theorem lenAV (X : Stand p l e R s m args below meth c T locs cells slots) (hx : p.tables.exec = Jvm.exec) (hZ : Z.Warmed39 s.vm) (eT : T.heap = h) (A : AV Z h a ty vs) {g : JFrame} (hg : g.method = m) {rest : List Value} (hs : g.stack = .ref a :: rest) (hd : decode c.code g.pc = .ok (.arraylength, 1)) :
    ∀ target, Steps p.tables e below (T.setTop { g with pc := g.pc + 1, stack := .int (Int32.ofNat vs.length) :: rest }) target → Steps p.tables e below (T.setTop g) target := by
  obtain ⟨cl, A, e1, e2, e3⟩ := A
  intro target k
  have hl : cl.slots.size.toInt32 = Int32.ofNat vs.length := by rw [e1]; rfl
  refine X.arraylength hx (cell := cl) (by rw [eT]; exact A.1) (State.isArrayOf_alike hZ.alike A.2.1) hg hs hd _ ?_
  rw [hl]; exact k
theorem lenAI (X : Stand p l e R s m args below meth c T locs cells slots) (hx : p.tables.exec = Jvm.exec) (hZ : Z.Warmed39 s.vm) (eT : T.heap = h) (A : AI Z h a ty xs) {g : JFrame} (hg : g.method = m) {rest : List Value} (hs : g.stack = .ref a :: rest) (hd : decode c.code g.pc = .ok (.arraylength, 1)) :
    ∀ target, Steps p.tables e below (T.setTop { g with pc := g.pc + 1, stack := .int (Int32.ofNat xs.length) :: rest }) target → Steps p.tables e below (T.setTop g) target := by
  have k := lenAV X hx hZ eT A hg hs hd
  rw [List.length_map] at k; exact k
theorem lenAJ (X : Stand p l e R s m args below meth c T locs cells slots) (hx : p.tables.exec = Jvm.exec) (hZ : Z.Warmed39 s.vm) (eT : T.heap = h) (A : AJ Z h a ys) {g : JFrame} (hg : g.method = m) {rest : List Value} (hs : g.stack = .ref a :: rest) (hd : decode c.code g.pc = .ok (.arraylength, 1)) :
    ∀ target, Steps p.tables e below (T.setTop { g with pc := g.pc + 1, stack := .int (Int32.ofNat ys.length) :: rest }) target → Steps p.tables e below (T.setTop g) target := by
  have k := lenAV X hx hZ eT A hg hs hd
  rw [List.length_map] at k; exact k
theorem own_getI {jn : Nat} (h2 : jn < xs.length) : (xs.map Value.int).toArray[jn]? = some (.int (xs.getD jn 0)) := by
  simp [List.getD_eq_getElem?_getD, h2]
theorem own_getJ {jn : Nat} (h2 : jn < ys.length) : (ys.map Value.long).toArray[jn]? = some (.long (ys.getD jn 0)) := by
  simp [List.getD_eq_getElem?_getD, h2]
theorem ldAI (X : Stand p l e R s m args below meth c T locs cells slots) (hx : p.tables.exec = Jvm.exec) (hZ : Z.Warmed39 s.vm) (eT : T.heap = h) (A : AI Z h a .int xs) {j : Int32} (h1 : ¬ j < 0) (h2 : j.toNatClampNeg < xs.length) {g : JFrame} (hg : g.method = m) {rest : List Value} (hs : g.stack = .int j :: .ref a :: rest) (hd : decode c.code g.pc = .ok (.iaload, 1)) :
    ∀ target, Steps p.tables e below (T.setTop { g with pc := g.pc + 1, stack := .int (xs.getD j.toNatClampNeg 0) :: rest }) target → Steps p.tables e below (T.setTop g) target := by
  obtain ⟨cl, A, e1, e2, e3⟩ := A
  intro target k
  refine X.iaload hx (cell := cl) (by rw [eT]; exact A.1) (State.isArrayOf_alike hZ.alike A.2.1) A.2.2 (own_in h1 (by rw [e1]; simpa using h2)) (by rw [e1]; exact own_getI h2) hg hs hd _ k
theorem ldAB (X : Stand p l e R s m args below meth c T locs cells slots) (hx : p.tables.exec = Jvm.exec) (hZ : Z.Warmed39 s.vm) (eT : T.heap = h) (A : AI Z h a .byte xs) {j : Int32} (h1 : ¬ j < 0) (h2 : j.toNatClampNeg < xs.length) {g : JFrame} (hg : g.method = m) {rest : List Value} (hs : g.stack = .int j :: .ref a :: rest) (hd : decode c.code g.pc = .ok (.baload, 1)) :
    ∀ target, Steps p.tables e below (T.setTop { g with pc := g.pc + 1, stack := .int (xs.getD j.toNatClampNeg 0) :: rest }) target → Steps p.tables e below (T.setTop g) target := by
  obtain ⟨cl, A, e1, e2, e3⟩ := A
  intro target k
  refine X.baloadBytes hx (cell := cl) (by rw [eT]; exact A.1) (State.isArrayOf_alike hZ.alike A.2.1) A.2.2 (own_in h1 (by rw [e1]; simpa using h2)) (by rw [e1]; exact own_getI h2) hg hs hd _ k
theorem ldAJ (X : Stand p l e R s m args below meth c T locs cells slots) (hx : p.tables.exec = Jvm.exec) (hZ : Z.Warmed39 s.vm) (eT : T.heap = h) (A : AJ Z h a ys) {j : Int32} (h1 : ¬ j < 0) (h2 : j.toNatClampNeg < ys.length) {g : JFrame} (hg : g.method = m) {rest : List Value} (hs : g.stack = .int j :: .ref a :: rest) (hd : decode c.code g.pc = .ok (.laload, 1)) :
    ∀ target, Steps p.tables e below (T.setTop { g with pc := g.pc + 1, stack := .long (ys.getD j.toNatClampNeg 0) :: rest }) target → Steps p.tables e below (T.setTop g) target := by
  obtain ⟨cl, A, e1, e2, e3⟩ := A
  intro target k
  refine X.laload hx (cell := cl) (by rw [eT]; exact A.1) (State.isArrayOf_alike hZ.alike A.2.1) A.2.2 (own_in h1 (by rw [e1]; simpa using h2)) (by rw [e1]; exact own_getJ h2) hg hs hd _ k
theorem stAI (X : Stand p l e R s m args below meth c T locs cells slots) (hx : p.tables.exec = Jvm.exec) (hZ : Z.Warmed39 s.vm) (eT : T.heap = h) (A : AI Z h a .int xs) {j x : Int32} (h1 : ¬ j < 0) (h2 : j.toNatClampNeg < xs.length) {g : JFrame} (hg : g.method = m) {rest : List Value} (hs : g.stack = .int x :: .int j :: .ref a :: rest) (hd : decode c.code g.pc = .ok (.iastore, 1)) :
    ∃ T' h', Stand p l e R s m args below meth c T' (locs ++ [⟨a, j.toNatClampNeg⟩]) cells slots ∧ T'.heap = h' ∧ Wr h h' a j.toNatClampNeg (.int x) ∧ AI Z h' a .int (xs.set j.toNatClampNeg x) ∧ ∀ target, Steps p.tables e below (T'.setTop { g with pc := g.pc + 1, stack := rest }) target → Steps p.tables e below (T.setTop g) target := by
  obtain ⟨cl, A, e1, e2, e3⟩ := A
  obtain ⟨T', h', X', e', W', st⟩ := stI X hx hZ eT A (own_in h1 (by rw [e1]; simpa using h2)) hg hs hd
  refine ⟨T', h', X', e', W', ?_, st⟩
  unfold AI
  rw [List.map_set]
  exact AV.set A e1 e2 e3 rfl W'
theorem stAB (X : Stand p l e R s m args below meth c T locs cells slots) (hx : p.tables.exec = Jvm.exec) (hZ : Z.Warmed39 s.vm) (eT : T.heap = h) (A : AI Z h a .byte xs) {j x : Int32} (h1 : ¬ j < 0) (h2 : j.toNatClampNeg < xs.length) {g : JFrame} (hg : g.method = m) {rest : List Value} (hs : g.stack = .int x :: .int j :: .ref a :: rest) (hd : decode c.code g.pc = .ok (.bastore, 1)) :
    ∃ T' h', Stand p l e R s m args below meth c T' (locs ++ [⟨a, j.toNatClampNeg⟩]) cells slots ∧ T'.heap = h' ∧ Wr h h' a j.toNatClampNeg (.int (x.toInt8.toInt32)) ∧ AI Z h' a .byte (xs.set j.toNatClampNeg (x.toInt8.toInt32)) ∧ ∀ target, Steps p.tables e below (T'.setTop { g with pc := g.pc + 1, stack := rest }) target → Steps p.tables e below (T.setTop g) target := by
  obtain ⟨cl, A, e1, e2, e3⟩ := A
  obtain ⟨T', h', X', e', W', st⟩ := stB X hx hZ eT A (own_in h1 (by rw [e1]; simpa using h2)) hg hs hd
  refine ⟨T', h', X', e', W', ?_, st⟩
  unfold AI
  rw [List.map_set]
  exact AV.set A e1 e2 e3 (fits_nar_byte x) W'
theorem own_b2 (y : Int32) : (y.toInt8.toInt32).toInt8.toInt32 = y.toInt8.toInt32 := by simp
theorem stABn (X : Stand p l e R s m args below meth c T locs cells slots) (hx : p.tables.exec = Jvm.exec) (hZ : Z.Warmed39 s.vm) (eT : T.heap = h) (A : AI Z h a .byte xs) {j y : Int32} (h1 : ¬ j < 0) (h2 : j.toNatClampNeg < xs.length) {g : JFrame} (hg : g.method = m) {rest : List Value} (hs : g.stack = .int (y.toInt8.toInt32) :: .int j :: .ref a :: rest) (hd : decode c.code g.pc = .ok (.bastore, 1)) :
    ∃ T' h', Stand p l e R s m args below meth c T' (locs ++ [⟨a, j.toNatClampNeg⟩]) cells slots ∧ T'.heap = h' ∧ Wr h h' a j.toNatClampNeg (.int (y.toInt8.toInt32)) ∧ AI Z h' a .byte (xs.set j.toNatClampNeg (y.toInt8.toInt32)) ∧ ∀ target, Steps p.tables e below (T'.setTop { g with pc := g.pc + 1, stack := rest }) target → Steps p.tables e below (T.setTop g) target := by
  have k := stAB X hx hZ eT A h1 h2 hg hs hd
  rw [own_b2] at k
  exact k
theorem stAJ (X : Stand p l e R s m args below meth c T locs cells slots) (hx : p.tables.exec = Jvm.exec) (hZ : Z.Warmed39 s.vm) (eT : T.heap = h) (A : AJ Z h a ys) {j : Int32} {x : Int64} (h1 : ¬ j < 0) (h2 : j.toNatClampNeg < ys.length) {g : JFrame} (hg : g.method = m) {rest : List Value} (hs : g.stack = .long x :: .int j :: .ref a :: rest) (hd : decode c.code g.pc = .ok (.lastore, 1)) :
    ∃ T' h', Stand p l e R s m args below meth c T' (locs ++ [⟨a, j.toNatClampNeg⟩]) cells slots ∧ T'.heap = h' ∧ Wr h h' a j.toNatClampNeg (.long x) ∧ AJ Z h' a (ys.set j.toNatClampNeg x) ∧ ∀ target, Steps p.tables e below (T'.setTop { g with pc := g.pc + 1, stack := rest }) target → Steps p.tables e below (T.setTop g) target := by
  obtain ⟨cl, A, e1, e2, e3⟩ := A
  obtain ⟨T', h', X', e', W', st⟩ := stJ X hx hZ eT A (own_in h1 (by rw [e1]; simpa using h2)) hg hs hd
  refine ⟨T', h', X', e', W', ?_, st⟩
  unfold AJ
  rw [List.map_set]
  exact AV.set A e1 e2 e3 rfl W'
theorem ldAIL (X : Stand p l e R s m args below meth c T locs cells slots) (hx : p.tables.exec = Jvm.exec) (hZ : Z.Warmed39 s.vm) (eT : T.heap = h) (A : AI Z h a .int xs) {j : Int32} (h1 : ¬ j < 0) {jn : Nat} (hj : j.toNatClampNeg = jn) (h2 : jn < xs.length) {g : JFrame} (hg : g.method = m) {rest : List Value} (hs : g.stack = .int j :: .ref a :: rest) (hd : decode c.code g.pc = .ok (.iaload, 1)) :
    ∀ target, Steps p.tables e below (T.setTop { g with pc := g.pc + 1, stack := .int (xs.getD jn 0) :: rest }) target → Steps p.tables e below (T.setTop g) target := by
  subst hj; exact ldAI X hx hZ eT A h1 h2 hg hs hd
theorem ldABL (X : Stand p l e R s m args below meth c T locs cells slots) (hx : p.tables.exec = Jvm.exec) (hZ : Z.Warmed39 s.vm) (eT : T.heap = h) (A : AI Z h a .byte xs) {j : Int32} (h1 : ¬ j < 0) {jn : Nat} (hj : j.toNatClampNeg = jn) (h2 : jn < xs.length) {g : JFrame} (hg : g.method = m) {rest : List Value} (hs : g.stack = .int j :: .ref a :: rest) (hd : decode c.code g.pc = .ok (.baload, 1)) :
    ∀ target, Steps p.tables e below (T.setTop { g with pc := g.pc + 1, stack := .int (xs.getD jn 0) :: rest }) target → Steps p.tables e below (T.setTop g) target := by
  subst hj; exact ldAB X hx hZ eT A h1 h2 hg hs hd
theorem ldAJL (X : Stand p l e R s m args below meth c T locs cells slots) (hx : p.tables.exec = Jvm.exec) (hZ : Z.Warmed39 s.vm) (eT : T.heap = h) (A : AJ Z h a ys) {j : Int32} (h1 : ¬ j < 0) {jn : Nat} (hj : j.toNatClampNeg = jn) (h2 : jn < ys.length) {g : JFrame} (hg : g.method = m) {rest : List Value} (hs : g.stack = .int j :: .ref a :: rest) (hd : decode c.code g.pc = .ok (.laload, 1)) :
    ∀ target, Steps p.tables e below (T.setTop { g with pc := g.pc + 1, stack := .long (ys.getD jn 0) :: rest }) target → Steps p.tables e below (T.setTop g) target := by
  subst hj; exact ldAJ X hx hZ eT A h1 h2 hg hs hd
theorem stAIL (X : Stand p l e R s m args below meth c T locs cells slots) (hx : p.tables.exec = Jvm.exec) (hZ : Z.Warmed39 s.vm) (eT : T.heap = h) (A : AI Z h a .int xs) {j x : Int32} (h1 : ¬ j < 0) {jn : Nat} (hj : j.toNatClampNeg = jn) (h2 : jn < xs.length) {g : JFrame} (hg : g.method = m) {rest : List Value} (hs : g.stack = .int x :: .int j :: .ref a :: rest) (hd : decode c.code g.pc = .ok (.iastore, 1)) :
    ∃ T' h', Stand p l e R s m args below meth c T' (locs ++ [⟨a, j.toNatClampNeg⟩]) cells slots ∧ T'.heap = h' ∧ Wr h h' a j.toNatClampNeg (.int x) ∧ AI Z h' a .int (xs.set jn x) ∧ ∀ target, Steps p.tables e below (T'.setTop { g with pc := g.pc + 1, stack := rest }) target → Steps p.tables e below (T.setTop g) target := by
  subst hj; exact stAI X hx hZ eT A h1 h2 hg hs hd
theorem stABL (X : Stand p l e R s m args below meth c T locs cells slots) (hx : p.tables.exec = Jvm.exec) (hZ : Z.Warmed39 s.vm) (eT : T.heap = h) (A : AI Z h a .byte xs) {j x : Int32} (h1 : ¬ j < 0) {jn : Nat} (hj : j.toNatClampNeg = jn) (h2 : jn < xs.length) {g : JFrame} (hg : g.method = m) {rest : List Value} (hs : g.stack = .int x :: .int j :: .ref a :: rest) (hd : decode c.code g.pc = .ok (.bastore, 1)) :
    ∃ T' h', Stand p l e R s m args below meth c T' (locs ++ [⟨a, j.toNatClampNeg⟩]) cells slots ∧ T'.heap = h' ∧ Wr h h' a j.toNatClampNeg (.int (x.toInt8.toInt32)) ∧ AI Z h' a .byte (xs.set jn (x.toInt8.toInt32)) ∧ ∀ target, Steps p.tables e below (T'.setTop { g with pc := g.pc + 1, stack := rest }) target → Steps p.tables e below (T.setTop g) target := by
  subst hj; exact stAB X hx hZ eT A h1 h2 hg hs hd
theorem stABnL (X : Stand p l e R s m args below meth c T locs cells slots) (hx : p.tables.exec = Jvm.exec) (hZ : Z.Warmed39 s.vm) (eT : T.heap = h) (A : AI Z h a .byte xs) {j y : Int32} (h1 : ¬ j < 0) {jn : Nat} (hj : j.toNatClampNeg = jn) (h2 : jn < xs.length) {g : JFrame} (hg : g.method = m) {rest : List Value} (hs : g.stack = .int (y.toInt8.toInt32) :: .int j :: .ref a :: rest) (hd : decode c.code g.pc = .ok (.bastore, 1)) :
    ∃ T' h', Stand p l e R s m args below meth c T' (locs ++ [⟨a, j.toNatClampNeg⟩]) cells slots ∧ T'.heap = h' ∧ Wr h h' a j.toNatClampNeg (.int (y.toInt8.toInt32)) ∧ AI Z h' a .byte (xs.set jn (y.toInt8.toInt32)) ∧ ∀ target, Steps p.tables e below (T'.setTop { g with pc := g.pc + 1, stack := rest }) target → Steps p.tables e below (T.setTop g) target := by
  subst hj; exact stABn X hx hZ eT A h1 h2 hg hs hd
theorem stAJL (X : Stand p l e R s m args below meth c T locs cells slots) (hx : p.tables.exec = Jvm.exec) (hZ : Z.Warmed39 s.vm) (eT : T.heap = h) (A : AJ Z h a ys) {j : Int32} {x : Int64} (h1 : ¬ j < 0) {jn : Nat} (hj : j.toNatClampNeg = jn) (h2 : jn < ys.length) {g : JFrame} (hg : g.method = m) {rest : List Value} (hs : g.stack = .long x :: .int j :: .ref a :: rest) (hd : decode c.code g.pc = .ok (.lastore, 1)) :
    ∃ T' h', Stand p l e R s m args below meth c T' (locs ++ [⟨a, j.toNatClampNeg⟩]) cells slots ∧ T'.heap = h' ∧ Wr h h' a j.toNatClampNeg (.long x) ∧ AJ Z h' a (ys.set jn x) ∧ ∀ target, Steps p.tables e below (T'.setTop { g with pc := g.pc + 1, stack := rest }) target → Steps p.tables e below (T.setTop g) target := by
  subst hj; exact stAJ X hx hZ eT A h1 h2 hg hs hd
end OwnArr
section OwnClone
variable {p : Program} {l : Launch} {e : Env} {R : Room} {s : State} {m : MethodId} {args : Array Value} {below : List Frame} {meth : Method} {c : Code} {T T' : State} {locs : List Loc} {cells slots : Nat} {Z : State} {a0 : Array Value} {h h' : Heap} {a b : Addr} {ty : FieldType} {xs : List Int32}
theorem cloneAI (X : Stand p l e R s m args below meth c T locs cells slots) (hx : p.tables.exec = Jvm.exec) (hZ : Z.Warmed39 s.vm) {own ad : String} {index : Nat} (hown : s.vm.findClass own = some m.cls)
    (w1 : (Cond.methodLink own index ⟨ad, "clone", "()Ljava/lang/Object;"⟩).before a0 Z = true) (w2 : (Cond.sameMethod ad "java/lang/Object" "clone" "()Ljava/lang/Object;").before a0 Z = true) (w3 : (Cond.native ⟨"java/lang/Object", "clone", "()Ljava/lang/Object;"⟩).before a0 Z = true)
    (w4 : (Cond.instanceMethod ⟨"java/lang/Object", "clone", "()Ljava/lang/Object;"⟩).before a0 Z = true) (w5 : (Cond.selects ad ⟨ad, "clone", "()Ljava/lang/Object;"⟩ ⟨"java/lang/Object", "clone", "()Ljava/lang/Object;"⟩).before a0 Z = true) (w6 : (Cond.castable ad "java/lang/Cloneable").before a0 Z = true)
    (eT : T.heap = h) (A : AI Z h a ty xs) (E : Exa Z h a ad) {g : JFrame} (hg : g.method = m) (hsize : g.locals.size = c.maxLocals) {rest : List Value} (hst : g.stack = .ref a :: rest) (hd : decode c.code g.pc = .ok (.invokevirtual index, 3))
    (hf : 1 ≤ R.frames) {W cap : Nat} (hW : 2 * g.monitorRoom + (rest.map fun v => v.category).sum ≤ W) (hl : W + 14 ≤ R.locals) (hcap : xs.length ≤ cap) (hc : cells + 1 ≤ R.cells) (hsl : slots + cap ≤ R.slots) :
    ∃ T' h', Stand p l e R s m args below meth c T' locs (cells + 1) (slots + cap) ∧ T'.heap = h' ∧ Ext h h' ∧ Exa Z h' h.size ad ∧ AI Z h' h.size ty xs ∧
      ∀ target, Steps p.tables e below (T'.setTop { g with pc := g.pc + 3, stack := .ref h.size :: rest }) target → Steps p.tables e below (T.setTop g) target := by
  obtain ⟨cl, A, e1, e2, e3⟩ := A
  have FC : FitC Z cl := fitC_of A fun i hi v hv => by
    rw [e1] at hv
    exact e3 v (by simpa using Array.mem_of_getElem? hv)
  obtain ⟨T', h', X', e', ex, A', E', st⟩ := cloneA X hx hZ hown w1 w2 w3 w4 w5 w6 eT A E FC hg hsize hst hd hf hW hl (by rw [e1]; simpa using hcap) hc hsl
  exact ⟨T', h', X', e', ex, E', ⟨_, A', e1, e2, e3⟩, st⟩
end OwnClone


def own_bit (m i : Int32) : Int32 := (((m.toUInt32 >>> (i &&& 31).toUInt32).toInt32) &&& (1 : Int32))
/-- i is below the count, and its bit is set (p = 1) or not (p = 0) -/
def own_c (m c p i : Int32) : Bool := decide (i < c) && decide ((if own_bit m i = 0 then (0 : Int32) else 1) = p)
def own_opt (m c p i : Int32) : List Int32 := if own_c m c p i = true then [i] else []
def own_B : List Int32 := [0, 1, 2, 3, 4, 5, 6]
def own_P (j : Nat) (m c p : Int32) : List Int32 := (own_B.take j).filter (own_c m c p)
def own_R (j : Nat) (m c p : Int32) : List Int32 := (own_B.drop j).filter (own_c m c p)
theorem own_cT0 {m c p i : Int32} (h1 : i < c) (h2 : (((m.toUInt32 >>> (i &&& 31).toUInt32).toInt32) &&& (1 : Int32)) = 0) (h3 : (0 : Int32) = p) : own_c m c p i = true := by
  have h : own_bit m i = 0 := h2
  unfold own_c; rw [if_pos h]; simp [h1, h3]
theorem own_cT1 {m c p i : Int32} (h1 : i < c) (h2 : ¬ (((m.toUInt32 >>> (i &&& 31).toUInt32).toInt32) &&& (1 : Int32)) = 0) (h3 : (1 : Int32) = p) : own_c m c p i = true := by
  have h : ¬ own_bit m i = 0 := h2
  unfold own_c; rw [if_neg h]; simp [h1, h3]
theorem own_cF {m c p i : Int32} (h1 : ¬ i < c) : own_c m c p i = false := by
  unfold own_c; simp [h1]
theorem own_cF0 {m c p i : Int32} (h2 : (((m.toUInt32 >>> (i &&& 31).toUInt32).toInt32) &&& (1 : Int32)) = 0) (h3 : ¬ (0 : Int32) = p) : own_c m c p i = false := by
  have h : own_bit m i = 0 := h2
  unfold own_c; rw [if_pos h]; simp [h3]
theorem own_cF1 {m c p i : Int32} (h2 : ¬ (((m.toUInt32 >>> (i &&& 31).toUInt32).toInt32) &&& (1 : Int32)) = 0) (h3 : ¬ (1 : Int32) = p) : own_c m c p i = false := by
  have h : ¬ own_bit m i = 0 := h2
  unfold own_c; rw [if_neg h]; simp [h3]
theorem own_nat {n : Nat} (h : n ≤ 7) : (Int32.ofNat n).toInt = n ∧ (Int32.ofNat n).toNatClampNeg = n ∧ ¬ Int32.ofNat n < 0 := by
  have e : (Int32.ofNat n).toInt = n := Int32.toInt_ofNat_of_lt (by omega)
  refine ⟨e, by rw [Int32.toNatClampNeg, e]; rfl, ?_⟩
  rw [Int32.lt_iff_toInt_lt, e, show (0 : Int32).toInt = 0 from rfl]; omega
theorem own_up (n : Nat) : Int32.ofNat n + (1 : Int32) = Int32.ofNat (n + 1) := (Int32.ofNat_add n 1).symm
theorem own_oT {m c p i : Int32} (h : own_c m c p i = true) : own_opt m c p i = [i] := by unfold own_opt; rw [if_pos h]
theorem own_oF {m c p i : Int32} (h : own_c m c p i = false) : own_opt m c p i = [] := by unfold own_opt; rw [if_neg (by rw [h]; decide)]
theorem own_put1 {m c p i k : Int32} {ys : List Int32} (h : own_c m c p i = true) (hk : k = Int32.ofNat ys.length) : k + (1 : Int32) = Int32.ofNat (ys ++ own_opt m c p i).length := by
  rw [own_oT h, hk, own_up]; simp
theorem own_put3 {m c p i k : Int32} {ys : List Int32} (h : own_c m c p i = false) (hk : k = Int32.ofNat ys.length) : k = Int32.ofNat (ys ++ own_opt m c p i).length := by
  rw [own_oF h, hk]; simp
theorem own_put2 {m c p i k : Int32} {ys : List Int32} {n : Nat} (h : own_c m c p i = true) (hk : k = Int32.ofNat ys.length) (hn : 0 < n) (hl : ys.length + n = 7) : (ys ++ List.replicate n (0 : Int32)).set k.toNatClampNeg i = (ys ++ own_opt m c p i) ++ List.replicate (n - (own_opt m c p i).length) (0 : Int32) := by
  rw [own_oT h, hk, (own_nat (by omega)).2.1]
  obtain ⟨n, rfl⟩ : ∃ q, n = q + 1 := ⟨n - 1, by omega⟩
  rw [List.set_append_right _ _ (Nat.le_refl _), Nat.sub_self]
  simp [List.replicate_succ]
theorem own_put4 {m c p i : Int32} {ys : List Int32} {n : Nat} (h : own_c m c p i = false) : ys ++ List.replicate n (0 : Int32) = (ys ++ own_opt m c p i) ++ List.replicate (n - (own_opt m c p i).length) (0 : Int32) := by
  rw [own_oF h]; simp
theorem own_pi1 {k : Int32} {ys : List Int32} {n : Nat} (hk : k = Int32.ofNat ys.length) (hl : ys.length + n = 7) : ¬ k < 0 := by rw [hk]; exact (own_nat (by omega)).2.2
theorem own_pi2 {k : Int32} {ys : List Int32} {n : Nat} (hk : k = Int32.ofNat ys.length) (hn : 0 < n) (hl : ys.length + n = 7) : k.toNatClampNeg < (ys ++ List.replicate n (0 : Int32)).length := by
  rw [hk, (own_nat (by omega)).2.1]; simp; exact hn
theorem own_tk : ∀ j : Fin 7, own_B.take (j.val + 1) = own_B.take j.val ++ [Int32.ofNat j.val] := by decide
theorem own_dr : ∀ j : Fin 7, own_B.drop j.val = Int32.ofNat j.val :: own_B.drop (j.val + 1) := by decide
theorem own_gt : ∀ j : Fin 7, ∀ x ∈ own_B.drop (j.val + 1), ¬ x = Int32.ofNat j.val := by decide
theorem own_ge : ∀ j : Fin 8, ∀ x ∈ own_B.drop j.val, ¬ x < Int32.ofNat j.val := by decide
theorem own_Pn {j : Nat} (hj : j < 7) (m c p : Int32) : own_P j m c p ++ own_opt m c p (Int32.ofNat j) = own_P (j + 1) m c p := by
  unfold own_P
  rw [own_tk ⟨j, hj⟩, List.filter_append]
  congr 1
  unfold own_opt
  by_cases h : own_c m c p (Int32.ofNat j) = true
  · rw [if_pos h, List.filter_cons_of_pos h]; rfl
  · rw [if_neg h, List.filter_cons_of_neg h]; rfl
theorem own_Rn {j : Nat} (hj : j < 7) (m c p : Int32) : own_R j m c p = own_opt m c p (Int32.ofNat j) ++ own_R (j + 1) m c p := by
  unfold own_R own_opt
  rw [own_dr ⟨j, hj⟩]
  by_cases h : own_c m c p (Int32.ofNat j) = true
  · rw [if_pos h, List.filter_cons_of_pos h]; rfl
  · rw [if_neg h, List.filter_cons_of_neg h]; rfl
theorem own_PR (j : Nat) (m c p : Int32) : own_P 7 m c p = own_P j m c p ++ own_R j m c p := by
  unfold own_P own_R
  rw [← List.filter_append, List.take_append_drop]; rfl
theorem own_Pl (j : Nat) (m c p : Int32) : (own_P j m c p).length ≤ j := by
  unfold own_P
  exact Nat.le_trans (List.length_filter_le _ _) (by rw [List.length_take]; omega)
theorem own_P7 (m c p : Int32) : (own_P 7 m c p).length ≤ 7 := own_Pl 7 m c p
theorem own_cv {Y O P : List Int32} (h : Y ++ O = P) : (Y ++ O) ++ List.replicate ((7 - Y.length) - O.length) (0 : Int32) = P ++ List.replicate (7 - P.length) (0 : Int32) := by
  subst h; rw [List.length_append, Nat.sub_sub]
theorem own_l7 {Y : List Int32} (h : Y.length ≤ 7) : Y = [] ∨ (∃ a, Y = [a]) ∨ (∃ a b, Y = [a, b]) ∨ (∃ a b c, Y = [a, b, c]) ∨ (∃ a b c d, Y = [a, b, c, d]) ∨ (∃ a b c d e, Y = [a, b, c, d, e]) ∨ (∃ a b c d e f, Y = [a, b, c, d, e, f]) ∨ (∃ a b c d e f g, Y = [a, b, c, d, e, f, g]) := by
  match Y, h with
  | [], _ => exact Or.inl rfl
  | [a], _ => exact Or.inr (Or.inl ⟨a, rfl⟩)
  | [a, b], _ => exact Or.inr (Or.inr (Or.inl ⟨a, b, rfl⟩))
  | [a, b, c], _ => exact Or.inr (Or.inr (Or.inr (Or.inl ⟨a, b, c, rfl⟩)))
  | [a, b, c, d], _ => exact Or.inr (Or.inr (Or.inr (Or.inr (Or.inl ⟨a, b, c, d, rfl⟩))))
  | [a, b, c, d, e], _ => exact Or.inr (Or.inr (Or.inr (Or.inr (Or.inr (Or.inl ⟨a, b, c, d, e, rfl⟩)))))
  | [a, b, c, d, e, f], _ => exact Or.inr (Or.inr (Or.inr (Or.inr (Or.inr (Or.inr (Or.inl ⟨a, b, c, d, e, f, rfl⟩))))))
  | [a, b, c, d, e, f, g], _ => exact Or.inr (Or.inr (Or.inr (Or.inr (Or.inr (Or.inr (Or.inr ⟨a, b, c, d, e, f, g, rfl⟩))))))
  | _ :: _ :: _ :: _ :: _ :: _ :: _ :: _ :: _, h => simp at h
/-- below the count each is in just one of the two -/
theorem own_x {m c i : Int32} (h : i < c) : own_c m c 0 i = !own_c m c 1 i := by
  by_cases q : own_bit m i = 0
  · unfold own_c; rw [if_pos q]; simp [h]
  · unfold own_c; rw [if_neg q]; simp [h]
theorem own_two (m c : Int32) : ∀ L : List Int32, (L.filter (own_c m c 1)).length + (L.filter (own_c m c 0)).length = (L.filter fun i => decide (i < c)).length
  | [] => rfl
  | i :: L => by
    have ih := own_two m c L
    by_cases h : i < c
    · have hx := own_x (m := m) h
      rw [List.filter_cons_of_pos (p := fun i => decide (i < c)) (by simpa using h)]
      cases q : own_c m c 1 i
      · rw [q] at hx
        rw [List.filter_cons_of_neg (by rw [q]; decide), List.filter_cons_of_pos (by rw [hx]; decide)]
        simp only [List.length_cons]; omega
      · rw [q] at hx
        rw [List.filter_cons_of_pos q, List.filter_cons_of_neg (by rw [hx]; decide)]
        simp only [List.length_cons]; omega
    · rw [List.filter_cons_of_neg (p := fun i => decide (i < c)) (by simpa using h), List.filter_cons_of_neg (by rw [own_cF h]; decide), List.filter_cons_of_neg (by rw [own_cF h]; decide)]
      exact ih
theorem own_below : ∀ n : Fin 8, (own_B.filter fun i => decide (i < Int32.ofNat n.val)).length = n.val := by decide
theorem own_ofI {c : Int32} (h0 : 0 ≤ c.toInt) (h1 : c.toInt ≤ 7) : c = Int32.ofNat c.toInt.toNat := by
  apply Int32.toInt_inj.mp
  rw [(own_nat (by omega)).1]; omega
theorem own_sum (m : Int32) {c : Int32} (h0 : 0 ≤ c.toInt) (h1 : c.toInt ≤ 7) : (own_P 7 m c 1).length + (own_P 7 m c 0).length = c.toInt.toNat := by
  have k := own_two m c own_B
  have b := own_below ⟨c.toInt.toNat, by omega⟩
  rw [show Int32.ofNat (⟨c.toInt.toNat, by omega⟩ : Fin 8).val = c from (own_ofI h0 h1).symm] at b
  rw [b] at k
  exact k
theorem own_sz (m : Int32) {c : Int32} (h0 : 0 ≤ c.toInt) (h1 : c.toInt ≤ 7) : c - (Int32.ofNat ((own_P 7 m c (1 : Int32))).length) = Int32.ofNat (own_P 7 m c 0).length := by
  have k := own_sum m h0 h1
  have e1 := (own_nat (own_P7 m c 1)).1
  have e2 := (own_nat (own_P7 m c 0)).1
  apply Int32.toInt_inj.mp
  have a := c_isub c (Int32.ofNat (own_P 7 m c 1).length)
  have r := rng32 (c - Int32.ofNat (own_P 7 m c 1).length)
  rw [e2]
  rw [e1] at a
  omega
theorem own_cn1 (m : Int32) {c : Int32} (h0 : 0 ≤ c.toInt) (h1 : c.toInt ≤ 7) : ¬ (c - (Int32.ofNat ((own_P 7 m c (1 : Int32))).length)) < 0 := by
  rw [own_sz m h0 h1]; exact (own_nat (own_P7 m c 0)).2.2
theorem own_cn2 (m : Int32) {c : Int32} (h0 : 0 ≤ c.toInt) (h1 : c.toInt ≤ 7) : (c - (Int32.ofNat ((own_P 7 m c (1 : Int32))).length)).toNatClampNeg ≤ 7 := by
  rw [own_sz m h0 h1, (own_nat (own_P7 m c 0)).2.1]; exact own_P7 m c 0
theorem own_st0 (m : Int32) {c : Int32} (h0 : 0 ≤ c.toInt) (h1 : c.toInt ≤ 7) : List.replicate (c - (Int32.ofNat ((own_P 7 m c (1 : Int32))).length)).toNatClampNeg (0 : Int32) = own_P 0 m c 0 ++ List.replicate (own_R 0 m c 0).length (0 : Int32) := by
  rw [own_sz m h0 h1, (own_nat (own_P7 m c 0)).2.1]; rfl
theorem own_f1 {xs : List Int32} {j : Nat} (h : j ≤ 7) (d : List Int32) (e : xs = d) : xs.getD (Int32.ofNat j).toNatClampNeg 0 = d.getD j 0 := by
  rw [e, (own_nat h).2.1]
/-- what the two comparisons say -/
theorem own_dT {m c : Int32} {j : Nat} (hj : j < 7) (h : own_c m c 1 (Int32.ofNat j) = true) : (own_P j m c 1).length < (own_P 7 m c 1).length ∧ (own_P 7 m c 1).getD (own_P j m c 1).length 0 = Int32.ofNat j := by
  have e := own_PR j m c 1
  rw [own_Rn hj, own_oT h] at e
  refine ⟨by rw [e]; simp, ?_⟩
  rw [e, List.getD_eq_getElem?_getD, List.getElem?_append_right (Nat.le_refl _), Nat.sub_self]
  rfl
theorem own_dF {m c : Int32} {j : Nat} (hj : j < 7) (h : own_c m c 1 (Int32.ofNat j) = false) (hl : (own_P j m c 1).length < (own_P 7 m c 1).length) : ¬ (own_P 7 m c 1).getD (own_P j m c 1).length 0 = Int32.ofNat j := by
  have e := own_PR j m c 1
  rw [own_Rn hj, own_oF h, List.nil_append] at e
  rw [e] at hl ⊢
  rw [List.length_append] at hl
  rw [List.getD_eq_getElem?_getD, List.getElem?_append_right (Nat.le_refl _), Nat.sub_self]
  cases q : own_R (j + 1) m c 1 with
  | nil => rw [q] at hl; simp at hl
  | cons a L =>
    have mem : a ∈ own_R (j + 1) m c 1 := by rw [q]; exact List.mem_cons_self
    exact own_gt ⟨j, hj⟩ a (List.mem_filter.mp mem).1
theorem own_lt7 {m c p : Int32} {j : Nat} : (Int32.ofNat (own_P j m c p).length < Int32.ofNat ((own_P 7 m c p)).length) = ((own_P j m c p).length < (own_P 7 m c p).length) := by
  have h2 := own_P7 m c p
  have h1 : (own_P j m c p).length ≤ 7 := by have := own_PR j m c p; rw [this, List.length_append] at h2; omega
  rw [Int32.lt_iff_toInt_lt, (own_nat h1).1, (own_nat h2).1]
  exact propext (by omega)
theorem own_j7 (m c p : Int32) (j : Nat) : (own_P j m c p).length ≤ 7 := by
  have h2 := own_P7 m c p
  have := own_PR j m c p; rw [this, List.length_append] at h2; omega
theorem own_dA {m c : Int32} {j : Nat} (hj : j < 7) (h1 : Int32.ofNat (own_P j m c 1).length < Int32.ofNat ((own_P 7 m c 1)).length) (h2 : (own_P 7 m c 1).getD (Int32.ofNat (own_P j m c 1).length).toNatClampNeg 0 = Int32.ofNat j) : own_c m c 1 (Int32.ofNat j) = true := by
  rw [own_lt7] at h1
  rw [(own_nat (own_j7 m c 1 j)).2.1] at h2
  cases q : own_c m c 1 (Int32.ofNat j)
  · exact absurd h2 (own_dF hj q h1)
  · rfl
theorem own_dB {m c : Int32} {j : Nat} (hj : j < 7) (h1 : ¬ Int32.ofNat (own_P j m c 1).length < Int32.ofNat ((own_P 7 m c 1)).length) : own_c m c 1 (Int32.ofNat j) = false := by
  rw [own_lt7] at h1
  cases q : own_c m c 1 (Int32.ofNat j)
  · rfl
  · exact absurd (own_dT hj q).1 h1
theorem own_dC {m c : Int32} {j : Nat} (hj : j < 7) (h2 : ¬ (own_P 7 m c 1).getD (Int32.ofNat (own_P j m c 1).length).toNatClampNeg 0 = Int32.ofNat j) : own_c m c 1 (Int32.ofNat j) = false := by
  rw [(own_nat (own_j7 m c 1 j)).2.1] at h2
  cases q : own_c m c 1 (Int32.ofNat j)
  · rfl
  · exact absurd (own_dT hj q).2 h2
theorem own_uT {m c : Int32} {j : Nat} (h : Int32.ofNat j < c) (q : own_c m c 1 (Int32.ofNat j) = false) : own_c m c 0 (Int32.ofNat j) = true := by rw [own_x h, q]; rfl
theorem own_uF {m c : Int32} {j : Nat} (h : Int32.ofNat j < c) (q : own_c m c 1 (Int32.ofNat j) = true) : own_c m c 0 (Int32.ofNat j) = false := by rw [own_x h, q]; rfl
theorem own_nT {m c p : Int32} {j : Nat} (hj : j < 7) (q : own_c m c p (Int32.ofNat j) = true) : Int32.ofNat (own_P j m c p).length + (1 : Int32) = Int32.ofNat (own_P (j + 1) m c p).length := by
  rw [← own_Pn hj, own_oT q, own_up]; simp
theorem own_nF {m c p : Int32} {j : Nat} (hj : j < 7) (q : own_c m c p (Int32.ofNat j) = false) : Int32.ofNat (own_P j m c p).length = Int32.ofNat (own_P (j + 1) m c p).length := by
  rw [← own_Pn hj, own_oF q]; simp
theorem own_rF {m c : Int32} {j : Nat} (hj : j < 7) (q : own_c m c 0 (Int32.ofNat j) = false) : own_P j m c 0 ++ List.replicate (own_R j m c 0).length (0 : Int32) = own_P (j + 1) m c 0 ++ List.replicate (own_R (j + 1) m c 0).length (0 : Int32) := by
  rw [own_Rn hj, ← own_Pn hj, own_oF q]; simp
theorem own_rT {m c : Int32} {j : Nat} (hj : j < 7) (q : own_c m c 0 (Int32.ofNat j) = true) : (own_P j m c 0 ++ List.replicate (own_R j m c 0).length (0 : Int32)).set (Int32.ofNat (own_P j m c 0).length).toNatClampNeg (Int32.ofNat j) = own_P (j + 1) m c 0 ++ List.replicate (own_R (j + 1) m c 0).length (0 : Int32) := by
  rw [own_Rn hj, ← own_Pn hj, own_oT q, (own_nat (own_j7 m c 0 j)).2.1, List.set_append_right _ _ (Nat.le_refl _), Nat.sub_self]
  simp [List.replicate_succ]
theorem own_ri {m c : Int32} {j : Nat} (hj : j < 7) (q : own_c m c 0 (Int32.ofNat j) = true) : (Int32.ofNat (own_P j m c 0).length).toNatClampNeg < (own_P j m c 0 ++ List.replicate (own_R j m c 0).length (0 : Int32)).length := by
  rw [(own_nat (own_j7 m c 0 j)).2.1, own_Rn hj, own_oT q]; simp
theorem own_ai {m c : Int32} {j : Nat} (h1 : Int32.ofNat (own_P j m c 1).length < Int32.ofNat ((own_P 7 m c 1)).length) : (Int32.ofNat (own_P j m c 1).length).toNatClampNeg < (own_P 7 m c 1).length := by
  rw [own_lt7] at h1
  rw [(own_nat (own_j7 m c 1 j)).2.1]; exact h1
theorem own_nng (m c p : Int32) (j : Nat) : ¬ Int32.ofNat (own_P j m c p).length < 0 := (own_nat (own_j7 m c p j)).2.2
theorem own_ex {m c : Int32} {j : Nat} (hj : j < 8) (h : ¬ Int32.ofNat j < c) : own_P j m c 0 ++ List.replicate (own_R j m c 0).length (0 : Int32) = own_P 7 m c 0 := by
  have e : own_R j m c 0 = [] := by
    unfold own_R
    rw [List.filter_eq_nil_iff]
    intro x hx
    have g : ¬ x < Int32.ofNat j := own_ge ⟨j, hj⟩ x hx
    have : ¬ x < c := by
      rw [Int32.lt_iff_toInt_lt] at *
      omega
    rw [own_cF this]; decide
  rw [own_PR j m c 0, e]; simp
theorem own_7c {c : Int32} (h1 : c.toInt ≤ 7) : ¬ (7 : Int32) < c := by
  rw [Int32.lt_iff_toInt_lt, show (7 : Int32).toInt = 7 from by decide]; omega

theorem d_put_0 : decode method_3_code 0 = .ok (.iload 5, 2) := by decide +kernel
theorem d_put_2 : decode method_3_code 2 = .ok (.iload_n 3, 1) := by decide +kernel
theorem d_put_3 : decode method_3_code 3 = .ok (.if_icmp .ge 31, 3) := by decide +kernel
theorem d_put_6 : decode method_3_code 6 = .ok (.iload_n 2, 1) := by decide +kernel
theorem d_put_7 : decode method_3_code 7 = .ok (.iload 5, 2) := by decide +kernel
theorem d_put_9 : decode method_3_code 9 = .ok (.iushr, 1) := by decide +kernel
theorem d_put_10 : decode method_3_code 10 = .ok (.iconst 1, 1) := by decide +kernel
theorem d_put_11 : decode method_3_code 11 = .ok (.iand, 1) := by decide +kernel
theorem d_put_12 : decode method_3_code 12 = .ok (.ifCond .eq 7, 3) := by decide +kernel
theorem d_put_19 : decode method_3_code 19 = .ok (.iconst 0, 1) := by decide +kernel
theorem d_put_20 : decode method_3_code 20 = .ok (.iload 4, 2) := by decide +kernel
theorem d_put_22 : decode method_3_code 22 = .ok (.if_icmp .ne 12, 3) := by decide +kernel
theorem d_put_25 : decode method_3_code 25 = .ok (.aload_n 0, 1) := by decide +kernel
theorem d_put_26 : decode method_3_code 26 = .ok (.iload_n 1, 1) := by decide +kernel
theorem d_put_27 : decode method_3_code 27 = .ok (.iload 5, 2) := by decide +kernel
theorem d_put_29 : decode method_3_code 29 = .ok (.iastore, 1) := by decide +kernel
theorem d_put_30 : decode method_3_code 30 = .ok (.iload_n 1, 1) := by decide +kernel
theorem d_put_31 : decode method_3_code 31 = .ok (.iconst 1, 1) := by decide +kernel
theorem d_put_32 : decode method_3_code 32 = .ok (.iadd, 1) := by decide +kernel
theorem d_put_33 : decode method_3_code 33 = .ok (.ireturn, 1) := by decide +kernel
theorem d_put_34 : decode method_3_code 34 = .ok (.iload_n 1, 1) := by decide +kernel
theorem d_put_35 : decode method_3_code 35 = .ok (.ireturn, 1) := by decide +kernel
theorem d_put_15 : decode method_3_code 15 = .ok (.iconst 1, 1) := by decide +kernel
theorem d_put_16 : decode method_3_code 16 = .ok (.goto 4, 3) := by decide +kernel
theorem ef_put (m : MethodId) (v0 : Addr) (v1 : Int32) (v2 : Int32) (v3 : Int32) (v4 : Int32) (v5 : Int32) : entryFrame m #[(.ref v0), (.int v1), (.int v2), (.int v3), (.int v4), (.int v5)] 6 = mkF m 0 #[.val (.ref v0), .val (.int v1), .val (.int v2), .val (.int v3), .val (.int v4), .val (.int v5)] [] := by first | (simp [entryFrame, mkF, argsToLocals, Value.category]; done) | rfl
def Q_put (Z : State) (v0 : Addr) (v1 : Int32) (v2 : Int32) (v3 : Int32) (v4 : Int32) (v5 : Int32) (ys : List Int32) (n : Nat) (h0 : Heap) (n0 : Nat) (v : Option Value) (h : Heap) (L : List Loc) : Prop := v = some (.int (Int32.ofNat (ys ++ (own_opt v2 v3 v4 v5)).length)) ∧ Fr n0 L ∧ Keep h0 h [v0] ∧ AI Z h v0 .int ((ys ++ (own_opt v2 v3 v4 v5)) ++ List.replicate (n - (own_opt v2 v3 v4 v5).length) (0 : Int32))
set_option maxRecDepth 65536 in
set_option maxHeartbeats 40000000 in
theorem rm_put (l : Launch) (Z : State) (a0 : Array Value) (hw : ∀ d ∈ tables_1, d.before a0 Z = true) (ws : List Jvm.Cond) (v0 : Addr) (v1 : Int32) (v2 : Int32) (v3 : Int32) (v4 : Int32) (v5 : Int32) (ys : List Int32) (n : Nat) (h0 : Heap) (n0 : Nat) (Z0 : n0 ≤ h0.size) (f0_A_v0 : AI Z h0 v0 .int (ys ++ List.replicate n (0 : Int32))) (g_v0 : n0 ≤ v0) (hk : v1 = Int32.ofNat ys.length) (hn : 0 < n) (hl : ys.length + n = 7) :
    MetFree l (⟨"com/example/quern/quern/core/DocumentSetsComplementPinLaw", "put", "([IIIIZI)I"⟩ : MethodName) (head1 (Jvm.Cond.code (⟨"com/example/quern/quern/core/DocumentSetsComplementPinLaw", "put", "([IIIIZI)I"⟩ : MethodName) method_3_code 6 (some .int) :: ws) ({ frames := 0, cells := 0, slots := 0, locals := 0 } : Room)) (fun a U => a = #[(.ref v0), (.int v1), (.int v2), (.int v3), (.int v4), (.int v5)] ∧ Z.Warmed39 U.vm ∧ U.heap = h0) (fun _ _ _ _ _ => True) (fun _ U o U' => ∃ v L, o = .returned v ∧ Q_put Z v0 v1 v2 v3 v4 v5 ys n h0 n0 v U'.heap L ∧ FrameEnd U o U' L ({ frames := 0, cells := 0, slots := 0, locals := 0 } : Room).cells ({ frames := 0, cells := 0, slots := 0, locals := 0 } : Room).slots) := by
  refine MetFree.of_bodySF (plainFor_of_name (by first | (simp [plainName, overriddenIn]; done) | decide +kernel)) hisR ?_
  intro p e s m args below meth c s₁ Bd hml0 hP hK
  obtain ⟨rfl, hZ, hh⟩ := hP
  have hx := Bd.exec
  have hby := Bd.bytes
  have hml : c.maxLocals = 6 := hml0
  have hown : s.vm.findClass "com/example/quern/quern/core/DocumentSetsComplementPinLaw" = some m.cls := findClass_of_methodNamed Bd.named
  have hnm := (name_of_methodNamed Bd.named Bd.method).1
  have hlk : meth.locks = false := Bd.notSynchronized
  have X0 : Stand p l e ({ frames := 0, cells := 0, slots := 0, locals := 0 } : Room) s m #[(.ref v0), (.int v1), (.int v2), (.int v3), (.int v4), (.int v5)] below meth c s₁ [] 0 0 := Stand.of_body Bd
  have e0 : s₁.heap = h0 := by rw [← hh, Bd.state]; rfl
  have N0 := Fr.nil n0
  refine Go.enter (Q := Q_put Z v0 v1 v2 v3 v4 v5 ys n h0 n0) (C := ({ frames := 0, cells := 0, slots := 0, locals := 0 } : Room).cells) (N := ({ frames := 0, cells := 0, slots := 0, locals := 0 } : Room).slots) (ef_put m v0 v1 v2 v3 v4 v5) ?_
  show Go p e below s _ _ _ s₁ (mkF m 0 #[.val (.ref v0), .val (.int v1), .val (.int v2), .val (.int v3), .val (.int v4), .val (.int v5)] [])
  refine G_iload X0 hx (pc' := 2) rfl (hb hby d_put_0) rfl ?_
  refine G_iloadN X0 hx (pc' := 3) rfl (hb hby d_put_2) rfl ?_
  by_cases hc3_1 : v5 < v3
  · refine G_icmpNo X0 hx (pc' := 6) rfl (hb hby d_put_3) (tlt hc3_1).2.1 ?_
    refine G_iloadN X0 hx (pc' := 7) rfl (hb hby d_put_6) rfl ?_
    refine G_iload X0 hx (pc' := 9) rfl (hb hby d_put_7) rfl ?_
    refine G_iushr X0 hx (pc' := 10) rfl (hb hby d_put_9)  ?_
    refine G_iconst X0 hx (pc' := 11) rfl (hb hby d_put_10) (z := (1 : Int32)) rfl ?_
    refine G_iand X0 hx (pc' := 12) rfl (hb hby d_put_11)  ?_
    by_cases hc12_2 : (((v2.toUInt32 >>> (v5 &&& 31).toUInt32).toInt32) &&& (1 : Int32)) = (0 : Int32)
    · refine G_ifYes X0 hx (pc' := 19) (hb hby d_put_12) ((if0 _ _).trans (teq hc12_2).1) (by decide) (by decide) ?_
      refine G_iconst X0 hx (pc' := 20) rfl (hb hby d_put_19) (z := (0 : Int32)) rfl ?_
      refine G_iload X0 hx (pc' := 22) rfl (hb hby d_put_20) rfl ?_
      by_cases hc22_3 : (0 : Int32) = v4
      · refine G_icmpNo X0 hx (pc' := 25) rfl (hb hby d_put_22) (teq hc22_3).2 ?_
        refine G_aloadN X0 hx (pc' := 26) rfl (hb hby d_put_25) rfl rfl ?_
        refine G_iloadN X0 hx (pc' := 27) rfl (hb hby d_put_26) rfl ?_
        refine G_iload X0 hx (pc' := 29) rfl (hb hby d_put_27) rfl ?_
        obtain ⟨T1, h1, X1, e1, W1, A1, st1⟩ := stAI X0 hx hZ e0 f0_A_v0 (j := v1) (own_pi1 hk hl) (own_pi2 hk hn hl) (g := (mkF m 29 #[.val (.ref v0), .val (.int v1), .val (.int v2), .val (.int v3), .val (.int v4), .val (.int v5)] [(.int v5), (.int v1), (.ref v0)])) rfl rfl (hb hby d_put_29)
        refine Go.st st1 ?_
        have A_v0_1 : AI Z h1 v0 .int ((ys ++ List.replicate n (0 : Int32)).set v1.toNatClampNeg v5) := A1
        have K_1 : Keep h0 h1 [v0] := (Keep.refl h0 [v0]).wr W1 (Or.inl (List.mem_of_getElem? (i := 0) rfl))
        have Z_1 : n0 ≤ h1.size := Nat.le_trans Z0 K_1.1
        have N1 := Fr.snoc X1 N0 g_v0
        clear f0_A_v0 W1 st1 A1
        obtain ⟨G1, Y1, M1⟩ : ∃ L, Stand p l e ({ frames := 0, cells := 0, slots := 0, locals := 0 } : Room) s m #[(.ref v0), (.int v1), (.int v2), (.int v3), (.int v4), (.int v5)] below meth c T1 L 0 0 ∧ Fr n0 L := ⟨_, X1, N1⟩
        clear X1 N1
        show Go p e below s _ _ _ T1 (mkF m 30 #[.val (.ref v0), .val (.int v1), .val (.int v2), .val (.int v3), .val (.int v4), .val (.int v5)] [])
        refine G_iloadN Y1 hx (pc' := 31) rfl (hb hby d_put_30) rfl ?_
        refine G_iconst Y1 hx (pc' := 32) rfl (hb hby d_put_31) (z := (1 : Int32)) rfl ?_
        refine G_iadd Y1 hx (pc' := 33) rfl (hb hby d_put_32)  ?_
        refine Go.fin Y1 hlk (v := some (.int (v1 + (1 : Int32)))) (fun h => by rw [Bd.returns] at h; cases h) (by decide) (by decide) ?_ (fun fs hr => retOut Y1 hx Bd.returns rfl (Or.inl ⟨rfl, Or.inl rfl, _, rfl⟩) (hb hby d_put_33) hr)
        show Q_put Z v0 v1 v2 v3 v4 v5 ys n h0 n0 _ T1.heap _
        rw [e1]
        exact ⟨congrArg (fun z => some (Value.int z)) (own_put1 (own_cT0 hc3_1 hc12_2 hc22_3) hk), M1, K_1, ((own_put2 (own_cT0 hc3_1 hc12_2 hc22_3) hk hn hl) ▸ A_v0_1)⟩
      · refine G_icmpYes X0 hx (pc' := 34) (hb hby d_put_22) (feq hc22_3).2 (by decide) (by decide) ?_
        refine G_iloadN X0 hx (pc' := 35) rfl (hb hby d_put_34) rfl ?_
        refine Go.fin X0 hlk (v := some (.int v1)) (fun h => by rw [Bd.returns] at h; cases h) (by decide) (by decide) ?_ (fun fs hr => retOut X0 hx Bd.returns rfl (Or.inl ⟨rfl, Or.inl rfl, _, rfl⟩) (hb hby d_put_35) hr)
        show Q_put Z v0 v1 v2 v3 v4 v5 ys n h0 n0 _ s₁.heap _
        rw [e0]
        exact ⟨congrArg (fun z => some (Value.int z)) (own_put3 (own_cF0 hc12_2 hc22_3) hk), N0, (Keep.refl h0 [v0]), ((own_put4 (own_cF0 hc12_2 hc22_3)) ▸ f0_A_v0)⟩
    · refine G_ifNo X0 hx (pc' := 15) rfl (hb hby d_put_12) ((if0 _ _).trans (feq hc12_2).1) ?_
      refine G_iconst X0 hx (pc' := 16) rfl (hb hby d_put_15) (z := (1 : Int32)) rfl ?_
      refine G_goto X0 hx (pc' := 20) (hb hby d_put_16)  (by decide) (by decide) ?_
      refine G_iload X0 hx (pc' := 22) rfl (hb hby d_put_20) rfl ?_
      by_cases hc22_4 : (1 : Int32) = v4
      · refine G_icmpNo X0 hx (pc' := 25) rfl (hb hby d_put_22) (teq hc22_4).2 ?_
        refine G_aloadN X0 hx (pc' := 26) rfl (hb hby d_put_25) rfl rfl ?_
        refine G_iloadN X0 hx (pc' := 27) rfl (hb hby d_put_26) rfl ?_
        refine G_iload X0 hx (pc' := 29) rfl (hb hby d_put_27) rfl ?_
        obtain ⟨T2, h2, X2, e2, W2, A2, st2⟩ := stAI X0 hx hZ e0 f0_A_v0 (j := v1) (own_pi1 hk hl) (own_pi2 hk hn hl) (g := (mkF m 29 #[.val (.ref v0), .val (.int v1), .val (.int v2), .val (.int v3), .val (.int v4), .val (.int v5)] [(.int v5), (.int v1), (.ref v0)])) rfl rfl (hb hby d_put_29)
        refine Go.st st2 ?_
        have A_v0_2 : AI Z h2 v0 .int ((ys ++ List.replicate n (0 : Int32)).set v1.toNatClampNeg v5) := A2
        have K_2 : Keep h0 h2 [v0] := (Keep.refl h0 [v0]).wr W2 (Or.inl (List.mem_of_getElem? (i := 0) rfl))
        have Z_2 : n0 ≤ h2.size := Nat.le_trans Z0 K_2.1
        have N2 := Fr.snoc X2 N0 g_v0
        clear f0_A_v0 W2 st2 A2
        obtain ⟨G2, Y2, M2⟩ : ∃ L, Stand p l e ({ frames := 0, cells := 0, slots := 0, locals := 0 } : Room) s m #[(.ref v0), (.int v1), (.int v2), (.int v3), (.int v4), (.int v5)] below meth c T2 L 0 0 ∧ Fr n0 L := ⟨_, X2, N2⟩
        clear X2 N2
        show Go p e below s _ _ _ T2 (mkF m 30 #[.val (.ref v0), .val (.int v1), .val (.int v2), .val (.int v3), .val (.int v4), .val (.int v5)] [])
        refine G_iloadN Y2 hx (pc' := 31) rfl (hb hby d_put_30) rfl ?_
        refine G_iconst Y2 hx (pc' := 32) rfl (hb hby d_put_31) (z := (1 : Int32)) rfl ?_
        refine G_iadd Y2 hx (pc' := 33) rfl (hb hby d_put_32)  ?_
        refine Go.fin Y2 hlk (v := some (.int (v1 + (1 : Int32)))) (fun h => by rw [Bd.returns] at h; cases h) (by decide) (by decide) ?_ (fun fs hr => retOut Y2 hx Bd.returns rfl (Or.inl ⟨rfl, Or.inl rfl, _, rfl⟩) (hb hby d_put_33) hr)
        show Q_put Z v0 v1 v2 v3 v4 v5 ys n h0 n0 _ T2.heap _
        rw [e2]
        exact ⟨congrArg (fun z => some (Value.int z)) (own_put1 (own_cT1 hc3_1 hc12_2 hc22_4) hk), M2, K_2, ((own_put2 (own_cT1 hc3_1 hc12_2 hc22_4) hk hn hl) ▸ A_v0_2)⟩
      · refine G_icmpYes X0 hx (pc' := 34) (hb hby d_put_22) (feq hc22_4).2 (by decide) (by decide) ?_
        refine G_iloadN X0 hx (pc' := 35) rfl (hb hby d_put_34) rfl ?_
        refine Go.fin X0 hlk (v := some (.int v1)) (fun h => by rw [Bd.returns] at h; cases h) (by decide) (by decide) ?_ (fun fs hr => retOut X0 hx Bd.returns rfl (Or.inl ⟨rfl, Or.inl rfl, _, rfl⟩) (hb hby d_put_35) hr)
        show Q_put Z v0 v1 v2 v3 v4 v5 ys n h0 n0 _ s₁.heap _
        rw [e0]
        exact ⟨congrArg (fun z => some (Value.int z)) (own_put3 (own_cF1 hc12_2 hc22_4) hk), N0, (Keep.refl h0 [v0]), ((own_put4 (own_cF1 hc12_2 hc22_4)) ▸ f0_A_v0)⟩
  · refine G_icmpYes X0 hx (pc' := 34) (hb hby d_put_3) (flt hc3_1).2.1 (by decide) (by decide) ?_
    refine G_iloadN X0 hx (pc' := 35) rfl (hb hby d_put_34) rfl ?_
    refine Go.fin X0 hlk (v := some (.int v1)) (fun h => by rw [Bd.returns] at h; cases h) (by decide) (by decide) ?_ (fun fs hr => retOut X0 hx Bd.returns rfl (Or.inl ⟨rfl, Or.inl rfl, _, rfl⟩) (hb hby d_put_35) hr)
    show Q_put Z v0 v1 v2 v3 v4 v5 ys n h0 n0 _ s₁.heap _
    rw [e0]
    exact ⟨congrArg (fun z => some (Value.int z)) (own_put3 (own_cF hc3_1) hk), N0, (Keep.refl h0 [v0]), ((own_put4 (own_cF hc3_1)) ▸ f0_A_v0)⟩
theorem d_members_0 : decode method_4_code 0 = .ok (.bipush 7, 2) := by decide +kernel
theorem d_members_2 : decode method_4_code 2 = .ok (.newarray .int, 2) := by decide +kernel
theorem d_members_4 : decode method_4_code 4 = .ok (.astore_n 3, 1) := by decide +kernel
theorem d_members_5 : decode method_4_code 5 = .ok (.iconst 0, 1) := by decide +kernel
theorem d_members_6 : decode method_4_code 6 = .ok (.istore 4, 2) := by decide +kernel
theorem d_members_8 : decode method_4_code 8 = .ok (.aload_n 3, 1) := by decide +kernel
theorem d_members_9 : decode method_4_code 9 = .ok (.iload 4, 2) := by decide +kernel
theorem d_members_11 : decode method_4_code 11 = .ok (.iload_n 0, 1) := by decide +kernel
theorem d_members_12 : decode method_4_code 12 = .ok (.iload_n 1, 1) := by decide +kernel
theorem d_members_13 : decode method_4_code 13 = .ok (.iload_n 2, 1) := by decide +kernel
theorem d_members_14 : decode method_4_code 14 = .ok (.iconst 0, 1) := by decide +kernel
theorem d_members_15 : decode method_4_code 15 = .ok (.invokestatic 24, 3) := by decide +kernel
theorem pd_0 : parseMethodDescriptor "([IIIIZI)I" = some ⟨[(.array .int), .int, .int, .int, .boolean, .int], some .int⟩ := by decide +kernel
theorem d_members_18 : decode method_4_code 18 = .ok (.istore 4, 2) := by decide +kernel
theorem d_members_20 : decode method_4_code 20 = .ok (.aload_n 3, 1) := by decide +kernel
theorem d_members_21 : decode method_4_code 21 = .ok (.iload 4, 2) := by decide +kernel
theorem d_members_23 : decode method_4_code 23 = .ok (.iload_n 0, 1) := by decide +kernel
theorem d_members_24 : decode method_4_code 24 = .ok (.iload_n 1, 1) := by decide +kernel
theorem d_members_25 : decode method_4_code 25 = .ok (.iload_n 2, 1) := by decide +kernel
theorem d_members_26 : decode method_4_code 26 = .ok (.iconst 1, 1) := by decide +kernel
theorem d_members_27 : decode method_4_code 27 = .ok (.invokestatic 24, 3) := by decide +kernel
theorem d_members_30 : decode method_4_code 30 = .ok (.istore 4, 2) := by decide +kernel
theorem d_members_32 : decode method_4_code 32 = .ok (.aload_n 3, 1) := by decide +kernel
theorem d_members_33 : decode method_4_code 33 = .ok (.iload 4, 2) := by decide +kernel
theorem d_members_35 : decode method_4_code 35 = .ok (.iload_n 0, 1) := by decide +kernel
theorem d_members_36 : decode method_4_code 36 = .ok (.iload_n 1, 1) := by decide +kernel
theorem d_members_37 : decode method_4_code 37 = .ok (.iload_n 2, 1) := by decide +kernel
theorem d_members_38 : decode method_4_code 38 = .ok (.iconst 2, 1) := by decide +kernel
theorem d_members_39 : decode method_4_code 39 = .ok (.invokestatic 24, 3) := by decide +kernel
theorem d_members_42 : decode method_4_code 42 = .ok (.istore 4, 2) := by decide +kernel
theorem d_members_44 : decode method_4_code 44 = .ok (.aload_n 3, 1) := by decide +kernel
theorem d_members_45 : decode method_4_code 45 = .ok (.iload 4, 2) := by decide +kernel
theorem d_members_47 : decode method_4_code 47 = .ok (.iload_n 0, 1) := by decide +kernel
theorem d_members_48 : decode method_4_code 48 = .ok (.iload_n 1, 1) := by decide +kernel
theorem d_members_49 : decode method_4_code 49 = .ok (.iload_n 2, 1) := by decide +kernel
theorem d_members_50 : decode method_4_code 50 = .ok (.iconst 3, 1) := by decide +kernel
theorem d_members_51 : decode method_4_code 51 = .ok (.invokestatic 24, 3) := by decide +kernel
theorem d_members_54 : decode method_4_code 54 = .ok (.istore 4, 2) := by decide +kernel
theorem d_members_56 : decode method_4_code 56 = .ok (.aload_n 3, 1) := by decide +kernel
theorem d_members_57 : decode method_4_code 57 = .ok (.iload 4, 2) := by decide +kernel
theorem d_members_59 : decode method_4_code 59 = .ok (.iload_n 0, 1) := by decide +kernel
theorem d_members_60 : decode method_4_code 60 = .ok (.iload_n 1, 1) := by decide +kernel
theorem d_members_61 : decode method_4_code 61 = .ok (.iload_n 2, 1) := by decide +kernel
theorem d_members_62 : decode method_4_code 62 = .ok (.iconst 4, 1) := by decide +kernel
theorem d_members_63 : decode method_4_code 63 = .ok (.invokestatic 24, 3) := by decide +kernel
theorem d_members_66 : decode method_4_code 66 = .ok (.istore 4, 2) := by decide +kernel
theorem d_members_68 : decode method_4_code 68 = .ok (.aload_n 3, 1) := by decide +kernel
theorem d_members_69 : decode method_4_code 69 = .ok (.iload 4, 2) := by decide +kernel
theorem d_members_71 : decode method_4_code 71 = .ok (.iload_n 0, 1) := by decide +kernel
theorem d_members_72 : decode method_4_code 72 = .ok (.iload_n 1, 1) := by decide +kernel
theorem d_members_73 : decode method_4_code 73 = .ok (.iload_n 2, 1) := by decide +kernel
theorem d_members_74 : decode method_4_code 74 = .ok (.iconst 5, 1) := by decide +kernel
theorem d_members_75 : decode method_4_code 75 = .ok (.invokestatic 24, 3) := by decide +kernel
theorem d_members_78 : decode method_4_code 78 = .ok (.istore 4, 2) := by decide +kernel
theorem d_members_80 : decode method_4_code 80 = .ok (.aload_n 3, 1) := by decide +kernel
theorem d_members_81 : decode method_4_code 81 = .ok (.iload 4, 2) := by decide +kernel
theorem d_members_83 : decode method_4_code 83 = .ok (.iload_n 0, 1) := by decide +kernel
theorem d_members_84 : decode method_4_code 84 = .ok (.iload_n 1, 1) := by decide +kernel
theorem d_members_85 : decode method_4_code 85 = .ok (.iload_n 2, 1) := by decide +kernel
theorem d_members_86 : decode method_4_code 86 = .ok (.bipush 6, 2) := by decide +kernel
theorem d_members_88 : decode method_4_code 88 = .ok (.invokestatic 24, 3) := by decide +kernel
theorem d_members_91 : decode method_4_code 91 = .ok (.istore 4, 2) := by decide +kernel
theorem d_members_93 : decode method_4_code 93 = .ok (.iload 4, 2) := by decide +kernel
theorem d_members_95 : decode method_4_code 95 = .ok (.newarray .int, 2) := by decide +kernel
theorem d_members_97 : decode method_4_code 97 = .ok (.astore 5, 2) := by decide +kernel
theorem d_members_99 : decode method_4_code 99 = .ok (.iload 4, 2) := by decide +kernel
theorem d_members_101 : decode method_4_code 101 = .ok (.ifCond .le 10, 3) := by decide +kernel
theorem d_members_111 : decode method_4_code 111 = .ok (.iload 4, 2) := by decide +kernel
theorem d_members_113 : decode method_4_code 113 = .ok (.iconst 1, 1) := by decide +kernel
theorem d_members_114 : decode method_4_code 114 = .ok (.if_icmp .le 10, 3) := by decide +kernel
theorem d_members_124 : decode method_4_code 124 = .ok (.iload 4, 2) := by decide +kernel
theorem d_members_126 : decode method_4_code 126 = .ok (.iconst 2, 1) := by decide +kernel
theorem d_members_127 : decode method_4_code 127 = .ok (.if_icmp .le 10, 3) := by decide +kernel
theorem d_members_137 : decode method_4_code 137 = .ok (.iload 4, 2) := by decide +kernel
theorem d_members_139 : decode method_4_code 139 = .ok (.iconst 3, 1) := by decide +kernel
theorem d_members_140 : decode method_4_code 140 = .ok (.if_icmp .le 10, 3) := by decide +kernel
theorem d_members_150 : decode method_4_code 150 = .ok (.iload 4, 2) := by decide +kernel
theorem d_members_152 : decode method_4_code 152 = .ok (.iconst 4, 1) := by decide +kernel
theorem d_members_153 : decode method_4_code 153 = .ok (.if_icmp .le 10, 3) := by decide +kernel
theorem d_members_163 : decode method_4_code 163 = .ok (.iload 4, 2) := by decide +kernel
theorem d_members_165 : decode method_4_code 165 = .ok (.iconst 5, 1) := by decide +kernel
theorem d_members_166 : decode method_4_code 166 = .ok (.if_icmp .le 10, 3) := by decide +kernel
theorem d_members_176 : decode method_4_code 176 = .ok (.iload 4, 2) := by decide +kernel
theorem d_members_178 : decode method_4_code 178 = .ok (.bipush 6, 2) := by decide +kernel
theorem d_members_180 : decode method_4_code 180 = .ok (.if_icmp .le 12, 3) := by decide +kernel
theorem d_members_192 : decode method_4_code 192 = .ok (.aload 5, 2) := by decide +kernel
theorem d_members_194 : decode method_4_code 194 = .ok (.areturn, 1) := by decide +kernel
theorem d_members_104 : decode method_4_code 104 = .ok (.aload 5, 2) := by decide +kernel
theorem d_members_106 : decode method_4_code 106 = .ok (.iconst 0, 1) := by decide +kernel
theorem d_members_107 : decode method_4_code 107 = .ok (.aload_n 3, 1) := by decide +kernel
theorem d_members_108 : decode method_4_code 108 = .ok (.iconst 0, 1) := by decide +kernel
theorem d_members_109 : decode method_4_code 109 = .ok (.iaload, 1) := by decide +kernel
theorem d_members_110 : decode method_4_code 110 = .ok (.iastore, 1) := by decide +kernel
theorem d_members_117 : decode method_4_code 117 = .ok (.aload 5, 2) := by decide +kernel
theorem d_members_119 : decode method_4_code 119 = .ok (.iconst 1, 1) := by decide +kernel
theorem d_members_120 : decode method_4_code 120 = .ok (.aload_n 3, 1) := by decide +kernel
theorem d_members_121 : decode method_4_code 121 = .ok (.iconst 1, 1) := by decide +kernel
theorem d_members_122 : decode method_4_code 122 = .ok (.iaload, 1) := by decide +kernel
theorem d_members_123 : decode method_4_code 123 = .ok (.iastore, 1) := by decide +kernel
theorem d_members_130 : decode method_4_code 130 = .ok (.aload 5, 2) := by decide +kernel
theorem d_members_132 : decode method_4_code 132 = .ok (.iconst 2, 1) := by decide +kernel
theorem d_members_133 : decode method_4_code 133 = .ok (.aload_n 3, 1) := by decide +kernel
theorem d_members_134 : decode method_4_code 134 = .ok (.iconst 2, 1) := by decide +kernel
theorem d_members_135 : decode method_4_code 135 = .ok (.iaload, 1) := by decide +kernel
theorem d_members_136 : decode method_4_code 136 = .ok (.iastore, 1) := by decide +kernel
theorem d_members_143 : decode method_4_code 143 = .ok (.aload 5, 2) := by decide +kernel
theorem d_members_145 : decode method_4_code 145 = .ok (.iconst 3, 1) := by decide +kernel
theorem d_members_146 : decode method_4_code 146 = .ok (.aload_n 3, 1) := by decide +kernel
theorem d_members_147 : decode method_4_code 147 = .ok (.iconst 3, 1) := by decide +kernel
theorem d_members_148 : decode method_4_code 148 = .ok (.iaload, 1) := by decide +kernel
theorem d_members_149 : decode method_4_code 149 = .ok (.iastore, 1) := by decide +kernel
theorem d_members_156 : decode method_4_code 156 = .ok (.aload 5, 2) := by decide +kernel
theorem d_members_158 : decode method_4_code 158 = .ok (.iconst 4, 1) := by decide +kernel
theorem d_members_159 : decode method_4_code 159 = .ok (.aload_n 3, 1) := by decide +kernel
theorem d_members_160 : decode method_4_code 160 = .ok (.iconst 4, 1) := by decide +kernel
theorem d_members_161 : decode method_4_code 161 = .ok (.iaload, 1) := by decide +kernel
theorem d_members_162 : decode method_4_code 162 = .ok (.iastore, 1) := by decide +kernel
theorem d_members_169 : decode method_4_code 169 = .ok (.aload 5, 2) := by decide +kernel
theorem d_members_171 : decode method_4_code 171 = .ok (.iconst 5, 1) := by decide +kernel
theorem d_members_172 : decode method_4_code 172 = .ok (.aload_n 3, 1) := by decide +kernel
theorem d_members_173 : decode method_4_code 173 = .ok (.iconst 5, 1) := by decide +kernel
theorem d_members_174 : decode method_4_code 174 = .ok (.iaload, 1) := by decide +kernel
theorem d_members_175 : decode method_4_code 175 = .ok (.iastore, 1) := by decide +kernel
theorem d_members_183 : decode method_4_code 183 = .ok (.aload 5, 2) := by decide +kernel
theorem d_members_185 : decode method_4_code 185 = .ok (.bipush 6, 2) := by decide +kernel
theorem d_members_187 : decode method_4_code 187 = .ok (.aload_n 3, 1) := by decide +kernel
theorem d_members_188 : decode method_4_code 188 = .ok (.bipush 6, 2) := by decide +kernel
theorem d_members_190 : decode method_4_code 190 = .ok (.iaload, 1) := by decide +kernel
theorem d_members_191 : decode method_4_code 191 = .ok (.iastore, 1) := by decide +kernel
theorem ef_members (m : MethodId) (v0 : Int32) (v1 : Int32) (v2 : Int32) : entryFrame m #[(.int v0), (.int v1), (.int v2)] 6 = mkF m 0 #[.val (.int v0), .val (.int v1), .val (.int v2), .unset, .unset, .unset] [] := by first | (simp [entryFrame, mkF, argsToLocals, Value.category]; done) | rfl
def Q_members (Z : State) (v0 : Int32) (v1 : Int32) (v2 : Int32) (h0 : Heap) (n0 : Nat) (v : Option Value) (h : Heap) (L : List Loc) : Prop := ∃ b0 : Addr, v = some (.ref b0) ∧ Fr n0 L ∧ Keep h0 h [] ∧ h0.size ≤ b0 ∧ Exa Z h b0 "[I" ∧ AI Z h b0 .int (own_P 7 v0 v1 v2)
set_option maxRecDepth 65536 in
set_option maxHeartbeats 40000000 in
theorem rm_members (l : Launch) (Z : State) (a0 : Array Value) (hw : ∀ d ∈ tables_1, d.before a0 Z = true) (ws : List Jvm.Cond) (v0 : Int32) (v1 : Int32) (v2 : Int32) (h0 : Heap) (n0 : Nat) (Z0 : n0 ≤ h0.size) :
    MetFree l (⟨"com/example/quern/quern/core/DocumentSetsComplementPinLaw", "members", "(IIZ)[I"⟩ : MethodName) (head1 (Jvm.Cond.code (⟨"com/example/quern/quern/core/DocumentSetsComplementPinLaw", "members", "(IIZ)[I"⟩ : MethodName) method_4_code 6 (some (.array .int)) :: ws) ({ frames := 1, cells := 2, slots := 14, locals := 17 } : Room)) (fun a U => a = #[(.int v0), (.int v1), (.int v2)] ∧ Z.Warmed39 U.vm ∧ U.heap = h0) (fun _ _ _ _ _ => True) (fun _ U o U' => ∃ v L, o = .returned v ∧ Q_members Z v0 v1 v2 h0 n0 v U'.heap L ∧ FrameEnd U o U' L ({ frames := 1, cells := 2, slots := 14, locals := 17 } : Room).cells ({ frames := 1, cells := 2, slots := 14, locals := 17 } : Room).slots) := by
  refine MetFree.of_bodySF (plainFor_of_name (by first | (simp [plainName, overriddenIn]; done) | decide +kernel)) hisR ?_
  intro p e s m args below meth c s₁ Bd hml0 hP hK
  obtain ⟨rfl, hZ, hh⟩ := hP
  have hx := Bd.exec
  have hby := Bd.bytes
  have hml : c.maxLocals = 6 := hml0
  have hown : s.vm.findClass "com/example/quern/quern/core/DocumentSetsComplementPinLaw" = some m.cls := findClass_of_methodNamed Bd.named
  have hnm := (name_of_methodNamed Bd.named Bd.method).1
  have hlk : meth.locks = false := Bd.notSynchronized
  have X0 : Stand p l e ({ frames := 1, cells := 2, slots := 14, locals := 17 } : Room) s m #[(.int v0), (.int v1), (.int v2)] below meth c s₁ [] 0 0 := Stand.of_body Bd
  have e0 : s₁.heap = h0 := by rw [← hh, Bd.state]; rfl
  have N0 := Fr.nil n0
  refine Go.enter (Q := Q_members Z v0 v1 v2 h0 n0) (C := ({ frames := 1, cells := 2, slots := 14, locals := 17 } : Room).cells) (N := ({ frames := 1, cells := 2, slots := 14, locals := 17 } : Room).slots) (ef_members m v0 v1 v2) ?_
  show Go p e below s _ _ _ s₁ (mkF m 0 #[.val (.int v0), .val (.int v1), .val (.int v2), .unset, .unset, .unset] [])
  refine G_bipush X0 hx (pc' := 2) rfl (hb hby d_members_0) (z := (7 : Int32)) rfl ?_
  obtain ⟨T3, h3, X3, e3, E3, B3, A3, st3⟩ := newAI X0 hx hZ (hw _ (List.mem_of_getElem? (i := 5) rfl)) e0 (g := (mkF m 2 #[.val (.int v0), .val (.int v1), .val (.int v2), .unset, .unset, .unset] [(.int (7 : Int32))])) rfl (hb hby d_members_2) rfl (by decide) (ty := .int) rfl ⟨rfl, rfl⟩ (cap := 7) (by decide) (by decide) (by decide) (by decide) (ad := "[I") (by decide)
  obtain ⟨b3, q3⟩ : ∃ z, z = h0.size := ⟨_, rfl⟩
  rw [← q3] at A3 B3 st3
  refine Go.st st3 ?_
  have g_b3 : n0 ≤ b3 := Nat.le_trans Z0 (Nat.le_of_eq q3.symm)
  have sz_b3 : h0.size ≤ b3 := Nat.le_trans (Nat.le_refl _) (Nat.le_of_eq q3.symm)
  have A_b3 : AI Z h3 b3 .int [(0 : Int32), (0 : Int32), (0 : Int32), (0 : Int32), (0 : Int32), (0 : Int32), (0 : Int32)] := A3
  have K_3 : Keep h0 h3 [] := (Keep.refl h0 []).ext E3
  have Z_3 : n0 ≤ h3.size := Nat.le_trans Z0 K_3.1
  clear E3 st3 A3
  show Go p e below s _ _ _ T3 (mkF m 4 #[.val (.int v0), .val (.int v1), .val (.int v2), .unset, .unset, .unset] [(.ref b3)])
  refine G_astoreN X3 hx (pc' := 5) rfl (hb hby d_members_4) rfl (L' := #[.val (.int v0), .val (.int v1), .val (.int v2), .val (.ref b3), .unset, .unset]) rfl ?_
  refine G_iconst X3 hx (pc' := 6) rfl (hb hby d_members_5) (z := (0 : Int32)) rfl ?_
  refine G_istore X3 hx (pc' := 8) rfl (hb hby d_members_6) (L' := #[.val (.int v0), .val (.int v1), .val (.int v2), .val (.ref b3), .val (.int (0 : Int32)), .unset]) rfl ?_
  have B0 : AI Z h3 b3 .int ((own_P 0 v0 v1 v2) ++ List.replicate (7 - (own_P 0 v0 v1 v2).length) (0 : Int32)) := A_b3
  refine G_aloadN X3 hx (pc' := 9) rfl (hb hby d_members_8) rfl rfl ?_
  refine G_iload X3 hx (pc' := 11) rfl (hb hby d_members_9) rfl ?_
  refine G_iloadN X3 hx (pc' := 12) rfl (hb hby d_members_11) rfl ?_
  refine G_iloadN X3 hx (pc' := 13) rfl (hb hby d_members_12) rfl ?_
  refine G_iloadN X3 hx (pc' := 14) rfl (hb hby d_members_13) rfl ?_
  refine G_iconst X3 hx (pc' := 15) rfl (hb hby d_members_14) (z := (0 : Int32)) rfl ?_
  obtain ⟨_, _, ⟨T4, L4, k4, n4⟩, -, X4, ⟨Lc4, hQ4, l4, y4, z4⟩, st4⟩ := Jvm.LawKit.callS X3 hx (y := (⟨"com/example/quern/quern/core/DocumentSetsComplementPinLaw", "put", "([IIIIZI)I"⟩ : MethodName)) hown (mvT hZ (hw _ (List.mem_of_getElem? (i := 6) rfl))) (mvT hZ (hw _ (List.mem_of_getElem? (i := 7) rfl))) (mvT hZ (hw _ (List.mem_of_getElem? (i := 3) rfl))) (mvT hZ (hw _ (List.mem_of_getElem? (i := 8) rfl))) (by decide) (backOf (W := 0) (rm_put l Z a0 hw [] b3 (0 : Int32) v0 v1 v2 (0 : Int32) (own_P 0 v0 v1 v2) (7 - (own_P 0 v0 v1 v2).length) h3 n0 Z_3 B0 g_b3 rfl (by have := own_Pl 0 v0 v1 v2; omega) (by have := own_Pl 0 v0 v1 v2; omega)) hZ (hw _ (List.mem_of_getElem? (i := 8) rfl)) (hw _ (List.mem_of_getElem? (i := 3) rfl)) (by decide) (by decide)) (g := (mkF m 15 #[.val (.int v0), .val (.int v1), .val (.int v2), .val (.ref b3), .val (.int (0 : Int32)), .unset] [(.int (0 : Int32)), (.int v2), (.int v1), (.int v0), (.int (0 : Int32)), (.ref b3)])) rfl (by rw [hml]; rfl) (argsL := [(.ref b3), (.int (0 : Int32)), (.int v0), (.int v1), (.int v2), (.int (0 : Int32))]) (rest := []) (lenOf pd_0 rfl) rfl (by show 2 * 0 + _ ≤ _; exact Nat.le_of_eq rfl) (hb hby d_members_15) (fun _ _ => ⟨rfl, e3, (by decide : 1 + 0 ≤ _), (by decide : 7 + 0 ≤ _)⟩)
  dsimp only [Pt.U, Pt.locs, Pt.cells, Pt.slots] at X4 l4 y4 z4 st4 hQ4
  rw [l4, y4, z4] at X4
  clear l4 y4 z4
  obtain ⟨rfl, N4q, K4, p4_0⟩ := hQ4
  have N4 := Fr.app N0 N4q
  refine Go.st st4 ?_
  have E_b3_4 := B3.keep K4
  have K_4 : Keep h0 T4.heap [] := K_3.trans K4 (allS (Or.inr sz_b3) all0)
  have Z_4 : n0 ≤ T4.heap.size := Nat.le_trans Z0 K_4.1
  clear B3 B0 st4 K4
  obtain ⟨G4, Y4, M4⟩ : ∃ L, Stand p l e ({ frames := 1, cells := 2, slots := 14, locals := 17 } : Room) s m #[(.int v0), (.int v1), (.int v2)] below meth c T4 L 1 7 ∧ Fr n0 L := ⟨_, X4, N4⟩
  clear X4 N4
  have B1 : AI Z T4.heap b3 .int ((own_P 1 v0 v1 v2) ++ List.replicate (7 - (own_P 1 v0 v1 v2).length) (0 : Int32)) := own_cv (own_Pn (by decide : 0 < 7) v0 v1 v2) ▸ p4_0
  rw [show (Int32.ofNat ((own_P 0 v0 v1 v2) ++ (own_opt v0 v1 v2 (0 : Int32))).length) = (Int32.ofNat (own_P 1 v0 v1 v2).length) from congrArg (fun z : List Int32 => Int32.ofNat z.length) (own_Pn (by decide : 0 < 7) v0 v1 v2)]
  show Go p e below s _ _ _ T4 (mkF m 18 #[.val (.int v0), .val (.int v1), .val (.int v2), .val (.ref b3), .val (.int (0 : Int32)), .unset] [(.int (Int32.ofNat (own_P 1 v0 v1 v2).length))])
  refine G_istore Y4 hx (pc' := 20) rfl (hb hby d_members_18) (L' := #[.val (.int v0), .val (.int v1), .val (.int v2), .val (.ref b3), .val (.int (Int32.ofNat (own_P 1 v0 v1 v2).length)), .unset]) rfl ?_
  refine G_aloadN Y4 hx (pc' := 21) rfl (hb hby d_members_20) rfl rfl ?_
  refine G_iload Y4 hx (pc' := 23) rfl (hb hby d_members_21) rfl ?_
  refine G_iloadN Y4 hx (pc' := 24) rfl (hb hby d_members_23) rfl ?_
  refine G_iloadN Y4 hx (pc' := 25) rfl (hb hby d_members_24) rfl ?_
  refine G_iloadN Y4 hx (pc' := 26) rfl (hb hby d_members_25) rfl ?_
  refine G_iconst Y4 hx (pc' := 27) rfl (hb hby d_members_26) (z := (1 : Int32)) rfl ?_
  obtain ⟨_, _, ⟨T5, L5, k5, n5⟩, -, X5, ⟨Lc5, hQ5, l5, y5, z5⟩, st5⟩ := Jvm.LawKit.callS Y4 hx (y := (⟨"com/example/quern/quern/core/DocumentSetsComplementPinLaw", "put", "([IIIIZI)I"⟩ : MethodName)) hown (mvT hZ (hw _ (List.mem_of_getElem? (i := 6) rfl))) (mvT hZ (hw _ (List.mem_of_getElem? (i := 7) rfl))) (mvT hZ (hw _ (List.mem_of_getElem? (i := 3) rfl))) (mvT hZ (hw _ (List.mem_of_getElem? (i := 8) rfl))) (by decide) (backOf (W := 0) (rm_put l Z a0 hw [] b3 (Int32.ofNat (own_P 1 v0 v1 v2).length) v0 v1 v2 (1 : Int32) (own_P 1 v0 v1 v2) (7 - (own_P 1 v0 v1 v2).length) T4.heap n0 Z_4 B1 g_b3 rfl (by have := own_Pl 1 v0 v1 v2; omega) (by have := own_Pl 1 v0 v1 v2; omega)) hZ (hw _ (List.mem_of_getElem? (i := 8) rfl)) (hw _ (List.mem_of_getElem? (i := 3) rfl)) (by decide) (by decide)) (g := (mkF m 27 #[.val (.int v0), .val (.int v1), .val (.int v2), .val (.ref b3), .val (.int (Int32.ofNat (own_P 1 v0 v1 v2).length)), .unset] [(.int (1 : Int32)), (.int v2), (.int v1), (.int v0), (.int (Int32.ofNat (own_P 1 v0 v1 v2).length)), (.ref b3)])) rfl (by rw [hml]; rfl) (argsL := [(.ref b3), (.int (Int32.ofNat (own_P 1 v0 v1 v2).length)), (.int v0), (.int v1), (.int v2), (.int (1 : Int32))]) (rest := []) (lenOf pd_0 rfl) rfl (by show 2 * 0 + _ ≤ _; exact Nat.le_of_eq rfl) (hb hby d_members_27) (fun _ _ => ⟨rfl, rfl, (by decide : 1 + 0 ≤ _), (by decide : 7 + 0 ≤ _)⟩)
  dsimp only [Pt.U, Pt.locs, Pt.cells, Pt.slots] at X5 l5 y5 z5 st5 hQ5
  rw [l5, y5, z5] at X5
  clear l5 y5 z5
  obtain ⟨rfl, N5q, K5, p5_0⟩ := hQ5
  have N5 := Fr.app M4 N5q
  refine Go.st st5 ?_
  have E_b3_5 := E_b3_4.keep K5
  have K_5 : Keep h0 T5.heap [] := K_4.trans K5 (allS (Or.inr sz_b3) all0)
  have Z_5 : n0 ≤ T5.heap.size := Nat.le_trans Z0 K_5.1
  clear E_b3_4 B1 st5 K5
  obtain ⟨G5, Y5, M5⟩ : ∃ L, Stand p l e ({ frames := 1, cells := 2, slots := 14, locals := 17 } : Room) s m #[(.int v0), (.int v1), (.int v2)] below meth c T5 L 1 7 ∧ Fr n0 L := ⟨_, X5, N5⟩
  clear X5 N5
  have B2 : AI Z T5.heap b3 .int ((own_P 2 v0 v1 v2) ++ List.replicate (7 - (own_P 2 v0 v1 v2).length) (0 : Int32)) := own_cv (own_Pn (by decide : 1 < 7) v0 v1 v2) ▸ p5_0
  rw [show (Int32.ofNat ((own_P 1 v0 v1 v2) ++ (own_opt v0 v1 v2 (1 : Int32))).length) = (Int32.ofNat (own_P 2 v0 v1 v2).length) from congrArg (fun z : List Int32 => Int32.ofNat z.length) (own_Pn (by decide : 1 < 7) v0 v1 v2)]
  show Go p e below s _ _ _ T5 (mkF m 30 #[.val (.int v0), .val (.int v1), .val (.int v2), .val (.ref b3), .val (.int (Int32.ofNat (own_P 1 v0 v1 v2).length)), .unset] [(.int (Int32.ofNat (own_P 2 v0 v1 v2).length))])
  refine G_istore Y5 hx (pc' := 32) rfl (hb hby d_members_30) (L' := #[.val (.int v0), .val (.int v1), .val (.int v2), .val (.ref b3), .val (.int (Int32.ofNat (own_P 2 v0 v1 v2).length)), .unset]) rfl ?_
  refine G_aloadN Y5 hx (pc' := 33) rfl (hb hby d_members_32) rfl rfl ?_
  refine G_iload Y5 hx (pc' := 35) rfl (hb hby d_members_33) rfl ?_
  refine G_iloadN Y5 hx (pc' := 36) rfl (hb hby d_members_35) rfl ?_
  refine G_iloadN Y5 hx (pc' := 37) rfl (hb hby d_members_36) rfl ?_
  refine G_iloadN Y5 hx (pc' := 38) rfl (hb hby d_members_37) rfl ?_
  refine G_iconst Y5 hx (pc' := 39) rfl (hb hby d_members_38) (z := (2 : Int32)) rfl ?_
  obtain ⟨_, _, ⟨T6, L6, k6, n6⟩, -, X6, ⟨Lc6, hQ6, l6, y6, z6⟩, st6⟩ := Jvm.LawKit.callS Y5 hx (y := (⟨"com/example/quern/quern/core/DocumentSetsComplementPinLaw", "put", "([IIIIZI)I"⟩ : MethodName)) hown (mvT hZ (hw _ (List.mem_of_getElem? (i := 6) rfl))) (mvT hZ (hw _ (List.mem_of_getElem? (i := 7) rfl))) (mvT hZ (hw _ (List.mem_of_getElem? (i := 3) rfl))) (mvT hZ (hw _ (List.mem_of_getElem? (i := 8) rfl))) (by decide) (backOf (W := 0) (rm_put l Z a0 hw [] b3 (Int32.ofNat (own_P 2 v0 v1 v2).length) v0 v1 v2 (2 : Int32) (own_P 2 v0 v1 v2) (7 - (own_P 2 v0 v1 v2).length) T5.heap n0 Z_5 B2 g_b3 rfl (by have := own_Pl 2 v0 v1 v2; omega) (by have := own_Pl 2 v0 v1 v2; omega)) hZ (hw _ (List.mem_of_getElem? (i := 8) rfl)) (hw _ (List.mem_of_getElem? (i := 3) rfl)) (by decide) (by decide)) (g := (mkF m 39 #[.val (.int v0), .val (.int v1), .val (.int v2), .val (.ref b3), .val (.int (Int32.ofNat (own_P 2 v0 v1 v2).length)), .unset] [(.int (2 : Int32)), (.int v2), (.int v1), (.int v0), (.int (Int32.ofNat (own_P 2 v0 v1 v2).length)), (.ref b3)])) rfl (by rw [hml]; rfl) (argsL := [(.ref b3), (.int (Int32.ofNat (own_P 2 v0 v1 v2).length)), (.int v0), (.int v1), (.int v2), (.int (2 : Int32))]) (rest := []) (lenOf pd_0 rfl) rfl (by show 2 * 0 + _ ≤ _; exact Nat.le_of_eq rfl) (hb hby d_members_39) (fun _ _ => ⟨rfl, rfl, (by decide : 1 + 0 ≤ _), (by decide : 7 + 0 ≤ _)⟩)
  dsimp only [Pt.U, Pt.locs, Pt.cells, Pt.slots] at X6 l6 y6 z6 st6 hQ6
  rw [l6, y6, z6] at X6
  clear l6 y6 z6
  obtain ⟨rfl, N6q, K6, p6_0⟩ := hQ6
  have N6 := Fr.app M5 N6q
  refine Go.st st6 ?_
  have E_b3_6 := E_b3_5.keep K6
  have K_6 : Keep h0 T6.heap [] := K_5.trans K6 (allS (Or.inr sz_b3) all0)
  have Z_6 : n0 ≤ T6.heap.size := Nat.le_trans Z0 K_6.1
  clear E_b3_5 B2 st6 K6
  obtain ⟨G6, Y6, M6⟩ : ∃ L, Stand p l e ({ frames := 1, cells := 2, slots := 14, locals := 17 } : Room) s m #[(.int v0), (.int v1), (.int v2)] below meth c T6 L 1 7 ∧ Fr n0 L := ⟨_, X6, N6⟩
  clear X6 N6
  have B3 : AI Z T6.heap b3 .int ((own_P 3 v0 v1 v2) ++ List.replicate (7 - (own_P 3 v0 v1 v2).length) (0 : Int32)) := own_cv (own_Pn (by decide : 2 < 7) v0 v1 v2) ▸ p6_0
  rw [show (Int32.ofNat ((own_P 2 v0 v1 v2) ++ (own_opt v0 v1 v2 (2 : Int32))).length) = (Int32.ofNat (own_P 3 v0 v1 v2).length) from congrArg (fun z : List Int32 => Int32.ofNat z.length) (own_Pn (by decide : 2 < 7) v0 v1 v2)]
  show Go p e below s _ _ _ T6 (mkF m 42 #[.val (.int v0), .val (.int v1), .val (.int v2), .val (.ref b3), .val (.int (Int32.ofNat (own_P 2 v0 v1 v2).length)), .unset] [(.int (Int32.ofNat (own_P 3 v0 v1 v2).length))])
  refine G_istore Y6 hx (pc' := 44) rfl (hb hby d_members_42) (L' := #[.val (.int v0), .val (.int v1), .val (.int v2), .val (.ref b3), .val (.int (Int32.ofNat (own_P 3 v0 v1 v2).length)), .unset]) rfl ?_
  refine G_aloadN Y6 hx (pc' := 45) rfl (hb hby d_members_44) rfl rfl ?_
  refine G_iload Y6 hx (pc' := 47) rfl (hb hby d_members_45) rfl ?_
  refine G_iloadN Y6 hx (pc' := 48) rfl (hb hby d_members_47) rfl ?_
  refine G_iloadN Y6 hx (pc' := 49) rfl (hb hby d_members_48) rfl ?_
  refine G_iloadN Y6 hx (pc' := 50) rfl (hb hby d_members_49) rfl ?_
  refine G_iconst Y6 hx (pc' := 51) rfl (hb hby d_members_50) (z := (3 : Int32)) rfl ?_
  obtain ⟨_, _, ⟨T7, L7, k7, n7⟩, -, X7, ⟨Lc7, hQ7, l7, y7, z7⟩, st7⟩ := Jvm.LawKit.callS Y6 hx (y := (⟨"com/example/quern/quern/core/DocumentSetsComplementPinLaw", "put", "([IIIIZI)I"⟩ : MethodName)) hown (mvT hZ (hw _ (List.mem_of_getElem? (i := 6) rfl))) (mvT hZ (hw _ (List.mem_of_getElem? (i := 7) rfl))) (mvT hZ (hw _ (List.mem_of_getElem? (i := 3) rfl))) (mvT hZ (hw _ (List.mem_of_getElem? (i := 8) rfl))) (by decide) (backOf (W := 0) (rm_put l Z a0 hw [] b3 (Int32.ofNat (own_P 3 v0 v1 v2).length) v0 v1 v2 (3 : Int32) (own_P 3 v0 v1 v2) (7 - (own_P 3 v0 v1 v2).length) T6.heap n0 Z_6 B3 g_b3 rfl (by have := own_Pl 3 v0 v1 v2; omega) (by have := own_Pl 3 v0 v1 v2; omega)) hZ (hw _ (List.mem_of_getElem? (i := 8) rfl)) (hw _ (List.mem_of_getElem? (i := 3) rfl)) (by decide) (by decide)) (g := (mkF m 51 #[.val (.int v0), .val (.int v1), .val (.int v2), .val (.ref b3), .val (.int (Int32.ofNat (own_P 3 v0 v1 v2).length)), .unset] [(.int (3 : Int32)), (.int v2), (.int v1), (.int v0), (.int (Int32.ofNat (own_P 3 v0 v1 v2).length)), (.ref b3)])) rfl (by rw [hml]; rfl) (argsL := [(.ref b3), (.int (Int32.ofNat (own_P 3 v0 v1 v2).length)), (.int v0), (.int v1), (.int v2), (.int (3 : Int32))]) (rest := []) (lenOf pd_0 rfl) rfl (by show 2 * 0 + _ ≤ _; exact Nat.le_of_eq rfl) (hb hby d_members_51) (fun _ _ => ⟨rfl, rfl, (by decide : 1 + 0 ≤ _), (by decide : 7 + 0 ≤ _)⟩)
  dsimp only [Pt.U, Pt.locs, Pt.cells, Pt.slots] at X7 l7 y7 z7 st7 hQ7
  rw [l7, y7, z7] at X7
  clear l7 y7 z7
  obtain ⟨rfl, N7q, K7, p7_0⟩ := hQ7
  have N7 := Fr.app M6 N7q
  refine Go.st st7 ?_
  have E_b3_7 := E_b3_6.keep K7
  have K_7 : Keep h0 T7.heap [] := K_6.trans K7 (allS (Or.inr sz_b3) all0)
  have Z_7 : n0 ≤ T7.heap.size := Nat.le_trans Z0 K_7.1
  clear E_b3_6 B3 st7 K7
  obtain ⟨G7, Y7, M7⟩ : ∃ L, Stand p l e ({ frames := 1, cells := 2, slots := 14, locals := 17 } : Room) s m #[(.int v0), (.int v1), (.int v2)] below meth c T7 L 1 7 ∧ Fr n0 L := ⟨_, X7, N7⟩
  clear X7 N7
  have B4 : AI Z T7.heap b3 .int ((own_P 4 v0 v1 v2) ++ List.replicate (7 - (own_P 4 v0 v1 v2).length) (0 : Int32)) := own_cv (own_Pn (by decide : 3 < 7) v0 v1 v2) ▸ p7_0
  rw [show (Int32.ofNat ((own_P 3 v0 v1 v2) ++ (own_opt v0 v1 v2 (3 : Int32))).length) = (Int32.ofNat (own_P 4 v0 v1 v2).length) from congrArg (fun z : List Int32 => Int32.ofNat z.length) (own_Pn (by decide : 3 < 7) v0 v1 v2)]
  show Go p e below s _ _ _ T7 (mkF m 54 #[.val (.int v0), .val (.int v1), .val (.int v2), .val (.ref b3), .val (.int (Int32.ofNat (own_P 3 v0 v1 v2).length)), .unset] [(.int (Int32.ofNat (own_P 4 v0 v1 v2).length))])
  refine G_istore Y7 hx (pc' := 56) rfl (hb hby d_members_54) (L' := #[.val (.int v0), .val (.int v1), .val (.int v2), .val (.ref b3), .val (.int (Int32.ofNat (own_P 4 v0 v1 v2).length)), .unset]) rfl ?_
  refine G_aloadN Y7 hx (pc' := 57) rfl (hb hby d_members_56) rfl rfl ?_
  refine G_iload Y7 hx (pc' := 59) rfl (hb hby d_members_57) rfl ?_
  refine G_iloadN Y7 hx (pc' := 60) rfl (hb hby d_members_59) rfl ?_
  refine G_iloadN Y7 hx (pc' := 61) rfl (hb hby d_members_60) rfl ?_
  refine G_iloadN Y7 hx (pc' := 62) rfl (hb hby d_members_61) rfl ?_
  refine G_iconst Y7 hx (pc' := 63) rfl (hb hby d_members_62) (z := (4 : Int32)) rfl ?_
  obtain ⟨_, _, ⟨T8, L8, k8, n8⟩, -, X8, ⟨Lc8, hQ8, l8, y8, z8⟩, st8⟩ := Jvm.LawKit.callS Y7 hx (y := (⟨"com/example/quern/quern/core/DocumentSetsComplementPinLaw", "put", "([IIIIZI)I"⟩ : MethodName)) hown (mvT hZ (hw _ (List.mem_of_getElem? (i := 6) rfl))) (mvT hZ (hw _ (List.mem_of_getElem? (i := 7) rfl))) (mvT hZ (hw _ (List.mem_of_getElem? (i := 3) rfl))) (mvT hZ (hw _ (List.mem_of_getElem? (i := 8) rfl))) (by decide) (backOf (W := 0) (rm_put l Z a0 hw [] b3 (Int32.ofNat (own_P 4 v0 v1 v2).length) v0 v1 v2 (4 : Int32) (own_P 4 v0 v1 v2) (7 - (own_P 4 v0 v1 v2).length) T7.heap n0 Z_7 B4 g_b3 rfl (by have := own_Pl 4 v0 v1 v2; omega) (by have := own_Pl 4 v0 v1 v2; omega)) hZ (hw _ (List.mem_of_getElem? (i := 8) rfl)) (hw _ (List.mem_of_getElem? (i := 3) rfl)) (by decide) (by decide)) (g := (mkF m 63 #[.val (.int v0), .val (.int v1), .val (.int v2), .val (.ref b3), .val (.int (Int32.ofNat (own_P 4 v0 v1 v2).length)), .unset] [(.int (4 : Int32)), (.int v2), (.int v1), (.int v0), (.int (Int32.ofNat (own_P 4 v0 v1 v2).length)), (.ref b3)])) rfl (by rw [hml]; rfl) (argsL := [(.ref b3), (.int (Int32.ofNat (own_P 4 v0 v1 v2).length)), (.int v0), (.int v1), (.int v2), (.int (4 : Int32))]) (rest := []) (lenOf pd_0 rfl) rfl (by show 2 * 0 + _ ≤ _; exact Nat.le_of_eq rfl) (hb hby d_members_63) (fun _ _ => ⟨rfl, rfl, (by decide : 1 + 0 ≤ _), (by decide : 7 + 0 ≤ _)⟩)
  dsimp only [Pt.U, Pt.locs, Pt.cells, Pt.slots] at X8 l8 y8 z8 st8 hQ8
  rw [l8, y8, z8] at X8
  clear l8 y8 z8
  obtain ⟨rfl, N8q, K8, p8_0⟩ := hQ8
  have N8 := Fr.app M7 N8q
  refine Go.st st8 ?_
  have E_b3_8 := E_b3_7.keep K8
  have K_8 : Keep h0 T8.heap [] := K_7.trans K8 (allS (Or.inr sz_b3) all0)
  have Z_8 : n0 ≤ T8.heap.size := Nat.le_trans Z0 K_8.1
  clear E_b3_7 B4 st8 K8
  obtain ⟨G8, Y8, M8⟩ : ∃ L, Stand p l e ({ frames := 1, cells := 2, slots := 14, locals := 17 } : Room) s m #[(.int v0), (.int v1), (.int v2)] below meth c T8 L 1 7 ∧ Fr n0 L := ⟨_, X8, N8⟩
  clear X8 N8
  have B5 : AI Z T8.heap b3 .int ((own_P 5 v0 v1 v2) ++ List.replicate (7 - (own_P 5 v0 v1 v2).length) (0 : Int32)) := own_cv (own_Pn (by decide : 4 < 7) v0 v1 v2) ▸ p8_0
  rw [show (Int32.ofNat ((own_P 4 v0 v1 v2) ++ (own_opt v0 v1 v2 (4 : Int32))).length) = (Int32.ofNat (own_P 5 v0 v1 v2).length) from congrArg (fun z : List Int32 => Int32.ofNat z.length) (own_Pn (by decide : 4 < 7) v0 v1 v2)]
  show Go p e below s _ _ _ T8 (mkF m 66 #[.val (.int v0), .val (.int v1), .val (.int v2), .val (.ref b3), .val (.int (Int32.ofNat (own_P 4 v0 v1 v2).length)), .unset] [(.int (Int32.ofNat (own_P 5 v0 v1 v2).length))])
  refine G_istore Y8 hx (pc' := 68) rfl (hb hby d_members_66) (L' := #[.val (.int v0), .val (.int v1), .val (.int v2), .val (.ref b3), .val (.int (Int32.ofNat (own_P 5 v0 v1 v2).length)), .unset]) rfl ?_
  refine G_aloadN Y8 hx (pc' := 69) rfl (hb hby d_members_68) rfl rfl ?_
  refine G_iload Y8 hx (pc' := 71) rfl (hb hby d_members_69) rfl ?_
  refine G_iloadN Y8 hx (pc' := 72) rfl (hb hby d_members_71) rfl ?_
  refine G_iloadN Y8 hx (pc' := 73) rfl (hb hby d_members_72) rfl ?_
  refine G_iloadN Y8 hx (pc' := 74) rfl (hb hby d_members_73) rfl ?_
  refine G_iconst Y8 hx (pc' := 75) rfl (hb hby d_members_74) (z := (5 : Int32)) rfl ?_
  obtain ⟨_, _, ⟨T9, L9, k9, n9⟩, -, X9, ⟨Lc9, hQ9, l9, y9, z9⟩, st9⟩ := Jvm.LawKit.callS Y8 hx (y := (⟨"com/example/quern/quern/core/DocumentSetsComplementPinLaw", "put", "([IIIIZI)I"⟩ : MethodName)) hown (mvT hZ (hw _ (List.mem_of_getElem? (i := 6) rfl))) (mvT hZ (hw _ (List.mem_of_getElem? (i := 7) rfl))) (mvT hZ (hw _ (List.mem_of_getElem? (i := 3) rfl))) (mvT hZ (hw _ (List.mem_of_getElem? (i := 8) rfl))) (by decide) (backOf (W := 0) (rm_put l Z a0 hw [] b3 (Int32.ofNat (own_P 5 v0 v1 v2).length) v0 v1 v2 (5 : Int32) (own_P 5 v0 v1 v2) (7 - (own_P 5 v0 v1 v2).length) T8.heap n0 Z_8 B5 g_b3 rfl (by have := own_Pl 5 v0 v1 v2; omega) (by have := own_Pl 5 v0 v1 v2; omega)) hZ (hw _ (List.mem_of_getElem? (i := 8) rfl)) (hw _ (List.mem_of_getElem? (i := 3) rfl)) (by decide) (by decide)) (g := (mkF m 75 #[.val (.int v0), .val (.int v1), .val (.int v2), .val (.ref b3), .val (.int (Int32.ofNat (own_P 5 v0 v1 v2).length)), .unset] [(.int (5 : Int32)), (.int v2), (.int v1), (.int v0), (.int (Int32.ofNat (own_P 5 v0 v1 v2).length)), (.ref b3)])) rfl (by rw [hml]; rfl) (argsL := [(.ref b3), (.int (Int32.ofNat (own_P 5 v0 v1 v2).length)), (.int v0), (.int v1), (.int v2), (.int (5 : Int32))]) (rest := []) (lenOf pd_0 rfl) rfl (by show 2 * 0 + _ ≤ _; exact Nat.le_of_eq rfl) (hb hby d_members_75) (fun _ _ => ⟨rfl, rfl, (by decide : 1 + 0 ≤ _), (by decide : 7 + 0 ≤ _)⟩)
  dsimp only [Pt.U, Pt.locs, Pt.cells, Pt.slots] at X9 l9 y9 z9 st9 hQ9
  rw [l9, y9, z9] at X9
  clear l9 y9 z9
  obtain ⟨rfl, N9q, K9, p9_0⟩ := hQ9
  have N9 := Fr.app M8 N9q
  refine Go.st st9 ?_
  have E_b3_9 := E_b3_8.keep K9
  have K_9 : Keep h0 T9.heap [] := K_8.trans K9 (allS (Or.inr sz_b3) all0)
  have Z_9 : n0 ≤ T9.heap.size := Nat.le_trans Z0 K_9.1
  clear E_b3_8 B5 st9 K9
  obtain ⟨G9, Y9, M9⟩ : ∃ L, Stand p l e ({ frames := 1, cells := 2, slots := 14, locals := 17 } : Room) s m #[(.int v0), (.int v1), (.int v2)] below meth c T9 L 1 7 ∧ Fr n0 L := ⟨_, X9, N9⟩
  clear X9 N9
  have B6 : AI Z T9.heap b3 .int ((own_P 6 v0 v1 v2) ++ List.replicate (7 - (own_P 6 v0 v1 v2).length) (0 : Int32)) := own_cv (own_Pn (by decide : 5 < 7) v0 v1 v2) ▸ p9_0
  rw [show (Int32.ofNat ((own_P 5 v0 v1 v2) ++ (own_opt v0 v1 v2 (5 : Int32))).length) = (Int32.ofNat (own_P 6 v0 v1 v2).length) from congrArg (fun z : List Int32 => Int32.ofNat z.length) (own_Pn (by decide : 5 < 7) v0 v1 v2)]
  show Go p e below s _ _ _ T9 (mkF m 78 #[.val (.int v0), .val (.int v1), .val (.int v2), .val (.ref b3), .val (.int (Int32.ofNat (own_P 5 v0 v1 v2).length)), .unset] [(.int (Int32.ofNat (own_P 6 v0 v1 v2).length))])
  refine G_istore Y9 hx (pc' := 80) rfl (hb hby d_members_78) (L' := #[.val (.int v0), .val (.int v1), .val (.int v2), .val (.ref b3), .val (.int (Int32.ofNat (own_P 6 v0 v1 v2).length)), .unset]) rfl ?_
  refine G_aloadN Y9 hx (pc' := 81) rfl (hb hby d_members_80) rfl rfl ?_
  refine G_iload Y9 hx (pc' := 83) rfl (hb hby d_members_81) rfl ?_
  refine G_iloadN Y9 hx (pc' := 84) rfl (hb hby d_members_83) rfl ?_
  refine G_iloadN Y9 hx (pc' := 85) rfl (hb hby d_members_84) rfl ?_
  refine G_iloadN Y9 hx (pc' := 86) rfl (hb hby d_members_85) rfl ?_
  refine G_bipush Y9 hx (pc' := 88) rfl (hb hby d_members_86) (z := (6 : Int32)) rfl ?_
  obtain ⟨_, _, ⟨T10, L10, k10, n10⟩, -, X10, ⟨Lc10, hQ10, l10, y10, z10⟩, st10⟩ := Jvm.LawKit.callS Y9 hx (y := (⟨"com/example/quern/quern/core/DocumentSetsComplementPinLaw", "put", "([IIIIZI)I"⟩ : MethodName)) hown (mvT hZ (hw _ (List.mem_of_getElem? (i := 6) rfl))) (mvT hZ (hw _ (List.mem_of_getElem? (i := 7) rfl))) (mvT hZ (hw _ (List.mem_of_getElem? (i := 3) rfl))) (mvT hZ (hw _ (List.mem_of_getElem? (i := 8) rfl))) (by decide) (backOf (W := 0) (rm_put l Z a0 hw [] b3 (Int32.ofNat (own_P 6 v0 v1 v2).length) v0 v1 v2 (6 : Int32) (own_P 6 v0 v1 v2) (7 - (own_P 6 v0 v1 v2).length) T9.heap n0 Z_9 B6 g_b3 rfl (by have := own_Pl 6 v0 v1 v2; omega) (by have := own_Pl 6 v0 v1 v2; omega)) hZ (hw _ (List.mem_of_getElem? (i := 8) rfl)) (hw _ (List.mem_of_getElem? (i := 3) rfl)) (by decide) (by decide)) (g := (mkF m 88 #[.val (.int v0), .val (.int v1), .val (.int v2), .val (.ref b3), .val (.int (Int32.ofNat (own_P 6 v0 v1 v2).length)), .unset] [(.int (6 : Int32)), (.int v2), (.int v1), (.int v0), (.int (Int32.ofNat (own_P 6 v0 v1 v2).length)), (.ref b3)])) rfl (by rw [hml]; rfl) (argsL := [(.ref b3), (.int (Int32.ofNat (own_P 6 v0 v1 v2).length)), (.int v0), (.int v1), (.int v2), (.int (6 : Int32))]) (rest := []) (lenOf pd_0 rfl) rfl (by show 2 * 0 + _ ≤ _; exact Nat.le_of_eq rfl) (hb hby d_members_88) (fun _ _ => ⟨rfl, rfl, (by decide : 1 + 0 ≤ _), (by decide : 7 + 0 ≤ _)⟩)
  dsimp only [Pt.U, Pt.locs, Pt.cells, Pt.slots] at X10 l10 y10 z10 st10 hQ10
  rw [l10, y10, z10] at X10
  clear l10 y10 z10
  obtain ⟨rfl, N10q, K10, p10_0⟩ := hQ10
  have N10 := Fr.app M9 N10q
  refine Go.st st10 ?_
  have E_b3_10 := E_b3_9.keep K10
  have K_10 : Keep h0 T10.heap [] := K_9.trans K10 (allS (Or.inr sz_b3) all0)
  have Z_10 : n0 ≤ T10.heap.size := Nat.le_trans Z0 K_10.1
  clear E_b3_9 B6 st10 K10
  obtain ⟨G10, Y10, M10⟩ : ∃ L, Stand p l e ({ frames := 1, cells := 2, slots := 14, locals := 17 } : Room) s m #[(.int v0), (.int v1), (.int v2)] below meth c T10 L 1 7 ∧ Fr n0 L := ⟨_, X10, N10⟩
  clear X10 N10
  have B7 : AI Z T10.heap b3 .int ((own_P 7 v0 v1 v2) ++ List.replicate (7 - (own_P 7 v0 v1 v2).length) (0 : Int32)) := own_cv (own_Pn (by decide : 6 < 7) v0 v1 v2) ▸ p10_0
  rw [show (Int32.ofNat ((own_P 6 v0 v1 v2) ++ (own_opt v0 v1 v2 (6 : Int32))).length) = (Int32.ofNat (own_P 7 v0 v1 v2).length) from congrArg (fun z : List Int32 => Int32.ofNat z.length) (own_Pn (by decide : 6 < 7) v0 v1 v2)]
  show Go p e below s _ _ _ T10 (mkF m 91 #[.val (.int v0), .val (.int v1), .val (.int v2), .val (.ref b3), .val (.int (Int32.ofNat (own_P 6 v0 v1 v2).length)), .unset] [(.int (Int32.ofNat (own_P 7 v0 v1 v2).length))])
  refine G_istore Y10 hx (pc' := 93) rfl (hb hby d_members_91) (L' := #[.val (.int v0), .val (.int v1), .val (.int v2), .val (.ref b3), .val (.int (Int32.ofNat (own_P 7 v0 v1 v2).length)), .unset]) rfl ?_
  obtain ⟨Y, hY, hY7⟩ : ∃ z, (own_P 7 v0 v1 v2) = z ∧ z.length ≤ 7 := ⟨_, rfl, own_P7 v0 v1 v2⟩
  rw [hY] at B7
  rw [hY]
  rcases own_l7 hY7 with rfl | ⟨y0, rfl⟩ | ⟨y0, y1, rfl⟩ | ⟨y0, y1, y2, rfl⟩ | ⟨y0, y1, y2, y3, rfl⟩ | ⟨y0, y1, y2, y3, y4, rfl⟩ | ⟨y0, y1, y2, y3, y4, y5, rfl⟩ | ⟨y0, y1, y2, y3, y4, y5, y6, rfl⟩
  · have BY : AI Z T10.heap b3 .int [(0 : Int32), (0 : Int32), (0 : Int32), (0 : Int32), (0 : Int32), (0 : Int32), (0 : Int32)] := B7
    show Go p e below s _ _ _ T10 (mkF m 93 #[.val (.int v0), .val (.int v1), .val (.int v2), .val (.ref b3), .val (.int (0 : Int32)), .unset] [])
    refine G_iload Y10 hx (pc' := 95) rfl (hb hby d_members_93) rfl ?_
    obtain ⟨T11, h11, X11, e11, E11, B11, A11, st11⟩ := newAI Y10 hx hZ (hw _ (List.mem_of_getElem? (i := 5) rfl)) rfl (g := (mkF m 95 #[.val (.int v0), .val (.int v1), .val (.int v2), .val (.ref b3), .val (.int (0 : Int32)), .unset] [(.int (0 : Int32))])) rfl (hb hby d_members_95) rfl (by decide) (ty := .int) rfl ⟨rfl, rfl⟩ (cap := 0) (by decide) (by decide) (by decide) (by decide) (ad := "[I") (by decide)
    obtain ⟨b11, q11⟩ : ∃ z, z = T10.heap.size := ⟨_, rfl⟩
    rw [← q11] at A11 B11 st11
    refine Go.st st11 ?_
    have ne_b3_b11 : b3 ≠ b11 := Nat.ne_of_lt (Nat.lt_of_lt_of_le E_b3_10.lt (Nat.le_of_eq q11.symm))
    have g_b11 : n0 ≤ b11 := Nat.le_trans Z_10 (Nat.le_of_eq q11.symm)
    have sz_b11 : h0.size ≤ b11 := Nat.le_trans K_10.1 (Nat.le_of_eq q11.symm)
    have E_b3_11 := E_b3_10.ext E11
    have A_b3_11 := BY.ext E11
    have A_b11 : AI Z h11 b11 .int [] := A11
    have K_11 : Keep h0 h11 [] := K_10.ext E11
    have Z_11 : n0 ≤ h11.size := Nat.le_trans Z0 K_11.1
    clear E_b3_10 BY E11 st11 A11
    show Go p e below s _ _ _ T11 (mkF m 97 #[.val (.int v0), .val (.int v1), .val (.int v2), .val (.ref b3), .val (.int (0 : Int32)), .unset] [(.ref b11)])
    refine G_astore X11 hx (pc' := 99) rfl (hb hby d_members_97) rfl (L' := #[.val (.int v0), .val (.int v1), .val (.int v2), .val (.ref b3), .val (.int (0 : Int32)), .val (.ref b11)]) rfl ?_
    refine G_iload X11 hx (pc' := 101) rfl (hb hby d_members_99) rfl ?_
    refine G_ifYes X11 hx (pc' := 111) (hb hby d_members_101) ((if0 _ _).trans (flt (by decide : ¬ ((0 : Int32) < (0 : Int32)))).2.2.2) (by decide) (by decide) ?_
    refine G_iload X11 hx (pc' := 113) rfl (hb hby d_members_111) rfl ?_
    refine G_iconst X11 hx (pc' := 114) rfl (hb hby d_members_113) (z := (1 : Int32)) rfl ?_
    refine G_icmpYes X11 hx (pc' := 124) (hb hby d_members_114) (flt (by decide : ¬ ((1 : Int32) < (0 : Int32)))).2.2.2 (by decide) (by decide) ?_
    refine G_iload X11 hx (pc' := 126) rfl (hb hby d_members_124) rfl ?_
    refine G_iconst X11 hx (pc' := 127) rfl (hb hby d_members_126) (z := (2 : Int32)) rfl ?_
    refine G_icmpYes X11 hx (pc' := 137) (hb hby d_members_127) (flt (by decide : ¬ ((2 : Int32) < (0 : Int32)))).2.2.2 (by decide) (by decide) ?_
    refine G_iload X11 hx (pc' := 139) rfl (hb hby d_members_137) rfl ?_
    refine G_iconst X11 hx (pc' := 140) rfl (hb hby d_members_139) (z := (3 : Int32)) rfl ?_
    refine G_icmpYes X11 hx (pc' := 150) (hb hby d_members_140) (flt (by decide : ¬ ((3 : Int32) < (0 : Int32)))).2.2.2 (by decide) (by decide) ?_
    refine G_iload X11 hx (pc' := 152) rfl (hb hby d_members_150) rfl ?_
    refine G_iconst X11 hx (pc' := 153) rfl (hb hby d_members_152) (z := (4 : Int32)) rfl ?_
    refine G_icmpYes X11 hx (pc' := 163) (hb hby d_members_153) (flt (by decide : ¬ ((4 : Int32) < (0 : Int32)))).2.2.2 (by decide) (by decide) ?_
    refine G_iload X11 hx (pc' := 165) rfl (hb hby d_members_163) rfl ?_
    refine G_iconst X11 hx (pc' := 166) rfl (hb hby d_members_165) (z := (5 : Int32)) rfl ?_
    refine G_icmpYes X11 hx (pc' := 176) (hb hby d_members_166) (flt (by decide : ¬ ((5 : Int32) < (0 : Int32)))).2.2.2 (by decide) (by decide) ?_
    refine G_iload X11 hx (pc' := 178) rfl (hb hby d_members_176) rfl ?_
    refine G_bipush X11 hx (pc' := 180) rfl (hb hby d_members_178) (z := (6 : Int32)) rfl ?_
    refine G_icmpYes X11 hx (pc' := 192) (hb hby d_members_180) (flt (by decide : ¬ ((6 : Int32) < (0 : Int32)))).2.2.2 (by decide) (by decide) ?_
    refine G_aload X11 hx (pc' := 194) rfl (hb hby d_members_192) rfl rfl ?_
    refine Go.fin X11 hlk (v := some (.ref b11)) (fun h => by rw [Bd.returns] at h; cases h) (by decide) (by decide) ?_ (fun fs hr => retOut X11 hx Bd.returns rfl (Or.inr (Or.inr (Or.inr (Or.inr ⟨rfl, rfl, rfl⟩)))) (hb hby d_members_194) hr)
    show Q_members Z v0 v1 v2 h0 n0 _ T11.heap _
    rw [e11]
    exact ⟨b11, rfl, M10, K_11, sz_b11, B11, (hY ▸ A_b11)⟩
  · have BY : AI Z T10.heap b3 .int [y0, (0 : Int32), (0 : Int32), (0 : Int32), (0 : Int32), (0 : Int32), (0 : Int32)] := B7
    show Go p e below s _ _ _ T10 (mkF m 93 #[.val (.int v0), .val (.int v1), .val (.int v2), .val (.ref b3), .val (.int (1 : Int32)), .unset] [])
    refine G_iload Y10 hx (pc' := 95) rfl (hb hby d_members_93) rfl ?_
    obtain ⟨T12, h12, X12, e12, E12, B12, A12, st12⟩ := newAI Y10 hx hZ (hw _ (List.mem_of_getElem? (i := 5) rfl)) rfl (g := (mkF m 95 #[.val (.int v0), .val (.int v1), .val (.int v2), .val (.ref b3), .val (.int (1 : Int32)), .unset] [(.int (1 : Int32))])) rfl (hb hby d_members_95) rfl (by decide) (ty := .int) rfl ⟨rfl, rfl⟩ (cap := 1) (by decide) (by decide) (by decide) (by decide) (ad := "[I") (by decide)
    obtain ⟨b12, q12⟩ : ∃ z, z = T10.heap.size := ⟨_, rfl⟩
    rw [← q12] at A12 B12 st12
    refine Go.st st12 ?_
    have ne_b3_b12 : b3 ≠ b12 := Nat.ne_of_lt (Nat.lt_of_lt_of_le E_b3_10.lt (Nat.le_of_eq q12.symm))
    have g_b12 : n0 ≤ b12 := Nat.le_trans Z_10 (Nat.le_of_eq q12.symm)
    have sz_b12 : h0.size ≤ b12 := Nat.le_trans K_10.1 (Nat.le_of_eq q12.symm)
    have E_b3_12 := E_b3_10.ext E12
    have A_b3_12 := BY.ext E12
    have A_b12 : AI Z h12 b12 .int [(0 : Int32)] := A12
    have K_12 : Keep h0 h12 [] := K_10.ext E12
    have Z_12 : n0 ≤ h12.size := Nat.le_trans Z0 K_12.1
    clear E_b3_10 BY E12 st12 A12
    show Go p e below s _ _ _ T12 (mkF m 97 #[.val (.int v0), .val (.int v1), .val (.int v2), .val (.ref b3), .val (.int (1 : Int32)), .unset] [(.ref b12)])
    refine G_astore X12 hx (pc' := 99) rfl (hb hby d_members_97) rfl (L' := #[.val (.int v0), .val (.int v1), .val (.int v2), .val (.ref b3), .val (.int (1 : Int32)), .val (.ref b12)]) rfl ?_
    refine G_iload X12 hx (pc' := 101) rfl (hb hby d_members_99) rfl ?_
    refine G_ifNo X12 hx (pc' := 104) rfl (hb hby d_members_101) ((if0 _ _).trans (tlt (by decide : (0 : Int32) < (1 : Int32))).2.2.2) ?_
    refine G_aload X12 hx (pc' := 106) rfl (hb hby d_members_104) rfl rfl ?_
    refine G_iconst X12 hx (pc' := 107) rfl (hb hby d_members_106) (z := (0 : Int32)) rfl ?_
    refine G_aloadN X12 hx (pc' := 108) rfl (hb hby d_members_107) rfl rfl ?_
    refine G_iconst X12 hx (pc' := 109) rfl (hb hby d_members_108) (z := (0 : Int32)) rfl ?_
    refine Go.st (ldAIL X12 hx hZ e12 A_b3_12 (j := (0 : Int32)) (by decide) (jn := 0) (by decide) (show 0 < 7 from by decide) (g := (mkF m 109 #[.val (.int v0), .val (.int v1), .val (.int v2), .val (.ref b3), .val (.int (1 : Int32)), .val (.ref b12)] [(.int (0 : Int32)), (.ref b3), (.int (0 : Int32)), (.ref b12)])) rfl rfl (hb hby d_members_109)) ?_
    show Go p e below s _ _ _ T12 (mkF m 110 #[.val (.int v0), .val (.int v1), .val (.int v2), .val (.ref b3), .val (.int (1 : Int32)), .val (.ref b12)] [(.int y0), (.int (0 : Int32)), (.ref b12)])
    obtain ⟨T13, h13, X13, e13, W13, A13, st13⟩ := stAIL X12 hx hZ e12 A_b12 (j := (0 : Int32)) (by decide) (jn := 0) (by decide) (show 0 < 1 from by decide) (g := (mkF m 110 #[.val (.int v0), .val (.int v1), .val (.int v2), .val (.ref b3), .val (.int (1 : Int32)), .val (.ref b12)] [(.int y0), (.int (0 : Int32)), (.ref b12)])) rfl rfl (hb hby d_members_110)
    refine Go.st st13 ?_
    have E_b3_13 := E_b3_12.wr W13
    have A_b3_13 := A_b3_12.other W13 ne_b3_b12
    have E_b12_13 := B12.wr W13
    have A_b12_13 : AI Z h13 b12 .int [y0] := A13
    have K_13 : Keep h0 h13 [] := K_12.wr W13 (Or.inr sz_b12)
    have Z_13 : n0 ≤ h13.size := Nat.le_trans Z0 K_13.1
    have N13 := Fr.snoc X13 M10 g_b12
    clear E_b3_12 A_b3_12 B12 A_b12 W13 st13 A13
    obtain ⟨G13, Y13, M13⟩ : ∃ L, Stand p l e ({ frames := 1, cells := 2, slots := 14, locals := 17 } : Room) s m #[(.int v0), (.int v1), (.int v2)] below meth c T13 L 2 8 ∧ Fr n0 L := ⟨_, X13, N13⟩
    clear X13 N13
    show Go p e below s _ _ _ T13 (mkF m 111 #[.val (.int v0), .val (.int v1), .val (.int v2), .val (.ref b3), .val (.int (1 : Int32)), .val (.ref b12)] [])
    refine G_iload Y13 hx (pc' := 113) rfl (hb hby d_members_111) rfl ?_
    refine G_iconst Y13 hx (pc' := 114) rfl (hb hby d_members_113) (z := (1 : Int32)) rfl ?_
    refine G_icmpYes Y13 hx (pc' := 124) (hb hby d_members_114) (flt (by decide : ¬ ((1 : Int32) < (1 : Int32)))).2.2.2 (by decide) (by decide) ?_
    refine G_iload Y13 hx (pc' := 126) rfl (hb hby d_members_124) rfl ?_
    refine G_iconst Y13 hx (pc' := 127) rfl (hb hby d_members_126) (z := (2 : Int32)) rfl ?_
    refine G_icmpYes Y13 hx (pc' := 137) (hb hby d_members_127) (flt (by decide : ¬ ((2 : Int32) < (1 : Int32)))).2.2.2 (by decide) (by decide) ?_
    refine G_iload Y13 hx (pc' := 139) rfl (hb hby d_members_137) rfl ?_
    refine G_iconst Y13 hx (pc' := 140) rfl (hb hby d_members_139) (z := (3 : Int32)) rfl ?_
    refine G_icmpYes Y13 hx (pc' := 150) (hb hby d_members_140) (flt (by decide : ¬ ((3 : Int32) < (1 : Int32)))).2.2.2 (by decide) (by decide) ?_
    refine G_iload Y13 hx (pc' := 152) rfl (hb hby d_members_150) rfl ?_
    refine G_iconst Y13 hx (pc' := 153) rfl (hb hby d_members_152) (z := (4 : Int32)) rfl ?_
    refine G_icmpYes Y13 hx (pc' := 163) (hb hby d_members_153) (flt (by decide : ¬ ((4 : Int32) < (1 : Int32)))).2.2.2 (by decide) (by decide) ?_
    refine G_iload Y13 hx (pc' := 165) rfl (hb hby d_members_163) rfl ?_
    refine G_iconst Y13 hx (pc' := 166) rfl (hb hby d_members_165) (z := (5 : Int32)) rfl ?_
    refine G_icmpYes Y13 hx (pc' := 176) (hb hby d_members_166) (flt (by decide : ¬ ((5 : Int32) < (1 : Int32)))).2.2.2 (by decide) (by decide) ?_
    refine G_iload Y13 hx (pc' := 178) rfl (hb hby d_members_176) rfl ?_
    refine G_bipush Y13 hx (pc' := 180) rfl (hb hby d_members_178) (z := (6 : Int32)) rfl ?_
    refine G_icmpYes Y13 hx (pc' := 192) (hb hby d_members_180) (flt (by decide : ¬ ((6 : Int32) < (1 : Int32)))).2.2.2 (by decide) (by decide) ?_
    refine G_aload Y13 hx (pc' := 194) rfl (hb hby d_members_192) rfl rfl ?_
    refine Go.fin Y13 hlk (v := some (.ref b12)) (fun h => by rw [Bd.returns] at h; cases h) (by decide) (by decide) ?_ (fun fs hr => retOut Y13 hx Bd.returns rfl (Or.inr (Or.inr (Or.inr (Or.inr ⟨rfl, rfl, rfl⟩)))) (hb hby d_members_194) hr)
    show Q_members Z v0 v1 v2 h0 n0 _ T13.heap _
    rw [e13]
    exact ⟨b12, rfl, M13, K_13, sz_b12, E_b12_13, (hY ▸ A_b12_13)⟩
  · have BY : AI Z T10.heap b3 .int [y0, y1, (0 : Int32), (0 : Int32), (0 : Int32), (0 : Int32), (0 : Int32)] := B7
    show Go p e below s _ _ _ T10 (mkF m 93 #[.val (.int v0), .val (.int v1), .val (.int v2), .val (.ref b3), .val (.int (2 : Int32)), .unset] [])
    refine G_iload Y10 hx (pc' := 95) rfl (hb hby d_members_93) rfl ?_
    obtain ⟨T14, h14, X14, e14, E14, B14, A14, st14⟩ := newAI Y10 hx hZ (hw _ (List.mem_of_getElem? (i := 5) rfl)) rfl (g := (mkF m 95 #[.val (.int v0), .val (.int v1), .val (.int v2), .val (.ref b3), .val (.int (2 : Int32)), .unset] [(.int (2 : Int32))])) rfl (hb hby d_members_95) rfl (by decide) (ty := .int) rfl ⟨rfl, rfl⟩ (cap := 2) (by decide) (by decide) (by decide) (by decide) (ad := "[I") (by decide)
    obtain ⟨b14, q14⟩ : ∃ z, z = T10.heap.size := ⟨_, rfl⟩
    rw [← q14] at A14 B14 st14
    refine Go.st st14 ?_
    have ne_b3_b14 : b3 ≠ b14 := Nat.ne_of_lt (Nat.lt_of_lt_of_le E_b3_10.lt (Nat.le_of_eq q14.symm))
    have g_b14 : n0 ≤ b14 := Nat.le_trans Z_10 (Nat.le_of_eq q14.symm)
    have sz_b14 : h0.size ≤ b14 := Nat.le_trans K_10.1 (Nat.le_of_eq q14.symm)
    have E_b3_14 := E_b3_10.ext E14
    have A_b3_14 := BY.ext E14
    have A_b14 : AI Z h14 b14 .int [(0 : Int32), (0 : Int32)] := A14
    have K_14 : Keep h0 h14 [] := K_10.ext E14
    have Z_14 : n0 ≤ h14.size := Nat.le_trans Z0 K_14.1
    clear E_b3_10 BY E14 st14 A14
    show Go p e below s _ _ _ T14 (mkF m 97 #[.val (.int v0), .val (.int v1), .val (.int v2), .val (.ref b3), .val (.int (2 : Int32)), .unset] [(.ref b14)])
    refine G_astore X14 hx (pc' := 99) rfl (hb hby d_members_97) rfl (L' := #[.val (.int v0), .val (.int v1), .val (.int v2), .val (.ref b3), .val (.int (2 : Int32)), .val (.ref b14)]) rfl ?_
    refine G_iload X14 hx (pc' := 101) rfl (hb hby d_members_99) rfl ?_
    refine G_ifNo X14 hx (pc' := 104) rfl (hb hby d_members_101) ((if0 _ _).trans (tlt (by decide : (0 : Int32) < (2 : Int32))).2.2.2) ?_
    refine G_aload X14 hx (pc' := 106) rfl (hb hby d_members_104) rfl rfl ?_
    refine G_iconst X14 hx (pc' := 107) rfl (hb hby d_members_106) (z := (0 : Int32)) rfl ?_
    refine G_aloadN X14 hx (pc' := 108) rfl (hb hby d_members_107) rfl rfl ?_
    refine G_iconst X14 hx (pc' := 109) rfl (hb hby d_members_108) (z := (0 : Int32)) rfl ?_
    refine Go.st (ldAIL X14 hx hZ e14 A_b3_14 (j := (0 : Int32)) (by decide) (jn := 0) (by decide) (show 0 < 7 from by decide) (g := (mkF m 109 #[.val (.int v0), .val (.int v1), .val (.int v2), .val (.ref b3), .val (.int (2 : Int32)), .val (.ref b14)] [(.int (0 : Int32)), (.ref b3), (.int (0 : Int32)), (.ref b14)])) rfl rfl (hb hby d_members_109)) ?_
    show Go p e below s _ _ _ T14 (mkF m 110 #[.val (.int v0), .val (.int v1), .val (.int v2), .val (.ref b3), .val (.int (2 : Int32)), .val (.ref b14)] [(.int y0), (.int (0 : Int32)), (.ref b14)])
    obtain ⟨T15, h15, X15, e15, W15, A15, st15⟩ := stAIL X14 hx hZ e14 A_b14 (j := (0 : Int32)) (by decide) (jn := 0) (by decide) (show 0 < 2 from by decide) (g := (mkF m 110 #[.val (.int v0), .val (.int v1), .val (.int v2), .val (.ref b3), .val (.int (2 : Int32)), .val (.ref b14)] [(.int y0), (.int (0 : Int32)), (.ref b14)])) rfl rfl (hb hby d_members_110)
    refine Go.st st15 ?_
    have E_b3_15 := E_b3_14.wr W15
    have A_b3_15 := A_b3_14.other W15 ne_b3_b14
    have E_b14_15 := B14.wr W15
    have A_b14_15 : AI Z h15 b14 .int [y0, (0 : Int32)] := A15
    have K_15 : Keep h0 h15 [] := K_14.wr W15 (Or.inr sz_b14)
    have Z_15 : n0 ≤ h15.size := Nat.le_trans Z0 K_15.1
    have N15 := Fr.snoc X15 M10 g_b14
    clear E_b3_14 A_b3_14 B14 A_b14 W15 st15 A15
    obtain ⟨G15, Y15, M15⟩ : ∃ L, Stand p l e ({ frames := 1, cells := 2, slots := 14, locals := 17 } : Room) s m #[(.int v0), (.int v1), (.int v2)] below meth c T15 L 2 9 ∧ Fr n0 L := ⟨_, X15, N15⟩
    clear X15 N15
    show Go p e below s _ _ _ T15 (mkF m 111 #[.val (.int v0), .val (.int v1), .val (.int v2), .val (.ref b3), .val (.int (2 : Int32)), .val (.ref b14)] [])
    refine G_iload Y15 hx (pc' := 113) rfl (hb hby d_members_111) rfl ?_
    refine G_iconst Y15 hx (pc' := 114) rfl (hb hby d_members_113) (z := (1 : Int32)) rfl ?_
    refine G_icmpNo Y15 hx (pc' := 117) rfl (hb hby d_members_114) (tlt (by decide : (1 : Int32) < (2 : Int32))).2.2.2 ?_
    refine G_aload Y15 hx (pc' := 119) rfl (hb hby d_members_117) rfl rfl ?_
    refine G_iconst Y15 hx (pc' := 120) rfl (hb hby d_members_119) (z := (1 : Int32)) rfl ?_
    refine G_aloadN Y15 hx (pc' := 121) rfl (hb hby d_members_120) rfl rfl ?_
    refine G_iconst Y15 hx (pc' := 122) rfl (hb hby d_members_121) (z := (1 : Int32)) rfl ?_
    refine Go.st (ldAIL Y15 hx hZ e15 A_b3_15 (j := (1 : Int32)) (by decide) (jn := 1) (by decide) (show 1 < 7 from by decide) (g := (mkF m 122 #[.val (.int v0), .val (.int v1), .val (.int v2), .val (.ref b3), .val (.int (2 : Int32)), .val (.ref b14)] [(.int (1 : Int32)), (.ref b3), (.int (1 : Int32)), (.ref b14)])) rfl rfl (hb hby d_members_122)) ?_
    show Go p e below s _ _ _ T15 (mkF m 123 #[.val (.int v0), .val (.int v1), .val (.int v2), .val (.ref b3), .val (.int (2 : Int32)), .val (.ref b14)] [(.int y1), (.int (1 : Int32)), (.ref b14)])
    obtain ⟨T16, h16, X16, e16, W16, A16, st16⟩ := stAIL Y15 hx hZ e15 A_b14_15 (j := (1 : Int32)) (by decide) (jn := 1) (by decide) (show 1 < 2 from by decide) (g := (mkF m 123 #[.val (.int v0), .val (.int v1), .val (.int v2), .val (.ref b3), .val (.int (2 : Int32)), .val (.ref b14)] [(.int y1), (.int (1 : Int32)), (.ref b14)])) rfl rfl (hb hby d_members_123)
    refine Go.st st16 ?_
    have E_b3_16 := E_b3_15.wr W16
    have A_b3_16 := A_b3_15.other W16 ne_b3_b14
    have E_b14_16 := E_b14_15.wr W16
    have A_b14_16 : AI Z h16 b14 .int [y0, y1] := A16
    have K_16 : Keep h0 h16 [] := K_15.wr W16 (Or.inr sz_b14)
    have Z_16 : n0 ≤ h16.size := Nat.le_trans Z0 K_16.1
    have N16 := Fr.snoc X16 M15 g_b14
    clear E_b3_15 A_b3_15 E_b14_15 A_b14_15 W16 st16 A16
    obtain ⟨G16, Y16, M16⟩ : ∃ L, Stand p l e ({ frames := 1, cells := 2, slots := 14, locals := 17 } : Room) s m #[(.int v0), (.int v1), (.int v2)] below meth c T16 L 2 9 ∧ Fr n0 L := ⟨_, X16, N16⟩
    clear X16 N16
    show Go p e below s _ _ _ T16 (mkF m 124 #[.val (.int v0), .val (.int v1), .val (.int v2), .val (.ref b3), .val (.int (2 : Int32)), .val (.ref b14)] [])
    refine G_iload Y16 hx (pc' := 126) rfl (hb hby d_members_124) rfl ?_
    refine G_iconst Y16 hx (pc' := 127) rfl (hb hby d_members_126) (z := (2 : Int32)) rfl ?_
    refine G_icmpYes Y16 hx (pc' := 137) (hb hby d_members_127) (flt (by decide : ¬ ((2 : Int32) < (2 : Int32)))).2.2.2 (by decide) (by decide) ?_
    refine G_iload Y16 hx (pc' := 139) rfl (hb hby d_members_137) rfl ?_
    refine G_iconst Y16 hx (pc' := 140) rfl (hb hby d_members_139) (z := (3 : Int32)) rfl ?_
    refine G_icmpYes Y16 hx (pc' := 150) (hb hby d_members_140) (flt (by decide : ¬ ((3 : Int32) < (2 : Int32)))).2.2.2 (by decide) (by decide) ?_
    refine G_iload Y16 hx (pc' := 152) rfl (hb hby d_members_150) rfl ?_
    refine G_iconst Y16 hx (pc' := 153) rfl (hb hby d_members_152) (z := (4 : Int32)) rfl ?_
    refine G_icmpYes Y16 hx (pc' := 163) (hb hby d_members_153) (flt (by decide : ¬ ((4 : Int32) < (2 : Int32)))).2.2.2 (by decide) (by decide) ?_
    refine G_iload Y16 hx (pc' := 165) rfl (hb hby d_members_163) rfl ?_
    refine G_iconst Y16 hx (pc' := 166) rfl (hb hby d_members_165) (z := (5 : Int32)) rfl ?_
    refine G_icmpYes Y16 hx (pc' := 176) (hb hby d_members_166) (flt (by decide : ¬ ((5 : Int32) < (2 : Int32)))).2.2.2 (by decide) (by decide) ?_
    refine G_iload Y16 hx (pc' := 178) rfl (hb hby d_members_176) rfl ?_
    refine G_bipush Y16 hx (pc' := 180) rfl (hb hby d_members_178) (z := (6 : Int32)) rfl ?_
    refine G_icmpYes Y16 hx (pc' := 192) (hb hby d_members_180) (flt (by decide : ¬ ((6 : Int32) < (2 : Int32)))).2.2.2 (by decide) (by decide) ?_
    refine G_aload Y16 hx (pc' := 194) rfl (hb hby d_members_192) rfl rfl ?_
    refine Go.fin Y16 hlk (v := some (.ref b14)) (fun h => by rw [Bd.returns] at h; cases h) (by decide) (by decide) ?_ (fun fs hr => retOut Y16 hx Bd.returns rfl (Or.inr (Or.inr (Or.inr (Or.inr ⟨rfl, rfl, rfl⟩)))) (hb hby d_members_194) hr)
    show Q_members Z v0 v1 v2 h0 n0 _ T16.heap _
    rw [e16]
    exact ⟨b14, rfl, M16, K_16, sz_b14, E_b14_16, (hY ▸ A_b14_16)⟩
  · have BY : AI Z T10.heap b3 .int [y0, y1, y2, (0 : Int32), (0 : Int32), (0 : Int32), (0 : Int32)] := B7
    show Go p e below s _ _ _ T10 (mkF m 93 #[.val (.int v0), .val (.int v1), .val (.int v2), .val (.ref b3), .val (.int (3 : Int32)), .unset] [])
    refine G_iload Y10 hx (pc' := 95) rfl (hb hby d_members_93) rfl ?_
    obtain ⟨T17, h17, X17, e17, E17, B17, A17, st17⟩ := newAI Y10 hx hZ (hw _ (List.mem_of_getElem? (i := 5) rfl)) rfl (g := (mkF m 95 #[.val (.int v0), .val (.int v1), .val (.int v2), .val (.ref b3), .val (.int (3 : Int32)), .unset] [(.int (3 : Int32))])) rfl (hb hby d_members_95) rfl (by decide) (ty := .int) rfl ⟨rfl, rfl⟩ (cap := 3) (by decide) (by decide) (by decide) (by decide) (ad := "[I") (by decide)
    obtain ⟨b17, q17⟩ : ∃ z, z = T10.heap.size := ⟨_, rfl⟩
    rw [← q17] at A17 B17 st17
    refine Go.st st17 ?_
    have ne_b3_b17 : b3 ≠ b17 := Nat.ne_of_lt (Nat.lt_of_lt_of_le E_b3_10.lt (Nat.le_of_eq q17.symm))
    have g_b17 : n0 ≤ b17 := Nat.le_trans Z_10 (Nat.le_of_eq q17.symm)
    have sz_b17 : h0.size ≤ b17 := Nat.le_trans K_10.1 (Nat.le_of_eq q17.symm)
    have E_b3_17 := E_b3_10.ext E17
    have A_b3_17 := BY.ext E17
    have A_b17 : AI Z h17 b17 .int [(0 : Int32), (0 : Int32), (0 : Int32)] := A17
    have K_17 : Keep h0 h17 [] := K_10.ext E17
    have Z_17 : n0 ≤ h17.size := Nat.le_trans Z0 K_17.1
    clear E_b3_10 BY E17 st17 A17
    show Go p e below s _ _ _ T17 (mkF m 97 #[.val (.int v0), .val (.int v1), .val (.int v2), .val (.ref b3), .val (.int (3 : Int32)), .unset] [(.ref b17)])
    refine G_astore X17 hx (pc' := 99) rfl (hb hby d_members_97) rfl (L' := #[.val (.int v0), .val (.int v1), .val (.int v2), .val (.ref b3), .val (.int (3 : Int32)), .val (.ref b17)]) rfl ?_
    refine G_iload X17 hx (pc' := 101) rfl (hb hby d_members_99) rfl ?_
    refine G_ifNo X17 hx (pc' := 104) rfl (hb hby d_members_101) ((if0 _ _).trans (tlt (by decide : (0 : Int32) < (3 : Int32))).2.2.2) ?_
    refine G_aload X17 hx (pc' := 106) rfl (hb hby d_members_104) rfl rfl ?_
    refine G_iconst X17 hx (pc' := 107) rfl (hb hby d_members_106) (z := (0 : Int32)) rfl ?_
    refine G_aloadN X17 hx (pc' := 108) rfl (hb hby d_members_107) rfl rfl ?_
    refine G_iconst X17 hx (pc' := 109) rfl (hb hby d_members_108) (z := (0 : Int32)) rfl ?_
    refine Go.st (ldAIL X17 hx hZ e17 A_b3_17 (j := (0 : Int32)) (by decide) (jn := 0) (by decide) (show 0 < 7 from by decide) (g := (mkF m 109 #[.val (.int v0), .val (.int v1), .val (.int v2), .val (.ref b3), .val (.int (3 : Int32)), .val (.ref b17)] [(.int (0 : Int32)), (.ref b3), (.int (0 : Int32)), (.ref b17)])) rfl rfl (hb hby d_members_109)) ?_
    show Go p e below s _ _ _ T17 (mkF m 110 #[.val (.int v0), .val (.int v1), .val (.int v2), .val (.ref b3), .val (.int (3 : Int32)), .val (.ref b17)] [(.int y0), (.int (0 : Int32)), (.ref b17)])
    obtain ⟨T18, h18, X18, e18, W18, A18, st18⟩ := stAIL X17 hx hZ e17 A_b17 (j := (0 : Int32)) (by decide) (jn := 0) (by decide) (show 0 < 3 from by decide) (g := (mkF m 110 #[.val (.int v0), .val (.int v1), .val (.int v2), .val (.ref b3), .val (.int (3 : Int32)), .val (.ref b17)] [(.int y0), (.int (0 : Int32)), (.ref b17)])) rfl rfl (hb hby d_members_110)
    refine Go.st st18 ?_
    have E_b3_18 := E_b3_17.wr W18
    have A_b3_18 := A_b3_17.other W18 ne_b3_b17
    have E_b17_18 := B17.wr W18
    have A_b17_18 : AI Z h18 b17 .int [y0, (0 : Int32), (0 : Int32)] := A18
    have K_18 : Keep h0 h18 [] := K_17.wr W18 (Or.inr sz_b17)
    have Z_18 : n0 ≤ h18.size := Nat.le_trans Z0 K_18.1
    have N18 := Fr.snoc X18 M10 g_b17
    clear E_b3_17 A_b3_17 B17 A_b17 W18 st18 A18
    obtain ⟨G18, Y18, M18⟩ : ∃ L, Stand p l e ({ frames := 1, cells := 2, slots := 14, locals := 17 } : Room) s m #[(.int v0), (.int v1), (.int v2)] below meth c T18 L 2 10 ∧ Fr n0 L := ⟨_, X18, N18⟩
    clear X18 N18
    show Go p e below s _ _ _ T18 (mkF m 111 #[.val (.int v0), .val (.int v1), .val (.int v2), .val (.ref b3), .val (.int (3 : Int32)), .val (.ref b17)] [])
    refine G_iload Y18 hx (pc' := 113) rfl (hb hby d_members_111) rfl ?_
    refine G_iconst Y18 hx (pc' := 114) rfl (hb hby d_members_113) (z := (1 : Int32)) rfl ?_
    refine G_icmpNo Y18 hx (pc' := 117) rfl (hb hby d_members_114) (tlt (by decide : (1 : Int32) < (3 : Int32))).2.2.2 ?_
    refine G_aload Y18 hx (pc' := 119) rfl (hb hby d_members_117) rfl rfl ?_
    refine G_iconst Y18 hx (pc' := 120) rfl (hb hby d_members_119) (z := (1 : Int32)) rfl ?_
    refine G_aloadN Y18 hx (pc' := 121) rfl (hb hby d_members_120) rfl rfl ?_
    refine G_iconst Y18 hx (pc' := 122) rfl (hb hby d_members_121) (z := (1 : Int32)) rfl ?_
    refine Go.st (ldAIL Y18 hx hZ e18 A_b3_18 (j := (1 : Int32)) (by decide) (jn := 1) (by decide) (show 1 < 7 from by decide) (g := (mkF m 122 #[.val (.int v0), .val (.int v1), .val (.int v2), .val (.ref b3), .val (.int (3 : Int32)), .val (.ref b17)] [(.int (1 : Int32)), (.ref b3), (.int (1 : Int32)), (.ref b17)])) rfl rfl (hb hby d_members_122)) ?_
    show Go p e below s _ _ _ T18 (mkF m 123 #[.val (.int v0), .val (.int v1), .val (.int v2), .val (.ref b3), .val (.int (3 : Int32)), .val (.ref b17)] [(.int y1), (.int (1 : Int32)), (.ref b17)])
    obtain ⟨T19, h19, X19, e19, W19, A19, st19⟩ := stAIL Y18 hx hZ e18 A_b17_18 (j := (1 : Int32)) (by decide) (jn := 1) (by decide) (show 1 < 3 from by decide) (g := (mkF m 123 #[.val (.int v0), .val (.int v1), .val (.int v2), .val (.ref b3), .val (.int (3 : Int32)), .val (.ref b17)] [(.int y1), (.int (1 : Int32)), (.ref b17)])) rfl rfl (hb hby d_members_123)
    refine Go.st st19 ?_
    have E_b3_19 := E_b3_18.wr W19
    have A_b3_19 := A_b3_18.other W19 ne_b3_b17
    have E_b17_19 := E_b17_18.wr W19
    have A_b17_19 : AI Z h19 b17 .int [y0, y1, (0 : Int32)] := A19
    have K_19 : Keep h0 h19 [] := K_18.wr W19 (Or.inr sz_b17)
    have Z_19 : n0 ≤ h19.size := Nat.le_trans Z0 K_19.1
    have N19 := Fr.snoc X19 M18 g_b17
    clear E_b3_18 A_b3_18 E_b17_18 A_b17_18 W19 st19 A19
    obtain ⟨G19, Y19, M19⟩ : ∃ L, Stand p l e ({ frames := 1, cells := 2, slots := 14, locals := 17 } : Room) s m #[(.int v0), (.int v1), (.int v2)] below meth c T19 L 2 10 ∧ Fr n0 L := ⟨_, X19, N19⟩
    clear X19 N19
    show Go p e below s _ _ _ T19 (mkF m 124 #[.val (.int v0), .val (.int v1), .val (.int v2), .val (.ref b3), .val (.int (3 : Int32)), .val (.ref b17)] [])
    refine G_iload Y19 hx (pc' := 126) rfl (hb hby d_members_124) rfl ?_
    refine G_iconst Y19 hx (pc' := 127) rfl (hb hby d_members_126) (z := (2 : Int32)) rfl ?_
    refine G_icmpNo Y19 hx (pc' := 130) rfl (hb hby d_members_127) (tlt (by decide : (2 : Int32) < (3 : Int32))).2.2.2 ?_
    refine G_aload Y19 hx (pc' := 132) rfl (hb hby d_members_130) rfl rfl ?_
    refine G_iconst Y19 hx (pc' := 133) rfl (hb hby d_members_132) (z := (2 : Int32)) rfl ?_
    refine G_aloadN Y19 hx (pc' := 134) rfl (hb hby d_members_133) rfl rfl ?_
    refine G_iconst Y19 hx (pc' := 135) rfl (hb hby d_members_134) (z := (2 : Int32)) rfl ?_
    refine Go.st (ldAIL Y19 hx hZ e19 A_b3_19 (j := (2 : Int32)) (by decide) (jn := 2) (by decide) (show 2 < 7 from by decide) (g := (mkF m 135 #[.val (.int v0), .val (.int v1), .val (.int v2), .val (.ref b3), .val (.int (3 : Int32)), .val (.ref b17)] [(.int (2 : Int32)), (.ref b3), (.int (2 : Int32)), (.ref b17)])) rfl rfl (hb hby d_members_135)) ?_
    show Go p e below s _ _ _ T19 (mkF m 136 #[.val (.int v0), .val (.int v1), .val (.int v2), .val (.ref b3), .val (.int (3 : Int32)), .val (.ref b17)] [(.int y2), (.int (2 : Int32)), (.ref b17)])
    obtain ⟨T20, h20, X20, e20, W20, A20, st20⟩ := stAIL Y19 hx hZ e19 A_b17_19 (j := (2 : Int32)) (by decide) (jn := 2) (by decide) (show 2 < 3 from by decide) (g := (mkF m 136 #[.val (.int v0), .val (.int v1), .val (.int v2), .val (.ref b3), .val (.int (3 : Int32)), .val (.ref b17)] [(.int y2), (.int (2 : Int32)), (.ref b17)])) rfl rfl (hb hby d_members_136)
    refine Go.st st20 ?_
    have E_b3_20 := E_b3_19.wr W20
    have A_b3_20 := A_b3_19.other W20 ne_b3_b17
    have E_b17_20 := E_b17_19.wr W20
    have A_b17_20 : AI Z h20 b17 .int [y0, y1, y2] := A20
    have K_20 : Keep h0 h20 [] := K_19.wr W20 (Or.inr sz_b17)
    have Z_20 : n0 ≤ h20.size := Nat.le_trans Z0 K_20.1
    have N20 := Fr.snoc X20 M19 g_b17
    clear E_b3_19 A_b3_19 E_b17_19 A_b17_19 W20 st20 A20
    obtain ⟨G20, Y20, M20⟩ : ∃ L, Stand p l e ({ frames := 1, cells := 2, slots := 14, locals := 17 } : Room) s m #[(.int v0), (.int v1), (.int v2)] below meth c T20 L 2 10 ∧ Fr n0 L := ⟨_, X20, N20⟩
    clear X20 N20
    show Go p e below s _ _ _ T20 (mkF m 137 #[.val (.int v0), .val (.int v1), .val (.int v2), .val (.ref b3), .val (.int (3 : Int32)), .val (.ref b17)] [])
    refine G_iload Y20 hx (pc' := 139) rfl (hb hby d_members_137) rfl ?_
    refine G_iconst Y20 hx (pc' := 140) rfl (hb hby d_members_139) (z := (3 : Int32)) rfl ?_
    refine G_icmpYes Y20 hx (pc' := 150) (hb hby d_members_140) (flt (by decide : ¬ ((3 : Int32) < (3 : Int32)))).2.2.2 (by decide) (by decide) ?_
    refine G_iload Y20 hx (pc' := 152) rfl (hb hby d_members_150) rfl ?_
    refine G_iconst Y20 hx (pc' := 153) rfl (hb hby d_members_152) (z := (4 : Int32)) rfl ?_
    refine G_icmpYes Y20 hx (pc' := 163) (hb hby d_members_153) (flt (by decide : ¬ ((4 : Int32) < (3 : Int32)))).2.2.2 (by decide) (by decide) ?_
    refine G_iload Y20 hx (pc' := 165) rfl (hb hby d_members_163) rfl ?_
    refine G_iconst Y20 hx (pc' := 166) rfl (hb hby d_members_165) (z := (5 : Int32)) rfl ?_
    refine G_icmpYes Y20 hx (pc' := 176) (hb hby d_members_166) (flt (by decide : ¬ ((5 : Int32) < (3 : Int32)))).2.2.2 (by decide) (by decide) ?_
    refine G_iload Y20 hx (pc' := 178) rfl (hb hby d_members_176) rfl ?_
    refine G_bipush Y20 hx (pc' := 180) rfl (hb hby d_members_178) (z := (6 : Int32)) rfl ?_
    refine G_icmpYes Y20 hx (pc' := 192) (hb hby d_members_180) (flt (by decide : ¬ ((6 : Int32) < (3 : Int32)))).2.2.2 (by decide) (by decide) ?_
    refine G_aload Y20 hx (pc' := 194) rfl (hb hby d_members_192) rfl rfl ?_
    refine Go.fin Y20 hlk (v := some (.ref b17)) (fun h => by rw [Bd.returns] at h; cases h) (by decide) (by decide) ?_ (fun fs hr => retOut Y20 hx Bd.returns rfl (Or.inr (Or.inr (Or.inr (Or.inr ⟨rfl, rfl, rfl⟩)))) (hb hby d_members_194) hr)
    show Q_members Z v0 v1 v2 h0 n0 _ T20.heap _
    rw [e20]
    exact ⟨b17, rfl, M20, K_20, sz_b17, E_b17_20, (hY ▸ A_b17_20)⟩
  · have BY : AI Z T10.heap b3 .int [y0, y1, y2, y3, (0 : Int32), (0 : Int32), (0 : Int32)] := B7
    show Go p e below s _ _ _ T10 (mkF m 93 #[.val (.int v0), .val (.int v1), .val (.int v2), .val (.ref b3), .val (.int (4 : Int32)), .unset] [])
    refine G_iload Y10 hx (pc' := 95) rfl (hb hby d_members_93) rfl ?_
    obtain ⟨T21, h21, X21, e21, E21, B21, A21, st21⟩ := newAI Y10 hx hZ (hw _ (List.mem_of_getElem? (i := 5) rfl)) rfl (g := (mkF m 95 #[.val (.int v0), .val (.int v1), .val (.int v2), .val (.ref b3), .val (.int (4 : Int32)), .unset] [(.int (4 : Int32))])) rfl (hb hby d_members_95) rfl (by decide) (ty := .int) rfl ⟨rfl, rfl⟩ (cap := 4) (by decide) (by decide) (by decide) (by decide) (ad := "[I") (by decide)
    obtain ⟨b21, q21⟩ : ∃ z, z = T10.heap.size := ⟨_, rfl⟩
    rw [← q21] at A21 B21 st21
    refine Go.st st21 ?_
    have ne_b3_b21 : b3 ≠ b21 := Nat.ne_of_lt (Nat.lt_of_lt_of_le E_b3_10.lt (Nat.le_of_eq q21.symm))
    have g_b21 : n0 ≤ b21 := Nat.le_trans Z_10 (Nat.le_of_eq q21.symm)
    have sz_b21 : h0.size ≤ b21 := Nat.le_trans K_10.1 (Nat.le_of_eq q21.symm)
    have E_b3_21 := E_b3_10.ext E21
    have A_b3_21 := BY.ext E21
    have A_b21 : AI Z h21 b21 .int [(0 : Int32), (0 : Int32), (0 : Int32), (0 : Int32)] := A21
    have K_21 : Keep h0 h21 [] := K_10.ext E21
    have Z_21 : n0 ≤ h21.size := Nat.le_trans Z0 K_21.1
    clear E_b3_10 BY E21 st21 A21
    show Go p e below s _ _ _ T21 (mkF m 97 #[.val (.int v0), .val (.int v1), .val (.int v2), .val (.ref b3), .val (.int (4 : Int32)), .unset] [(.ref b21)])
    refine G_astore X21 hx (pc' := 99) rfl (hb hby d_members_97) rfl (L' := #[.val (.int v0), .val (.int v1), .val (.int v2), .val (.ref b3), .val (.int (4 : Int32)), .val (.ref b21)]) rfl ?_
    refine G_iload X21 hx (pc' := 101) rfl (hb hby d_members_99) rfl ?_
    refine G_ifNo X21 hx (pc' := 104) rfl (hb hby d_members_101) ((if0 _ _).trans (tlt (by decide : (0 : Int32) < (4 : Int32))).2.2.2) ?_
    refine G_aload X21 hx (pc' := 106) rfl (hb hby d_members_104) rfl rfl ?_
    refine G_iconst X21 hx (pc' := 107) rfl (hb hby d_members_106) (z := (0 : Int32)) rfl ?_
    refine G_aloadN X21 hx (pc' := 108) rfl (hb hby d_members_107) rfl rfl ?_
    refine G_iconst X21 hx (pc' := 109) rfl (hb hby d_members_108) (z := (0 : Int32)) rfl ?_
    refine Go.st (ldAIL X21 hx hZ e21 A_b3_21 (j := (0 : Int32)) (by decide) (jn := 0) (by decide) (show 0 < 7 from by decide) (g := (mkF m 109 #[.val (.int v0), .val (.int v1), .val (.int v2), .val (.ref b3), .val (.int (4 : Int32)), .val (.ref b21)] [(.int (0 : Int32)), (.ref b3), (.int (0 : Int32)), (.ref b21)])) rfl rfl (hb hby d_members_109)) ?_
    show Go p e below s _ _ _ T21 (mkF m 110 #[.val (.int v0), .val (.int v1), .val (.int v2), .val (.ref b3), .val (.int (4 : Int32)), .val (.ref b21)] [(.int y0), (.int (0 : Int32)), (.ref b21)])
    obtain ⟨T22, h22, X22, e22, W22, A22, st22⟩ := stAIL X21 hx hZ e21 A_b21 (j := (0 : Int32)) (by decide) (jn := 0) (by decide) (show 0 < 4 from by decide) (g := (mkF m 110 #[.val (.int v0), .val (.int v1), .val (.int v2), .val (.ref b3), .val (.int (4 : Int32)), .val (.ref b21)] [(.int y0), (.int (0 : Int32)), (.ref b21)])) rfl rfl (hb hby d_members_110)
    refine Go.st st22 ?_
    have E_b3_22 := E_b3_21.wr W22
    have A_b3_22 := A_b3_21.other W22 ne_b3_b21
    have E_b21_22 := B21.wr W22
    have A_b21_22 : AI Z h22 b21 .int [y0, (0 : Int32), (0 : Int32), (0 : Int32)] := A22
    have K_22 : Keep h0 h22 [] := K_21.wr W22 (Or.inr sz_b21)
    have Z_22 : n0 ≤ h22.size := Nat.le_trans Z0 K_22.1
    have N22 := Fr.snoc X22 M10 g_b21
    clear E_b3_21 A_b3_21 B21 A_b21 W22 st22 A22
    obtain ⟨G22, Y22, M22⟩ : ∃ L, Stand p l e ({ frames := 1, cells := 2, slots := 14, locals := 17 } : Room) s m #[(.int v0), (.int v1), (.int v2)] below meth c T22 L 2 11 ∧ Fr n0 L := ⟨_, X22, N22⟩
    clear X22 N22
    show Go p e below s _ _ _ T22 (mkF m 111 #[.val (.int v0), .val (.int v1), .val (.int v2), .val (.ref b3), .val (.int (4 : Int32)), .val (.ref b21)] [])
    refine G_iload Y22 hx (pc' := 113) rfl (hb hby d_members_111) rfl ?_
    refine G_iconst Y22 hx (pc' := 114) rfl (hb hby d_members_113) (z := (1 : Int32)) rfl ?_
    refine G_icmpNo Y22 hx (pc' := 117) rfl (hb hby d_members_114) (tlt (by decide : (1 : Int32) < (4 : Int32))).2.2.2 ?_
    refine G_aload Y22 hx (pc' := 119) rfl (hb hby d_members_117) rfl rfl ?_
    refine G_iconst Y22 hx (pc' := 120) rfl (hb hby d_members_119) (z := (1 : Int32)) rfl ?_
    refine G_aloadN Y22 hx (pc' := 121) rfl (hb hby d_members_120) rfl rfl ?_
    refine G_iconst Y22 hx (pc' := 122) rfl (hb hby d_members_121) (z := (1 : Int32)) rfl ?_
    refine Go.st (ldAIL Y22 hx hZ e22 A_b3_22 (j := (1 : Int32)) (by decide) (jn := 1) (by decide) (show 1 < 7 from by decide) (g := (mkF m 122 #[.val (.int v0), .val (.int v1), .val (.int v2), .val (.ref b3), .val (.int (4 : Int32)), .val (.ref b21)] [(.int (1 : Int32)), (.ref b3), (.int (1 : Int32)), (.ref b21)])) rfl rfl (hb hby d_members_122)) ?_
    show Go p e below s _ _ _ T22 (mkF m 123 #[.val (.int v0), .val (.int v1), .val (.int v2), .val (.ref b3), .val (.int (4 : Int32)), .val (.ref b21)] [(.int y1), (.int (1 : Int32)), (.ref b21)])
    obtain ⟨T23, h23, X23, e23, W23, A23, st23⟩ := stAIL Y22 hx hZ e22 A_b21_22 (j := (1 : Int32)) (by decide) (jn := 1) (by decide) (show 1 < 4 from by decide) (g := (mkF m 123 #[.val (.int v0), .val (.int v1), .val (.int v2), .val (.ref b3), .val (.int (4 : Int32)), .val (.ref b21)] [(.int y1), (.int (1 : Int32)), (.ref b21)])) rfl rfl (hb hby d_members_123)
    refine Go.st st23 ?_
    have E_b3_23 := E_b3_22.wr W23
    have A_b3_23 := A_b3_22.other W23 ne_b3_b21
    have E_b21_23 := E_b21_22.wr W23
    have A_b21_23 : AI Z h23 b21 .int [y0, y1, (0 : Int32), (0 : Int32)] := A23
    have K_23 : Keep h0 h23 [] := K_22.wr W23 (Or.inr sz_b21)
    have Z_23 : n0 ≤ h23.size := Nat.le_trans Z0 K_23.1
    have N23 := Fr.snoc X23 M22 g_b21
    clear E_b3_22 A_b3_22 E_b21_22 A_b21_22 W23 st23 A23
    obtain ⟨G23, Y23, M23⟩ : ∃ L, Stand p l e ({ frames := 1, cells := 2, slots := 14, locals := 17 } : Room) s m #[(.int v0), (.int v1), (.int v2)] below meth c T23 L 2 11 ∧ Fr n0 L := ⟨_, X23, N23⟩
    clear X23 N23
    show Go p e below s _ _ _ T23 (mkF m 124 #[.val (.int v0), .val (.int v1), .val (.int v2), .val (.ref b3), .val (.int (4 : Int32)), .val (.ref b21)] [])
    refine G_iload Y23 hx (pc' := 126) rfl (hb hby d_members_124) rfl ?_
    refine G_iconst Y23 hx (pc' := 127) rfl (hb hby d_members_126) (z := (2 : Int32)) rfl ?_
    refine G_icmpNo Y23 hx (pc' := 130) rfl (hb hby d_members_127) (tlt (by decide : (2 : Int32) < (4 : Int32))).2.2.2 ?_
    refine G_aload Y23 hx (pc' := 132) rfl (hb hby d_members_130) rfl rfl ?_
    refine G_iconst Y23 hx (pc' := 133) rfl (hb hby d_members_132) (z := (2 : Int32)) rfl ?_
    refine G_aloadN Y23 hx (pc' := 134) rfl (hb hby d_members_133) rfl rfl ?_
    refine G_iconst Y23 hx (pc' := 135) rfl (hb hby d_members_134) (z := (2 : Int32)) rfl ?_
    refine Go.st (ldAIL Y23 hx hZ e23 A_b3_23 (j := (2 : Int32)) (by decide) (jn := 2) (by decide) (show 2 < 7 from by decide) (g := (mkF m 135 #[.val (.int v0), .val (.int v1), .val (.int v2), .val (.ref b3), .val (.int (4 : Int32)), .val (.ref b21)] [(.int (2 : Int32)), (.ref b3), (.int (2 : Int32)), (.ref b21)])) rfl rfl (hb hby d_members_135)) ?_
    show Go p e below s _ _ _ T23 (mkF m 136 #[.val (.int v0), .val (.int v1), .val (.int v2), .val (.ref b3), .val (.int (4 : Int32)), .val (.ref b21)] [(.int y2), (.int (2 : Int32)), (.ref b21)])
    obtain ⟨T24, h24, X24, e24, W24, A24, st24⟩ := stAIL Y23 hx hZ e23 A_b21_23 (j := (2 : Int32)) (by decide) (jn := 2) (by decide) (show 2 < 4 from by decide) (g := (mkF m 136 #[.val (.int v0), .val (.int v1), .val (.int v2), .val (.ref b3), .val (.int (4 : Int32)), .val (.ref b21)] [(.int y2), (.int (2 : Int32)), (.ref b21)])) rfl rfl (hb hby d_members_136)
    refine Go.st st24 ?_
    have E_b3_24 := E_b3_23.wr W24
    have A_b3_24 := A_b3_23.other W24 ne_b3_b21
    have E_b21_24 := E_b21_23.wr W24
    have A_b21_24 : AI Z h24 b21 .int [y0, y1, y2, (0 : Int32)] := A24
    have K_24 : Keep h0 h24 [] := K_23.wr W24 (Or.inr sz_b21)
    have Z_24 : n0 ≤ h24.size := Nat.le_trans Z0 K_24.1
    have N24 := Fr.snoc X24 M23 g_b21
    clear E_b3_23 A_b3_23 E_b21_23 A_b21_23 W24 st24 A24
    obtain ⟨G24, Y24, M24⟩ : ∃ L, Stand p l e ({ frames := 1, cells := 2, slots := 14, locals := 17 } : Room) s m #[(.int v0), (.int v1), (.int v2)] below meth c T24 L 2 11 ∧ Fr n0 L := ⟨_, X24, N24⟩
    clear X24 N24
    show Go p e below s _ _ _ T24 (mkF m 137 #[.val (.int v0), .val (.int v1), .val (.int v2), .val (.ref b3), .val (.int (4 : Int32)), .val (.ref b21)] [])
    refine G_iload Y24 hx (pc' := 139) rfl (hb hby d_members_137) rfl ?_
    refine G_iconst Y24 hx (pc' := 140) rfl (hb hby d_members_139) (z := (3 : Int32)) rfl ?_
    refine G_icmpNo Y24 hx (pc' := 143) rfl (hb hby d_members_140) (tlt (by decide : (3 : Int32) < (4 : Int32))).2.2.2 ?_
    refine G_aload Y24 hx (pc' := 145) rfl (hb hby d_members_143) rfl rfl ?_
    refine G_iconst Y24 hx (pc' := 146) rfl (hb hby d_members_145) (z := (3 : Int32)) rfl ?_
    refine G_aloadN Y24 hx (pc' := 147) rfl (hb hby d_members_146) rfl rfl ?_
    refine G_iconst Y24 hx (pc' := 148) rfl (hb hby d_members_147) (z := (3 : Int32)) rfl ?_
    refine Go.st (ldAIL Y24 hx hZ e24 A_b3_24 (j := (3 : Int32)) (by decide) (jn := 3) (by decide) (show 3 < 7 from by decide) (g := (mkF m 148 #[.val (.int v0), .val (.int v1), .val (.int v2), .val (.ref b3), .val (.int (4 : Int32)), .val (.ref b21)] [(.int (3 : Int32)), (.ref b3), (.int (3 : Int32)), (.ref b21)])) rfl rfl (hb hby d_members_148)) ?_
    show Go p e below s _ _ _ T24 (mkF m 149 #[.val (.int v0), .val (.int v1), .val (.int v2), .val (.ref b3), .val (.int (4 : Int32)), .val (.ref b21)] [(.int y3), (.int (3 : Int32)), (.ref b21)])
    obtain ⟨T25, h25, X25, e25, W25, A25, st25⟩ := stAIL Y24 hx hZ e24 A_b21_24 (j := (3 : Int32)) (by decide) (jn := 3) (by decide) (show 3 < 4 from by decide) (g := (mkF m 149 #[.val (.int v0), .val (.int v1), .val (.int v2), .val (.ref b3), .val (.int (4 : Int32)), .val (.ref b21)] [(.int y3), (.int (3 : Int32)), (.ref b21)])) rfl rfl (hb hby d_members_149)
    refine Go.st st25 ?_
    have E_b3_25 := E_b3_24.wr W25
    have A_b3_25 := A_b3_24.other W25 ne_b3_b21
    have E_b21_25 := E_b21_24.wr W25
    have A_b21_25 : AI Z h25 b21 .int [y0, y1, y2, y3] := A25
    have K_25 : Keep h0 h25 [] := K_24.wr W25 (Or.inr sz_b21)
    have Z_25 : n0 ≤ h25.size := Nat.le_trans Z0 K_25.1
    have N25 := Fr.snoc X25 M24 g_b21
    clear E_b3_24 A_b3_24 E_b21_24 A_b21_24 W25 st25 A25
    obtain ⟨G25, Y25, M25⟩ : ∃ L, Stand p l e ({ frames := 1, cells := 2, slots := 14, locals := 17 } : Room) s m #[(.int v0), (.int v1), (.int v2)] below meth c T25 L 2 11 ∧ Fr n0 L := ⟨_, X25, N25⟩
    clear X25 N25
    show Go p e below s _ _ _ T25 (mkF m 150 #[.val (.int v0), .val (.int v1), .val (.int v2), .val (.ref b3), .val (.int (4 : Int32)), .val (.ref b21)] [])
    refine G_iload Y25 hx (pc' := 152) rfl (hb hby d_members_150) rfl ?_
    refine G_iconst Y25 hx (pc' := 153) rfl (hb hby d_members_152) (z := (4 : Int32)) rfl ?_
    refine G_icmpYes Y25 hx (pc' := 163) (hb hby d_members_153) (flt (by decide : ¬ ((4 : Int32) < (4 : Int32)))).2.2.2 (by decide) (by decide) ?_
    refine G_iload Y25 hx (pc' := 165) rfl (hb hby d_members_163) rfl ?_
    refine G_iconst Y25 hx (pc' := 166) rfl (hb hby d_members_165) (z := (5 : Int32)) rfl ?_
    refine G_icmpYes Y25 hx (pc' := 176) (hb hby d_members_166) (flt (by decide : ¬ ((5 : Int32) < (4 : Int32)))).2.2.2 (by decide) (by decide) ?_
    refine G_iload Y25 hx (pc' := 178) rfl (hb hby d_members_176) rfl ?_
    refine G_bipush Y25 hx (pc' := 180) rfl (hb hby d_members_178) (z := (6 : Int32)) rfl ?_
    refine G_icmpYes Y25 hx (pc' := 192) (hb hby d_members_180) (flt (by decide : ¬ ((6 : Int32) < (4 : Int32)))).2.2.2 (by decide) (by decide) ?_
    refine G_aload Y25 hx (pc' := 194) rfl (hb hby d_members_192) rfl rfl ?_
    refine Go.fin Y25 hlk (v := some (.ref b21)) (fun h => by rw [Bd.returns] at h; cases h) (by decide) (by decide) ?_ (fun fs hr => retOut Y25 hx Bd.returns rfl (Or.inr (Or.inr (Or.inr (Or.inr ⟨rfl, rfl, rfl⟩)))) (hb hby d_members_194) hr)
    show Q_members Z v0 v1 v2 h0 n0 _ T25.heap _
    rw [e25]
    exact ⟨b21, rfl, M25, K_25, sz_b21, E_b21_25, (hY ▸ A_b21_25)⟩
  · have BY : AI Z T10.heap b3 .int [y0, y1, y2, y3, y4, (0 : Int32), (0 : Int32)] := B7
    show Go p e below s _ _ _ T10 (mkF m 93 #[.val (.int v0), .val (.int v1), .val (.int v2), .val (.ref b3), .val (.int (5 : Int32)), .unset] [])
    refine G_iload Y10 hx (pc' := 95) rfl (hb hby d_members_93) rfl ?_
    obtain ⟨T26, h26, X26, e26, E26, B26, A26, st26⟩ := newAI Y10 hx hZ (hw _ (List.mem_of_getElem? (i := 5) rfl)) rfl (g := (mkF m 95 #[.val (.int v0), .val (.int v1), .val (.int v2), .val (.ref b3), .val (.int (5 : Int32)), .unset] [(.int (5 : Int32))])) rfl (hb hby d_members_95) rfl (by decide) (ty := .int) rfl ⟨rfl, rfl⟩ (cap := 5) (by decide) (by decide) (by decide) (by decide) (ad := "[I") (by decide)
    obtain ⟨b26, q26⟩ : ∃ z, z = T10.heap.size := ⟨_, rfl⟩
    rw [← q26] at A26 B26 st26
    refine Go.st st26 ?_
    have ne_b3_b26 : b3 ≠ b26 := Nat.ne_of_lt (Nat.lt_of_lt_of_le E_b3_10.lt (Nat.le_of_eq q26.symm))
    have g_b26 : n0 ≤ b26 := Nat.le_trans Z_10 (Nat.le_of_eq q26.symm)
    have sz_b26 : h0.size ≤ b26 := Nat.le_trans K_10.1 (Nat.le_of_eq q26.symm)
    have E_b3_26 := E_b3_10.ext E26
    have A_b3_26 := BY.ext E26
    have A_b26 : AI Z h26 b26 .int [(0 : Int32), (0 : Int32), (0 : Int32), (0 : Int32), (0 : Int32)] := A26
    have K_26 : Keep h0 h26 [] := K_10.ext E26
    have Z_26 : n0 ≤ h26.size := Nat.le_trans Z0 K_26.1
    clear E_b3_10 BY E26 st26 A26
    show Go p e below s _ _ _ T26 (mkF m 97 #[.val (.int v0), .val (.int v1), .val (.int v2), .val (.ref b3), .val (.int (5 : Int32)), .unset] [(.ref b26)])
    refine G_astore X26 hx (pc' := 99) rfl (hb hby d_members_97) rfl (L' := #[.val (.int v0), .val (.int v1), .val (.int v2), .val (.ref b3), .val (.int (5 : Int32)), .val (.ref b26)]) rfl ?_
    refine G_iload X26 hx (pc' := 101) rfl (hb hby d_members_99) rfl ?_
    refine G_ifNo X26 hx (pc' := 104) rfl (hb hby d_members_101) ((if0 _ _).trans (tlt (by decide : (0 : Int32) < (5 : Int32))).2.2.2) ?_
    refine G_aload X26 hx (pc' := 106) rfl (hb hby d_members_104) rfl rfl ?_
    refine G_iconst X26 hx (pc' := 107) rfl (hb hby d_members_106) (z := (0 : Int32)) rfl ?_
    refine G_aloadN X26 hx (pc' := 108) rfl (hb hby d_members_107) rfl rfl ?_
    refine G_iconst X26 hx (pc' := 109) rfl (hb hby d_members_108) (z := (0 : Int32)) rfl ?_
    refine Go.st (ldAIL X26 hx hZ e26 A_b3_26 (j := (0 : Int32)) (by decide) (jn := 0) (by decide) (show 0 < 7 from by decide) (g := (mkF m 109 #[.val (.int v0), .val (.int v1), .val (.int v2), .val (.ref b3), .val (.int (5 : Int32)), .val (.ref b26)] [(.int (0 : Int32)), (.ref b3), (.int (0 : Int32)), (.ref b26)])) rfl rfl (hb hby d_members_109)) ?_
    show Go p e below s _ _ _ T26 (mkF m 110 #[.val (.int v0), .val (.int v1), .val (.int v2), .val (.ref b3), .val (.int (5 : Int32)), .val (.ref b26)] [(.int y0), (.int (0 : Int32)), (.ref b26)])
    obtain ⟨T27, h27, X27, e27, W27, A27, st27⟩ := stAIL X26 hx hZ e26 A_b26 (j := (0 : Int32)) (by decide) (jn := 0) (by decide) (show 0 < 5 from by decide) (g := (mkF m 110 #[.val (.int v0), .val (.int v1), .val (.int v2), .val (.ref b3), .val (.int (5 : Int32)), .val (.ref b26)] [(.int y0), (.int (0 : Int32)), (.ref b26)])) rfl rfl (hb hby d_members_110)
    refine Go.st st27 ?_
    have E_b3_27 := E_b3_26.wr W27
    have A_b3_27 := A_b3_26.other W27 ne_b3_b26
    have E_b26_27 := B26.wr W27
    have A_b26_27 : AI Z h27 b26 .int [y0, (0 : Int32), (0 : Int32), (0 : Int32), (0 : Int32)] := A27
    have K_27 : Keep h0 h27 [] := K_26.wr W27 (Or.inr sz_b26)
    have Z_27 : n0 ≤ h27.size := Nat.le_trans Z0 K_27.1
    have N27 := Fr.snoc X27 M10 g_b26
    clear E_b3_26 A_b3_26 B26 A_b26 W27 st27 A27
    obtain ⟨G27, Y27, M27⟩ : ∃ L, Stand p l e ({ frames := 1, cells := 2, slots := 14, locals := 17 } : Room) s m #[(.int v0), (.int v1), (.int v2)] below meth c T27 L 2 12 ∧ Fr n0 L := ⟨_, X27, N27⟩
    clear X27 N27
    show Go p e below s _ _ _ T27 (mkF m 111 #[.val (.int v0), .val (.int v1), .val (.int v2), .val (.ref b3), .val (.int (5 : Int32)), .val (.ref b26)] [])
    refine G_iload Y27 hx (pc' := 113) rfl (hb hby d_members_111) rfl ?_
    refine G_iconst Y27 hx (pc' := 114) rfl (hb hby d_members_113) (z := (1 : Int32)) rfl ?_
    refine G_icmpNo Y27 hx (pc' := 117) rfl (hb hby d_members_114) (tlt (by decide : (1 : Int32) < (5 : Int32))).2.2.2 ?_
    refine G_aload Y27 hx (pc' := 119) rfl (hb hby d_members_117) rfl rfl ?_
    refine G_iconst Y27 hx (pc' := 120) rfl (hb hby d_members_119) (z := (1 : Int32)) rfl ?_
    refine G_aloadN Y27 hx (pc' := 121) rfl (hb hby d_members_120) rfl rfl ?_
    refine G_iconst Y27 hx (pc' := 122) rfl (hb hby d_members_121) (z := (1 : Int32)) rfl ?_
    refine Go.st (ldAIL Y27 hx hZ e27 A_b3_27 (j := (1 : Int32)) (by decide) (jn := 1) (by decide) (show 1 < 7 from by decide) (g := (mkF m 122 #[.val (.int v0), .val (.int v1), .val (.int v2), .val (.ref b3), .val (.int (5 : Int32)), .val (.ref b26)] [(.int (1 : Int32)), (.ref b3), (.int (1 : Int32)), (.ref b26)])) rfl rfl (hb hby d_members_122)) ?_
    show Go p e below s _ _ _ T27 (mkF m 123 #[.val (.int v0), .val (.int v1), .val (.int v2), .val (.ref b3), .val (.int (5 : Int32)), .val (.ref b26)] [(.int y1), (.int (1 : Int32)), (.ref b26)])
    obtain ⟨T28, h28, X28, e28, W28, A28, st28⟩ := stAIL Y27 hx hZ e27 A_b26_27 (j := (1 : Int32)) (by decide) (jn := 1) (by decide) (show 1 < 5 from by decide) (g := (mkF m 123 #[.val (.int v0), .val (.int v1), .val (.int v2), .val (.ref b3), .val (.int (5 : Int32)), .val (.ref b26)] [(.int y1), (.int (1 : Int32)), (.ref b26)])) rfl rfl (hb hby d_members_123)
    refine Go.st st28 ?_
    have E_b3_28 := E_b3_27.wr W28
    have A_b3_28 := A_b3_27.other W28 ne_b3_b26
    have E_b26_28 := E_b26_27.wr W28
    have A_b26_28 : AI Z h28 b26 .int [y0, y1, (0 : Int32), (0 : Int32), (0 : Int32)] := A28
    have K_28 : Keep h0 h28 [] := K_27.wr W28 (Or.inr sz_b26)
    have Z_28 : n0 ≤ h28.size := Nat.le_trans Z0 K_28.1
    have N28 := Fr.snoc X28 M27 g_b26
    clear E_b3_27 A_b3_27 E_b26_27 A_b26_27 W28 st28 A28
    obtain ⟨G28, Y28, M28⟩ : ∃ L, Stand p l e ({ frames := 1, cells := 2, slots := 14, locals := 17 } : Room) s m #[(.int v0), (.int v1), (.int v2)] below meth c T28 L 2 12 ∧ Fr n0 L := ⟨_, X28, N28⟩
    clear X28 N28
    show Go p e below s _ _ _ T28 (mkF m 124 #[.val (.int v0), .val (.int v1), .val (.int v2), .val (.ref b3), .val (.int (5 : Int32)), .val (.ref b26)] [])
    refine G_iload Y28 hx (pc' := 126) rfl (hb hby d_members_124) rfl ?_
    refine G_iconst Y28 hx (pc' := 127) rfl (hb hby d_members_126) (z := (2 : Int32)) rfl ?_
    refine G_icmpNo Y28 hx (pc' := 130) rfl (hb hby d_members_127) (tlt (by decide : (2 : Int32) < (5 : Int32))).2.2.2 ?_
    refine G_aload Y28 hx (pc' := 132) rfl (hb hby d_members_130) rfl rfl ?_
    refine G_iconst Y28 hx (pc' := 133) rfl (hb hby d_members_132) (z := (2 : Int32)) rfl ?_
    refine G_aloadN Y28 hx (pc' := 134) rfl (hb hby d_members_133) rfl rfl ?_
    refine G_iconst Y28 hx (pc' := 135) rfl (hb hby d_members_134) (z := (2 : Int32)) rfl ?_
    refine Go.st (ldAIL Y28 hx hZ e28 A_b3_28 (j := (2 : Int32)) (by decide) (jn := 2) (by decide) (show 2 < 7 from by decide) (g := (mkF m 135 #[.val (.int v0), .val (.int v1), .val (.int v2), .val (.ref b3), .val (.int (5 : Int32)), .val (.ref b26)] [(.int (2 : Int32)), (.ref b3), (.int (2 : Int32)), (.ref b26)])) rfl rfl (hb hby d_members_135)) ?_
    show Go p e below s _ _ _ T28 (mkF m 136 #[.val (.int v0), .val (.int v1), .val (.int v2), .val (.ref b3), .val (.int (5 : Int32)), .val (.ref b26)] [(.int y2), (.int (2 : Int32)), (.ref b26)])
    obtain ⟨T29, h29, X29, e29, W29, A29, st29⟩ := stAIL Y28 hx hZ e28 A_b26_28 (j := (2 : Int32)) (by decide) (jn := 2) (by decide) (show 2 < 5 from by decide) (g := (mkF m 136 #[.val (.int v0), .val (.int v1), .val (.int v2), .val (.ref b3), .val (.int (5 : Int32)), .val (.ref b26)] [(.int y2), (.int (2 : Int32)), (.ref b26)])) rfl rfl (hb hby d_members_136)
    refine Go.st st29 ?_
    have E_b3_29 := E_b3_28.wr W29
    have A_b3_29 := A_b3_28.other W29 ne_b3_b26
    have E_b26_29 := E_b26_28.wr W29
    have A_b26_29 : AI Z h29 b26 .int [y0, y1, y2, (0 : Int32), (0 : Int32)] := A29
    have K_29 : Keep h0 h29 [] := K_28.wr W29 (Or.inr sz_b26)
    have Z_29 : n0 ≤ h29.size := Nat.le_trans Z0 K_29.1
    have N29 := Fr.snoc X29 M28 g_b26
    clear E_b3_28 A_b3_28 E_b26_28 A_b26_28 W29 st29 A29
    obtain ⟨G29, Y29, M29⟩ : ∃ L, Stand p l e ({ frames := 1, cells := 2, slots := 14, locals := 17 } : Room) s m #[(.int v0), (.int v1), (.int v2)] below meth c T29 L 2 12 ∧ Fr n0 L := ⟨_, X29, N29⟩
    clear X29 N29
    show Go p e below s _ _ _ T29 (mkF m 137 #[.val (.int v0), .val (.int v1), .val (.int v2), .val (.ref b3), .val (.int (5 : Int32)), .val (.ref b26)] [])
    refine G_iload Y29 hx (pc' := 139) rfl (hb hby d_members_137) rfl ?_
    refine G_iconst Y29 hx (pc' := 140) rfl (hb hby d_members_139) (z := (3 : Int32)) rfl ?_
    refine G_icmpNo Y29 hx (pc' := 143) rfl (hb hby d_members_140) (tlt (by decide : (3 : Int32) < (5 : Int32))).2.2.2 ?_
    refine G_aload Y29 hx (pc' := 145) rfl (hb hby d_members_143) rfl rfl ?_
    refine G_iconst Y29 hx (pc' := 146) rfl (hb hby d_members_145) (z := (3 : Int32)) rfl ?_
    refine G_aloadN Y29 hx (pc' := 147) rfl (hb hby d_members_146) rfl rfl ?_
    refine G_iconst Y29 hx (pc' := 148) rfl (hb hby d_members_147) (z := (3 : Int32)) rfl ?_
    refine Go.st (ldAIL Y29 hx hZ e29 A_b3_29 (j := (3 : Int32)) (by decide) (jn := 3) (by decide) (show 3 < 7 from by decide) (g := (mkF m 148 #[.val (.int v0), .val (.int v1), .val (.int v2), .val (.ref b3), .val (.int (5 : Int32)), .val (.ref b26)] [(.int (3 : Int32)), (.ref b3), (.int (3 : Int32)), (.ref b26)])) rfl rfl (hb hby d_members_148)) ?_
    show Go p e below s _ _ _ T29 (mkF m 149 #[.val (.int v0), .val (.int v1), .val (.int v2), .val (.ref b3), .val (.int (5 : Int32)), .val (.ref b26)] [(.int y3), (.int (3 : Int32)), (.ref b26)])
    obtain ⟨T30, h30, X30, e30, W30, A30, st30⟩ := stAIL Y29 hx hZ e29 A_b26_29 (j := (3 : Int32)) (by decide) (jn := 3) (by decide) (show 3 < 5 from by decide) (g := (mkF m 149 #[.val (.int v0), .val (.int v1), .val (.int v2), .val (.ref b3), .val (.int (5 : Int32)), .val (.ref b26)] [(.int y3), (.int (3 : Int32)), (.ref b26)])) rfl rfl (hb hby d_members_149)
    refine Go.st st30 ?_
    have E_b3_30 := E_b3_29.wr W30
    have A_b3_30 := A_b3_29.other W30 ne_b3_b26
    have E_b26_30 := E_b26_29.wr W30
    have A_b26_30 : AI Z h30 b26 .int [y0, y1, y2, y3, (0 : Int32)] := A30
    have K_30 : Keep h0 h30 [] := K_29.wr W30 (Or.inr sz_b26)
    have Z_30 : n0 ≤ h30.size := Nat.le_trans Z0 K_30.1
    have N30 := Fr.snoc X30 M29 g_b26
    clear E_b3_29 A_b3_29 E_b26_29 A_b26_29 W30 st30 A30
    obtain ⟨G30, Y30, M30⟩ : ∃ L, Stand p l e ({ frames := 1, cells := 2, slots := 14, locals := 17 } : Room) s m #[(.int v0), (.int v1), (.int v2)] below meth c T30 L 2 12 ∧ Fr n0 L := ⟨_, X30, N30⟩
    clear X30 N30
    show Go p e below s _ _ _ T30 (mkF m 150 #[.val (.int v0), .val (.int v1), .val (.int v2), .val (.ref b3), .val (.int (5 : Int32)), .val (.ref b26)] [])
    refine G_iload Y30 hx (pc' := 152) rfl (hb hby d_members_150) rfl ?_
    refine G_iconst Y30 hx (pc' := 153) rfl (hb hby d_members_152) (z := (4 : Int32)) rfl ?_
    refine G_icmpNo Y30 hx (pc' := 156) rfl (hb hby d_members_153) (tlt (by decide : (4 : Int32) < (5 : Int32))).2.2.2 ?_
    refine G_aload Y30 hx (pc' := 158) rfl (hb hby d_members_156) rfl rfl ?_
    refine G_iconst Y30 hx (pc' := 159) rfl (hb hby d_members_158) (z := (4 : Int32)) rfl ?_
    refine G_aloadN Y30 hx (pc' := 160) rfl (hb hby d_members_159) rfl rfl ?_
    refine G_iconst Y30 hx (pc' := 161) rfl (hb hby d_members_160) (z := (4 : Int32)) rfl ?_
    refine Go.st (ldAIL Y30 hx hZ e30 A_b3_30 (j := (4 : Int32)) (by decide) (jn := 4) (by decide) (show 4 < 7 from by decide) (g := (mkF m 161 #[.val (.int v0), .val (.int v1), .val (.int v2), .val (.ref b3), .val (.int (5 : Int32)), .val (.ref b26)] [(.int (4 : Int32)), (.ref b3), (.int (4 : Int32)), (.ref b26)])) rfl rfl (hb hby d_members_161)) ?_
    show Go p e below s _ _ _ T30 (mkF m 162 #[.val (.int v0), .val (.int v1), .val (.int v2), .val (.ref b3), .val (.int (5 : Int32)), .val (.ref b26)] [(.int y4), (.int (4 : Int32)), (.ref b26)])
    obtain ⟨T31, h31, X31, e31, W31, A31, st31⟩ := stAIL Y30 hx hZ e30 A_b26_30 (j := (4 : Int32)) (by decide) (jn := 4) (by decide) (show 4 < 5 from by decide) (g := (mkF m 162 #[.val (.int v0), .val (.int v1), .val (.int v2), .val (.ref b3), .val (.int (5 : Int32)), .val (.ref b26)] [(.int y4), (.int (4 : Int32)), (.ref b26)])) rfl rfl (hb hby d_members_162)
    refine Go.st st31 ?_
    have E_b3_31 := E_b3_30.wr W31
    have A_b3_31 := A_b3_30.other W31 ne_b3_b26
    have E_b26_31 := E_b26_30.wr W31
    have A_b26_31 : AI Z h31 b26 .int [y0, y1, y2, y3, y4] := A31
    have K_31 : Keep h0 h31 [] := K_30.wr W31 (Or.inr sz_b26)
    have Z_31 : n0 ≤ h31.size := Nat.le_trans Z0 K_31.1
    have N31 := Fr.snoc X31 M30 g_b26
    clear E_b3_30 A_b3_30 E_b26_30 A_b26_30 W31 st31 A31
    obtain ⟨G31, Y31, M31⟩ : ∃ L, Stand p l e ({ frames := 1, cells := 2, slots := 14, locals := 17 } : Room) s m #[(.int v0), (.int v1), (.int v2)] below meth c T31 L 2 12 ∧ Fr n0 L := ⟨_, X31, N31⟩
    clear X31 N31
    show Go p e below s _ _ _ T31 (mkF m 163 #[.val (.int v0), .val (.int v1), .val (.int v2), .val (.ref b3), .val (.int (5 : Int32)), .val (.ref b26)] [])
    refine G_iload Y31 hx (pc' := 165) rfl (hb hby d_members_163) rfl ?_
    refine G_iconst Y31 hx (pc' := 166) rfl (hb hby d_members_165) (z := (5 : Int32)) rfl ?_
    refine G_icmpYes Y31 hx (pc' := 176) (hb hby d_members_166) (flt (by decide : ¬ ((5 : Int32) < (5 : Int32)))).2.2.2 (by decide) (by decide) ?_
    refine G_iload Y31 hx (pc' := 178) rfl (hb hby d_members_176) rfl ?_
    refine G_bipush Y31 hx (pc' := 180) rfl (hb hby d_members_178) (z := (6 : Int32)) rfl ?_
    refine G_icmpYes Y31 hx (pc' := 192) (hb hby d_members_180) (flt (by decide : ¬ ((6 : Int32) < (5 : Int32)))).2.2.2 (by decide) (by decide) ?_
    refine G_aload Y31 hx (pc' := 194) rfl (hb hby d_members_192) rfl rfl ?_
    refine Go.fin Y31 hlk (v := some (.ref b26)) (fun h => by rw [Bd.returns] at h; cases h) (by decide) (by decide) ?_ (fun fs hr => retOut Y31 hx Bd.returns rfl (Or.inr (Or.inr (Or.inr (Or.inr ⟨rfl, rfl, rfl⟩)))) (hb hby d_members_194) hr)
    show Q_members Z v0 v1 v2 h0 n0 _ T31.heap _
    rw [e31]
    exact ⟨b26, rfl, M31, K_31, sz_b26, E_b26_31, (hY ▸ A_b26_31)⟩
  · have BY : AI Z T10.heap b3 .int [y0, y1, y2, y3, y4, y5, (0 : Int32)] := B7
    show Go p e below s _ _ _ T10 (mkF m 93 #[.val (.int v0), .val (.int v1), .val (.int v2), .val (.ref b3), .val (.int (6 : Int32)), .unset] [])
    refine G_iload Y10 hx (pc' := 95) rfl (hb hby d_members_93) rfl ?_
    obtain ⟨T32, h32, X32, e32, E32, B32, A32, st32⟩ := newAI Y10 hx hZ (hw _ (List.mem_of_getElem? (i := 5) rfl)) rfl (g := (mkF m 95 #[.val (.int v0), .val (.int v1), .val (.int v2), .val (.ref b3), .val (.int (6 : Int32)), .unset] [(.int (6 : Int32))])) rfl (hb hby d_members_95) rfl (by decide) (ty := .int) rfl ⟨rfl, rfl⟩ (cap := 6) (by decide) (by decide) (by decide) (by decide) (ad := "[I") (by decide)
    obtain ⟨b32, q32⟩ : ∃ z, z = T10.heap.size := ⟨_, rfl⟩
    rw [← q32] at A32 B32 st32
    refine Go.st st32 ?_
    have ne_b3_b32 : b3 ≠ b32 := Nat.ne_of_lt (Nat.lt_of_lt_of_le E_b3_10.lt (Nat.le_of_eq q32.symm))
    have g_b32 : n0 ≤ b32 := Nat.le_trans Z_10 (Nat.le_of_eq q32.symm)
    have sz_b32 : h0.size ≤ b32 := Nat.le_trans K_10.1 (Nat.le_of_eq q32.symm)
    have E_b3_32 := E_b3_10.ext E32
    have A_b3_32 := BY.ext E32
    have A_b32 : AI Z h32 b32 .int [(0 : Int32), (0 : Int32), (0 : Int32), (0 : Int32), (0 : Int32), (0 : Int32)] := A32
    have K_32 : Keep h0 h32 [] := K_10.ext E32
    have Z_32 : n0 ≤ h32.size := Nat.le_trans Z0 K_32.1
    clear E_b3_10 BY E32 st32 A32
    show Go p e below s _ _ _ T32 (mkF m 97 #[.val (.int v0), .val (.int v1), .val (.int v2), .val (.ref b3), .val (.int (6 : Int32)), .unset] [(.ref b32)])
    refine G_astore X32 hx (pc' := 99) rfl (hb hby d_members_97) rfl (L' := #[.val (.int v0), .val (.int v1), .val (.int v2), .val (.ref b3), .val (.int (6 : Int32)), .val (.ref b32)]) rfl ?_
    refine G_iload X32 hx (pc' := 101) rfl (hb hby d_members_99) rfl ?_
    refine G_ifNo X32 hx (pc' := 104) rfl (hb hby d_members_101) ((if0 _ _).trans (tlt (by decide : (0 : Int32) < (6 : Int32))).2.2.2) ?_
    refine G_aload X32 hx (pc' := 106) rfl (hb hby d_members_104) rfl rfl ?_
    refine G_iconst X32 hx (pc' := 107) rfl (hb hby d_members_106) (z := (0 : Int32)) rfl ?_
    refine G_aloadN X32 hx (pc' := 108) rfl (hb hby d_members_107) rfl rfl ?_
    refine G_iconst X32 hx (pc' := 109) rfl (hb hby d_members_108) (z := (0 : Int32)) rfl ?_
    refine Go.st (ldAIL X32 hx hZ e32 A_b3_32 (j := (0 : Int32)) (by decide) (jn := 0) (by decide) (show 0 < 7 from by decide) (g := (mkF m 109 #[.val (.int v0), .val (.int v1), .val (.int v2), .val (.ref b3), .val (.int (6 : Int32)), .val (.ref b32)] [(.int (0 : Int32)), (.ref b3), (.int (0 : Int32)), (.ref b32)])) rfl rfl (hb hby d_members_109)) ?_
    show Go p e below s _ _ _ T32 (mkF m 110 #[.val (.int v0), .val (.int v1), .val (.int v2), .val (.ref b3), .val (.int (6 : Int32)), .val (.ref b32)] [(.int y0), (.int (0 : Int32)), (.ref b32)])
    obtain ⟨T33, h33, X33, e33, W33, A33, st33⟩ := stAIL X32 hx hZ e32 A_b32 (j := (0 : Int32)) (by decide) (jn := 0) (by decide) (show 0 < 6 from by decide) (g := (mkF m 110 #[.val (.int v0), .val (.int v1), .val (.int v2), .val (.ref b3), .val (.int (6 : Int32)), .val (.ref b32)] [(.int y0), (.int (0 : Int32)), (.ref b32)])) rfl rfl (hb hby d_members_110)
    refine Go.st st33 ?_
    have E_b3_33 := E_b3_32.wr W33
    have A_b3_33 := A_b3_32.other W33 ne_b3_b32
    have E_b32_33 := B32.wr W33
    have A_b32_33 : AI Z h33 b32 .int [y0, (0 : Int32), (0 : Int32), (0 : Int32), (0 : Int32), (0 : Int32)] := A33
    have K_33 : Keep h0 h33 [] := K_32.wr W33 (Or.inr sz_b32)
    have Z_33 : n0 ≤ h33.size := Nat.le_trans Z0 K_33.1
    have N33 := Fr.snoc X33 M10 g_b32
    clear E_b3_32 A_b3_32 B32 A_b32 W33 st33 A33
    obtain ⟨G33, Y33, M33⟩ : ∃ L, Stand p l e ({ frames := 1, cells := 2, slots := 14, locals := 17 } : Room) s m #[(.int v0), (.int v1), (.int v2)] below meth c T33 L 2 13 ∧ Fr n0 L := ⟨_, X33, N33⟩
    clear X33 N33
    show Go p e below s _ _ _ T33 (mkF m 111 #[.val (.int v0), .val (.int v1), .val (.int v2), .val (.ref b3), .val (.int (6 : Int32)), .val (.ref b32)] [])
    refine G_iload Y33 hx (pc' := 113) rfl (hb hby d_members_111) rfl ?_
    refine G_iconst Y33 hx (pc' := 114) rfl (hb hby d_members_113) (z := (1 : Int32)) rfl ?_
    refine G_icmpNo Y33 hx (pc' := 117) rfl (hb hby d_members_114) (tlt (by decide : (1 : Int32) < (6 : Int32))).2.2.2 ?_
    refine G_aload Y33 hx (pc' := 119) rfl (hb hby d_members_117) rfl rfl ?_
    refine G_iconst Y33 hx (pc' := 120) rfl (hb hby d_members_119) (z := (1 : Int32)) rfl ?_
    refine G_aloadN Y33 hx (pc' := 121) rfl (hb hby d_members_120) rfl rfl ?_
    refine G_iconst Y33 hx (pc' := 122) rfl (hb hby d_members_121) (z := (1 : Int32)) rfl ?_
    refine Go.st (ldAIL Y33 hx hZ e33 A_b3_33 (j := (1 : Int32)) (by decide) (jn := 1) (by decide) (show 1 < 7 from by decide) (g := (mkF m 122 #[.val (.int v0), .val (.int v1), .val (.int v2), .val (.ref b3), .val (.int (6 : Int32)), .val (.ref b32)] [(.int (1 : Int32)), (.ref b3), (.int (1 : Int32)), (.ref b32)])) rfl rfl (hb hby d_members_122)) ?_
    show Go p e below s _ _ _ T33 (mkF m 123 #[.val (.int v0), .val (.int v1), .val (.int v2), .val (.ref b3), .val (.int (6 : Int32)), .val (.ref b32)] [(.int y1), (.int (1 : Int32)), (.ref b32)])
    obtain ⟨T34, h34, X34, e34, W34, A34, st34⟩ := stAIL Y33 hx hZ e33 A_b32_33 (j := (1 : Int32)) (by decide) (jn := 1) (by decide) (show 1 < 6 from by decide) (g := (mkF m 123 #[.val (.int v0), .val (.int v1), .val (.int v2), .val (.ref b3), .val (.int (6 : Int32)), .val (.ref b32)] [(.int y1), (.int (1 : Int32)), (.ref b32)])) rfl rfl (hb hby d_members_123)
    refine Go.st st34 ?_
    have E_b3_34 := E_b3_33.wr W34
    have A_b3_34 := A_b3_33.other W34 ne_b3_b32
    have E_b32_34 := E_b32_33.wr W34
    have A_b32_34 : AI Z h34 b32 .int [y0, y1, (0 : Int32), (0 : Int32), (0 : Int32), (0 : Int32)] := A34
    have K_34 : Keep h0 h34 [] := K_33.wr W34 (Or.inr sz_b32)
    have Z_34 : n0 ≤ h34.size := Nat.le_trans Z0 K_34.1
    have N34 := Fr.snoc X34 M33 g_b32
    clear E_b3_33 A_b3_33 E_b32_33 A_b32_33 W34 st34 A34
    obtain ⟨G34, Y34, M34⟩ : ∃ L, Stand p l e ({ frames := 1, cells := 2, slots := 14, locals := 17 } : Room) s m #[(.int v0), (.int v1), (.int v2)] below meth c T34 L 2 13 ∧ Fr n0 L := ⟨_, X34, N34⟩
    clear X34 N34
    show Go p e below s _ _ _ T34 (mkF m 124 #[.val (.int v0), .val (.int v1), .val (.int v2), .val (.ref b3), .val (.int (6 : Int32)), .val (.ref b32)] [])
    refine G_iload Y34 hx (pc' := 126) rfl (hb hby d_members_124) rfl ?_
    refine G_iconst Y34 hx (pc' := 127) rfl (hb hby d_members_126) (z := (2 : Int32)) rfl ?_
    refine G_icmpNo Y34 hx (pc' := 130) rfl (hb hby d_members_127) (tlt (by decide : (2 : Int32) < (6 : Int32))).2.2.2 ?_
    refine G_aload Y34 hx (pc' := 132) rfl (hb hby d_members_130) rfl rfl ?_
    refine G_iconst Y34 hx (pc' := 133) rfl (hb hby d_members_132) (z := (2 : Int32)) rfl ?_
    refine G_aloadN Y34 hx (pc' := 134) rfl (hb hby d_members_133) rfl rfl ?_
    refine G_iconst Y34 hx (pc' := 135) rfl (hb hby d_members_134) (z := (2 : Int32)) rfl ?_
    refine Go.st (ldAIL Y34 hx hZ e34 A_b3_34 (j := (2 : Int32)) (by decide) (jn := 2) (by decide) (show 2 < 7 from by decide) (g := (mkF m 135 #[.val (.int v0), .val (.int v1), .val (.int v2), .val (.ref b3), .val (.int (6 : Int32)), .val (.ref b32)] [(.int (2 : Int32)), (.ref b3), (.int (2 : Int32)), (.ref b32)])) rfl rfl (hb hby d_members_135)) ?_
    show Go p e below s _ _ _ T34 (mkF m 136 #[.val (.int v0), .val (.int v1), .val (.int v2), .val (.ref b3), .val (.int (6 : Int32)), .val (.ref b32)] [(.int y2), (.int (2 : Int32)), (.ref b32)])
    obtain ⟨T35, h35, X35, e35, W35, A35, st35⟩ := stAIL Y34 hx hZ e34 A_b32_34 (j := (2 : Int32)) (by decide) (jn := 2) (by decide) (show 2 < 6 from by decide) (g := (mkF m 136 #[.val (.int v0), .val (.int v1), .val (.int v2), .val (.ref b3), .val (.int (6 : Int32)), .val (.ref b32)] [(.int y2), (.int (2 : Int32)), (.ref b32)])) rfl rfl (hb hby d_members_136)
    refine Go.st st35 ?_
    have E_b3_35 := E_b3_34.wr W35
    have A_b3_35 := A_b3_34.other W35 ne_b3_b32
    have E_b32_35 := E_b32_34.wr W35
    have A_b32_35 : AI Z h35 b32 .int [y0, y1, y2, (0 : Int32), (0 : Int32), (0 : Int32)] := A35
    have K_35 : Keep h0 h35 [] := K_34.wr W35 (Or.inr sz_b32)
    have Z_35 : n0 ≤ h35.size := Nat.le_trans Z0 K_35.1
    have N35 := Fr.snoc X35 M34 g_b32
    clear E_b3_34 A_b3_34 E_b32_34 A_b32_34 W35 st35 A35
    obtain ⟨G35, Y35, M35⟩ : ∃ L, Stand p l e ({ frames := 1, cells := 2, slots := 14, locals := 17 } : Room) s m #[(.int v0), (.int v1), (.int v2)] below meth c T35 L 2 13 ∧ Fr n0 L := ⟨_, X35, N35⟩
    clear X35 N35
    show Go p e below s _ _ _ T35 (mkF m 137 #[.val (.int v0), .val (.int v1), .val (.int v2), .val (.ref b3), .val (.int (6 : Int32)), .val (.ref b32)] [])
    refine G_iload Y35 hx (pc' := 139) rfl (hb hby d_members_137) rfl ?_
    refine G_iconst Y35 hx (pc' := 140) rfl (hb hby d_members_139) (z := (3 : Int32)) rfl ?_
    refine G_icmpNo Y35 hx (pc' := 143) rfl (hb hby d_members_140) (tlt (by decide : (3 : Int32) < (6 : Int32))).2.2.2 ?_
    refine G_aload Y35 hx (pc' := 145) rfl (hb hby d_members_143) rfl rfl ?_
    refine G_iconst Y35 hx (pc' := 146) rfl (hb hby d_members_145) (z := (3 : Int32)) rfl ?_
    refine G_aloadN Y35 hx (pc' := 147) rfl (hb hby d_members_146) rfl rfl ?_
    refine G_iconst Y35 hx (pc' := 148) rfl (hb hby d_members_147) (z := (3 : Int32)) rfl ?_
    refine Go.st (ldAIL Y35 hx hZ e35 A_b3_35 (j := (3 : Int32)) (by decide) (jn := 3) (by decide) (show 3 < 7 from by decide) (g := (mkF m 148 #[.val (.int v0), .val (.int v1), .val (.int v2), .val (.ref b3), .val (.int (6 : Int32)), .val (.ref b32)] [(.int (3 : Int32)), (.ref b3), (.int (3 : Int32)), (.ref b32)])) rfl rfl (hb hby d_members_148)) ?_
    show Go p e below s _ _ _ T35 (mkF m 149 #[.val (.int v0), .val (.int v1), .val (.int v2), .val (.ref b3), .val (.int (6 : Int32)), .val (.ref b32)] [(.int y3), (.int (3 : Int32)), (.ref b32)])
    obtain ⟨T36, h36, X36, e36, W36, A36, st36⟩ := stAIL Y35 hx hZ e35 A_b32_35 (j := (3 : Int32)) (by decide) (jn := 3) (by decide) (show 3 < 6 from by decide) (g := (mkF m 149 #[.val (.int v0), .val (.int v1), .val (.int v2), .val (.ref b3), .val (.int (6 : Int32)), .val (.ref b32)] [(.int y3), (.int (3 : Int32)), (.ref b32)])) rfl rfl (hb hby d_members_149)
    refine Go.st st36 ?_
    have E_b3_36 := E_b3_35.wr W36
    have A_b3_36 := A_b3_35.other W36 ne_b3_b32
    have E_b32_36 := E_b32_35.wr W36
    have A_b32_36 : AI Z h36 b32 .int [y0, y1, y2, y3, (0 : Int32), (0 : Int32)] := A36
    have K_36 : Keep h0 h36 [] := K_35.wr W36 (Or.inr sz_b32)
    have Z_36 : n0 ≤ h36.size := Nat.le_trans Z0 K_36.1
    have N36 := Fr.snoc X36 M35 g_b32
    clear E_b3_35 A_b3_35 E_b32_35 A_b32_35 W36 st36 A36
    obtain ⟨G36, Y36, M36⟩ : ∃ L, Stand p l e ({ frames := 1, cells := 2, slots := 14, locals := 17 } : Room) s m #[(.int v0), (.int v1), (.int v2)] below meth c T36 L 2 13 ∧ Fr n0 L := ⟨_, X36, N36⟩
    clear X36 N36
    show Go p e below s _ _ _ T36 (mkF m 150 #[.val (.int v0), .val (.int v1), .val (.int v2), .val (.ref b3), .val (.int (6 : Int32)), .val (.ref b32)] [])
    refine G_iload Y36 hx (pc' := 152) rfl (hb hby d_members_150) rfl ?_
    refine G_iconst Y36 hx (pc' := 153) rfl (hb hby d_members_152) (z := (4 : Int32)) rfl ?_
    refine G_icmpNo Y36 hx (pc' := 156) rfl (hb hby d_members_153) (tlt (by decide : (4 : Int32) < (6 : Int32))).2.2.2 ?_
    refine G_aload Y36 hx (pc' := 158) rfl (hb hby d_members_156) rfl rfl ?_
    refine G_iconst Y36 hx (pc' := 159) rfl (hb hby d_members_158) (z := (4 : Int32)) rfl ?_
    refine G_aloadN Y36 hx (pc' := 160) rfl (hb hby d_members_159) rfl rfl ?_
    refine G_iconst Y36 hx (pc' := 161) rfl (hb hby d_members_160) (z := (4 : Int32)) rfl ?_
    refine Go.st (ldAIL Y36 hx hZ e36 A_b3_36 (j := (4 : Int32)) (by decide) (jn := 4) (by decide) (show 4 < 7 from by decide) (g := (mkF m 161 #[.val (.int v0), .val (.int v1), .val (.int v2), .val (.ref b3), .val (.int (6 : Int32)), .val (.ref b32)] [(.int (4 : Int32)), (.ref b3), (.int (4 : Int32)), (.ref b32)])) rfl rfl (hb hby d_members_161)) ?_
    show Go p e below s _ _ _ T36 (mkF m 162 #[.val (.int v0), .val (.int v1), .val (.int v2), .val (.ref b3), .val (.int (6 : Int32)), .val (.ref b32)] [(.int y4), (.int (4 : Int32)), (.ref b32)])
    obtain ⟨T37, h37, X37, e37, W37, A37, st37⟩ := stAIL Y36 hx hZ e36 A_b32_36 (j := (4 : Int32)) (by decide) (jn := 4) (by decide) (show 4 < 6 from by decide) (g := (mkF m 162 #[.val (.int v0), .val (.int v1), .val (.int v2), .val (.ref b3), .val (.int (6 : Int32)), .val (.ref b32)] [(.int y4), (.int (4 : Int32)), (.ref b32)])) rfl rfl (hb hby d_members_162)
    refine Go.st st37 ?_
    have E_b3_37 := E_b3_36.wr W37
    have A_b3_37 := A_b3_36.other W37 ne_b3_b32
    have E_b32_37 := E_b32_36.wr W37
    have A_b32_37 : AI Z h37 b32 .int [y0, y1, y2, y3, y4, (0 : Int32)] := A37
    have K_37 : Keep h0 h37 [] := K_36.wr W37 (Or.inr sz_b32)
    have Z_37 : n0 ≤ h37.size := Nat.le_trans Z0 K_37.1
    have N37 := Fr.snoc X37 M36 g_b32
    clear E_b3_36 A_b3_36 E_b32_36 A_b32_36 W37 st37 A37
    obtain ⟨G37, Y37, M37⟩ : ∃ L, Stand p l e ({ frames := 1, cells := 2, slots := 14, locals := 17 } : Room) s m #[(.int v0), (.int v1), (.int v2)] below meth c T37 L 2 13 ∧ Fr n0 L := ⟨_, X37, N37⟩
    clear X37 N37
    show Go p e below s _ _ _ T37 (mkF m 163 #[.val (.int v0), .val (.int v1), .val (.int v2), .val (.ref b3), .val (.int (6 : Int32)), .val (.ref b32)] [])
    refine G_iload Y37 hx (pc' := 165) rfl (hb hby d_members_163) rfl ?_
    refine G_iconst Y37 hx (pc' := 166) rfl (hb hby d_members_165) (z := (5 : Int32)) rfl ?_
    refine G_icmpNo Y37 hx (pc' := 169) rfl (hb hby d_members_166) (tlt (by decide : (5 : Int32) < (6 : Int32))).2.2.2 ?_
    refine G_aload Y37 hx (pc' := 171) rfl (hb hby d_members_169) rfl rfl ?_
    refine G_iconst Y37 hx (pc' := 172) rfl (hb hby d_members_171) (z := (5 : Int32)) rfl ?_
    refine G_aloadN Y37 hx (pc' := 173) rfl (hb hby d_members_172) rfl rfl ?_
    refine G_iconst Y37 hx (pc' := 174) rfl (hb hby d_members_173) (z := (5 : Int32)) rfl ?_
    refine Go.st (ldAIL Y37 hx hZ e37 A_b3_37 (j := (5 : Int32)) (by decide) (jn := 5) (by decide) (show 5 < 7 from by decide) (g := (mkF m 174 #[.val (.int v0), .val (.int v1), .val (.int v2), .val (.ref b3), .val (.int (6 : Int32)), .val (.ref b32)] [(.int (5 : Int32)), (.ref b3), (.int (5 : Int32)), (.ref b32)])) rfl rfl (hb hby d_members_174)) ?_
    show Go p e below s _ _ _ T37 (mkF m 175 #[.val (.int v0), .val (.int v1), .val (.int v2), .val (.ref b3), .val (.int (6 : Int32)), .val (.ref b32)] [(.int y5), (.int (5 : Int32)), (.ref b32)])
    obtain ⟨T38, h38, X38, e38, W38, A38, st38⟩ := stAIL Y37 hx hZ e37 A_b32_37 (j := (5 : Int32)) (by decide) (jn := 5) (by decide) (show 5 < 6 from by decide) (g := (mkF m 175 #[.val (.int v0), .val (.int v1), .val (.int v2), .val (.ref b3), .val (.int (6 : Int32)), .val (.ref b32)] [(.int y5), (.int (5 : Int32)), (.ref b32)])) rfl rfl (hb hby d_members_175)
    refine Go.st st38 ?_
    have E_b3_38 := E_b3_37.wr W38
    have A_b3_38 := A_b3_37.other W38 ne_b3_b32
    have E_b32_38 := E_b32_37.wr W38
    have A_b32_38 : AI Z h38 b32 .int [y0, y1, y2, y3, y4, y5] := A38
    have K_38 : Keep h0 h38 [] := K_37.wr W38 (Or.inr sz_b32)
    have Z_38 : n0 ≤ h38.size := Nat.le_trans Z0 K_38.1
    have N38 := Fr.snoc X38 M37 g_b32
    clear E_b3_37 A_b3_37 E_b32_37 A_b32_37 W38 st38 A38
    obtain ⟨G38, Y38, M38⟩ : ∃ L, Stand p l e ({ frames := 1, cells := 2, slots := 14, locals := 17 } : Room) s m #[(.int v0), (.int v1), (.int v2)] below meth c T38 L 2 13 ∧ Fr n0 L := ⟨_, X38, N38⟩
    clear X38 N38
    show Go p e below s _ _ _ T38 (mkF m 176 #[.val (.int v0), .val (.int v1), .val (.int v2), .val (.ref b3), .val (.int (6 : Int32)), .val (.ref b32)] [])
    refine G_iload Y38 hx (pc' := 178) rfl (hb hby d_members_176) rfl ?_
    refine G_bipush Y38 hx (pc' := 180) rfl (hb hby d_members_178) (z := (6 : Int32)) rfl ?_
    refine G_icmpYes Y38 hx (pc' := 192) (hb hby d_members_180) (flt (by decide : ¬ ((6 : Int32) < (6 : Int32)))).2.2.2 (by decide) (by decide) ?_
    refine G_aload Y38 hx (pc' := 194) rfl (hb hby d_members_192) rfl rfl ?_
    refine Go.fin Y38 hlk (v := some (.ref b32)) (fun h => by rw [Bd.returns] at h; cases h) (by decide) (by decide) ?_ (fun fs hr => retOut Y38 hx Bd.returns rfl (Or.inr (Or.inr (Or.inr (Or.inr ⟨rfl, rfl, rfl⟩)))) (hb hby d_members_194) hr)
    show Q_members Z v0 v1 v2 h0 n0 _ T38.heap _
    rw [e38]
    exact ⟨b32, rfl, M38, K_38, sz_b32, E_b32_38, (hY ▸ A_b32_38)⟩
  · have BY : AI Z T10.heap b3 .int [y0, y1, y2, y3, y4, y5, y6] := B7
    show Go p e below s _ _ _ T10 (mkF m 93 #[.val (.int v0), .val (.int v1), .val (.int v2), .val (.ref b3), .val (.int (7 : Int32)), .unset] [])
    refine G_iload Y10 hx (pc' := 95) rfl (hb hby d_members_93) rfl ?_
    obtain ⟨T39, h39, X39, e39, E39, B39, A39, st39⟩ := newAI Y10 hx hZ (hw _ (List.mem_of_getElem? (i := 5) rfl)) rfl (g := (mkF m 95 #[.val (.int v0), .val (.int v1), .val (.int v2), .val (.ref b3), .val (.int (7 : Int32)), .unset] [(.int (7 : Int32))])) rfl (hb hby d_members_95) rfl (by decide) (ty := .int) rfl ⟨rfl, rfl⟩ (cap := 7) (by decide) (by decide) (by decide) (by decide) (ad := "[I") (by decide)
    obtain ⟨b39, q39⟩ : ∃ z, z = T10.heap.size := ⟨_, rfl⟩
    rw [← q39] at A39 B39 st39
    refine Go.st st39 ?_
    have ne_b3_b39 : b3 ≠ b39 := Nat.ne_of_lt (Nat.lt_of_lt_of_le E_b3_10.lt (Nat.le_of_eq q39.symm))
    have g_b39 : n0 ≤ b39 := Nat.le_trans Z_10 (Nat.le_of_eq q39.symm)
    have sz_b39 : h0.size ≤ b39 := Nat.le_trans K_10.1 (Nat.le_of_eq q39.symm)
    have E_b3_39 := E_b3_10.ext E39
    have A_b3_39 := BY.ext E39
    have A_b39 : AI Z h39 b39 .int [(0 : Int32), (0 : Int32), (0 : Int32), (0 : Int32), (0 : Int32), (0 : Int32), (0 : Int32)] := A39
    have K_39 : Keep h0 h39 [] := K_10.ext E39
    have Z_39 : n0 ≤ h39.size := Nat.le_trans Z0 K_39.1
    clear E_b3_10 BY E39 st39 A39
    show Go p e below s _ _ _ T39 (mkF m 97 #[.val (.int v0), .val (.int v1), .val (.int v2), .val (.ref b3), .val (.int (7 : Int32)), .unset] [(.ref b39)])
    refine G_astore X39 hx (pc' := 99) rfl (hb hby d_members_97) rfl (L' := #[.val (.int v0), .val (.int v1), .val (.int v2), .val (.ref b3), .val (.int (7 : Int32)), .val (.ref b39)]) rfl ?_
    refine G_iload X39 hx (pc' := 101) rfl (hb hby d_members_99) rfl ?_
    refine G_ifNo X39 hx (pc' := 104) rfl (hb hby d_members_101) ((if0 _ _).trans (tlt (by decide : (0 : Int32) < (7 : Int32))).2.2.2) ?_
    refine G_aload X39 hx (pc' := 106) rfl (hb hby d_members_104) rfl rfl ?_
    refine G_iconst X39 hx (pc' := 107) rfl (hb hby d_members_106) (z := (0 : Int32)) rfl ?_
    refine G_aloadN X39 hx (pc' := 108) rfl (hb hby d_members_107) rfl rfl ?_
    refine G_iconst X39 hx (pc' := 109) rfl (hb hby d_members_108) (z := (0 : Int32)) rfl ?_
    refine Go.st (ldAIL X39 hx hZ e39 A_b3_39 (j := (0 : Int32)) (by decide) (jn := 0) (by decide) (show 0 < 7 from by decide) (g := (mkF m 109 #[.val (.int v0), .val (.int v1), .val (.int v2), .val (.ref b3), .val (.int (7 : Int32)), .val (.ref b39)] [(.int (0 : Int32)), (.ref b3), (.int (0 : Int32)), (.ref b39)])) rfl rfl (hb hby d_members_109)) ?_
    show Go p e below s _ _ _ T39 (mkF m 110 #[.val (.int v0), .val (.int v1), .val (.int v2), .val (.ref b3), .val (.int (7 : Int32)), .val (.ref b39)] [(.int y0), (.int (0 : Int32)), (.ref b39)])
    obtain ⟨T40, h40, X40, e40, W40, A40, st40⟩ := stAIL X39 hx hZ e39 A_b39 (j := (0 : Int32)) (by decide) (jn := 0) (by decide) (show 0 < 7 from by decide) (g := (mkF m 110 #[.val (.int v0), .val (.int v1), .val (.int v2), .val (.ref b3), .val (.int (7 : Int32)), .val (.ref b39)] [(.int y0), (.int (0 : Int32)), (.ref b39)])) rfl rfl (hb hby d_members_110)
    refine Go.st st40 ?_
    have E_b3_40 := E_b3_39.wr W40
    have A_b3_40 := A_b3_39.other W40 ne_b3_b39
    have E_b39_40 := B39.wr W40
    have A_b39_40 : AI Z h40 b39 .int [y0, (0 : Int32), (0 : Int32), (0 : Int32), (0 : Int32), (0 : Int32), (0 : Int32)] := A40
    have K_40 : Keep h0 h40 [] := K_39.wr W40 (Or.inr sz_b39)
    have Z_40 : n0 ≤ h40.size := Nat.le_trans Z0 K_40.1
    have N40 := Fr.snoc X40 M10 g_b39
    clear E_b3_39 A_b3_39 B39 A_b39 W40 st40 A40
    obtain ⟨G40, Y40, M40⟩ : ∃ L, Stand p l e ({ frames := 1, cells := 2, slots := 14, locals := 17 } : Room) s m #[(.int v0), (.int v1), (.int v2)] below meth c T40 L 2 14 ∧ Fr n0 L := ⟨_, X40, N40⟩
    clear X40 N40
    show Go p e below s _ _ _ T40 (mkF m 111 #[.val (.int v0), .val (.int v1), .val (.int v2), .val (.ref b3), .val (.int (7 : Int32)), .val (.ref b39)] [])
    refine G_iload Y40 hx (pc' := 113) rfl (hb hby d_members_111) rfl ?_
    refine G_iconst Y40 hx (pc' := 114) rfl (hb hby d_members_113) (z := (1 : Int32)) rfl ?_
    refine G_icmpNo Y40 hx (pc' := 117) rfl (hb hby d_members_114) (tlt (by decide : (1 : Int32) < (7 : Int32))).2.2.2 ?_
    refine G_aload Y40 hx (pc' := 119) rfl (hb hby d_members_117) rfl rfl ?_
    refine G_iconst Y40 hx (pc' := 120) rfl (hb hby d_members_119) (z := (1 : Int32)) rfl ?_
    refine G_aloadN Y40 hx (pc' := 121) rfl (hb hby d_members_120) rfl rfl ?_
    refine G_iconst Y40 hx (pc' := 122) rfl (hb hby d_members_121) (z := (1 : Int32)) rfl ?_
    refine Go.st (ldAIL Y40 hx hZ e40 A_b3_40 (j := (1 : Int32)) (by decide) (jn := 1) (by decide) (show 1 < 7 from by decide) (g := (mkF m 122 #[.val (.int v0), .val (.int v1), .val (.int v2), .val (.ref b3), .val (.int (7 : Int32)), .val (.ref b39)] [(.int (1 : Int32)), (.ref b3), (.int (1 : Int32)), (.ref b39)])) rfl rfl (hb hby d_members_122)) ?_
    show Go p e below s _ _ _ T40 (mkF m 123 #[.val (.int v0), .val (.int v1), .val (.int v2), .val (.ref b3), .val (.int (7 : Int32)), .val (.ref b39)] [(.int y1), (.int (1 : Int32)), (.ref b39)])
    obtain ⟨T41, h41, X41, e41, W41, A41, st41⟩ := stAIL Y40 hx hZ e40 A_b39_40 (j := (1 : Int32)) (by decide) (jn := 1) (by decide) (show 1 < 7 from by decide) (g := (mkF m 123 #[.val (.int v0), .val (.int v1), .val (.int v2), .val (.ref b3), .val (.int (7 : Int32)), .val (.ref b39)] [(.int y1), (.int (1 : Int32)), (.ref b39)])) rfl rfl (hb hby d_members_123)
    refine Go.st st41 ?_
    have E_b3_41 := E_b3_40.wr W41
    have A_b3_41 := A_b3_40.other W41 ne_b3_b39
    have E_b39_41 := E_b39_40.wr W41
    have A_b39_41 : AI Z h41 b39 .int [y0, y1, (0 : Int32), (0 : Int32), (0 : Int32), (0 : Int32), (0 : Int32)] := A41
    have K_41 : Keep h0 h41 [] := K_40.wr W41 (Or.inr sz_b39)
    have Z_41 : n0 ≤ h41.size := Nat.le_trans Z0 K_41.1
    have N41 := Fr.snoc X41 M40 g_b39
    clear E_b3_40 A_b3_40 E_b39_40 A_b39_40 W41 st41 A41
    obtain ⟨G41, Y41, M41⟩ : ∃ L, Stand p l e ({ frames := 1, cells := 2, slots := 14, locals := 17 } : Room) s m #[(.int v0), (.int v1), (.int v2)] below meth c T41 L 2 14 ∧ Fr n0 L := ⟨_, X41, N41⟩
    clear X41 N41
    show Go p e below s _ _ _ T41 (mkF m 124 #[.val (.int v0), .val (.int v1), .val (.int v2), .val (.ref b3), .val (.int (7 : Int32)), .val (.ref b39)] [])
    refine G_iload Y41 hx (pc' := 126) rfl (hb hby d_members_124) rfl ?_
    refine G_iconst Y41 hx (pc' := 127) rfl (hb hby d_members_126) (z := (2 : Int32)) rfl ?_
    refine G_icmpNo Y41 hx (pc' := 130) rfl (hb hby d_members_127) (tlt (by decide : (2 : Int32) < (7 : Int32))).2.2.2 ?_
    refine G_aload Y41 hx (pc' := 132) rfl (hb hby d_members_130) rfl rfl ?_
    refine G_iconst Y41 hx (pc' := 133) rfl (hb hby d_members_132) (z := (2 : Int32)) rfl ?_
    refine G_aloadN Y41 hx (pc' := 134) rfl (hb hby d_members_133) rfl rfl ?_
    refine G_iconst Y41 hx (pc' := 135) rfl (hb hby d_members_134) (z := (2 : Int32)) rfl ?_
    refine Go.st (ldAIL Y41 hx hZ e41 A_b3_41 (j := (2 : Int32)) (by decide) (jn := 2) (by decide) (show 2 < 7 from by decide) (g := (mkF m 135 #[.val (.int v0), .val (.int v1), .val (.int v2), .val (.ref b3), .val (.int (7 : Int32)), .val (.ref b39)] [(.int (2 : Int32)), (.ref b3), (.int (2 : Int32)), (.ref b39)])) rfl rfl (hb hby d_members_135)) ?_
    show Go p e below s _ _ _ T41 (mkF m 136 #[.val (.int v0), .val (.int v1), .val (.int v2), .val (.ref b3), .val (.int (7 : Int32)), .val (.ref b39)] [(.int y2), (.int (2 : Int32)), (.ref b39)])
    obtain ⟨T42, h42, X42, e42, W42, A42, st42⟩ := stAIL Y41 hx hZ e41 A_b39_41 (j := (2 : Int32)) (by decide) (jn := 2) (by decide) (show 2 < 7 from by decide) (g := (mkF m 136 #[.val (.int v0), .val (.int v1), .val (.int v2), .val (.ref b3), .val (.int (7 : Int32)), .val (.ref b39)] [(.int y2), (.int (2 : Int32)), (.ref b39)])) rfl rfl (hb hby d_members_136)
    refine Go.st st42 ?_
    have E_b3_42 := E_b3_41.wr W42
    have A_b3_42 := A_b3_41.other W42 ne_b3_b39
    have E_b39_42 := E_b39_41.wr W42
    have A_b39_42 : AI Z h42 b39 .int [y0, y1, y2, (0 : Int32), (0 : Int32), (0 : Int32), (0 : Int32)] := A42
    have K_42 : Keep h0 h42 [] := K_41.wr W42 (Or.inr sz_b39)
    have Z_42 : n0 ≤ h42.size := Nat.le_trans Z0 K_42.1
    have N42 := Fr.snoc X42 M41 g_b39
    clear E_b3_41 A_b3_41 E_b39_41 A_b39_41 W42 st42 A42
    obtain ⟨G42, Y42, M42⟩ : ∃ L, Stand p l e ({ frames := 1, cells := 2, slots := 14, locals := 17 } : Room) s m #[(.int v0), (.int v1), (.int v2)] below meth c T42 L 2 14 ∧ Fr n0 L := ⟨_, X42, N42⟩
    clear X42 N42
    show Go p e below s _ _ _ T42 (mkF m 137 #[.val (.int v0), .val (.int v1), .val (.int v2), .val (.ref b3), .val (.int (7 : Int32)), .val (.ref b39)] [])
    refine G_iload Y42 hx (pc' := 139) rfl (hb hby d_members_137) rfl ?_
    refine G_iconst Y42 hx (pc' := 140) rfl (hb hby d_members_139) (z := (3 : Int32)) rfl ?_
    refine G_icmpNo Y42 hx (pc' := 143) rfl (hb hby d_members_140) (tlt (by decide : (3 : Int32) < (7 : Int32))).2.2.2 ?_
    refine G_aload Y42 hx (pc' := 145) rfl (hb hby d_members_143) rfl rfl ?_
    refine G_iconst Y42 hx (pc' := 146) rfl (hb hby d_members_145) (z := (3 : Int32)) rfl ?_
    refine G_aloadN Y42 hx (pc' := 147) rfl (hb hby d_members_146) rfl rfl ?_
    refine G_iconst Y42 hx (pc' := 148) rfl (hb hby d_members_147) (z := (3 : Int32)) rfl ?_
    refine Go.st (ldAIL Y42 hx hZ e42 A_b3_42 (j := (3 : Int32)) (by decide) (jn := 3) (by decide) (show 3 < 7 from by decide) (g := (mkF m 148 #[.val (.int v0), .val (.int v1), .val (.int v2), .val (.ref b3), .val (.int (7 : Int32)), .val (.ref b39)] [(.int (3 : Int32)), (.ref b3), (.int (3 : Int32)), (.ref b39)])) rfl rfl (hb hby d_members_148)) ?_
    show Go p e below s _ _ _ T42 (mkF m 149 #[.val (.int v0), .val (.int v1), .val (.int v2), .val (.ref b3), .val (.int (7 : Int32)), .val (.ref b39)] [(.int y3), (.int (3 : Int32)), (.ref b39)])
    obtain ⟨T43, h43, X43, e43, W43, A43, st43⟩ := stAIL Y42 hx hZ e42 A_b39_42 (j := (3 : Int32)) (by decide) (jn := 3) (by decide) (show 3 < 7 from by decide) (g := (mkF m 149 #[.val (.int v0), .val (.int v1), .val (.int v2), .val (.ref b3), .val (.int (7 : Int32)), .val (.ref b39)] [(.int y3), (.int (3 : Int32)), (.ref b39)])) rfl rfl (hb hby d_members_149)
    refine Go.st st43 ?_
    have E_b3_43 := E_b3_42.wr W43
    have A_b3_43 := A_b3_42.other W43 ne_b3_b39
    have E_b39_43 := E_b39_42.wr W43
    have A_b39_43 : AI Z h43 b39 .int [y0, y1, y2, y3, (0 : Int32), (0 : Int32), (0 : Int32)] := A43
    have K_43 : Keep h0 h43 [] := K_42.wr W43 (Or.inr sz_b39)
    have Z_43 : n0 ≤ h43.size := Nat.le_trans Z0 K_43.1
    have N43 := Fr.snoc X43 M42 g_b39
    clear E_b3_42 A_b3_42 E_b39_42 A_b39_42 W43 st43 A43
    obtain ⟨G43, Y43, M43⟩ : ∃ L, Stand p l e ({ frames := 1, cells := 2, slots := 14, locals := 17 } : Room) s m #[(.int v0), (.int v1), (.int v2)] below meth c T43 L 2 14 ∧ Fr n0 L := ⟨_, X43, N43⟩
    clear X43 N43
    show Go p e below s _ _ _ T43 (mkF m 150 #[.val (.int v0), .val (.int v1), .val (.int v2), .val (.ref b3), .val (.int (7 : Int32)), .val (.ref b39)] [])
    refine G_iload Y43 hx (pc' := 152) rfl (hb hby d_members_150) rfl ?_
    refine G_iconst Y43 hx (pc' := 153) rfl (hb hby d_members_152) (z := (4 : Int32)) rfl ?_
    refine G_icmpNo Y43 hx (pc' := 156) rfl (hb hby d_members_153) (tlt (by decide : (4 : Int32) < (7 : Int32))).2.2.2 ?_
    refine G_aload Y43 hx (pc' := 158) rfl (hb hby d_members_156) rfl rfl ?_
    refine G_iconst Y43 hx (pc' := 159) rfl (hb hby d_members_158) (z := (4 : Int32)) rfl ?_
    refine G_aloadN Y43 hx (pc' := 160) rfl (hb hby d_members_159) rfl rfl ?_
    refine G_iconst Y43 hx (pc' := 161) rfl (hb hby d_members_160) (z := (4 : Int32)) rfl ?_
    refine Go.st (ldAIL Y43 hx hZ e43 A_b3_43 (j := (4 : Int32)) (by decide) (jn := 4) (by decide) (show 4 < 7 from by decide) (g := (mkF m 161 #[.val (.int v0), .val (.int v1), .val (.int v2), .val (.ref b3), .val (.int (7 : Int32)), .val (.ref b39)] [(.int (4 : Int32)), (.ref b3), (.int (4 : Int32)), (.ref b39)])) rfl rfl (hb hby d_members_161)) ?_
    show Go p e below s _ _ _ T43 (mkF m 162 #[.val (.int v0), .val (.int v1), .val (.int v2), .val (.ref b3), .val (.int (7 : Int32)), .val (.ref b39)] [(.int y4), (.int (4 : Int32)), (.ref b39)])
    obtain ⟨T44, h44, X44, e44, W44, A44, st44⟩ := stAIL Y43 hx hZ e43 A_b39_43 (j := (4 : Int32)) (by decide) (jn := 4) (by decide) (show 4 < 7 from by decide) (g := (mkF m 162 #[.val (.int v0), .val (.int v1), .val (.int v2), .val (.ref b3), .val (.int (7 : Int32)), .val (.ref b39)] [(.int y4), (.int (4 : Int32)), (.ref b39)])) rfl rfl (hb hby d_members_162)
    refine Go.st st44 ?_
    have E_b3_44 := E_b3_43.wr W44
    have A_b3_44 := A_b3_43.other W44 ne_b3_b39
    have E_b39_44 := E_b39_43.wr W44
    have A_b39_44 : AI Z h44 b39 .int [y0, y1, y2, y3, y4, (0 : Int32), (0 : Int32)] := A44
    have K_44 : Keep h0 h44 [] := K_43.wr W44 (Or.inr sz_b39)
    have Z_44 : n0 ≤ h44.size := Nat.le_trans Z0 K_44.1
    have N44 := Fr.snoc X44 M43 g_b39
    clear E_b3_43 A_b3_43 E_b39_43 A_b39_43 W44 st44 A44
    obtain ⟨G44, Y44, M44⟩ : ∃ L, Stand p l e ({ frames := 1, cells := 2, slots := 14, locals := 17 } : Room) s m #[(.int v0), (.int v1), (.int v2)] below meth c T44 L 2 14 ∧ Fr n0 L := ⟨_, X44, N44⟩
    clear X44 N44
    show Go p e below s _ _ _ T44 (mkF m 163 #[.val (.int v0), .val (.int v1), .val (.int v2), .val (.ref b3), .val (.int (7 : Int32)), .val (.ref b39)] [])
    refine G_iload Y44 hx (pc' := 165) rfl (hb hby d_members_163) rfl ?_
    refine G_iconst Y44 hx (pc' := 166) rfl (hb hby d_members_165) (z := (5 : Int32)) rfl ?_
    refine G_icmpNo Y44 hx (pc' := 169) rfl (hb hby d_members_166) (tlt (by decide : (5 : Int32) < (7 : Int32))).2.2.2 ?_
    refine G_aload Y44 hx (pc' := 171) rfl (hb hby d_members_169) rfl rfl ?_
    refine G_iconst Y44 hx (pc' := 172) rfl (hb hby d_members_171) (z := (5 : Int32)) rfl ?_
    refine G_aloadN Y44 hx (pc' := 173) rfl (hb hby d_members_172) rfl rfl ?_
    refine G_iconst Y44 hx (pc' := 174) rfl (hb hby d_members_173) (z := (5 : Int32)) rfl ?_
    refine Go.st (ldAIL Y44 hx hZ e44 A_b3_44 (j := (5 : Int32)) (by decide) (jn := 5) (by decide) (show 5 < 7 from by decide) (g := (mkF m 174 #[.val (.int v0), .val (.int v1), .val (.int v2), .val (.ref b3), .val (.int (7 : Int32)), .val (.ref b39)] [(.int (5 : Int32)), (.ref b3), (.int (5 : Int32)), (.ref b39)])) rfl rfl (hb hby d_members_174)) ?_
    show Go p e below s _ _ _ T44 (mkF m 175 #[.val (.int v0), .val (.int v1), .val (.int v2), .val (.ref b3), .val (.int (7 : Int32)), .val (.ref b39)] [(.int y5), (.int (5 : Int32)), (.ref b39)])
    obtain ⟨T45, h45, X45, e45, W45, A45, st45⟩ := stAIL Y44 hx hZ e44 A_b39_44 (j := (5 : Int32)) (by decide) (jn := 5) (by decide) (show 5 < 7 from by decide) (g := (mkF m 175 #[.val (.int v0), .val (.int v1), .val (.int v2), .val (.ref b3), .val (.int (7 : Int32)), .val (.ref b39)] [(.int y5), (.int (5 : Int32)), (.ref b39)])) rfl rfl (hb hby d_members_175)
    refine Go.st st45 ?_
    have E_b3_45 := E_b3_44.wr W45
    have A_b3_45 := A_b3_44.other W45 ne_b3_b39
    have E_b39_45 := E_b39_44.wr W45
    have A_b39_45 : AI Z h45 b39 .int [y0, y1, y2, y3, y4, y5, (0 : Int32)] := A45
    have K_45 : Keep h0 h45 [] := K_44.wr W45 (Or.inr sz_b39)
    have Z_45 : n0 ≤ h45.size := Nat.le_trans Z0 K_45.1
    have N45 := Fr.snoc X45 M44 g_b39
    clear E_b3_44 A_b3_44 E_b39_44 A_b39_44 W45 st45 A45
    obtain ⟨G45, Y45, M45⟩ : ∃ L, Stand p l e ({ frames := 1, cells := 2, slots := 14, locals := 17 } : Room) s m #[(.int v0), (.int v1), (.int v2)] below meth c T45 L 2 14 ∧ Fr n0 L := ⟨_, X45, N45⟩
    clear X45 N45
    show Go p e below s _ _ _ T45 (mkF m 176 #[.val (.int v0), .val (.int v1), .val (.int v2), .val (.ref b3), .val (.int (7 : Int32)), .val (.ref b39)] [])
    refine G_iload Y45 hx (pc' := 178) rfl (hb hby d_members_176) rfl ?_
    refine G_bipush Y45 hx (pc' := 180) rfl (hb hby d_members_178) (z := (6 : Int32)) rfl ?_
    refine G_icmpNo Y45 hx (pc' := 183) rfl (hb hby d_members_180) (tlt (by decide : (6 : Int32) < (7 : Int32))).2.2.2 ?_
    refine G_aload Y45 hx (pc' := 185) rfl (hb hby d_members_183) rfl rfl ?_
    refine G_bipush Y45 hx (pc' := 187) rfl (hb hby d_members_185) (z := (6 : Int32)) rfl ?_
    refine G_aloadN Y45 hx (pc' := 188) rfl (hb hby d_members_187) rfl rfl ?_
    refine G_bipush Y45 hx (pc' := 190) rfl (hb hby d_members_188) (z := (6 : Int32)) rfl ?_
    refine Go.st (ldAIL Y45 hx hZ e45 A_b3_45 (j := (6 : Int32)) (by decide) (jn := 6) (by decide) (show 6 < 7 from by decide) (g := (mkF m 190 #[.val (.int v0), .val (.int v1), .val (.int v2), .val (.ref b3), .val (.int (7 : Int32)), .val (.ref b39)] [(.int (6 : Int32)), (.ref b3), (.int (6 : Int32)), (.ref b39)])) rfl rfl (hb hby d_members_190)) ?_
    show Go p e below s _ _ _ T45 (mkF m 191 #[.val (.int v0), .val (.int v1), .val (.int v2), .val (.ref b3), .val (.int (7 : Int32)), .val (.ref b39)] [(.int y6), (.int (6 : Int32)), (.ref b39)])
    obtain ⟨T46, h46, X46, e46, W46, A46, st46⟩ := stAIL Y45 hx hZ e45 A_b39_45 (j := (6 : Int32)) (by decide) (jn := 6) (by decide) (show 6 < 7 from by decide) (g := (mkF m 191 #[.val (.int v0), .val (.int v1), .val (.int v2), .val (.ref b3), .val (.int (7 : Int32)), .val (.ref b39)] [(.int y6), (.int (6 : Int32)), (.ref b39)])) rfl rfl (hb hby d_members_191)
    refine Go.st st46 ?_
    have E_b3_46 := E_b3_45.wr W46
    have A_b3_46 := A_b3_45.other W46 ne_b3_b39
    have E_b39_46 := E_b39_45.wr W46
    have A_b39_46 : AI Z h46 b39 .int [y0, y1, y2, y3, y4, y5, y6] := A46
    have K_46 : Keep h0 h46 [] := K_45.wr W46 (Or.inr sz_b39)
    have Z_46 : n0 ≤ h46.size := Nat.le_trans Z0 K_46.1
    have N46 := Fr.snoc X46 M45 g_b39
    clear E_b3_45 A_b3_45 E_b39_45 A_b39_45 W46 st46 A46
    obtain ⟨G46, Y46, M46⟩ : ∃ L, Stand p l e ({ frames := 1, cells := 2, slots := 14, locals := 17 } : Room) s m #[(.int v0), (.int v1), (.int v2)] below meth c T46 L 2 14 ∧ Fr n0 L := ⟨_, X46, N46⟩
    clear X46 N46
    show Go p e below s _ _ _ T46 (mkF m 192 #[.val (.int v0), .val (.int v1), .val (.int v2), .val (.ref b3), .val (.int (7 : Int32)), .val (.ref b39)] [])
    refine G_aload Y46 hx (pc' := 194) rfl (hb hby d_members_192) rfl rfl ?_
    refine Go.fin Y46 hlk (v := some (.ref b39)) (fun h => by rw [Bd.returns] at h; cases h) (by decide) (by decide) ?_ (fun fs hr => retOut Y46 hx Bd.returns rfl (Or.inr (Or.inr (Or.inr (Or.inr ⟨rfl, rfl, rfl⟩)))) (hb hby d_members_194) hr)
    show Q_members Z v0 v1 v2 h0 n0 _ T46.heap _
    rw [e46]
    exact ⟨b39, rfl, M46, K_46, sz_b39, E_b39_46, (hY ▸ A_b39_46)⟩
theorem d_cmpl_0 : decode prog_8_method_7_code 0 = .ok (.iload_n 1, 1) := by decide +kernel
theorem d_cmpl_1 : decode prog_8_method_7_code 1 = .ok (.aload_n 0, 1) := by decide +kernel
theorem d_cmpl_2 : decode prog_8_method_7_code 2 = .ok (.arraylength, 1) := by decide +kernel
theorem d_cmpl_3 : decode prog_8_method_7_code 3 = .ok (.isub, 1) := by decide +kernel
theorem d_cmpl_4 : decode prog_8_method_7_code 4 = .ok (.newarray .int, 2) := by decide +kernel
theorem d_cmpl_6 : decode prog_8_method_7_code 6 = .ok (.astore_n 2, 1) := by decide +kernel
theorem d_cmpl_7 : decode prog_8_method_7_code 7 = .ok (.iconst 0, 1) := by decide +kernel
theorem d_cmpl_8 : decode prog_8_method_7_code 8 = .ok (.istore_n 3, 1) := by decide +kernel
theorem d_cmpl_9 : decode prog_8_method_7_code 9 = .ok (.iconst 0, 1) := by decide +kernel
theorem d_cmpl_10 : decode prog_8_method_7_code 10 = .ok (.istore 4, 2) := by decide +kernel
theorem d_cmpl_12 : decode prog_8_method_7_code 12 = .ok (.iconst 0, 1) := by decide +kernel
theorem d_cmpl_13 : decode prog_8_method_7_code 13 = .ok (.istore 5, 2) := by decide +kernel
theorem d_cmpl_15 : decode prog_8_method_7_code 15 = .ok (.iload 5, 2) := by decide +kernel
theorem d_cmpl_17 : decode prog_8_method_7_code 17 = .ok (.iload_n 1, 1) := by decide +kernel
theorem d_cmpl_18 : decode prog_8_method_7_code 18 = .ok (.if_icmp .ge 39, 3) := by decide +kernel
theorem d_cmpl_57 : decode prog_8_method_7_code 57 = .ok (.aload_n 2, 1) := by decide +kernel
theorem d_cmpl_58 : decode prog_8_method_7_code 58 = .ok (.areturn, 1) := by decide +kernel
theorem d_cmpl_21 : decode prog_8_method_7_code 21 = .ok (.iload 4, 2) := by decide +kernel
theorem d_cmpl_23 : decode prog_8_method_7_code 23 = .ok (.aload_n 0, 1) := by decide +kernel
theorem d_cmpl_24 : decode prog_8_method_7_code 24 = .ok (.arraylength, 1) := by decide +kernel
theorem d_cmpl_25 : decode prog_8_method_7_code 25 = .ok (.if_icmp .ge 18, 3) := by decide +kernel
theorem d_cmpl_28 : decode prog_8_method_7_code 28 = .ok (.aload_n 0, 1) := by decide +kernel
theorem d_cmpl_29 : decode prog_8_method_7_code 29 = .ok (.iload 4, 2) := by decide +kernel
theorem d_cmpl_31 : decode prog_8_method_7_code 31 = .ok (.iaload, 1) := by decide +kernel
theorem d_cmpl_32 : decode prog_8_method_7_code 32 = .ok (.iload 5, 2) := by decide +kernel
theorem d_cmpl_34 : decode prog_8_method_7_code 34 = .ok (.if_icmp .ne 9, 3) := by decide +kernel
theorem d_cmpl_37 : decode prog_8_method_7_code 37 = .ok (.iinc 4 1, 3) := by decide +kernel
theorem d_cmpl_40 : decode prog_8_method_7_code 40 = .ok (.goto 11, 3) := by decide +kernel
theorem d_cmpl_51 : decode prog_8_method_7_code 51 = .ok (.iinc 5 1, 3) := by decide +kernel
theorem d_cmpl_54 : decode prog_8_method_7_code 54 = .ok (.goto (-39), 3) := by decide +kernel
theorem d_cmpl_43 : decode prog_8_method_7_code 43 = .ok (.aload_n 2, 1) := by decide +kernel
theorem d_cmpl_44 : decode prog_8_method_7_code 44 = .ok (.iload_n 3, 1) := by decide +kernel
theorem d_cmpl_45 : decode prog_8_method_7_code 45 = .ok (.iinc 3 1, 3) := by decide +kernel
theorem d_cmpl_48 : decode prog_8_method_7_code 48 = .ok (.iload 5, 2) := by decide +kernel
theorem d_cmpl_50 : decode prog_8_method_7_code 50 = .ok (.iastore, 1) := by decide +kernel
theorem ef_cmpl (m : MethodId) (v0 : Addr) (v1 : Int32) : entryFrame m #[(.ref v0), (.int v1)] 6 = mkF m 0 #[.val (.ref v0), .val (.int v1), .unset, .unset, .unset, .unset] [] := by first | (simp [entryFrame, mkF, argsToLocals, Value.category]; done) | rfl
def Q_cmpl (Z : State) (v0 : Addr) (v1 : Int32) (mk : Int32) (h0 : Heap) (n0 : Nat) (v : Option Value) (h : Heap) (L : List Loc) : Prop := ∃ b0 : Addr, v = some (.ref b0) ∧ Fr n0 L ∧ Keep h0 h [] ∧ h0.size ≤ b0 ∧ Exa Z h b0 "[I" ∧ AI Z h b0 .int (own_P 7 mk v1 (0 : Int32))
set_option maxRecDepth 65536 in
set_option maxHeartbeats 40000000 in
theorem rm_cmpl (l : Launch) (Z : State) (a0 : Array Value) (hw : ∀ d ∈ tables_1, d.before a0 Z = true) (ws : List Jvm.Cond) (v0 : Addr) (v1 : Int32) (mk : Int32) (h0 : Heap) (n0 : Nat) (Z0 : n0 ≤ h0.size) (f0_A_v0 : AI Z h0 v0 .int (own_P 7 mk v1 (1 : Int32))) (hc0 : 0 ≤ v1.toInt) (hc7 : v1.toInt ≤ 7) :
    MetFree l (⟨"com/example/quern/quern/core/DocumentSets", "complement", "([II)[I"⟩ : MethodName) (head1 (Jvm.Cond.code (⟨"com/example/quern/quern/core/DocumentSets", "complement", "([II)[I"⟩ : MethodName) prog_8_method_7_code 6 (some (.array .int)) :: ws) ({ frames := 0, cells := 1, slots := 7, locals := 0 } : Room)) (fun a U => a = #[(.ref v0), (.int v1)] ∧ Z.Warmed39 U.vm ∧ U.heap = h0) (fun _ _ _ _ _ => True) (fun _ U o U' => ∃ v L, o = .returned v ∧ Q_cmpl Z v0 v1 mk h0 n0 v U'.heap L ∧ FrameEnd U o U' L ({ frames := 0, cells := 1, slots := 7, locals := 0 } : Room).cells ({ frames := 0, cells := 1, slots := 7, locals := 0 } : Room).slots) := by
  refine MetFree.of_bodySF (plainFor_of_name (by first | (simp [plainName, overriddenIn]; done) | decide +kernel)) hisR ?_
  intro p e s m args below meth c s₁ Bd hml0 hP hK
  obtain ⟨rfl, hZ, hh⟩ := hP
  have hx := Bd.exec
  have hby := Bd.bytes
  have hml : c.maxLocals = 6 := hml0
  have hown : s.vm.findClass "com/example/quern/quern/core/DocumentSets" = some m.cls := findClass_of_methodNamed Bd.named
  have hnm := (name_of_methodNamed Bd.named Bd.method).1
  have hlk : meth.locks = false := Bd.notSynchronized
  have X0 : Stand p l e ({ frames := 0, cells := 1, slots := 7, locals := 0 } : Room) s m #[(.ref v0), (.int v1)] below meth c s₁ [] 0 0 := Stand.of_body Bd
  have e0 : s₁.heap = h0 := by rw [← hh, Bd.state]; rfl
  have N0 := Fr.nil n0
  refine Go.enter (Q := Q_cmpl Z v0 v1 mk h0 n0) (C := ({ frames := 0, cells := 1, slots := 7, locals := 0 } : Room).cells) (N := ({ frames := 0, cells := 1, slots := 7, locals := 0 } : Room).slots) (ef_cmpl m v0 v1) ?_
  show Go p e below s _ _ _ s₁ (mkF m 0 #[.val (.ref v0), .val (.int v1), .unset, .unset, .unset, .unset] [])
  refine G_iloadN X0 hx (pc' := 1) rfl (hb hby d_cmpl_0) rfl ?_
  refine G_aloadN X0 hx (pc' := 2) rfl (hb hby d_cmpl_1) rfl rfl ?_
  refine Go.st (lenAI X0 hx hZ e0 f0_A_v0 (g := (mkF m 2 #[.val (.ref v0), .val (.int v1), .unset, .unset, .unset, .unset] [(.ref v0), (.int v1)])) rfl rfl (hb hby d_cmpl_2)) ?_
  show Go p e below s _ _ _ s₁ (mkF m 3 #[.val (.ref v0), .val (.int v1), .unset, .unset, .unset, .unset] [(.int (Int32.ofNat ((own_P 7 mk v1 (1 : Int32))).length)), (.int v1)])
  refine G_isub X0 hx (pc' := 4) rfl (hb hby d_cmpl_3)  ?_
  obtain ⟨T47, h47, X47, e47, E47, B47, A47, st47⟩ := newAI X0 hx hZ (hw _ (List.mem_of_getElem? (i := 5) rfl)) e0 (g := (mkF m 4 #[.val (.ref v0), .val (.int v1), .unset, .unset, .unset, .unset] [(.int (v1 - (Int32.ofNat ((own_P 7 mk v1 (1 : Int32))).length)))])) rfl (hb hby d_cmpl_4) rfl (own_cn1 mk hc0 hc7) (ty := .int) rfl ⟨rfl, rfl⟩ (cap := 7) (own_cn2 mk hc0 hc7) (by decide) (by decide) (by decide) (ad := "[I") (by decide)
  obtain ⟨b47, q47⟩ : ∃ z, z = h0.size := ⟨_, rfl⟩
  rw [← q47] at A47 B47 st47
  refine Go.st st47 ?_
  have ne_v0_b47 : v0 ≠ b47 := Nat.ne_of_lt (Nat.lt_of_lt_of_le f0_A_v0.lt (Nat.le_of_eq q47.symm))
  have g_b47 : n0 ≤ b47 := Nat.le_trans Z0 (Nat.le_of_eq q47.symm)
  have sz_b47 : h0.size ≤ b47 := Nat.le_trans (Nat.le_refl _) (Nat.le_of_eq q47.symm)
  have A_v0_47 := f0_A_v0.ext E47
  have A_b47 : AI Z h47 b47 .int (List.replicate ((v1 - (Int32.ofNat ((own_P 7 mk v1 (1 : Int32))).length))).toNatClampNeg (0 : Int32)) := A47
  have K_47 : Keep h0 h47 [] := (Keep.refl h0 []).ext E47
  have Z_47 : n0 ≤ h47.size := Nat.le_trans Z0 K_47.1
  clear f0_A_v0 E47 st47 A47
  show Go p e below s _ _ _ T47 (mkF m 6 #[.val (.ref v0), .val (.int v1), .unset, .unset, .unset, .unset] [(.ref b47)])
  have R0 : AI Z h47 b47 .int (own_P 0 mk v1 (0 : Int32) ++ List.replicate (own_R 0 mk v1 (0 : Int32)).length (0 : Int32)) := own_st0 mk hc0 hc7 ▸ A_b47
  refine G_astoreN X47 hx (pc' := 7) rfl (hb hby d_cmpl_6) rfl (L' := #[.val (.ref v0), .val (.int v1), .val (.ref b47), .unset, .unset, .unset]) rfl ?_
  refine G_iconst X47 hx (pc' := 8) rfl (hb hby d_cmpl_7) (z := (0 : Int32)) rfl ?_
  refine G_istoreN X47 hx (pc' := 9) rfl (hb hby d_cmpl_8) (L' := #[.val (.ref v0), .val (.int v1), .val (.ref b47), .val (.int (0 : Int32)), .unset, .unset]) rfl ?_
  refine G_iconst X47 hx (pc' := 10) rfl (hb hby d_cmpl_9) (z := (0 : Int32)) rfl ?_
  refine G_istore X47 hx (pc' := 12) rfl (hb hby d_cmpl_10) (L' := #[.val (.ref v0), .val (.int v1), .val (.ref b47), .val (.int (0 : Int32)), .val (.int (0 : Int32)), .unset]) rfl ?_
  refine G_iconst X47 hx (pc' := 13) rfl (hb hby d_cmpl_12) (z := (0 : Int32)) rfl ?_
  refine G_istore X47 hx (pc' := 15) rfl (hb hby d_cmpl_13) (L' := #[.val (.ref v0), .val (.int v1), .val (.ref b47), .val (.int (0 : Int32)), .val (.int (0 : Int32)), .val (.int (0 : Int32))]) rfl ?_
  have J7 : ∀ (T : State) (h : Heap) (L : List Loc) (X : Stand p l e ({ frames := 0, cells := 1, slots := 7, locals := 0 } : Room) s m #[(.ref v0), (.int v1)] below meth c T L 1 7) (e1 : T.heap = h) (N : Fr n0 L) (K : Keep h0 h []) (Zq : n0 ≤ h.size) (FA : AI Z h v0 .int (own_P 7 mk v1 (1 : Int32))) (FB : AI Z h b47 .int (own_P 7 mk v1 (0 : Int32) ++ List.replicate (own_R 7 mk v1 (0 : Int32)).length (0 : Int32))) (FE : Exa Z h b47 "[I"), Go p e below s ({ frames := 0, cells := 1, slots := 7, locals := 0 } : Room).cells ({ frames := 0, cells := 1, slots := 7, locals := 0 } : Room).slots (Q_cmpl Z v0 v1 mk h0 n0) T (mkF m 15 #[.val (.ref v0), .val (.int v1), .val (.ref b47), .val (.int (Int32.ofNat (own_P 7 mk v1 (0 : Int32)).length)), .val (.int (Int32.ofNat (own_P 7 mk v1 (1 : Int32)).length)), .val (.int (7 : Int32))] []) := by
    intro Tj7 hj7 Lj7 Xj7 ej7 Nj7 Kj7 Zj7 FA7 FB7 FE7
    refine G_iload Xj7 hx (pc' := 17) rfl (hb hby d_cmpl_15) rfl ?_
    refine G_iloadN Xj7 hx (pc' := 18) rfl (hb hby d_cmpl_17) rfl ?_
    refine G_icmpYes Xj7 hx (pc' := 57) (hb hby d_cmpl_18) (flt ((own_7c hc7) : ¬ ((7 : Int32) < v1))).2.1 (by decide) (by decide) ?_
    refine G_aloadN Xj7 hx (pc' := 58) rfl (hb hby d_cmpl_57) rfl rfl ?_
    refine Go.fin Xj7 hlk (v := some (.ref b47)) (fun h => by rw [Bd.returns] at h; cases h) (by decide) (by decide) ?_ (fun fs hr => retOut Xj7 hx Bd.returns rfl (Or.inr (Or.inr (Or.inr (Or.inr ⟨rfl, rfl, rfl⟩)))) (hb hby d_cmpl_58) hr)
    show Q_cmpl Z v0 v1 mk h0 n0 _ Tj7.heap _
    rw [ej7]
    exact ⟨b47, rfl, Nj7, Kj7, sz_b47, FE7, (own_ex (by decide : 7 < 8) (own_7c hc7) ▸ FB7)⟩
  have J6 : ∀ (T : State) (h : Heap) (L : List Loc) (X : Stand p l e ({ frames := 0, cells := 1, slots := 7, locals := 0 } : Room) s m #[(.ref v0), (.int v1)] below meth c T L 1 7) (e1 : T.heap = h) (N : Fr n0 L) (K : Keep h0 h []) (Zq : n0 ≤ h.size) (FA : AI Z h v0 .int (own_P 7 mk v1 (1 : Int32))) (FB : AI Z h b47 .int (own_P 6 mk v1 (0 : Int32) ++ List.replicate (own_R 6 mk v1 (0 : Int32)).length (0 : Int32))) (FE : Exa Z h b47 "[I"), Go p e below s ({ frames := 0, cells := 1, slots := 7, locals := 0 } : Room).cells ({ frames := 0, cells := 1, slots := 7, locals := 0 } : Room).slots (Q_cmpl Z v0 v1 mk h0 n0) T (mkF m 15 #[.val (.ref v0), .val (.int v1), .val (.ref b47), .val (.int (Int32.ofNat (own_P 6 mk v1 (0 : Int32)).length)), .val (.int (Int32.ofNat (own_P 6 mk v1 (1 : Int32)).length)), .val (.int (6 : Int32))] []) := by
    intro Tj6 hj6 Lj6 Xj6 ej6 Nj6 Kj6 Zj6 FA6 FB6 FE6
    refine G_iload Xj6 hx (pc' := 17) rfl (hb hby d_cmpl_15) rfl ?_
    refine G_iloadN Xj6 hx (pc' := 18) rfl (hb hby d_cmpl_17) rfl ?_
    by_cases hc18_1 : (6 : Int32) < v1
    · refine G_icmpNo Xj6 hx (pc' := 21) rfl (hb hby d_cmpl_18) (tlt hc18_1).2.1 ?_
      refine G_iload Xj6 hx (pc' := 23) rfl (hb hby d_cmpl_21) rfl ?_
      refine G_aloadN Xj6 hx (pc' := 24) rfl (hb hby d_cmpl_23) rfl rfl ?_
      refine Go.st (lenAI Xj6 hx hZ ej6 FA6 (g := (mkF m 24 #[.val (.ref v0), .val (.int v1), .val (.ref b47), .val (.int (Int32.ofNat (own_P 6 mk v1 (0 : Int32)).length)), .val (.int (Int32.ofNat (own_P 6 mk v1 (1 : Int32)).length)), .val (.int (6 : Int32))] [(.ref v0), (.int (Int32.ofNat (own_P 6 mk v1 (1 : Int32)).length))])) rfl rfl (hb hby d_cmpl_24)) ?_
      show Go p e below s _ _ _ Tj6 (mkF m 25 #[.val (.ref v0), .val (.int v1), .val (.ref b47), .val (.int (Int32.ofNat (own_P 6 mk v1 (0 : Int32)).length)), .val (.int (Int32.ofNat (own_P 6 mk v1 (1 : Int32)).length)), .val (.int (6 : Int32))] [(.int (Int32.ofNat ((own_P 7 mk v1 (1 : Int32))).length)), (.int (Int32.ofNat (own_P 6 mk v1 (1 : Int32)).length))])
      by_cases hc25_2 : (Int32.ofNat (own_P 6 mk v1 (1 : Int32)).length) < (Int32.ofNat ((own_P 7 mk v1 (1 : Int32))).length)
      · refine G_icmpNo Xj6 hx (pc' := 28) rfl (hb hby d_cmpl_25) (tlt hc25_2).2.1 ?_
        refine G_aloadN Xj6 hx (pc' := 29) rfl (hb hby d_cmpl_28) rfl rfl ?_
        refine G_iload Xj6 hx (pc' := 31) rfl (hb hby d_cmpl_29) rfl ?_
        refine Go.st (ldAI Xj6 hx hZ ej6 FA6 (j := (Int32.ofNat (own_P 6 mk v1 (1 : Int32)).length)) (own_nng mk v1 1 6) (own_ai hc25_2) (g := (mkF m 31 #[.val (.ref v0), .val (.int v1), .val (.ref b47), .val (.int (Int32.ofNat (own_P 6 mk v1 (0 : Int32)).length)), .val (.int (Int32.ofNat (own_P 6 mk v1 (1 : Int32)).length)), .val (.int (6 : Int32))] [(.int (Int32.ofNat (own_P 6 mk v1 (1 : Int32)).length)), (.ref v0)])) rfl rfl (hb hby d_cmpl_31)) ?_
        show Go p e below s _ _ _ Tj6 (mkF m 32 #[.val (.ref v0), .val (.int v1), .val (.ref b47), .val (.int (Int32.ofNat (own_P 6 mk v1 (0 : Int32)).length)), .val (.int (Int32.ofNat (own_P 6 mk v1 (1 : Int32)).length)), .val (.int (6 : Int32))] [(.int ((own_P 7 mk v1 (1 : Int32)).getD (Int32.ofNat (own_P 6 mk v1 (1 : Int32)).length).toNatClampNeg 0))])
        refine G_iload Xj6 hx (pc' := 34) rfl (hb hby d_cmpl_32) rfl ?_
        by_cases hc34_3 : ((own_P 7 mk v1 (1 : Int32)).getD (Int32.ofNat (own_P 6 mk v1 (1 : Int32)).length).toNatClampNeg 0) = (6 : Int32)
        · refine G_icmpNo Xj6 hx (pc' := 37) rfl (hb hby d_cmpl_34) (teq hc34_3).2 ?_
          have cS : own_c mk v1 1 (6 : Int32) = true := own_dA (by decide : 6 < 7) hc25_2 hc34_3
          have cU : own_c mk v1 0 (6 : Int32) = false := own_uF hc18_1 cS
          refine G_iinc Xj6 hx (pc' := 40) rfl (hb hby d_cmpl_37) rfl (z := ((Int32.ofNat (own_P 6 mk v1 (1 : Int32)).length) + (1 : Int32))) rfl (L' := #[.val (.ref v0), .val (.int v1), .val (.ref b47), .val (.int (Int32.ofNat (own_P 6 mk v1 (0 : Int32)).length)), .val (.int ((Int32.ofNat (own_P 6 mk v1 (1 : Int32)).length) + (1 : Int32))), .val (.int (6 : Int32))]) rfl ?_
          refine G_goto Xj6 hx (pc' := 51) (hb hby d_cmpl_40)  (by decide) (by decide) ?_
          refine G_iinc Xj6 hx (pc' := 54) rfl (hb hby d_cmpl_51) rfl (z := (7 : Int32)) rfl (L' := #[.val (.ref v0), .val (.int v1), .val (.ref b47), .val (.int (Int32.ofNat (own_P 6 mk v1 (0 : Int32)).length)), .val (.int ((Int32.ofNat (own_P 6 mk v1 (1 : Int32)).length) + (1 : Int32))), .val (.int (7 : Int32))]) rfl ?_
          refine G_goto Xj6 hx (pc' := 15) (hb hby d_cmpl_54)  (by decide) (by decide) ?_
          rw [show ((Int32.ofNat (own_P 6 mk v1 (1 : Int32)).length) + (1 : Int32)) = (Int32.ofNat (own_P 7 mk v1 (1 : Int32)).length) from own_nT (by decide : 6 < 7) cS, show (Int32.ofNat (own_P 6 mk v1 (0 : Int32)).length) = (Int32.ofNat (own_P 7 mk v1 (0 : Int32)).length) from own_nF (by decide : 6 < 7) cU]
          have FR : AI Z hj6 b47 .int (own_P 7 mk v1 (0 : Int32) ++ List.replicate (own_R 7 mk v1 (0 : Int32)).length (0 : Int32)) := own_rF (by decide : 6 < 7) cU ▸ FB6
          exact J7 Tj6 _ _ Xj6 ej6 Nj6 Kj6 Zj6 FA6 FR FE6
        · refine G_icmpYes Xj6 hx (pc' := 43) (hb hby d_cmpl_34) (feq hc34_3).2 (by decide) (by decide) ?_
          have cS : own_c mk v1 1 (6 : Int32) = false := own_dC (by decide : 6 < 7) hc34_3
          have cU : own_c mk v1 0 (6 : Int32) = true := own_uT hc18_1 cS
          refine G_aloadN Xj6 hx (pc' := 44) rfl (hb hby d_cmpl_43) rfl rfl ?_
          refine G_iloadN Xj6 hx (pc' := 45) rfl (hb hby d_cmpl_44) rfl ?_
          refine G_iinc Xj6 hx (pc' := 48) rfl (hb hby d_cmpl_45) rfl (z := ((Int32.ofNat (own_P 6 mk v1 (0 : Int32)).length) + (1 : Int32))) rfl (L' := #[.val (.ref v0), .val (.int v1), .val (.ref b47), .val (.int ((Int32.ofNat (own_P 6 mk v1 (0 : Int32)).length) + (1 : Int32))), .val (.int (Int32.ofNat (own_P 6 mk v1 (1 : Int32)).length)), .val (.int (6 : Int32))]) rfl ?_
          refine G_iload Xj6 hx (pc' := 50) rfl (hb hby d_cmpl_48) rfl ?_
          obtain ⟨T48, h48, X48, e48, W48, A48, st48⟩ := stAI Xj6 hx hZ ej6 FB6 (j := (Int32.ofNat (own_P 6 mk v1 (0 : Int32)).length)) (own_nng mk v1 0 6) (own_ri (by decide : 6 < 7) cU) (g := (mkF m 50 #[.val (.ref v0), .val (.int v1), .val (.ref b47), .val (.int ((Int32.ofNat (own_P 6 mk v1 (0 : Int32)).length) + (1 : Int32))), .val (.int (Int32.ofNat (own_P 6 mk v1 (1 : Int32)).length)), .val (.int (6 : Int32))] [(.int (6 : Int32)), (.int (Int32.ofNat (own_P 6 mk v1 (0 : Int32)).length)), (.ref b47)])) rfl rfl (hb hby d_cmpl_50)
          refine Go.st st48 ?_
          have A_v0_48 := FA6.other W48 ne_v0_b47
          have E_b47_48 := FE6.wr W48
          have A_b47_48 : AI Z h48 b47 .int ((own_P 6 mk v1 (0 : Int32) ++ List.replicate (own_R 6 mk v1 (0 : Int32)).length (0 : Int32)).set (Int32.ofNat (own_P 6 mk v1 (0 : Int32)).length).toNatClampNeg (6 : Int32)) := A48
          have K_48 : Keep h0 h48 [] := Kj6.wr W48 (Or.inr sz_b47)
          have Z_48 : n0 ≤ h48.size := Nat.le_trans Z0 K_48.1
          have N48 := Fr.snoc X48 Nj6 g_b47
          clear FA6 FB6 FE6 W48 st48 A48
          obtain ⟨G48, Y48, M48⟩ : ∃ L, Stand p l e ({ frames := 0, cells := 1, slots := 7, locals := 0 } : Room) s m #[(.ref v0), (.int v1)] below meth c T48 L 1 7 ∧ Fr n0 L := ⟨_, X48, N48⟩
          clear X48 N48
          show Go p e below s _ _ _ T48 (mkF m 51 #[.val (.ref v0), .val (.int v1), .val (.ref b47), .val (.int ((Int32.ofNat (own_P 6 mk v1 (0 : Int32)).length) + (1 : Int32))), .val (.int (Int32.ofNat (own_P 6 mk v1 (1 : Int32)).length)), .val (.int (6 : Int32))] [])
          have FS : AI Z h48 b47 .int (own_P 7 mk v1 (0 : Int32) ++ List.replicate (own_R 7 mk v1 (0 : Int32)).length (0 : Int32)) := own_rT (by decide : 6 < 7) cU ▸ A_b47_48
          refine G_iinc Y48 hx (pc' := 54) rfl (hb hby d_cmpl_51) rfl (z := (7 : Int32)) rfl (L' := #[.val (.ref v0), .val (.int v1), .val (.ref b47), .val (.int ((Int32.ofNat (own_P 6 mk v1 (0 : Int32)).length) + (1 : Int32))), .val (.int (Int32.ofNat (own_P 6 mk v1 (1 : Int32)).length)), .val (.int (7 : Int32))]) rfl ?_
          refine G_goto Y48 hx (pc' := 15) (hb hby d_cmpl_54)  (by decide) (by decide) ?_
          rw [show ((Int32.ofNat (own_P 6 mk v1 (0 : Int32)).length) + (1 : Int32)) = (Int32.ofNat (own_P 7 mk v1 (0 : Int32)).length) from own_nT (by decide : 6 < 7) cU, show (Int32.ofNat (own_P 6 mk v1 (1 : Int32)).length) = (Int32.ofNat (own_P 7 mk v1 (1 : Int32)).length) from own_nF (by decide : 6 < 7) cS]
          exact J7 T48 _ _ Y48 e48 M48 K_48 Z_48 A_v0_48 FS E_b47_48
      · refine G_icmpYes Xj6 hx (pc' := 43) (hb hby d_cmpl_25) (flt hc25_2).2.1 (by decide) (by decide) ?_
        have cS : own_c mk v1 1 (6 : Int32) = false := own_dB (by decide : 6 < 7) hc25_2
        have cU : own_c mk v1 0 (6 : Int32) = true := own_uT hc18_1 cS
        refine G_aloadN Xj6 hx (pc' := 44) rfl (hb hby d_cmpl_43) rfl rfl ?_
        refine G_iloadN Xj6 hx (pc' := 45) rfl (hb hby d_cmpl_44) rfl ?_
        refine G_iinc Xj6 hx (pc' := 48) rfl (hb hby d_cmpl_45) rfl (z := ((Int32.ofNat (own_P 6 mk v1 (0 : Int32)).length) + (1 : Int32))) rfl (L' := #[.val (.ref v0), .val (.int v1), .val (.ref b47), .val (.int ((Int32.ofNat (own_P 6 mk v1 (0 : Int32)).length) + (1 : Int32))), .val (.int (Int32.ofNat (own_P 6 mk v1 (1 : Int32)).length)), .val (.int (6 : Int32))]) rfl ?_
        refine G_iload Xj6 hx (pc' := 50) rfl (hb hby d_cmpl_48) rfl ?_
        obtain ⟨T49, h49, X49, e49, W49, A49, st49⟩ := stAI Xj6 hx hZ ej6 FB6 (j := (Int32.ofNat (own_P 6 mk v1 (0 : Int32)).length)) (own_nng mk v1 0 6) (own_ri (by decide : 6 < 7) cU) (g := (mkF m 50 #[.val (.ref v0), .val (.int v1), .val (.ref b47), .val (.int ((Int32.ofNat (own_P 6 mk v1 (0 : Int32)).length) + (1 : Int32))), .val (.int (Int32.ofNat (own_P 6 mk v1 (1 : Int32)).length)), .val (.int (6 : Int32))] [(.int (6 : Int32)), (.int (Int32.ofNat (own_P 6 mk v1 (0 : Int32)).length)), (.ref b47)])) rfl rfl (hb hby d_cmpl_50)
        refine Go.st st49 ?_
        have A_v0_49 := FA6.other W49 ne_v0_b47
        have E_b47_49 := FE6.wr W49
        have A_b47_49 : AI Z h49 b47 .int ((own_P 6 mk v1 (0 : Int32) ++ List.replicate (own_R 6 mk v1 (0 : Int32)).length (0 : Int32)).set (Int32.ofNat (own_P 6 mk v1 (0 : Int32)).length).toNatClampNeg (6 : Int32)) := A49
        have K_49 : Keep h0 h49 [] := Kj6.wr W49 (Or.inr sz_b47)
        have Z_49 : n0 ≤ h49.size := Nat.le_trans Z0 K_49.1
        have N49 := Fr.snoc X49 Nj6 g_b47
        clear FA6 FB6 FE6 W49 st49 A49
        obtain ⟨G49, Y49, M49⟩ : ∃ L, Stand p l e ({ frames := 0, cells := 1, slots := 7, locals := 0 } : Room) s m #[(.ref v0), (.int v1)] below meth c T49 L 1 7 ∧ Fr n0 L := ⟨_, X49, N49⟩
        clear X49 N49
        show Go p e below s _ _ _ T49 (mkF m 51 #[.val (.ref v0), .val (.int v1), .val (.ref b47), .val (.int ((Int32.ofNat (own_P 6 mk v1 (0 : Int32)).length) + (1 : Int32))), .val (.int (Int32.ofNat (own_P 6 mk v1 (1 : Int32)).length)), .val (.int (6 : Int32))] [])
        have FS : AI Z h49 b47 .int (own_P 7 mk v1 (0 : Int32) ++ List.replicate (own_R 7 mk v1 (0 : Int32)).length (0 : Int32)) := own_rT (by decide : 6 < 7) cU ▸ A_b47_49
        refine G_iinc Y49 hx (pc' := 54) rfl (hb hby d_cmpl_51) rfl (z := (7 : Int32)) rfl (L' := #[.val (.ref v0), .val (.int v1), .val (.ref b47), .val (.int ((Int32.ofNat (own_P 6 mk v1 (0 : Int32)).length) + (1 : Int32))), .val (.int (Int32.ofNat (own_P 6 mk v1 (1 : Int32)).length)), .val (.int (7 : Int32))]) rfl ?_
        refine G_goto Y49 hx (pc' := 15) (hb hby d_cmpl_54)  (by decide) (by decide) ?_
        rw [show ((Int32.ofNat (own_P 6 mk v1 (0 : Int32)).length) + (1 : Int32)) = (Int32.ofNat (own_P 7 mk v1 (0 : Int32)).length) from own_nT (by decide : 6 < 7) cU, show (Int32.ofNat (own_P 6 mk v1 (1 : Int32)).length) = (Int32.ofNat (own_P 7 mk v1 (1 : Int32)).length) from own_nF (by decide : 6 < 7) cS]
        exact J7 T49 _ _ Y49 e49 M49 K_49 Z_49 A_v0_49 FS E_b47_49
    · refine G_icmpYes Xj6 hx (pc' := 57) (hb hby d_cmpl_18) (flt hc18_1).2.1 (by decide) (by decide) ?_
      refine G_aloadN Xj6 hx (pc' := 58) rfl (hb hby d_cmpl_57) rfl rfl ?_
      refine Go.fin Xj6 hlk (v := some (.ref b47)) (fun h => by rw [Bd.returns] at h; cases h) (by decide) (by decide) ?_ (fun fs hr => retOut Xj6 hx Bd.returns rfl (Or.inr (Or.inr (Or.inr (Or.inr ⟨rfl, rfl, rfl⟩)))) (hb hby d_cmpl_58) hr)
      show Q_cmpl Z v0 v1 mk h0 n0 _ Tj6.heap _
      rw [ej6]
      exact ⟨b47, rfl, Nj6, Kj6, sz_b47, FE6, (own_ex (by decide : 6 < 8) hc18_1 ▸ FB6)⟩
  have J5 : ∀ (T : State) (h : Heap) (L : List Loc) (X : Stand p l e ({ frames := 0, cells := 1, slots := 7, locals := 0 } : Room) s m #[(.ref v0), (.int v1)] below meth c T L 1 7) (e1 : T.heap = h) (N : Fr n0 L) (K : Keep h0 h []) (Zq : n0 ≤ h.size) (FA : AI Z h v0 .int (own_P 7 mk v1 (1 : Int32))) (FB : AI Z h b47 .int (own_P 5 mk v1 (0 : Int32) ++ List.replicate (own_R 5 mk v1 (0 : Int32)).length (0 : Int32))) (FE : Exa Z h b47 "[I"), Go p e below s ({ frames := 0, cells := 1, slots := 7, locals := 0 } : Room).cells ({ frames := 0, cells := 1, slots := 7, locals := 0 } : Room).slots (Q_cmpl Z v0 v1 mk h0 n0) T (mkF m 15 #[.val (.ref v0), .val (.int v1), .val (.ref b47), .val (.int (Int32.ofNat (own_P 5 mk v1 (0 : Int32)).length)), .val (.int (Int32.ofNat (own_P 5 mk v1 (1 : Int32)).length)), .val (.int (5 : Int32))] []) := by
    intro Tj5 hj5 Lj5 Xj5 ej5 Nj5 Kj5 Zj5 FA5 FB5 FE5
    refine G_iload Xj5 hx (pc' := 17) rfl (hb hby d_cmpl_15) rfl ?_
    refine G_iloadN Xj5 hx (pc' := 18) rfl (hb hby d_cmpl_17) rfl ?_
    by_cases hc18_4 : (5 : Int32) < v1
    · refine G_icmpNo Xj5 hx (pc' := 21) rfl (hb hby d_cmpl_18) (tlt hc18_4).2.1 ?_
      refine G_iload Xj5 hx (pc' := 23) rfl (hb hby d_cmpl_21) rfl ?_
      refine G_aloadN Xj5 hx (pc' := 24) rfl (hb hby d_cmpl_23) rfl rfl ?_
      refine Go.st (lenAI Xj5 hx hZ ej5 FA5 (g := (mkF m 24 #[.val (.ref v0), .val (.int v1), .val (.ref b47), .val (.int (Int32.ofNat (own_P 5 mk v1 (0 : Int32)).length)), .val (.int (Int32.ofNat (own_P 5 mk v1 (1 : Int32)).length)), .val (.int (5 : Int32))] [(.ref v0), (.int (Int32.ofNat (own_P 5 mk v1 (1 : Int32)).length))])) rfl rfl (hb hby d_cmpl_24)) ?_
      show Go p e below s _ _ _ Tj5 (mkF m 25 #[.val (.ref v0), .val (.int v1), .val (.ref b47), .val (.int (Int32.ofNat (own_P 5 mk v1 (0 : Int32)).length)), .val (.int (Int32.ofNat (own_P 5 mk v1 (1 : Int32)).length)), .val (.int (5 : Int32))] [(.int (Int32.ofNat ((own_P 7 mk v1 (1 : Int32))).length)), (.int (Int32.ofNat (own_P 5 mk v1 (1 : Int32)).length))])
      by_cases hc25_5 : (Int32.ofNat (own_P 5 mk v1 (1 : Int32)).length) < (Int32.ofNat ((own_P 7 mk v1 (1 : Int32))).length)
      · refine G_icmpNo Xj5 hx (pc' := 28) rfl (hb hby d_cmpl_25) (tlt hc25_5).2.1 ?_
        refine G_aloadN Xj5 hx (pc' := 29) rfl (hb hby d_cmpl_28) rfl rfl ?_
        refine G_iload Xj5 hx (pc' := 31) rfl (hb hby d_cmpl_29) rfl ?_
        refine Go.st (ldAI Xj5 hx hZ ej5 FA5 (j := (Int32.ofNat (own_P 5 mk v1 (1 : Int32)).length)) (own_nng mk v1 1 5) (own_ai hc25_5) (g := (mkF m 31 #[.val (.ref v0), .val (.int v1), .val (.ref b47), .val (.int (Int32.ofNat (own_P 5 mk v1 (0 : Int32)).length)), .val (.int (Int32.ofNat (own_P 5 mk v1 (1 : Int32)).length)), .val (.int (5 : Int32))] [(.int (Int32.ofNat (own_P 5 mk v1 (1 : Int32)).length)), (.ref v0)])) rfl rfl (hb hby d_cmpl_31)) ?_
        show Go p e below s _ _ _ Tj5 (mkF m 32 #[.val (.ref v0), .val (.int v1), .val (.ref b47), .val (.int (Int32.ofNat (own_P 5 mk v1 (0 : Int32)).length)), .val (.int (Int32.ofNat (own_P 5 mk v1 (1 : Int32)).length)), .val (.int (5 : Int32))] [(.int ((own_P 7 mk v1 (1 : Int32)).getD (Int32.ofNat (own_P 5 mk v1 (1 : Int32)).length).toNatClampNeg 0))])
        refine G_iload Xj5 hx (pc' := 34) rfl (hb hby d_cmpl_32) rfl ?_
        by_cases hc34_6 : ((own_P 7 mk v1 (1 : Int32)).getD (Int32.ofNat (own_P 5 mk v1 (1 : Int32)).length).toNatClampNeg 0) = (5 : Int32)
        · refine G_icmpNo Xj5 hx (pc' := 37) rfl (hb hby d_cmpl_34) (teq hc34_6).2 ?_
          have cS : own_c mk v1 1 (5 : Int32) = true := own_dA (by decide : 5 < 7) hc25_5 hc34_6
          have cU : own_c mk v1 0 (5 : Int32) = false := own_uF hc18_4 cS
          refine G_iinc Xj5 hx (pc' := 40) rfl (hb hby d_cmpl_37) rfl (z := ((Int32.ofNat (own_P 5 mk v1 (1 : Int32)).length) + (1 : Int32))) rfl (L' := #[.val (.ref v0), .val (.int v1), .val (.ref b47), .val (.int (Int32.ofNat (own_P 5 mk v1 (0 : Int32)).length)), .val (.int ((Int32.ofNat (own_P 5 mk v1 (1 : Int32)).length) + (1 : Int32))), .val (.int (5 : Int32))]) rfl ?_
          refine G_goto Xj5 hx (pc' := 51) (hb hby d_cmpl_40)  (by decide) (by decide) ?_
          refine G_iinc Xj5 hx (pc' := 54) rfl (hb hby d_cmpl_51) rfl (z := (6 : Int32)) rfl (L' := #[.val (.ref v0), .val (.int v1), .val (.ref b47), .val (.int (Int32.ofNat (own_P 5 mk v1 (0 : Int32)).length)), .val (.int ((Int32.ofNat (own_P 5 mk v1 (1 : Int32)).length) + (1 : Int32))), .val (.int (6 : Int32))]) rfl ?_
          refine G_goto Xj5 hx (pc' := 15) (hb hby d_cmpl_54)  (by decide) (by decide) ?_
          rw [show ((Int32.ofNat (own_P 5 mk v1 (1 : Int32)).length) + (1 : Int32)) = (Int32.ofNat (own_P 6 mk v1 (1 : Int32)).length) from own_nT (by decide : 5 < 7) cS, show (Int32.ofNat (own_P 5 mk v1 (0 : Int32)).length) = (Int32.ofNat (own_P 6 mk v1 (0 : Int32)).length) from own_nF (by decide : 5 < 7) cU]
          have FR : AI Z hj5 b47 .int (own_P 6 mk v1 (0 : Int32) ++ List.replicate (own_R 6 mk v1 (0 : Int32)).length (0 : Int32)) := own_rF (by decide : 5 < 7) cU ▸ FB5
          exact J6 Tj5 _ _ Xj5 ej5 Nj5 Kj5 Zj5 FA5 FR FE5
        · refine G_icmpYes Xj5 hx (pc' := 43) (hb hby d_cmpl_34) (feq hc34_6).2 (by decide) (by decide) ?_
          have cS : own_c mk v1 1 (5 : Int32) = false := own_dC (by decide : 5 < 7) hc34_6
          have cU : own_c mk v1 0 (5 : Int32) = true := own_uT hc18_4 cS
          refine G_aloadN Xj5 hx (pc' := 44) rfl (hb hby d_cmpl_43) rfl rfl ?_
          refine G_iloadN Xj5 hx (pc' := 45) rfl (hb hby d_cmpl_44) rfl ?_
          refine G_iinc Xj5 hx (pc' := 48) rfl (hb hby d_cmpl_45) rfl (z := ((Int32.ofNat (own_P 5 mk v1 (0 : Int32)).length) + (1 : Int32))) rfl (L' := #[.val (.ref v0), .val (.int v1), .val (.ref b47), .val (.int ((Int32.ofNat (own_P 5 mk v1 (0 : Int32)).length) + (1 : Int32))), .val (.int (Int32.ofNat (own_P 5 mk v1 (1 : Int32)).length)), .val (.int (5 : Int32))]) rfl ?_
          refine G_iload Xj5 hx (pc' := 50) rfl (hb hby d_cmpl_48) rfl ?_
          obtain ⟨T50, h50, X50, e50, W50, A50, st50⟩ := stAI Xj5 hx hZ ej5 FB5 (j := (Int32.ofNat (own_P 5 mk v1 (0 : Int32)).length)) (own_nng mk v1 0 5) (own_ri (by decide : 5 < 7) cU) (g := (mkF m 50 #[.val (.ref v0), .val (.int v1), .val (.ref b47), .val (.int ((Int32.ofNat (own_P 5 mk v1 (0 : Int32)).length) + (1 : Int32))), .val (.int (Int32.ofNat (own_P 5 mk v1 (1 : Int32)).length)), .val (.int (5 : Int32))] [(.int (5 : Int32)), (.int (Int32.ofNat (own_P 5 mk v1 (0 : Int32)).length)), (.ref b47)])) rfl rfl (hb hby d_cmpl_50)
          refine Go.st st50 ?_
          have A_v0_50 := FA5.other W50 ne_v0_b47
          have E_b47_50 := FE5.wr W50
          have A_b47_50 : AI Z h50 b47 .int ((own_P 5 mk v1 (0 : Int32) ++ List.replicate (own_R 5 mk v1 (0 : Int32)).length (0 : Int32)).set (Int32.ofNat (own_P 5 mk v1 (0 : Int32)).length).toNatClampNeg (5 : Int32)) := A50
          have K_50 : Keep h0 h50 [] := Kj5.wr W50 (Or.inr sz_b47)
          have Z_50 : n0 ≤ h50.size := Nat.le_trans Z0 K_50.1
          have N50 := Fr.snoc X50 Nj5 g_b47
          clear FA5 FB5 FE5 W50 st50 A50
          obtain ⟨G50, Y50, M50⟩ : ∃ L, Stand p l e ({ frames := 0, cells := 1, slots := 7, locals := 0 } : Room) s m #[(.ref v0), (.int v1)] below meth c T50 L 1 7 ∧ Fr n0 L := ⟨_, X50, N50⟩
          clear X50 N50
          show Go p e below s _ _ _ T50 (mkF m 51 #[.val (.ref v0), .val (.int v1), .val (.ref b47), .val (.int ((Int32.ofNat (own_P 5 mk v1 (0 : Int32)).length) + (1 : Int32))), .val (.int (Int32.ofNat (own_P 5 mk v1 (1 : Int32)).length)), .val (.int (5 : Int32))] [])
          have FS : AI Z h50 b47 .int (own_P 6 mk v1 (0 : Int32) ++ List.replicate (own_R 6 mk v1 (0 : Int32)).length (0 : Int32)) := own_rT (by decide : 5 < 7) cU ▸ A_b47_50
          refine G_iinc Y50 hx (pc' := 54) rfl (hb hby d_cmpl_51) rfl (z := (6 : Int32)) rfl (L' := #[.val (.ref v0), .val (.int v1), .val (.ref b47), .val (.int ((Int32.ofNat (own_P 5 mk v1 (0 : Int32)).length) + (1 : Int32))), .val (.int (Int32.ofNat (own_P 5 mk v1 (1 : Int32)).length)), .val (.int (6 : Int32))]) rfl ?_
          refine G_goto Y50 hx (pc' := 15) (hb hby d_cmpl_54)  (by decide) (by decide) ?_
          rw [show ((Int32.ofNat (own_P 5 mk v1 (0 : Int32)).length) + (1 : Int32)) = (Int32.ofNat (own_P 6 mk v1 (0 : Int32)).length) from own_nT (by decide : 5 < 7) cU, show (Int32.ofNat (own_P 5 mk v1 (1 : Int32)).length) = (Int32.ofNat (own_P 6 mk v1 (1 : Int32)).length) from own_nF (by decide : 5 < 7) cS]
          exact J6 T50 _ _ Y50 e50 M50 K_50 Z_50 A_v0_50 FS E_b47_50
      · refine G_icmpYes Xj5 hx (pc' := 43) (hb hby d_cmpl_25) (flt hc25_5).2.1 (by decide) (by decide) ?_
        have cS : own_c mk v1 1 (5 : Int32) = false := own_dB (by decide : 5 < 7) hc25_5
        have cU : own_c mk v1 0 (5 : Int32) = true := own_uT hc18_4 cS
        refine G_aloadN Xj5 hx (pc' := 44) rfl (hb hby d_cmpl_43) rfl rfl ?_
        refine G_iloadN Xj5 hx (pc' := 45) rfl (hb hby d_cmpl_44) rfl ?_
        refine G_iinc Xj5 hx (pc' := 48) rfl (hb hby d_cmpl_45) rfl (z := ((Int32.ofNat (own_P 5 mk v1 (0 : Int32)).length) + (1 : Int32))) rfl (L' := #[.val (.ref v0), .val (.int v1), .val (.ref b47), .val (.int ((Int32.ofNat (own_P 5 mk v1 (0 : Int32)).length) + (1 : Int32))), .val (.int (Int32.ofNat (own_P 5 mk v1 (1 : Int32)).length)), .val (.int (5 : Int32))]) rfl ?_
        refine G_iload Xj5 hx (pc' := 50) rfl (hb hby d_cmpl_48) rfl ?_
        obtain ⟨T51, h51, X51, e51, W51, A51, st51⟩ := stAI Xj5 hx hZ ej5 FB5 (j := (Int32.ofNat (own_P 5 mk v1 (0 : Int32)).length)) (own_nng mk v1 0 5) (own_ri (by decide : 5 < 7) cU) (g := (mkF m 50 #[.val (.ref v0), .val (.int v1), .val (.ref b47), .val (.int ((Int32.ofNat (own_P 5 mk v1 (0 : Int32)).length) + (1 : Int32))), .val (.int (Int32.ofNat (own_P 5 mk v1 (1 : Int32)).length)), .val (.int (5 : Int32))] [(.int (5 : Int32)), (.int (Int32.ofNat (own_P 5 mk v1 (0 : Int32)).length)), (.ref b47)])) rfl rfl (hb hby d_cmpl_50)
        refine Go.st st51 ?_
        have A_v0_51 := FA5.other W51 ne_v0_b47
        have E_b47_51 := FE5.wr W51
        have A_b47_51 : AI Z h51 b47 .int ((own_P 5 mk v1 (0 : Int32) ++ List.replicate (own_R 5 mk v1 (0 : Int32)).length (0 : Int32)).set (Int32.ofNat (own_P 5 mk v1 (0 : Int32)).length).toNatClampNeg (5 : Int32)) := A51
        have K_51 : Keep h0 h51 [] := Kj5.wr W51 (Or.inr sz_b47)
        have Z_51 : n0 ≤ h51.size := Nat.le_trans Z0 K_51.1
        have N51 := Fr.snoc X51 Nj5 g_b47
        clear FA5 FB5 FE5 W51 st51 A51
        obtain ⟨G51, Y51, M51⟩ : ∃ L, Stand p l e ({ frames := 0, cells := 1, slots := 7, locals := 0 } : Room) s m #[(.ref v0), (.int v1)] below meth c T51 L 1 7 ∧ Fr n0 L := ⟨_, X51, N51⟩
        clear X51 N51
        show Go p e below s _ _ _ T51 (mkF m 51 #[.val (.ref v0), .val (.int v1), .val (.ref b47), .val (.int ((Int32.ofNat (own_P 5 mk v1 (0 : Int32)).length) + (1 : Int32))), .val (.int (Int32.ofNat (own_P 5 mk v1 (1 : Int32)).length)), .val (.int (5 : Int32))] [])
        have FS : AI Z h51 b47 .int (own_P 6 mk v1 (0 : Int32) ++ List.replicate (own_R 6 mk v1 (0 : Int32)).length (0 : Int32)) := own_rT (by decide : 5 < 7) cU ▸ A_b47_51
        refine G_iinc Y51 hx (pc' := 54) rfl (hb hby d_cmpl_51) rfl (z := (6 : Int32)) rfl (L' := #[.val (.ref v0), .val (.int v1), .val (.ref b47), .val (.int ((Int32.ofNat (own_P 5 mk v1 (0 : Int32)).length) + (1 : Int32))), .val (.int (Int32.ofNat (own_P 5 mk v1 (1 : Int32)).length)), .val (.int (6 : Int32))]) rfl ?_
        refine G_goto Y51 hx (pc' := 15) (hb hby d_cmpl_54)  (by decide) (by decide) ?_
        rw [show ((Int32.ofNat (own_P 5 mk v1 (0 : Int32)).length) + (1 : Int32)) = (Int32.ofNat (own_P 6 mk v1 (0 : Int32)).length) from own_nT (by decide : 5 < 7) cU, show (Int32.ofNat (own_P 5 mk v1 (1 : Int32)).length) = (Int32.ofNat (own_P 6 mk v1 (1 : Int32)).length) from own_nF (by decide : 5 < 7) cS]
        exact J6 T51 _ _ Y51 e51 M51 K_51 Z_51 A_v0_51 FS E_b47_51
    · refine G_icmpYes Xj5 hx (pc' := 57) (hb hby d_cmpl_18) (flt hc18_4).2.1 (by decide) (by decide) ?_
      refine G_aloadN Xj5 hx (pc' := 58) rfl (hb hby d_cmpl_57) rfl rfl ?_
      refine Go.fin Xj5 hlk (v := some (.ref b47)) (fun h => by rw [Bd.returns] at h; cases h) (by decide) (by decide) ?_ (fun fs hr => retOut Xj5 hx Bd.returns rfl (Or.inr (Or.inr (Or.inr (Or.inr ⟨rfl, rfl, rfl⟩)))) (hb hby d_cmpl_58) hr)
      show Q_cmpl Z v0 v1 mk h0 n0 _ Tj5.heap _
      rw [ej5]
      exact ⟨b47, rfl, Nj5, Kj5, sz_b47, FE5, (own_ex (by decide : 5 < 8) hc18_4 ▸ FB5)⟩
  have J4 : ∀ (T : State) (h : Heap) (L : List Loc) (X : Stand p l e ({ frames := 0, cells := 1, slots := 7, locals := 0 } : Room) s m #[(.ref v0), (.int v1)] below meth c T L 1 7) (e1 : T.heap = h) (N : Fr n0 L) (K : Keep h0 h []) (Zq : n0 ≤ h.size) (FA : AI Z h v0 .int (own_P 7 mk v1 (1 : Int32))) (FB : AI Z h b47 .int (own_P 4 mk v1 (0 : Int32) ++ List.replicate (own_R 4 mk v1 (0 : Int32)).length (0 : Int32))) (FE : Exa Z h b47 "[I"), Go p e below s ({ frames := 0, cells := 1, slots := 7, locals := 0 } : Room).cells ({ frames := 0, cells := 1, slots := 7, locals := 0 } : Room).slots (Q_cmpl Z v0 v1 mk h0 n0) T (mkF m 15 #[.val (.ref v0), .val (.int v1), .val (.ref b47), .val (.int (Int32.ofNat (own_P 4 mk v1 (0 : Int32)).length)), .val (.int (Int32.ofNat (own_P 4 mk v1 (1 : Int32)).length)), .val (.int (4 : Int32))] []) := by
    intro Tj4 hj4 Lj4 Xj4 ej4 Nj4 Kj4 Zj4 FA4 FB4 FE4
    refine G_iload Xj4 hx (pc' := 17) rfl (hb hby d_cmpl_15) rfl ?_
    refine G_iloadN Xj4 hx (pc' := 18) rfl (hb hby d_cmpl_17) rfl ?_
    by_cases hc18_7 : (4 : Int32) < v1
    · refine G_icmpNo Xj4 hx (pc' := 21) rfl (hb hby d_cmpl_18) (tlt hc18_7).2.1 ?_
      refine G_iload Xj4 hx (pc' := 23) rfl (hb hby d_cmpl_21) rfl ?_
      refine G_aloadN Xj4 hx (pc' := 24) rfl (hb hby d_cmpl_23) rfl rfl ?_
      refine Go.st (lenAI Xj4 hx hZ ej4 FA4 (g := (mkF m 24 #[.val (.ref v0), .val (.int v1), .val (.ref b47), .val (.int (Int32.ofNat (own_P 4 mk v1 (0 : Int32)).length)), .val (.int (Int32.ofNat (own_P 4 mk v1 (1 : Int32)).length)), .val (.int (4 : Int32))] [(.ref v0), (.int (Int32.ofNat (own_P 4 mk v1 (1 : Int32)).length))])) rfl rfl (hb hby d_cmpl_24)) ?_
      show Go p e below s _ _ _ Tj4 (mkF m 25 #[.val (.ref v0), .val (.int v1), .val (.ref b47), .val (.int (Int32.ofNat (own_P 4 mk v1 (0 : Int32)).length)), .val (.int (Int32.ofNat (own_P 4 mk v1 (1 : Int32)).length)), .val (.int (4 : Int32))] [(.int (Int32.ofNat ((own_P 7 mk v1 (1 : Int32))).length)), (.int (Int32.ofNat (own_P 4 mk v1 (1 : Int32)).length))])
      by_cases hc25_8 : (Int32.ofNat (own_P 4 mk v1 (1 : Int32)).length) < (Int32.ofNat ((own_P 7 mk v1 (1 : Int32))).length)
      · refine G_icmpNo Xj4 hx (pc' := 28) rfl (hb hby d_cmpl_25) (tlt hc25_8).2.1 ?_
        refine G_aloadN Xj4 hx (pc' := 29) rfl (hb hby d_cmpl_28) rfl rfl ?_
        refine G_iload Xj4 hx (pc' := 31) rfl (hb hby d_cmpl_29) rfl ?_
        refine Go.st (ldAI Xj4 hx hZ ej4 FA4 (j := (Int32.ofNat (own_P 4 mk v1 (1 : Int32)).length)) (own_nng mk v1 1 4) (own_ai hc25_8) (g := (mkF m 31 #[.val (.ref v0), .val (.int v1), .val (.ref b47), .val (.int (Int32.ofNat (own_P 4 mk v1 (0 : Int32)).length)), .val (.int (Int32.ofNat (own_P 4 mk v1 (1 : Int32)).length)), .val (.int (4 : Int32))] [(.int (Int32.ofNat (own_P 4 mk v1 (1 : Int32)).length)), (.ref v0)])) rfl rfl (hb hby d_cmpl_31)) ?_
        show Go p e below s _ _ _ Tj4 (mkF m 32 #[.val (.ref v0), .val (.int v1), .val (.ref b47), .val (.int (Int32.ofNat (own_P 4 mk v1 (0 : Int32)).length)), .val (.int (Int32.ofNat (own_P 4 mk v1 (1 : Int32)).length)), .val (.int (4 : Int32))] [(.int ((own_P 7 mk v1 (1 : Int32)).getD (Int32.ofNat (own_P 4 mk v1 (1 : Int32)).length).toNatClampNeg 0))])
        refine G_iload Xj4 hx (pc' := 34) rfl (hb hby d_cmpl_32) rfl ?_
        by_cases hc34_9 : ((own_P 7 mk v1 (1 : Int32)).getD (Int32.ofNat (own_P 4 mk v1 (1 : Int32)).length).toNatClampNeg 0) = (4 : Int32)
        · refine G_icmpNo Xj4 hx (pc' := 37) rfl (hb hby d_cmpl_34) (teq hc34_9).2 ?_
          have cS : own_c mk v1 1 (4 : Int32) = true := own_dA (by decide : 4 < 7) hc25_8 hc34_9
          have cU : own_c mk v1 0 (4 : Int32) = false := own_uF hc18_7 cS
          refine G_iinc Xj4 hx (pc' := 40) rfl (hb hby d_cmpl_37) rfl (z := ((Int32.ofNat (own_P 4 mk v1 (1 : Int32)).length) + (1 : Int32))) rfl (L' := #[.val (.ref v0), .val (.int v1), .val (.ref b47), .val (.int (Int32.ofNat (own_P 4 mk v1 (0 : Int32)).length)), .val (.int ((Int32.ofNat (own_P 4 mk v1 (1 : Int32)).length) + (1 : Int32))), .val (.int (4 : Int32))]) rfl ?_
          refine G_goto Xj4 hx (pc' := 51) (hb hby d_cmpl_40)  (by decide) (by decide) ?_
          refine G_iinc Xj4 hx (pc' := 54) rfl (hb hby d_cmpl_51) rfl (z := (5 : Int32)) rfl (L' := #[.val (.ref v0), .val (.int v1), .val (.ref b47), .val (.int (Int32.ofNat (own_P 4 mk v1 (0 : Int32)).length)), .val (.int ((Int32.ofNat (own_P 4 mk v1 (1 : Int32)).length) + (1 : Int32))), .val (.int (5 : Int32))]) rfl ?_
          refine G_goto Xj4 hx (pc' := 15) (hb hby d_cmpl_54)  (by decide) (by decide) ?_
          rw [show ((Int32.ofNat (own_P 4 mk v1 (1 : Int32)).length) + (1 : Int32)) = (Int32.ofNat (own_P 5 mk v1 (1 : Int32)).length) from own_nT (by decide : 4 < 7) cS, show (Int32.ofNat (own_P 4 mk v1 (0 : Int32)).length) = (Int32.ofNat (own_P 5 mk v1 (0 : Int32)).length) from own_nF (by decide : 4 < 7) cU]
          have FR : AI Z hj4 b47 .int (own_P 5 mk v1 (0 : Int32) ++ List.replicate (own_R 5 mk v1 (0 : Int32)).length (0 : Int32)) := own_rF (by decide : 4 < 7) cU ▸ FB4
          exact J5 Tj4 _ _ Xj4 ej4 Nj4 Kj4 Zj4 FA4 FR FE4
        · refine G_icmpYes Xj4 hx (pc' := 43) (hb hby d_cmpl_34) (feq hc34_9).2 (by decide) (by decide) ?_
          have cS : own_c mk v1 1 (4 : Int32) = false := own_dC (by decide : 4 < 7) hc34_9
          have cU : own_c mk v1 0 (4 : Int32) = true := own_uT hc18_7 cS
          refine G_aloadN Xj4 hx (pc' := 44) rfl (hb hby d_cmpl_43) rfl rfl ?_
          refine G_iloadN Xj4 hx (pc' := 45) rfl (hb hby d_cmpl_44) rfl ?_
          refine G_iinc Xj4 hx (pc' := 48) rfl (hb hby d_cmpl_45) rfl (z := ((Int32.ofNat (own_P 4 mk v1 (0 : Int32)).length) + (1 : Int32))) rfl (L' := #[.val (.ref v0), .val (.int v1), .val (.ref b47), .val (.int ((Int32.ofNat (own_P 4 mk v1 (0 : Int32)).length) + (1 : Int32))), .val (.int (Int32.ofNat (own_P 4 mk v1 (1 : Int32)).length)), .val (.int (4 : Int32))]) rfl ?_
          refine G_iload Xj4 hx (pc' := 50) rfl (hb hby d_cmpl_48) rfl ?_
          obtain ⟨T52, h52, X52, e52, W52, A52, st52⟩ := stAI Xj4 hx hZ ej4 FB4 (j := (Int32.ofNat (own_P 4 mk v1 (0 : Int32)).length)) (own_nng mk v1 0 4) (own_ri (by decide : 4 < 7) cU) (g := (mkF m 50 #[.val (.ref v0), .val (.int v1), .val (.ref b47), .val (.int ((Int32.ofNat (own_P 4 mk v1 (0 : Int32)).length) + (1 : Int32))), .val (.int (Int32.ofNat (own_P 4 mk v1 (1 : Int32)).length)), .val (.int (4 : Int32))] [(.int (4 : Int32)), (.int (Int32.ofNat (own_P 4 mk v1 (0 : Int32)).length)), (.ref b47)])) rfl rfl (hb hby d_cmpl_50)
          refine Go.st st52 ?_
          have A_v0_52 := FA4.other W52 ne_v0_b47
          have E_b47_52 := FE4.wr W52
          have A_b47_52 : AI Z h52 b47 .int ((own_P 4 mk v1 (0 : Int32) ++ List.replicate (own_R 4 mk v1 (0 : Int32)).length (0 : Int32)).set (Int32.ofNat (own_P 4 mk v1 (0 : Int32)).length).toNatClampNeg (4 : Int32)) := A52
          have K_52 : Keep h0 h52 [] := Kj4.wr W52 (Or.inr sz_b47)
          have Z_52 : n0 ≤ h52.size := Nat.le_trans Z0 K_52.1
          have N52 := Fr.snoc X52 Nj4 g_b47
          clear FA4 FB4 FE4 W52 st52 A52
          obtain ⟨G52, Y52, M52⟩ : ∃ L, Stand p l e ({ frames := 0, cells := 1, slots := 7, locals := 0 } : Room) s m #[(.ref v0), (.int v1)] below meth c T52 L 1 7 ∧ Fr n0 L := ⟨_, X52, N52⟩
          clear X52 N52
          show Go p e below s _ _ _ T52 (mkF m 51 #[.val (.ref v0), .val (.int v1), .val (.ref b47), .val (.int ((Int32.ofNat (own_P 4 mk v1 (0 : Int32)).length) + (1 : Int32))), .val (.int (Int32.ofNat (own_P 4 mk v1 (1 : Int32)).length)), .val (.int (4 : Int32))] [])
          have FS : AI Z h52 b47 .int (own_P 5 mk v1 (0 : Int32) ++ List.replicate (own_R 5 mk v1 (0 : Int32)).length (0 : Int32)) := own_rT (by decide : 4 < 7) cU ▸ A_b47_52
          refine G_iinc Y52 hx (pc' := 54) rfl (hb hby d_cmpl_51) rfl (z := (5 : Int32)) rfl (L' := #[.val (.ref v0), .val (.int v1), .val (.ref b47), .val (.int ((Int32.ofNat (own_P 4 mk v1 (0 : Int32)).length) + (1 : Int32))), .val (.int (Int32.ofNat (own_P 4 mk v1 (1 : Int32)).length)), .val (.int (5 : Int32))]) rfl ?_
          refine G_goto Y52 hx (pc' := 15) (hb hby d_cmpl_54)  (by decide) (by decide) ?_
          rw [show ((Int32.ofNat (own_P 4 mk v1 (0 : Int32)).length) + (1 : Int32)) = (Int32.ofNat (own_P 5 mk v1 (0 : Int32)).length) from own_nT (by decide : 4 < 7) cU, show (Int32.ofNat (own_P 4 mk v1 (1 : Int32)).length) = (Int32.ofNat (own_P 5 mk v1 (1 : Int32)).length) from own_nF (by decide : 4 < 7) cS]
          exact J5 T52 _ _ Y52 e52 M52 K_52 Z_52 A_v0_52 FS E_b47_52
      · refine G_icmpYes Xj4 hx (pc' := 43) (hb hby d_cmpl_25) (flt hc25_8).2.1 (by decide) (by decide) ?_
        have cS : own_c mk v1 1 (4 : Int32) = false := own_dB (by decide : 4 < 7) hc25_8
        have cU : own_c mk v1 0 (4 : Int32) = true := own_uT hc18_7 cS
        refine G_aloadN Xj4 hx (pc' := 44) rfl (hb hby d_cmpl_43) rfl rfl ?_
        refine G_iloadN Xj4 hx (pc' := 45) rfl (hb hby d_cmpl_44) rfl ?_
        refine G_iinc Xj4 hx (pc' := 48) rfl (hb hby d_cmpl_45) rfl (z := ((Int32.ofNat (own_P 4 mk v1 (0 : Int32)).length) + (1 : Int32))) rfl (L' := #[.val (.ref v0), .val (.int v1), .val (.ref b47), .val (.int ((Int32.ofNat (own_P 4 mk v1 (0 : Int32)).length) + (1 : Int32))), .val (.int (Int32.ofNat (own_P 4 mk v1 (1 : Int32)).length)), .val (.int (4 : Int32))]) rfl ?_
        refine G_iload Xj4 hx (pc' := 50) rfl (hb hby d_cmpl_48) rfl ?_
        obtain ⟨T53, h53, X53, e53, W53, A53, st53⟩ := stAI Xj4 hx hZ ej4 FB4 (j := (Int32.ofNat (own_P 4 mk v1 (0 : Int32)).length)) (own_nng mk v1 0 4) (own_ri (by decide : 4 < 7) cU) (g := (mkF m 50 #[.val (.ref v0), .val (.int v1), .val (.ref b47), .val (.int ((Int32.ofNat (own_P 4 mk v1 (0 : Int32)).length) + (1 : Int32))), .val (.int (Int32.ofNat (own_P 4 mk v1 (1 : Int32)).length)), .val (.int (4 : Int32))] [(.int (4 : Int32)), (.int (Int32.ofNat (own_P 4 mk v1 (0 : Int32)).length)), (.ref b47)])) rfl rfl (hb hby d_cmpl_50)
        refine Go.st st53 ?_
        have A_v0_53 := FA4.other W53 ne_v0_b47
        have E_b47_53 := FE4.wr W53
        have A_b47_53 : AI Z h53 b47 .int ((own_P 4 mk v1 (0 : Int32) ++ List.replicate (own_R 4 mk v1 (0 : Int32)).length (0 : Int32)).set (Int32.ofNat (own_P 4 mk v1 (0 : Int32)).length).toNatClampNeg (4 : Int32)) := A53
        have K_53 : Keep h0 h53 [] := Kj4.wr W53 (Or.inr sz_b47)
        have Z_53 : n0 ≤ h53.size := Nat.le_trans Z0 K_53.1
        have N53 := Fr.snoc X53 Nj4 g_b47
        clear FA4 FB4 FE4 W53 st53 A53
        obtain ⟨G53, Y53, M53⟩ : ∃ L, Stand p l e ({ frames := 0, cells := 1, slots := 7, locals := 0 } : Room) s m #[(.ref v0), (.int v1)] below meth c T53 L 1 7 ∧ Fr n0 L := ⟨_, X53, N53⟩
        clear X53 N53
        show Go p e below s _ _ _ T53 (mkF m 51 #[.val (.ref v0), .val (.int v1), .val (.ref b47), .val (.int ((Int32.ofNat (own_P 4 mk v1 (0 : Int32)).length) + (1 : Int32))), .val (.int (Int32.ofNat (own_P 4 mk v1 (1 : Int32)).length)), .val (.int (4 : Int32))] [])
        have FS : AI Z h53 b47 .int (own_P 5 mk v1 (0 : Int32) ++ List.replicate (own_R 5 mk v1 (0 : Int32)).length (0 : Int32)) := own_rT (by decide : 4 < 7) cU ▸ A_b47_53
        refine G_iinc Y53 hx (pc' := 54) rfl (hb hby d_cmpl_51) rfl (z := (5 : Int32)) rfl (L' := #[.val (.ref v0), .val (.int v1), .val (.ref b47), .val (.int ((Int32.ofNat (own_P 4 mk v1 (0 : Int32)).length) + (1 : Int32))), .val (.int (Int32.ofNat (own_P 4 mk v1 (1 : Int32)).length)), .val (.int (5 : Int32))]) rfl ?_
        refine G_goto Y53 hx (pc' := 15) (hb hby d_cmpl_54)  (by decide) (by decide) ?_
        rw [show ((Int32.ofNat (own_P 4 mk v1 (0 : Int32)).length) + (1 : Int32)) = (Int32.ofNat (own_P 5 mk v1 (0 : Int32)).length) from own_nT (by decide : 4 < 7) cU, show (Int32.ofNat (own_P 4 mk v1 (1 : Int32)).length) = (Int32.ofNat (own_P 5 mk v1 (1 : Int32)).length) from own_nF (by decide : 4 < 7) cS]
        exact J5 T53 _ _ Y53 e53 M53 K_53 Z_53 A_v0_53 FS E_b47_53
    · refine G_icmpYes Xj4 hx (pc' := 57) (hb hby d_cmpl_18) (flt hc18_7).2.1 (by decide) (by decide) ?_
      refine G_aloadN Xj4 hx (pc' := 58) rfl (hb hby d_cmpl_57) rfl rfl ?_
      refine Go.fin Xj4 hlk (v := some (.ref b47)) (fun h => by rw [Bd.returns] at h; cases h) (by decide) (by decide) ?_ (fun fs hr => retOut Xj4 hx Bd.returns rfl (Or.inr (Or.inr (Or.inr (Or.inr ⟨rfl, rfl, rfl⟩)))) (hb hby d_cmpl_58) hr)
      show Q_cmpl Z v0 v1 mk h0 n0 _ Tj4.heap _
      rw [ej4]
      exact ⟨b47, rfl, Nj4, Kj4, sz_b47, FE4, (own_ex (by decide : 4 < 8) hc18_7 ▸ FB4)⟩
  have J3 : ∀ (T : State) (h : Heap) (L : List Loc) (X : Stand p l e ({ frames := 0, cells := 1, slots := 7, locals := 0 } : Room) s m #[(.ref v0), (.int v1)] below meth c T L 1 7) (e1 : T.heap = h) (N : Fr n0 L) (K : Keep h0 h []) (Zq : n0 ≤ h.size) (FA : AI Z h v0 .int (own_P 7 mk v1 (1 : Int32))) (FB : AI Z h b47 .int (own_P 3 mk v1 (0 : Int32) ++ List.replicate (own_R 3 mk v1 (0 : Int32)).length (0 : Int32))) (FE : Exa Z h b47 "[I"), Go p e below s ({ frames := 0, cells := 1, slots := 7, locals := 0 } : Room).cells ({ frames := 0, cells := 1, slots := 7, locals := 0 } : Room).slots (Q_cmpl Z v0 v1 mk h0 n0) T (mkF m 15 #[.val (.ref v0), .val (.int v1), .val (.ref b47), .val (.int (Int32.ofNat (own_P 3 mk v1 (0 : Int32)).length)), .val (.int (Int32.ofNat (own_P 3 mk v1 (1 : Int32)).length)), .val (.int (3 : Int32))] []) := by
    intro Tj3 hj3 Lj3 Xj3 ej3 Nj3 Kj3 Zj3 FA3 FB3 FE3
    refine G_iload Xj3 hx (pc' := 17) rfl (hb hby d_cmpl_15) rfl ?_
    refine G_iloadN Xj3 hx (pc' := 18) rfl (hb hby d_cmpl_17) rfl ?_
    by_cases hc18_10 : (3 : Int32) < v1
    · refine G_icmpNo Xj3 hx (pc' := 21) rfl (hb hby d_cmpl_18) (tlt hc18_10).2.1 ?_
      refine G_iload Xj3 hx (pc' := 23) rfl (hb hby d_cmpl_21) rfl ?_
      refine G_aloadN Xj3 hx (pc' := 24) rfl (hb hby d_cmpl_23) rfl rfl ?_
      refine Go.st (lenAI Xj3 hx hZ ej3 FA3 (g := (mkF m 24 #[.val (.ref v0), .val (.int v1), .val (.ref b47), .val (.int (Int32.ofNat (own_P 3 mk v1 (0 : Int32)).length)), .val (.int (Int32.ofNat (own_P 3 mk v1 (1 : Int32)).length)), .val (.int (3 : Int32))] [(.ref v0), (.int (Int32.ofNat (own_P 3 mk v1 (1 : Int32)).length))])) rfl rfl (hb hby d_cmpl_24)) ?_
      show Go p e below s _ _ _ Tj3 (mkF m 25 #[.val (.ref v0), .val (.int v1), .val (.ref b47), .val (.int (Int32.ofNat (own_P 3 mk v1 (0 : Int32)).length)), .val (.int (Int32.ofNat (own_P 3 mk v1 (1 : Int32)).length)), .val (.int (3 : Int32))] [(.int (Int32.ofNat ((own_P 7 mk v1 (1 : Int32))).length)), (.int (Int32.ofNat (own_P 3 mk v1 (1 : Int32)).length))])
      by_cases hc25_11 : (Int32.ofNat (own_P 3 mk v1 (1 : Int32)).length) < (Int32.ofNat ((own_P 7 mk v1 (1 : Int32))).length)
      · refine G_icmpNo Xj3 hx (pc' := 28) rfl (hb hby d_cmpl_25) (tlt hc25_11).2.1 ?_
        refine G_aloadN Xj3 hx (pc' := 29) rfl (hb hby d_cmpl_28) rfl rfl ?_
        refine G_iload Xj3 hx (pc' := 31) rfl (hb hby d_cmpl_29) rfl ?_
        refine Go.st (ldAI Xj3 hx hZ ej3 FA3 (j := (Int32.ofNat (own_P 3 mk v1 (1 : Int32)).length)) (own_nng mk v1 1 3) (own_ai hc25_11) (g := (mkF m 31 #[.val (.ref v0), .val (.int v1), .val (.ref b47), .val (.int (Int32.ofNat (own_P 3 mk v1 (0 : Int32)).length)), .val (.int (Int32.ofNat (own_P 3 mk v1 (1 : Int32)).length)), .val (.int (3 : Int32))] [(.int (Int32.ofNat (own_P 3 mk v1 (1 : Int32)).length)), (.ref v0)])) rfl rfl (hb hby d_cmpl_31)) ?_
        show Go p e below s _ _ _ Tj3 (mkF m 32 #[.val (.ref v0), .val (.int v1), .val (.ref b47), .val (.int (Int32.ofNat (own_P 3 mk v1 (0 : Int32)).length)), .val (.int (Int32.ofNat (own_P 3 mk v1 (1 : Int32)).length)), .val (.int (3 : Int32))] [(.int ((own_P 7 mk v1 (1 : Int32)).getD (Int32.ofNat (own_P 3 mk v1 (1 : Int32)).length).toNatClampNeg 0))])
        refine G_iload Xj3 hx (pc' := 34) rfl (hb hby d_cmpl_32) rfl ?_
        by_cases hc34_12 : ((own_P 7 mk v1 (1 : Int32)).getD (Int32.ofNat (own_P 3 mk v1 (1 : Int32)).length).toNatClampNeg 0) = (3 : Int32)
        · refine G_icmpNo Xj3 hx (pc' := 37) rfl (hb hby d_cmpl_34) (teq hc34_12).2 ?_
          have cS : own_c mk v1 1 (3 : Int32) = true := own_dA (by decide : 3 < 7) hc25_11 hc34_12
          have cU : own_c mk v1 0 (3 : Int32) = false := own_uF hc18_10 cS
          refine G_iinc Xj3 hx (pc' := 40) rfl (hb hby d_cmpl_37) rfl (z := ((Int32.ofNat (own_P 3 mk v1 (1 : Int32)).length) + (1 : Int32))) rfl (L' := #[.val (.ref v0), .val (.int v1), .val (.ref b47), .val (.int (Int32.ofNat (own_P 3 mk v1 (0 : Int32)).length)), .val (.int ((Int32.ofNat (own_P 3 mk v1 (1 : Int32)).length) + (1 : Int32))), .val (.int (3 : Int32))]) rfl ?_
          refine G_goto Xj3 hx (pc' := 51) (hb hby d_cmpl_40)  (by decide) (by decide) ?_
          refine G_iinc Xj3 hx (pc' := 54) rfl (hb hby d_cmpl_51) rfl (z := (4 : Int32)) rfl (L' := #[.val (.ref v0), .val (.int v1), .val (.ref b47), .val (.int (Int32.ofNat (own_P 3 mk v1 (0 : Int32)).length)), .val (.int ((Int32.ofNat (own_P 3 mk v1 (1 : Int32)).length) + (1 : Int32))), .val (.int (4 : Int32))]) rfl ?_
          refine G_goto Xj3 hx (pc' := 15) (hb hby d_cmpl_54)  (by decide) (by decide) ?_
          rw [show ((Int32.ofNat (own_P 3 mk v1 (1 : Int32)).length) + (1 : Int32)) = (Int32.ofNat (own_P 4 mk v1 (1 : Int32)).length) from own_nT (by decide : 3 < 7) cS, show (Int32.ofNat (own_P 3 mk v1 (0 : Int32)).length) = (Int32.ofNat (own_P 4 mk v1 (0 : Int32)).length) from own_nF (by decide : 3 < 7) cU]
          have FR : AI Z hj3 b47 .int (own_P 4 mk v1 (0 : Int32) ++ List.replicate (own_R 4 mk v1 (0 : Int32)).length (0 : Int32)) := own_rF (by decide : 3 < 7) cU ▸ FB3
          exact J4 Tj3 _ _ Xj3 ej3 Nj3 Kj3 Zj3 FA3 FR FE3
        · refine G_icmpYes Xj3 hx (pc' := 43) (hb hby d_cmpl_34) (feq hc34_12).2 (by decide) (by decide) ?_
          have cS : own_c mk v1 1 (3 : Int32) = false := own_dC (by decide : 3 < 7) hc34_12
          have cU : own_c mk v1 0 (3 : Int32) = true := own_uT hc18_10 cS
          refine G_aloadN Xj3 hx (pc' := 44) rfl (hb hby d_cmpl_43) rfl rfl ?_
          refine G_iloadN Xj3 hx (pc' := 45) rfl (hb hby d_cmpl_44) rfl ?_
          refine G_iinc Xj3 hx (pc' := 48) rfl (hb hby d_cmpl_45) rfl (z := ((Int32.ofNat (own_P 3 mk v1 (0 : Int32)).length) + (1 : Int32))) rfl (L' := #[.val (.ref v0), .val (.int v1), .val (.ref b47), .val (.int ((Int32.ofNat (own_P 3 mk v1 (0 : Int32)).length) + (1 : Int32))), .val (.int (Int32.ofNat (own_P 3 mk v1 (1 : Int32)).length)), .val (.int (3 : Int32))]) rfl ?_
          refine G_iload Xj3 hx (pc' := 50) rfl (hb hby d_cmpl_48) rfl ?_
          obtain ⟨T54, h54, X54, e54, W54, A54, st54⟩ := stAI Xj3 hx hZ ej3 FB3 (j := (Int32.ofNat (own_P 3 mk v1 (0 : Int32)).length)) (own_nng mk v1 0 3) (own_ri (by decide : 3 < 7) cU) (g := (mkF m 50 #[.val (.ref v0), .val (.int v1), .val (.ref b47), .val (.int ((Int32.ofNat (own_P 3 mk v1 (0 : Int32)).length) + (1 : Int32))), .val (.int (Int32.ofNat (own_P 3 mk v1 (1 : Int32)).length)), .val (.int (3 : Int32))] [(.int (3 : Int32)), (.int (Int32.ofNat (own_P 3 mk v1 (0 : Int32)).length)), (.ref b47)])) rfl rfl (hb hby d_cmpl_50)
          refine Go.st st54 ?_
          have A_v0_54 := FA3.other W54 ne_v0_b47
          have E_b47_54 := FE3.wr W54
          have A_b47_54 : AI Z h54 b47 .int ((own_P 3 mk v1 (0 : Int32) ++ List.replicate (own_R 3 mk v1 (0 : Int32)).length (0 : Int32)).set (Int32.ofNat (own_P 3 mk v1 (0 : Int32)).length).toNatClampNeg (3 : Int32)) := A54
          have K_54 : Keep h0 h54 [] := Kj3.wr W54 (Or.inr sz_b47)
          have Z_54 : n0 ≤ h54.size := Nat.le_trans Z0 K_54.1
          have N54 := Fr.snoc X54 Nj3 g_b47
          clear FA3 FB3 FE3 W54 st54 A54
          obtain ⟨G54, Y54, M54⟩ : ∃ L, Stand p l e ({ frames := 0, cells := 1, slots := 7, locals := 0 } : Room) s m #[(.ref v0), (.int v1)] below meth c T54 L 1 7 ∧ Fr n0 L := ⟨_, X54, N54⟩
          clear X54 N54
          show Go p e below s _ _ _ T54 (mkF m 51 #[.val (.ref v0), .val (.int v1), .val (.ref b47), .val (.int ((Int32.ofNat (own_P 3 mk v1 (0 : Int32)).length) + (1 : Int32))), .val (.int (Int32.ofNat (own_P 3 mk v1 (1 : Int32)).length)), .val (.int (3 : Int32))] [])
          have FS : AI Z h54 b47 .int (own_P 4 mk v1 (0 : Int32) ++ List.replicate (own_R 4 mk v1 (0 : Int32)).length (0 : Int32)) := own_rT (by decide : 3 < 7) cU ▸ A_b47_54
          refine G_iinc Y54 hx (pc' := 54) rfl (hb hby d_cmpl_51) rfl (z := (4 : Int32)) rfl (L' := #[.val (.ref v0), .val (.int v1), .val (.ref b47), .val (.int ((Int32.ofNat (own_P 3 mk v1 (0 : Int32)).length) + (1 : Int32))), .val (.int (Int32.ofNat (own_P 3 mk v1 (1 : Int32)).length)), .val (.int (4 : Int32))]) rfl ?_
          refine G_goto Y54 hx (pc' := 15) (hb hby d_cmpl_54)  (by decide) (by decide) ?_
          rw [show ((Int32.ofNat (own_P 3 mk v1 (0 : Int32)).length) + (1 : Int32)) = (Int32.ofNat (own_P 4 mk v1 (0 : Int32)).length) from own_nT (by decide : 3 < 7) cU, show (Int32.ofNat (own_P 3 mk v1 (1 : Int32)).length) = (Int32.ofNat (own_P 4 mk v1 (1 : Int32)).length) from own_nF (by decide : 3 < 7) cS]
          exact J4 T54 _ _ Y54 e54 M54 K_54 Z_54 A_v0_54 FS E_b47_54
      · refine G_icmpYes Xj3 hx (pc' := 43) (hb hby d_cmpl_25) (flt hc25_11).2.1 (by decide) (by decide) ?_
        have cS : own_c mk v1 1 (3 : Int32) = false := own_dB (by decide : 3 < 7) hc25_11
        have cU : own_c mk v1 0 (3 : Int32) = true := own_uT hc18_10 cS
        refine G_aloadN Xj3 hx (pc' := 44) rfl (hb hby d_cmpl_43) rfl rfl ?_
        refine G_iloadN Xj3 hx (pc' := 45) rfl (hb hby d_cmpl_44) rfl ?_
        refine G_iinc Xj3 hx (pc' := 48) rfl (hb hby d_cmpl_45) rfl (z := ((Int32.ofNat (own_P 3 mk v1 (0 : Int32)).length) + (1 : Int32))) rfl (L' := #[.val (.ref v0), .val (.int v1), .val (.ref b47), .val (.int ((Int32.ofNat (own_P 3 mk v1 (0 : Int32)).length) + (1 : Int32))), .val (.int (Int32.ofNat (own_P 3 mk v1 (1 : Int32)).length)), .val (.int (3 : Int32))]) rfl ?_
        refine G_iload Xj3 hx (pc' := 50) rfl (hb hby d_cmpl_48) rfl ?_
        obtain ⟨T55, h55, X55, e55, W55, A55, st55⟩ := stAI Xj3 hx hZ ej3 FB3 (j := (Int32.ofNat (own_P 3 mk v1 (0 : Int32)).length)) (own_nng mk v1 0 3) (own_ri (by decide : 3 < 7) cU) (g := (mkF m 50 #[.val (.ref v0), .val (.int v1), .val (.ref b47), .val (.int ((Int32.ofNat (own_P 3 mk v1 (0 : Int32)).length) + (1 : Int32))), .val (.int (Int32.ofNat (own_P 3 mk v1 (1 : Int32)).length)), .val (.int (3 : Int32))] [(.int (3 : Int32)), (.int (Int32.ofNat (own_P 3 mk v1 (0 : Int32)).length)), (.ref b47)])) rfl rfl (hb hby d_cmpl_50)
        refine Go.st st55 ?_
        have A_v0_55 := FA3.other W55 ne_v0_b47
        have E_b47_55 := FE3.wr W55
        have A_b47_55 : AI Z h55 b47 .int ((own_P 3 mk v1 (0 : Int32) ++ List.replicate (own_R 3 mk v1 (0 : Int32)).length (0 : Int32)).set (Int32.ofNat (own_P 3 mk v1 (0 : Int32)).length).toNatClampNeg (3 : Int32)) := A55
        have K_55 : Keep h0 h55 [] := Kj3.wr W55 (Or.inr sz_b47)
        have Z_55 : n0 ≤ h55.size := Nat.le_trans Z0 K_55.1
        have N55 := Fr.snoc X55 Nj3 g_b47
        clear FA3 FB3 FE3 W55 st55 A55
        obtain ⟨G55, Y55, M55⟩ : ∃ L, Stand p l e ({ frames := 0, cells := 1, slots := 7, locals := 0 } : Room) s m #[(.ref v0), (.int v1)] below meth c T55 L 1 7 ∧ Fr n0 L := ⟨_, X55, N55⟩
        clear X55 N55
        show Go p e below s _ _ _ T55 (mkF m 51 #[.val (.ref v0), .val (.int v1), .val (.ref b47), .val (.int ((Int32.ofNat (own_P 3 mk v1 (0 : Int32)).length) + (1 : Int32))), .val (.int (Int32.ofNat (own_P 3 mk v1 (1 : Int32)).length)), .val (.int (3 : Int32))] [])
        have FS : AI Z h55 b47 .int (own_P 4 mk v1 (0 : Int32) ++ List.replicate (own_R 4 mk v1 (0 : Int32)).length (0 : Int32)) := own_rT (by decide : 3 < 7) cU ▸ A_b47_55
        refine G_iinc Y55 hx (pc' := 54) rfl (hb hby d_cmpl_51) rfl (z := (4 : Int32)) rfl (L' := #[.val (.ref v0), .val (.int v1), .val (.ref b47), .val (.int ((Int32.ofNat (own_P 3 mk v1 (0 : Int32)).length) + (1 : Int32))), .val (.int (Int32.ofNat (own_P 3 mk v1 (1 : Int32)).length)), .val (.int (4 : Int32))]) rfl ?_
        refine G_goto Y55 hx (pc' := 15) (hb hby d_cmpl_54)  (by decide) (by decide) ?_
        rw [show ((Int32.ofNat (own_P 3 mk v1 (0 : Int32)).length) + (1 : Int32)) = (Int32.ofNat (own_P 4 mk v1 (0 : Int32)).length) from own_nT (by decide : 3 < 7) cU, show (Int32.ofNat (own_P 3 mk v1 (1 : Int32)).length) = (Int32.ofNat (own_P 4 mk v1 (1 : Int32)).length) from own_nF (by decide : 3 < 7) cS]
        exact J4 T55 _ _ Y55 e55 M55 K_55 Z_55 A_v0_55 FS E_b47_55
    · refine G_icmpYes Xj3 hx (pc' := 57) (hb hby d_cmpl_18) (flt hc18_10).2.1 (by decide) (by decide) ?_
      refine G_aloadN Xj3 hx (pc' := 58) rfl (hb hby d_cmpl_57) rfl rfl ?_
      refine Go.fin Xj3 hlk (v := some (.ref b47)) (fun h => by rw [Bd.returns] at h; cases h) (by decide) (by decide) ?_ (fun fs hr => retOut Xj3 hx Bd.returns rfl (Or.inr (Or.inr (Or.inr (Or.inr ⟨rfl, rfl, rfl⟩)))) (hb hby d_cmpl_58) hr)
      show Q_cmpl Z v0 v1 mk h0 n0 _ Tj3.heap _
      rw [ej3]
      exact ⟨b47, rfl, Nj3, Kj3, sz_b47, FE3, (own_ex (by decide : 3 < 8) hc18_10 ▸ FB3)⟩
  have J2 : ∀ (T : State) (h : Heap) (L : List Loc) (X : Stand p l e ({ frames := 0, cells := 1, slots := 7, locals := 0 } : Room) s m #[(.ref v0), (.int v1)] below meth c T L 1 7) (e1 : T.heap = h) (N : Fr n0 L) (K : Keep h0 h []) (Zq : n0 ≤ h.size) (FA : AI Z h v0 .int (own_P 7 mk v1 (1 : Int32))) (FB : AI Z h b47 .int (own_P 2 mk v1 (0 : Int32) ++ List.replicate (own_R 2 mk v1 (0 : Int32)).length (0 : Int32))) (FE : Exa Z h b47 "[I"), Go p e below s ({ frames := 0, cells := 1, slots := 7, locals := 0 } : Room).cells ({ frames := 0, cells := 1, slots := 7, locals := 0 } : Room).slots (Q_cmpl Z v0 v1 mk h0 n0) T (mkF m 15 #[.val (.ref v0), .val (.int v1), .val (.ref b47), .val (.int (Int32.ofNat (own_P 2 mk v1 (0 : Int32)).length)), .val (.int (Int32.ofNat (own_P 2 mk v1 (1 : Int32)).length)), .val (.int (2 : Int32))] []) := by
    intro Tj2 hj2 Lj2 Xj2 ej2 Nj2 Kj2 Zj2 FA2 FB2 FE2
    refine G_iload Xj2 hx (pc' := 17) rfl (hb hby d_cmpl_15) rfl ?_
    refine G_iloadN Xj2 hx (pc' := 18) rfl (hb hby d_cmpl_17) rfl ?_
    by_cases hc18_13 : (2 : Int32) < v1
    · refine G_icmpNo Xj2 hx (pc' := 21) rfl (hb hby d_cmpl_18) (tlt hc18_13).2.1 ?_
      refine G_iload Xj2 hx (pc' := 23) rfl (hb hby d_cmpl_21) rfl ?_
      refine G_aloadN Xj2 hx (pc' := 24) rfl (hb hby d_cmpl_23) rfl rfl ?_
      refine Go.st (lenAI Xj2 hx hZ ej2 FA2 (g := (mkF m 24 #[.val (.ref v0), .val (.int v1), .val (.ref b47), .val (.int (Int32.ofNat (own_P 2 mk v1 (0 : Int32)).length)), .val (.int (Int32.ofNat (own_P 2 mk v1 (1 : Int32)).length)), .val (.int (2 : Int32))] [(.ref v0), (.int (Int32.ofNat (own_P 2 mk v1 (1 : Int32)).length))])) rfl rfl (hb hby d_cmpl_24)) ?_
      show Go p e below s _ _ _ Tj2 (mkF m 25 #[.val (.ref v0), .val (.int v1), .val (.ref b47), .val (.int (Int32.ofNat (own_P 2 mk v1 (0 : Int32)).length)), .val (.int (Int32.ofNat (own_P 2 mk v1 (1 : Int32)).length)), .val (.int (2 : Int32))] [(.int (Int32.ofNat ((own_P 7 mk v1 (1 : Int32))).length)), (.int (Int32.ofNat (own_P 2 mk v1 (1 : Int32)).length))])
      by_cases hc25_14 : (Int32.ofNat (own_P 2 mk v1 (1 : Int32)).length) < (Int32.ofNat ((own_P 7 mk v1 (1 : Int32))).length)
      · refine G_icmpNo Xj2 hx (pc' := 28) rfl (hb hby d_cmpl_25) (tlt hc25_14).2.1 ?_
        refine G_aloadN Xj2 hx (pc' := 29) rfl (hb hby d_cmpl_28) rfl rfl ?_
        refine G_iload Xj2 hx (pc' := 31) rfl (hb hby d_cmpl_29) rfl ?_
        refine Go.st (ldAI Xj2 hx hZ ej2 FA2 (j := (Int32.ofNat (own_P 2 mk v1 (1 : Int32)).length)) (own_nng mk v1 1 2) (own_ai hc25_14) (g := (mkF m 31 #[.val (.ref v0), .val (.int v1), .val (.ref b47), .val (.int (Int32.ofNat (own_P 2 mk v1 (0 : Int32)).length)), .val (.int (Int32.ofNat (own_P 2 mk v1 (1 : Int32)).length)), .val (.int (2 : Int32))] [(.int (Int32.ofNat (own_P 2 mk v1 (1 : Int32)).length)), (.ref v0)])) rfl rfl (hb hby d_cmpl_31)) ?_
        show Go p e below s _ _ _ Tj2 (mkF m 32 #[.val (.ref v0), .val (.int v1), .val (.ref b47), .val (.int (Int32.ofNat (own_P 2 mk v1 (0 : Int32)).length)), .val (.int (Int32.ofNat (own_P 2 mk v1 (1 : Int32)).length)), .val (.int (2 : Int32))] [(.int ((own_P 7 mk v1 (1 : Int32)).getD (Int32.ofNat (own_P 2 mk v1 (1 : Int32)).length).toNatClampNeg 0))])
        refine G_iload Xj2 hx (pc' := 34) rfl (hb hby d_cmpl_32) rfl ?_
        by_cases hc34_15 : ((own_P 7 mk v1 (1 : Int32)).getD (Int32.ofNat (own_P 2 mk v1 (1 : Int32)).length).toNatClampNeg 0) = (2 : Int32)
        · refine G_icmpNo Xj2 hx (pc' := 37) rfl (hb hby d_cmpl_34) (teq hc34_15).2 ?_
          have cS : own_c mk v1 1 (2 : Int32) = true := own_dA (by decide : 2 < 7) hc25_14 hc34_15
          have cU : own_c mk v1 0 (2 : Int32) = false := own_uF hc18_13 cS
          refine G_iinc Xj2 hx (pc' := 40) rfl (hb hby d_cmpl_37) rfl (z := ((Int32.ofNat (own_P 2 mk v1 (1 : Int32)).length) + (1 : Int32))) rfl (L' := #[.val (.ref v0), .val (.int v1), .val (.ref b47), .val (.int (Int32.ofNat (own_P 2 mk v1 (0 : Int32)).length)), .val (.int ((Int32.ofNat (own_P 2 mk v1 (1 : Int32)).length) + (1 : Int32))), .val (.int (2 : Int32))]) rfl ?_
          refine G_goto Xj2 hx (pc' := 51) (hb hby d_cmpl_40)  (by decide) (by decide) ?_
          refine G_iinc Xj2 hx (pc' := 54) rfl (hb hby d_cmpl_51) rfl (z := (3 : Int32)) rfl (L' := #[.val (.ref v0), .val (.int v1), .val (.ref b47), .val (.int (Int32.ofNat (own_P 2 mk v1 (0 : Int32)).length)), .val (.int ((Int32.ofNat (own_P 2 mk v1 (1 : Int32)).length) + (1 : Int32))), .val (.int (3 : Int32))]) rfl ?_
          refine G_goto Xj2 hx (pc' := 15) (hb hby d_cmpl_54)  (by decide) (by decide) ?_
          rw [show ((Int32.ofNat (own_P 2 mk v1 (1 : Int32)).length) + (1 : Int32)) = (Int32.ofNat (own_P 3 mk v1 (1 : Int32)).length) from own_nT (by decide : 2 < 7) cS, show (Int32.ofNat (own_P 2 mk v1 (0 : Int32)).length) = (Int32.ofNat (own_P 3 mk v1 (0 : Int32)).length) from own_nF (by decide : 2 < 7) cU]
          have FR : AI Z hj2 b47 .int (own_P 3 mk v1 (0 : Int32) ++ List.replicate (own_R 3 mk v1 (0 : Int32)).length (0 : Int32)) := own_rF (by decide : 2 < 7) cU ▸ FB2
          exact J3 Tj2 _ _ Xj2 ej2 Nj2 Kj2 Zj2 FA2 FR FE2
        · refine G_icmpYes Xj2 hx (pc' := 43) (hb hby d_cmpl_34) (feq hc34_15).2 (by decide) (by decide) ?_
          have cS : own_c mk v1 1 (2 : Int32) = false := own_dC (by decide : 2 < 7) hc34_15
          have cU : own_c mk v1 0 (2 : Int32) = true := own_uT hc18_13 cS
          refine G_aloadN Xj2 hx (pc' := 44) rfl (hb hby d_cmpl_43) rfl rfl ?_
          refine G_iloadN Xj2 hx (pc' := 45) rfl (hb hby d_cmpl_44) rfl ?_
          refine G_iinc Xj2 hx (pc' := 48) rfl (hb hby d_cmpl_45) rfl (z := ((Int32.ofNat (own_P 2 mk v1 (0 : Int32)).length) + (1 : Int32))) rfl (L' := #[.val (.ref v0), .val (.int v1), .val (.ref b47), .val (.int ((Int32.ofNat (own_P 2 mk v1 (0 : Int32)).length) + (1 : Int32))), .val (.int (Int32.ofNat (own_P 2 mk v1 (1 : Int32)).length)), .val (.int (2 : Int32))]) rfl ?_
          refine G_iload Xj2 hx (pc' := 50) rfl (hb hby d_cmpl_48) rfl ?_
          obtain ⟨T56, h56, X56, e56, W56, A56, st56⟩ := stAI Xj2 hx hZ ej2 FB2 (j := (Int32.ofNat (own_P 2 mk v1 (0 : Int32)).length)) (own_nng mk v1 0 2) (own_ri (by decide : 2 < 7) cU) (g := (mkF m 50 #[.val (.ref v0), .val (.int v1), .val (.ref b47), .val (.int ((Int32.ofNat (own_P 2 mk v1 (0 : Int32)).length) + (1 : Int32))), .val (.int (Int32.ofNat (own_P 2 mk v1 (1 : Int32)).length)), .val (.int (2 : Int32))] [(.int (2 : Int32)), (.int (Int32.ofNat (own_P 2 mk v1 (0 : Int32)).length)), (.ref b47)])) rfl rfl (hb hby d_cmpl_50)
          refine Go.st st56 ?_
          have A_v0_56 := FA2.other W56 ne_v0_b47
          have E_b47_56 := FE2.wr W56
          have A_b47_56 : AI Z h56 b47 .int ((own_P 2 mk v1 (0 : Int32) ++ List.replicate (own_R 2 mk v1 (0 : Int32)).length (0 : Int32)).set (Int32.ofNat (own_P 2 mk v1 (0 : Int32)).length).toNatClampNeg (2 : Int32)) := A56
          have K_56 : Keep h0 h56 [] := Kj2.wr W56 (Or.inr sz_b47)
          have Z_56 : n0 ≤ h56.size := Nat.le_trans Z0 K_56.1
          have N56 := Fr.snoc X56 Nj2 g_b47
          clear FA2 FB2 FE2 W56 st56 A56
          obtain ⟨G56, Y56, M56⟩ : ∃ L, Stand p l e ({ frames := 0, cells := 1, slots := 7, locals := 0 } : Room) s m #[(.ref v0), (.int v1)] below meth c T56 L 1 7 ∧ Fr n0 L := ⟨_, X56, N56⟩
          clear X56 N56
          show Go p e below s _ _ _ T56 (mkF m 51 #[.val (.ref v0), .val (.int v1), .val (.ref b47), .val (.int ((Int32.ofNat (own_P 2 mk v1 (0 : Int32)).length) + (1 : Int32))), .val (.int (Int32.ofNat (own_P 2 mk v1 (1 : Int32)).length)), .val (.int (2 : Int32))] [])
          have FS : AI Z h56 b47 .int (own_P 3 mk v1 (0 : Int32) ++ List.replicate (own_R 3 mk v1 (0 : Int32)).length (0 : Int32)) := own_rT (by decide : 2 < 7) cU ▸ A_b47_56
          refine G_iinc Y56 hx (pc' := 54) rfl (hb hby d_cmpl_51) rfl (z := (3 : Int32)) rfl (L' := #[.val (.ref v0), .val (.int v1), .val (.ref b47), .val (.int ((Int32.ofNat (own_P 2 mk v1 (0 : Int32)).length) + (1 : Int32))), .val (.int (Int32.ofNat (own_P 2 mk v1 (1 : Int32)).length)), .val (.int (3 : Int32))]) rfl ?_
          refine G_goto Y56 hx (pc' := 15) (hb hby d_cmpl_54)  (by decide) (by decide) ?_
          rw [show ((Int32.ofNat (own_P 2 mk v1 (0 : Int32)).length) + (1 : Int32)) = (Int32.ofNat (own_P 3 mk v1 (0 : Int32)).length) from own_nT (by decide : 2 < 7) cU, show (Int32.ofNat (own_P 2 mk v1 (1 : Int32)).length) = (Int32.ofNat (own_P 3 mk v1 (1 : Int32)).length) from own_nF (by decide : 2 < 7) cS]
          exact J3 T56 _ _ Y56 e56 M56 K_56 Z_56 A_v0_56 FS E_b47_56
      · refine G_icmpYes Xj2 hx (pc' := 43) (hb hby d_cmpl_25) (flt hc25_14).2.1 (by decide) (by decide) ?_
        have cS : own_c mk v1 1 (2 : Int32) = false := own_dB (by decide : 2 < 7) hc25_14
        have cU : own_c mk v1 0 (2 : Int32) = true := own_uT hc18_13 cS
        refine G_aloadN Xj2 hx (pc' := 44) rfl (hb hby d_cmpl_43) rfl rfl ?_
        refine G_iloadN Xj2 hx (pc' := 45) rfl (hb hby d_cmpl_44) rfl ?_
        refine G_iinc Xj2 hx (pc' := 48) rfl (hb hby d_cmpl_45) rfl (z := ((Int32.ofNat (own_P 2 mk v1 (0 : Int32)).length) + (1 : Int32))) rfl (L' := #[.val (.ref v0), .val (.int v1), .val (.ref b47), .val (.int ((Int32.ofNat (own_P 2 mk v1 (0 : Int32)).length) + (1 : Int32))), .val (.int (Int32.ofNat (own_P 2 mk v1 (1 : Int32)).length)), .val (.int (2 : Int32))]) rfl ?_
        refine G_iload Xj2 hx (pc' := 50) rfl (hb hby d_cmpl_48) rfl ?_
        obtain ⟨T57, h57, X57, e57, W57, A57, st57⟩ := stAI Xj2 hx hZ ej2 FB2 (j := (Int32.ofNat (own_P 2 mk v1 (0 : Int32)).length)) (own_nng mk v1 0 2) (own_ri (by decide : 2 < 7) cU) (g := (mkF m 50 #[.val (.ref v0), .val (.int v1), .val (.ref b47), .val (.int ((Int32.ofNat (own_P 2 mk v1 (0 : Int32)).length) + (1 : Int32))), .val (.int (Int32.ofNat (own_P 2 mk v1 (1 : Int32)).length)), .val (.int (2 : Int32))] [(.int (2 : Int32)), (.int (Int32.ofNat (own_P 2 mk v1 (0 : Int32)).length)), (.ref b47)])) rfl rfl (hb hby d_cmpl_50)
        refine Go.st st57 ?_
        have A_v0_57 := FA2.other W57 ne_v0_b47
        have E_b47_57 := FE2.wr W57
        have A_b47_57 : AI Z h57 b47 .int ((own_P 2 mk v1 (0 : Int32) ++ List.replicate (own_R 2 mk v1 (0 : Int32)).length (0 : Int32)).set (Int32.ofNat (own_P 2 mk v1 (0 : Int32)).length).toNatClampNeg (2 : Int32)) := A57
        have K_57 : Keep h0 h57 [] := Kj2.wr W57 (Or.inr sz_b47)
        have Z_57 : n0 ≤ h57.size := Nat.le_trans Z0 K_57.1
        have N57 := Fr.snoc X57 Nj2 g_b47
        clear FA2 FB2 FE2 W57 st57 A57
        obtain ⟨G57, Y57, M57⟩ : ∃ L, Stand p l e ({ frames := 0, cells := 1, slots := 7, locals := 0 } : Room) s m #[(.ref v0), (.int v1)] below meth c T57 L 1 7 ∧ Fr n0 L := ⟨_, X57, N57⟩
        clear X57 N57
        show Go p e below s _ _ _ T57 (mkF m 51 #[.val (.ref v0), .val (.int v1), .val (.ref b47), .val (.int ((Int32.ofNat (own_P 2 mk v1 (0 : Int32)).length) + (1 : Int32))), .val (.int (Int32.ofNat (own_P 2 mk v1 (1 : Int32)).length)), .val (.int (2 : Int32))] [])
        have FS : AI Z h57 b47 .int (own_P 3 mk v1 (0 : Int32) ++ List.replicate (own_R 3 mk v1 (0 : Int32)).length (0 : Int32)) := own_rT (by decide : 2 < 7) cU ▸ A_b47_57
        refine G_iinc Y57 hx (pc' := 54) rfl (hb hby d_cmpl_51) rfl (z := (3 : Int32)) rfl (L' := #[.val (.ref v0), .val (.int v1), .val (.ref b47), .val (.int ((Int32.ofNat (own_P 2 mk v1 (0 : Int32)).length) + (1 : Int32))), .val (.int (Int32.ofNat (own_P 2 mk v1 (1 : Int32)).length)), .val (.int (3 : Int32))]) rfl ?_
        refine G_goto Y57 hx (pc' := 15) (hb hby d_cmpl_54)  (by decide) (by decide) ?_
        rw [show ((Int32.ofNat (own_P 2 mk v1 (0 : Int32)).length) + (1 : Int32)) = (Int32.ofNat (own_P 3 mk v1 (0 : Int32)).length) from own_nT (by decide : 2 < 7) cU, show (Int32.ofNat (own_P 2 mk v1 (1 : Int32)).length) = (Int32.ofNat (own_P 3 mk v1 (1 : Int32)).length) from own_nF (by decide : 2 < 7) cS]
        exact J3 T57 _ _ Y57 e57 M57 K_57 Z_57 A_v0_57 FS E_b47_57
    · refine G_icmpYes Xj2 hx (pc' := 57) (hb hby d_cmpl_18) (flt hc18_13).2.1 (by decide) (by decide) ?_
      refine G_aloadN Xj2 hx (pc' := 58) rfl (hb hby d_cmpl_57) rfl rfl ?_
      refine Go.fin Xj2 hlk (v := some (.ref b47)) (fun h => by rw [Bd.returns] at h; cases h) (by decide) (by decide) ?_ (fun fs hr => retOut Xj2 hx Bd.returns rfl (Or.inr (Or.inr (Or.inr (Or.inr ⟨rfl, rfl, rfl⟩)))) (hb hby d_cmpl_58) hr)
      show Q_cmpl Z v0 v1 mk h0 n0 _ Tj2.heap _
      rw [ej2]
      exact ⟨b47, rfl, Nj2, Kj2, sz_b47, FE2, (own_ex (by decide : 2 < 8) hc18_13 ▸ FB2)⟩
  have J1 : ∀ (T : State) (h : Heap) (L : List Loc) (X : Stand p l e ({ frames := 0, cells := 1, slots := 7, locals := 0 } : Room) s m #[(.ref v0), (.int v1)] below meth c T L 1 7) (e1 : T.heap = h) (N : Fr n0 L) (K : Keep h0 h []) (Zq : n0 ≤ h.size) (FA : AI Z h v0 .int (own_P 7 mk v1 (1 : Int32))) (FB : AI Z h b47 .int (own_P 1 mk v1 (0 : Int32) ++ List.replicate (own_R 1 mk v1 (0 : Int32)).length (0 : Int32))) (FE : Exa Z h b47 "[I"), Go p e below s ({ frames := 0, cells := 1, slots := 7, locals := 0 } : Room).cells ({ frames := 0, cells := 1, slots := 7, locals := 0 } : Room).slots (Q_cmpl Z v0 v1 mk h0 n0) T (mkF m 15 #[.val (.ref v0), .val (.int v1), .val (.ref b47), .val (.int (Int32.ofNat (own_P 1 mk v1 (0 : Int32)).length)), .val (.int (Int32.ofNat (own_P 1 mk v1 (1 : Int32)).length)), .val (.int (1 : Int32))] []) := by
    intro Tj1 hj1 Lj1 Xj1 ej1 Nj1 Kj1 Zj1 FA1 FB1 FE1
    refine G_iload Xj1 hx (pc' := 17) rfl (hb hby d_cmpl_15) rfl ?_
    refine G_iloadN Xj1 hx (pc' := 18) rfl (hb hby d_cmpl_17) rfl ?_
    by_cases hc18_16 : (1 : Int32) < v1
    · refine G_icmpNo Xj1 hx (pc' := 21) rfl (hb hby d_cmpl_18) (tlt hc18_16).2.1 ?_
      refine G_iload Xj1 hx (pc' := 23) rfl (hb hby d_cmpl_21) rfl ?_
      refine G_aloadN Xj1 hx (pc' := 24) rfl (hb hby d_cmpl_23) rfl rfl ?_
      refine Go.st (lenAI Xj1 hx hZ ej1 FA1 (g := (mkF m 24 #[.val (.ref v0), .val (.int v1), .val (.ref b47), .val (.int (Int32.ofNat (own_P 1 mk v1 (0 : Int32)).length)), .val (.int (Int32.ofNat (own_P 1 mk v1 (1 : Int32)).length)), .val (.int (1 : Int32))] [(.ref v0), (.int (Int32.ofNat (own_P 1 mk v1 (1 : Int32)).length))])) rfl rfl (hb hby d_cmpl_24)) ?_
      show Go p e below s _ _ _ Tj1 (mkF m 25 #[.val (.ref v0), .val (.int v1), .val (.ref b47), .val (.int (Int32.ofNat (own_P 1 mk v1 (0 : Int32)).length)), .val (.int (Int32.ofNat (own_P 1 mk v1 (1 : Int32)).length)), .val (.int (1 : Int32))] [(.int (Int32.ofNat ((own_P 7 mk v1 (1 : Int32))).length)), (.int (Int32.ofNat (own_P 1 mk v1 (1 : Int32)).length))])
      by_cases hc25_17 : (Int32.ofNat (own_P 1 mk v1 (1 : Int32)).length) < (Int32.ofNat ((own_P 7 mk v1 (1 : Int32))).length)
      · refine G_icmpNo Xj1 hx (pc' := 28) rfl (hb hby d_cmpl_25) (tlt hc25_17).2.1 ?_
        refine G_aloadN Xj1 hx (pc' := 29) rfl (hb hby d_cmpl_28) rfl rfl ?_
        refine G_iload Xj1 hx (pc' := 31) rfl (hb hby d_cmpl_29) rfl ?_
        refine Go.st (ldAI Xj1 hx hZ ej1 FA1 (j := (Int32.ofNat (own_P 1 mk v1 (1 : Int32)).length)) (own_nng mk v1 1 1) (own_ai hc25_17) (g := (mkF m 31 #[.val (.ref v0), .val (.int v1), .val (.ref b47), .val (.int (Int32.ofNat (own_P 1 mk v1 (0 : Int32)).length)), .val (.int (Int32.ofNat (own_P 1 mk v1 (1 : Int32)).length)), .val (.int (1 : Int32))] [(.int (Int32.ofNat (own_P 1 mk v1 (1 : Int32)).length)), (.ref v0)])) rfl rfl (hb hby d_cmpl_31)) ?_
        show Go p e below s _ _ _ Tj1 (mkF m 32 #[.val (.ref v0), .val (.int v1), .val (.ref b47), .val (.int (Int32.ofNat (own_P 1 mk v1 (0 : Int32)).length)), .val (.int (Int32.ofNat (own_P 1 mk v1 (1 : Int32)).length)), .val (.int (1 : Int32))] [(.int ((own_P 7 mk v1 (1 : Int32)).getD (Int32.ofNat (own_P 1 mk v1 (1 : Int32)).length).toNatClampNeg 0))])
        refine G_iload Xj1 hx (pc' := 34) rfl (hb hby d_cmpl_32) rfl ?_
        by_cases hc34_18 : ((own_P 7 mk v1 (1 : Int32)).getD (Int32.ofNat (own_P 1 mk v1 (1 : Int32)).length).toNatClampNeg 0) = (1 : Int32)
        · refine G_icmpNo Xj1 hx (pc' := 37) rfl (hb hby d_cmpl_34) (teq hc34_18).2 ?_
          have cS : own_c mk v1 1 (1 : Int32) = true := own_dA (by decide : 1 < 7) hc25_17 hc34_18
          have cU : own_c mk v1 0 (1 : Int32) = false := own_uF hc18_16 cS
          refine G_iinc Xj1 hx (pc' := 40) rfl (hb hby d_cmpl_37) rfl (z := ((Int32.ofNat (own_P 1 mk v1 (1 : Int32)).length) + (1 : Int32))) rfl (L' := #[.val (.ref v0), .val (.int v1), .val (.ref b47), .val (.int (Int32.ofNat (own_P 1 mk v1 (0 : Int32)).length)), .val (.int ((Int32.ofNat (own_P 1 mk v1 (1 : Int32)).length) + (1 : Int32))), .val (.int (1 : Int32))]) rfl ?_
          refine G_goto Xj1 hx (pc' := 51) (hb hby d_cmpl_40)  (by decide) (by decide) ?_
          refine G_iinc Xj1 hx (pc' := 54) rfl (hb hby d_cmpl_51) rfl (z := (2 : Int32)) rfl (L' := #[.val (.ref v0), .val (.int v1), .val (.ref b47), .val (.int (Int32.ofNat (own_P 1 mk v1 (0 : Int32)).length)), .val (.int ((Int32.ofNat (own_P 1 mk v1 (1 : Int32)).length) + (1 : Int32))), .val (.int (2 : Int32))]) rfl ?_
          refine G_goto Xj1 hx (pc' := 15) (hb hby d_cmpl_54)  (by decide) (by decide) ?_
          rw [show ((Int32.ofNat (own_P 1 mk v1 (1 : Int32)).length) + (1 : Int32)) = (Int32.ofNat (own_P 2 mk v1 (1 : Int32)).length) from own_nT (by decide : 1 < 7) cS, show (Int32.ofNat (own_P 1 mk v1 (0 : Int32)).length) = (Int32.ofNat (own_P 2 mk v1 (0 : Int32)).length) from own_nF (by decide : 1 < 7) cU]
          have FR : AI Z hj1 b47 .int (own_P 2 mk v1 (0 : Int32) ++ List.replicate (own_R 2 mk v1 (0 : Int32)).length (0 : Int32)) := own_rF (by decide : 1 < 7) cU ▸ FB1
          exact J2 Tj1 _ _ Xj1 ej1 Nj1 Kj1 Zj1 FA1 FR FE1
        · refine G_icmpYes Xj1 hx (pc' := 43) (hb hby d_cmpl_34) (feq hc34_18).2 (by decide) (by decide) ?_
          have cS : own_c mk v1 1 (1 : Int32) = false := own_dC (by decide : 1 < 7) hc34_18
          have cU : own_c mk v1 0 (1 : Int32) = true := own_uT hc18_16 cS
          refine G_aloadN Xj1 hx (pc' := 44) rfl (hb hby d_cmpl_43) rfl rfl ?_
          refine G_iloadN Xj1 hx (pc' := 45) rfl (hb hby d_cmpl_44) rfl ?_
          refine G_iinc Xj1 hx (pc' := 48) rfl (hb hby d_cmpl_45) rfl (z := ((Int32.ofNat (own_P 1 mk v1 (0 : Int32)).length) + (1 : Int32))) rfl (L' := #[.val (.ref v0), .val (.int v1), .val (.ref b47), .val (.int ((Int32.ofNat (own_P 1 mk v1 (0 : Int32)).length) + (1 : Int32))), .val (.int (Int32.ofNat (own_P 1 mk v1 (1 : Int32)).length)), .val (.int (1 : Int32))]) rfl ?_
          refine G_iload Xj1 hx (pc' := 50) rfl (hb hby d_cmpl_48) rfl ?_
          obtain ⟨T58, h58, X58, e58, W58, A58, st58⟩ := stAI Xj1 hx hZ ej1 FB1 (j := (Int32.ofNat (own_P 1 mk v1 (0 : Int32)).length)) (own_nng mk v1 0 1) (own_ri (by decide : 1 < 7) cU) (g := (mkF m 50 #[.val (.ref v0), .val (.int v1), .val (.ref b47), .val (.int ((Int32.ofNat (own_P 1 mk v1 (0 : Int32)).length) + (1 : Int32))), .val (.int (Int32.ofNat (own_P 1 mk v1 (1 : Int32)).length)), .val (.int (1 : Int32))] [(.int (1 : Int32)), (.int (Int32.ofNat (own_P 1 mk v1 (0 : Int32)).length)), (.ref b47)])) rfl rfl (hb hby d_cmpl_50)
          refine Go.st st58 ?_
          have A_v0_58 := FA1.other W58 ne_v0_b47
          have E_b47_58 := FE1.wr W58
          have A_b47_58 : AI Z h58 b47 .int ((own_P 1 mk v1 (0 : Int32) ++ List.replicate (own_R 1 mk v1 (0 : Int32)).length (0 : Int32)).set (Int32.ofNat (own_P 1 mk v1 (0 : Int32)).length).toNatClampNeg (1 : Int32)) := A58
          have K_58 : Keep h0 h58 [] := Kj1.wr W58 (Or.inr sz_b47)
          have Z_58 : n0 ≤ h58.size := Nat.le_trans Z0 K_58.1
          have N58 := Fr.snoc X58 Nj1 g_b47
          clear FA1 FB1 FE1 W58 st58 A58
          obtain ⟨G58, Y58, M58⟩ : ∃ L, Stand p l e ({ frames := 0, cells := 1, slots := 7, locals := 0 } : Room) s m #[(.ref v0), (.int v1)] below meth c T58 L 1 7 ∧ Fr n0 L := ⟨_, X58, N58⟩
          clear X58 N58
          show Go p e below s _ _ _ T58 (mkF m 51 #[.val (.ref v0), .val (.int v1), .val (.ref b47), .val (.int ((Int32.ofNat (own_P 1 mk v1 (0 : Int32)).length) + (1 : Int32))), .val (.int (Int32.ofNat (own_P 1 mk v1 (1 : Int32)).length)), .val (.int (1 : Int32))] [])
          have FS : AI Z h58 b47 .int (own_P 2 mk v1 (0 : Int32) ++ List.replicate (own_R 2 mk v1 (0 : Int32)).length (0 : Int32)) := own_rT (by decide : 1 < 7) cU ▸ A_b47_58
          refine G_iinc Y58 hx (pc' := 54) rfl (hb hby d_cmpl_51) rfl (z := (2 : Int32)) rfl (L' := #[.val (.ref v0), .val (.int v1), .val (.ref b47), .val (.int ((Int32.ofNat (own_P 1 mk v1 (0 : Int32)).length) + (1 : Int32))), .val (.int (Int32.ofNat (own_P 1 mk v1 (1 : Int32)).length)), .val (.int (2 : Int32))]) rfl ?_
          refine G_goto Y58 hx (pc' := 15) (hb hby d_cmpl_54)  (by decide) (by decide) ?_
          rw [show ((Int32.ofNat (own_P 1 mk v1 (0 : Int32)).length) + (1 : Int32)) = (Int32.ofNat (own_P 2 mk v1 (0 : Int32)).length) from own_nT (by decide : 1 < 7) cU, show (Int32.ofNat (own_P 1 mk v1 (1 : Int32)).length) = (Int32.ofNat (own_P 2 mk v1 (1 : Int32)).length) from own_nF (by decide : 1 < 7) cS]
          exact J2 T58 _ _ Y58 e58 M58 K_58 Z_58 A_v0_58 FS E_b47_58
      · refine G_icmpYes Xj1 hx (pc' := 43) (hb hby d_cmpl_25) (flt hc25_17).2.1 (by decide) (by decide) ?_
        have cS : own_c mk v1 1 (1 : Int32) = false := own_dB (by decide : 1 < 7) hc25_17
        have cU : own_c mk v1 0 (1 : Int32) = true := own_uT hc18_16 cS
        refine G_aloadN Xj1 hx (pc' := 44) rfl (hb hby d_cmpl_43) rfl rfl ?_
        refine G_iloadN Xj1 hx (pc' := 45) rfl (hb hby d_cmpl_44) rfl ?_
        refine G_iinc Xj1 hx (pc' := 48) rfl (hb hby d_cmpl_45) rfl (z := ((Int32.ofNat (own_P 1 mk v1 (0 : Int32)).length) + (1 : Int32))) rfl (L' := #[.val (.ref v0), .val (.int v1), .val (.ref b47), .val (.int ((Int32.ofNat (own_P 1 mk v1 (0 : Int32)).length) + (1 : Int32))), .val (.int (Int32.ofNat (own_P 1 mk v1 (1 : Int32)).length)), .val (.int (1 : Int32))]) rfl ?_
        refine G_iload Xj1 hx (pc' := 50) rfl (hb hby d_cmpl_48) rfl ?_
        obtain ⟨T59, h59, X59, e59, W59, A59, st59⟩ := stAI Xj1 hx hZ ej1 FB1 (j := (Int32.ofNat (own_P 1 mk v1 (0 : Int32)).length)) (own_nng mk v1 0 1) (own_ri (by decide : 1 < 7) cU) (g := (mkF m 50 #[.val (.ref v0), .val (.int v1), .val (.ref b47), .val (.int ((Int32.ofNat (own_P 1 mk v1 (0 : Int32)).length) + (1 : Int32))), .val (.int (Int32.ofNat (own_P 1 mk v1 (1 : Int32)).length)), .val (.int (1 : Int32))] [(.int (1 : Int32)), (.int (Int32.ofNat (own_P 1 mk v1 (0 : Int32)).length)), (.ref b47)])) rfl rfl (hb hby d_cmpl_50)
        refine Go.st st59 ?_
        have A_v0_59 := FA1.other W59 ne_v0_b47
        have E_b47_59 := FE1.wr W59
        have A_b47_59 : AI Z h59 b47 .int ((own_P 1 mk v1 (0 : Int32) ++ List.replicate (own_R 1 mk v1 (0 : Int32)).length (0 : Int32)).set (Int32.ofNat (own_P 1 mk v1 (0 : Int32)).length).toNatClampNeg (1 : Int32)) := A59
        have K_59 : Keep h0 h59 [] := Kj1.wr W59 (Or.inr sz_b47)
        have Z_59 : n0 ≤ h59.size := Nat.le_trans Z0 K_59.1
        have N59 := Fr.snoc X59 Nj1 g_b47
        clear FA1 FB1 FE1 W59 st59 A59
        obtain ⟨G59, Y59, M59⟩ : ∃ L, Stand p l e ({ frames := 0, cells := 1, slots := 7, locals := 0 } : Room) s m #[(.ref v0), (.int v1)] below meth c T59 L 1 7 ∧ Fr n0 L := ⟨_, X59, N59⟩
        clear X59 N59
        show Go p e below s _ _ _ T59 (mkF m 51 #[.val (.ref v0), .val (.int v1), .val (.ref b47), .val (.int ((Int32.ofNat (own_P 1 mk v1 (0 : Int32)).length) + (1 : Int32))), .val (.int (Int32.ofNat (own_P 1 mk v1 (1 : Int32)).length)), .val (.int (1 : Int32))] [])
        have FS : AI Z h59 b47 .int (own_P 2 mk v1 (0 : Int32) ++ List.replicate (own_R 2 mk v1 (0 : Int32)).length (0 : Int32)) := own_rT (by decide : 1 < 7) cU ▸ A_b47_59
        refine G_iinc Y59 hx (pc' := 54) rfl (hb hby d_cmpl_51) rfl (z := (2 : Int32)) rfl (L' := #[.val (.ref v0), .val (.int v1), .val (.ref b47), .val (.int ((Int32.ofNat (own_P 1 mk v1 (0 : Int32)).length) + (1 : Int32))), .val (.int (Int32.ofNat (own_P 1 mk v1 (1 : Int32)).length)), .val (.int (2 : Int32))]) rfl ?_
        refine G_goto Y59 hx (pc' := 15) (hb hby d_cmpl_54)  (by decide) (by decide) ?_
        rw [show ((Int32.ofNat (own_P 1 mk v1 (0 : Int32)).length) + (1 : Int32)) = (Int32.ofNat (own_P 2 mk v1 (0 : Int32)).length) from own_nT (by decide : 1 < 7) cU, show (Int32.ofNat (own_P 1 mk v1 (1 : Int32)).length) = (Int32.ofNat (own_P 2 mk v1 (1 : Int32)).length) from own_nF (by decide : 1 < 7) cS]
        exact J2 T59 _ _ Y59 e59 M59 K_59 Z_59 A_v0_59 FS E_b47_59
    · refine G_icmpYes Xj1 hx (pc' := 57) (hb hby d_cmpl_18) (flt hc18_16).2.1 (by decide) (by decide) ?_
      refine G_aloadN Xj1 hx (pc' := 58) rfl (hb hby d_cmpl_57) rfl rfl ?_
      refine Go.fin Xj1 hlk (v := some (.ref b47)) (fun h => by rw [Bd.returns] at h; cases h) (by decide) (by decide) ?_ (fun fs hr => retOut Xj1 hx Bd.returns rfl (Or.inr (Or.inr (Or.inr (Or.inr ⟨rfl, rfl, rfl⟩)))) (hb hby d_cmpl_58) hr)
      show Q_cmpl Z v0 v1 mk h0 n0 _ Tj1.heap _
      rw [ej1]
      exact ⟨b47, rfl, Nj1, Kj1, sz_b47, FE1, (own_ex (by decide : 1 < 8) hc18_16 ▸ FB1)⟩
  have J0 : ∀ (T : State) (h : Heap) (L : List Loc) (X : Stand p l e ({ frames := 0, cells := 1, slots := 7, locals := 0 } : Room) s m #[(.ref v0), (.int v1)] below meth c T L 1 7) (e1 : T.heap = h) (N : Fr n0 L) (K : Keep h0 h []) (Zq : n0 ≤ h.size) (FA : AI Z h v0 .int (own_P 7 mk v1 (1 : Int32))) (FB : AI Z h b47 .int (own_P 0 mk v1 (0 : Int32) ++ List.replicate (own_R 0 mk v1 (0 : Int32)).length (0 : Int32))) (FE : Exa Z h b47 "[I"), Go p e below s ({ frames := 0, cells := 1, slots := 7, locals := 0 } : Room).cells ({ frames := 0, cells := 1, slots := 7, locals := 0 } : Room).slots (Q_cmpl Z v0 v1 mk h0 n0) T (mkF m 15 #[.val (.ref v0), .val (.int v1), .val (.ref b47), .val (.int (Int32.ofNat (own_P 0 mk v1 (0 : Int32)).length)), .val (.int (Int32.ofNat (own_P 0 mk v1 (1 : Int32)).length)), .val (.int (0 : Int32))] []) := by
    intro Tj0 hj0 Lj0 Xj0 ej0 Nj0 Kj0 Zj0 FA0 FB0 FE0
    refine G_iload Xj0 hx (pc' := 17) rfl (hb hby d_cmpl_15) rfl ?_
    refine G_iloadN Xj0 hx (pc' := 18) rfl (hb hby d_cmpl_17) rfl ?_
    by_cases hc18_19 : (0 : Int32) < v1
    · refine G_icmpNo Xj0 hx (pc' := 21) rfl (hb hby d_cmpl_18) (tlt hc18_19).2.1 ?_
      refine G_iload Xj0 hx (pc' := 23) rfl (hb hby d_cmpl_21) rfl ?_
      refine G_aloadN Xj0 hx (pc' := 24) rfl (hb hby d_cmpl_23) rfl rfl ?_
      refine Go.st (lenAI Xj0 hx hZ ej0 FA0 (g := (mkF m 24 #[.val (.ref v0), .val (.int v1), .val (.ref b47), .val (.int (Int32.ofNat (own_P 0 mk v1 (0 : Int32)).length)), .val (.int (Int32.ofNat (own_P 0 mk v1 (1 : Int32)).length)), .val (.int (0 : Int32))] [(.ref v0), (.int (Int32.ofNat (own_P 0 mk v1 (1 : Int32)).length))])) rfl rfl (hb hby d_cmpl_24)) ?_
      show Go p e below s _ _ _ Tj0 (mkF m 25 #[.val (.ref v0), .val (.int v1), .val (.ref b47), .val (.int (Int32.ofNat (own_P 0 mk v1 (0 : Int32)).length)), .val (.int (Int32.ofNat (own_P 0 mk v1 (1 : Int32)).length)), .val (.int (0 : Int32))] [(.int (Int32.ofNat ((own_P 7 mk v1 (1 : Int32))).length)), (.int (Int32.ofNat (own_P 0 mk v1 (1 : Int32)).length))])
      by_cases hc25_20 : (Int32.ofNat (own_P 0 mk v1 (1 : Int32)).length) < (Int32.ofNat ((own_P 7 mk v1 (1 : Int32))).length)
      · refine G_icmpNo Xj0 hx (pc' := 28) rfl (hb hby d_cmpl_25) (tlt hc25_20).2.1 ?_
        refine G_aloadN Xj0 hx (pc' := 29) rfl (hb hby d_cmpl_28) rfl rfl ?_
        refine G_iload Xj0 hx (pc' := 31) rfl (hb hby d_cmpl_29) rfl ?_
        refine Go.st (ldAI Xj0 hx hZ ej0 FA0 (j := (Int32.ofNat (own_P 0 mk v1 (1 : Int32)).length)) (own_nng mk v1 1 0) (own_ai hc25_20) (g := (mkF m 31 #[.val (.ref v0), .val (.int v1), .val (.ref b47), .val (.int (Int32.ofNat (own_P 0 mk v1 (0 : Int32)).length)), .val (.int (Int32.ofNat (own_P 0 mk v1 (1 : Int32)).length)), .val (.int (0 : Int32))] [(.int (Int32.ofNat (own_P 0 mk v1 (1 : Int32)).length)), (.ref v0)])) rfl rfl (hb hby d_cmpl_31)) ?_
        show Go p e below s _ _ _ Tj0 (mkF m 32 #[.val (.ref v0), .val (.int v1), .val (.ref b47), .val (.int (Int32.ofNat (own_P 0 mk v1 (0 : Int32)).length)), .val (.int (Int32.ofNat (own_P 0 mk v1 (1 : Int32)).length)), .val (.int (0 : Int32))] [(.int ((own_P 7 mk v1 (1 : Int32)).getD (Int32.ofNat (own_P 0 mk v1 (1 : Int32)).length).toNatClampNeg 0))])
        refine G_iload Xj0 hx (pc' := 34) rfl (hb hby d_cmpl_32) rfl ?_
        by_cases hc34_21 : ((own_P 7 mk v1 (1 : Int32)).getD (Int32.ofNat (own_P 0 mk v1 (1 : Int32)).length).toNatClampNeg 0) = (0 : Int32)
        · refine G_icmpNo Xj0 hx (pc' := 37) rfl (hb hby d_cmpl_34) (teq hc34_21).2 ?_
          have cS : own_c mk v1 1 (0 : Int32) = true := own_dA (by decide : 0 < 7) hc25_20 hc34_21
          have cU : own_c mk v1 0 (0 : Int32) = false := own_uF hc18_19 cS
          refine G_iinc Xj0 hx (pc' := 40) rfl (hb hby d_cmpl_37) rfl (z := ((Int32.ofNat (own_P 0 mk v1 (1 : Int32)).length) + (1 : Int32))) rfl (L' := #[.val (.ref v0), .val (.int v1), .val (.ref b47), .val (.int (Int32.ofNat (own_P 0 mk v1 (0 : Int32)).length)), .val (.int ((Int32.ofNat (own_P 0 mk v1 (1 : Int32)).length) + (1 : Int32))), .val (.int (0 : Int32))]) rfl ?_
          refine G_goto Xj0 hx (pc' := 51) (hb hby d_cmpl_40)  (by decide) (by decide) ?_
          refine G_iinc Xj0 hx (pc' := 54) rfl (hb hby d_cmpl_51) rfl (z := (1 : Int32)) rfl (L' := #[.val (.ref v0), .val (.int v1), .val (.ref b47), .val (.int (Int32.ofNat (own_P 0 mk v1 (0 : Int32)).length)), .val (.int ((Int32.ofNat (own_P 0 mk v1 (1 : Int32)).length) + (1 : Int32))), .val (.int (1 : Int32))]) rfl ?_
          refine G_goto Xj0 hx (pc' := 15) (hb hby d_cmpl_54)  (by decide) (by decide) ?_
          rw [show ((Int32.ofNat (own_P 0 mk v1 (1 : Int32)).length) + (1 : Int32)) = (Int32.ofNat (own_P 1 mk v1 (1 : Int32)).length) from own_nT (by decide : 0 < 7) cS, show (Int32.ofNat (own_P 0 mk v1 (0 : Int32)).length) = (Int32.ofNat (own_P 1 mk v1 (0 : Int32)).length) from own_nF (by decide : 0 < 7) cU]
          have FR : AI Z hj0 b47 .int (own_P 1 mk v1 (0 : Int32) ++ List.replicate (own_R 1 mk v1 (0 : Int32)).length (0 : Int32)) := own_rF (by decide : 0 < 7) cU ▸ FB0
          exact J1 Tj0 _ _ Xj0 ej0 Nj0 Kj0 Zj0 FA0 FR FE0
        · refine G_icmpYes Xj0 hx (pc' := 43) (hb hby d_cmpl_34) (feq hc34_21).2 (by decide) (by decide) ?_
          have cS : own_c mk v1 1 (0 : Int32) = false := own_dC (by decide : 0 < 7) hc34_21
          have cU : own_c mk v1 0 (0 : Int32) = true := own_uT hc18_19 cS
          refine G_aloadN Xj0 hx (pc' := 44) rfl (hb hby d_cmpl_43) rfl rfl ?_
          refine G_iloadN Xj0 hx (pc' := 45) rfl (hb hby d_cmpl_44) rfl ?_
          refine G_iinc Xj0 hx (pc' := 48) rfl (hb hby d_cmpl_45) rfl (z := ((Int32.ofNat (own_P 0 mk v1 (0 : Int32)).length) + (1 : Int32))) rfl (L' := #[.val (.ref v0), .val (.int v1), .val (.ref b47), .val (.int ((Int32.ofNat (own_P 0 mk v1 (0 : Int32)).length) + (1 : Int32))), .val (.int (Int32.ofNat (own_P 0 mk v1 (1 : Int32)).length)), .val (.int (0 : Int32))]) rfl ?_
          refine G_iload Xj0 hx (pc' := 50) rfl (hb hby d_cmpl_48) rfl ?_
          obtain ⟨T60, h60, X60, e60, W60, A60, st60⟩ := stAI Xj0 hx hZ ej0 FB0 (j := (Int32.ofNat (own_P 0 mk v1 (0 : Int32)).length)) (own_nng mk v1 0 0) (own_ri (by decide : 0 < 7) cU) (g := (mkF m 50 #[.val (.ref v0), .val (.int v1), .val (.ref b47), .val (.int ((Int32.ofNat (own_P 0 mk v1 (0 : Int32)).length) + (1 : Int32))), .val (.int (Int32.ofNat (own_P 0 mk v1 (1 : Int32)).length)), .val (.int (0 : Int32))] [(.int (0 : Int32)), (.int (Int32.ofNat (own_P 0 mk v1 (0 : Int32)).length)), (.ref b47)])) rfl rfl (hb hby d_cmpl_50)
          refine Go.st st60 ?_
          have A_v0_60 := FA0.other W60 ne_v0_b47
          have E_b47_60 := FE0.wr W60
          have A_b47_60 : AI Z h60 b47 .int ((own_P 0 mk v1 (0 : Int32) ++ List.replicate (own_R 0 mk v1 (0 : Int32)).length (0 : Int32)).set (Int32.ofNat (own_P 0 mk v1 (0 : Int32)).length).toNatClampNeg (0 : Int32)) := A60
          have K_60 : Keep h0 h60 [] := Kj0.wr W60 (Or.inr sz_b47)
          have Z_60 : n0 ≤ h60.size := Nat.le_trans Z0 K_60.1
          have N60 := Fr.snoc X60 Nj0 g_b47
          clear FA0 FB0 FE0 W60 st60 A60
          obtain ⟨G60, Y60, M60⟩ : ∃ L, Stand p l e ({ frames := 0, cells := 1, slots := 7, locals := 0 } : Room) s m #[(.ref v0), (.int v1)] below meth c T60 L 1 7 ∧ Fr n0 L := ⟨_, X60, N60⟩
          clear X60 N60
          show Go p e below s _ _ _ T60 (mkF m 51 #[.val (.ref v0), .val (.int v1), .val (.ref b47), .val (.int ((Int32.ofNat (own_P 0 mk v1 (0 : Int32)).length) + (1 : Int32))), .val (.int (Int32.ofNat (own_P 0 mk v1 (1 : Int32)).length)), .val (.int (0 : Int32))] [])
          have FS : AI Z h60 b47 .int (own_P 1 mk v1 (0 : Int32) ++ List.replicate (own_R 1 mk v1 (0 : Int32)).length (0 : Int32)) := own_rT (by decide : 0 < 7) cU ▸ A_b47_60
          refine G_iinc Y60 hx (pc' := 54) rfl (hb hby d_cmpl_51) rfl (z := (1 : Int32)) rfl (L' := #[.val (.ref v0), .val (.int v1), .val (.ref b47), .val (.int ((Int32.ofNat (own_P 0 mk v1 (0 : Int32)).length) + (1 : Int32))), .val (.int (Int32.ofNat (own_P 0 mk v1 (1 : Int32)).length)), .val (.int (1 : Int32))]) rfl ?_
          refine G_goto Y60 hx (pc' := 15) (hb hby d_cmpl_54)  (by decide) (by decide) ?_
          rw [show ((Int32.ofNat (own_P 0 mk v1 (0 : Int32)).length) + (1 : Int32)) = (Int32.ofNat (own_P 1 mk v1 (0 : Int32)).length) from own_nT (by decide : 0 < 7) cU, show (Int32.ofNat (own_P 0 mk v1 (1 : Int32)).length) = (Int32.ofNat (own_P 1 mk v1 (1 : Int32)).length) from own_nF (by decide : 0 < 7) cS]
          exact J1 T60 _ _ Y60 e60 M60 K_60 Z_60 A_v0_60 FS E_b47_60
      · refine G_icmpYes Xj0 hx (pc' := 43) (hb hby d_cmpl_25) (flt hc25_20).2.1 (by decide) (by decide) ?_
        have cS : own_c mk v1 1 (0 : Int32) = false := own_dB (by decide : 0 < 7) hc25_20
        have cU : own_c mk v1 0 (0 : Int32) = true := own_uT hc18_19 cS
        refine G_aloadN Xj0 hx (pc' := 44) rfl (hb hby d_cmpl_43) rfl rfl ?_
        refine G_iloadN Xj0 hx (pc' := 45) rfl (hb hby d_cmpl_44) rfl ?_
        refine G_iinc Xj0 hx (pc' := 48) rfl (hb hby d_cmpl_45) rfl (z := ((Int32.ofNat (own_P 0 mk v1 (0 : Int32)).length) + (1 : Int32))) rfl (L' := #[.val (.ref v0), .val (.int v1), .val (.ref b47), .val (.int ((Int32.ofNat (own_P 0 mk v1 (0 : Int32)).length) + (1 : Int32))), .val (.int (Int32.ofNat (own_P 0 mk v1 (1 : Int32)).length)), .val (.int (0 : Int32))]) rfl ?_
        refine G_iload Xj0 hx (pc' := 50) rfl (hb hby d_cmpl_48) rfl ?_
        obtain ⟨T61, h61, X61, e61, W61, A61, st61⟩ := stAI Xj0 hx hZ ej0 FB0 (j := (Int32.ofNat (own_P 0 mk v1 (0 : Int32)).length)) (own_nng mk v1 0 0) (own_ri (by decide : 0 < 7) cU) (g := (mkF m 50 #[.val (.ref v0), .val (.int v1), .val (.ref b47), .val (.int ((Int32.ofNat (own_P 0 mk v1 (0 : Int32)).length) + (1 : Int32))), .val (.int (Int32.ofNat (own_P 0 mk v1 (1 : Int32)).length)), .val (.int (0 : Int32))] [(.int (0 : Int32)), (.int (Int32.ofNat (own_P 0 mk v1 (0 : Int32)).length)), (.ref b47)])) rfl rfl (hb hby d_cmpl_50)
        refine Go.st st61 ?_
        have A_v0_61 := FA0.other W61 ne_v0_b47
        have E_b47_61 := FE0.wr W61
        have A_b47_61 : AI Z h61 b47 .int ((own_P 0 mk v1 (0 : Int32) ++ List.replicate (own_R 0 mk v1 (0 : Int32)).length (0 : Int32)).set (Int32.ofNat (own_P 0 mk v1 (0 : Int32)).length).toNatClampNeg (0 : Int32)) := A61
        have K_61 : Keep h0 h61 [] := Kj0.wr W61 (Or.inr sz_b47)
        have Z_61 : n0 ≤ h61.size := Nat.le_trans Z0 K_61.1
        have N61 := Fr.snoc X61 Nj0 g_b47
        clear FA0 FB0 FE0 W61 st61 A61
        obtain ⟨G61, Y61, M61⟩ : ∃ L, Stand p l e ({ frames := 0, cells := 1, slots := 7, locals := 0 } : Room) s m #[(.ref v0), (.int v1)] below meth c T61 L 1 7 ∧ Fr n0 L := ⟨_, X61, N61⟩
        clear X61 N61
        show Go p e below s _ _ _ T61 (mkF m 51 #[.val (.ref v0), .val (.int v1), .val (.ref b47), .val (.int ((Int32.ofNat (own_P 0 mk v1 (0 : Int32)).length) + (1 : Int32))), .val (.int (Int32.ofNat (own_P 0 mk v1 (1 : Int32)).length)), .val (.int (0 : Int32))] [])
        have FS : AI Z h61 b47 .int (own_P 1 mk v1 (0 : Int32) ++ List.replicate (own_R 1 mk v1 (0 : Int32)).length (0 : Int32)) := own_rT (by decide : 0 < 7) cU ▸ A_b47_61
        refine G_iinc Y61 hx (pc' := 54) rfl (hb hby d_cmpl_51) rfl (z := (1 : Int32)) rfl (L' := #[.val (.ref v0), .val (.int v1), .val (.ref b47), .val (.int ((Int32.ofNat (own_P 0 mk v1 (0 : Int32)).length) + (1 : Int32))), .val (.int (Int32.ofNat (own_P 0 mk v1 (1 : Int32)).length)), .val (.int (1 : Int32))]) rfl ?_
        refine G_goto Y61 hx (pc' := 15) (hb hby d_cmpl_54)  (by decide) (by decide) ?_
        rw [show ((Int32.ofNat (own_P 0 mk v1 (0 : Int32)).length) + (1 : Int32)) = (Int32.ofNat (own_P 1 mk v1 (0 : Int32)).length) from own_nT (by decide : 0 < 7) cU, show (Int32.ofNat (own_P 0 mk v1 (1 : Int32)).length) = (Int32.ofNat (own_P 1 mk v1 (1 : Int32)).length) from own_nF (by decide : 0 < 7) cS]
        exact J1 T61 _ _ Y61 e61 M61 K_61 Z_61 A_v0_61 FS E_b47_61
    · refine G_icmpYes Xj0 hx (pc' := 57) (hb hby d_cmpl_18) (flt hc18_19).2.1 (by decide) (by decide) ?_
      refine G_aloadN Xj0 hx (pc' := 58) rfl (hb hby d_cmpl_57) rfl rfl ?_
      refine Go.fin Xj0 hlk (v := some (.ref b47)) (fun h => by rw [Bd.returns] at h; cases h) (by decide) (by decide) ?_ (fun fs hr => retOut Xj0 hx Bd.returns rfl (Or.inr (Or.inr (Or.inr (Or.inr ⟨rfl, rfl, rfl⟩)))) (hb hby d_cmpl_58) hr)
      show Q_cmpl Z v0 v1 mk h0 n0 _ Tj0.heap _
      rw [ej0]
      exact ⟨b47, rfl, Nj0, Kj0, sz_b47, FE0, (own_ex (by decide : 0 < 8) hc18_19 ▸ FB0)⟩
  exact J0 T47 _ _ X47 e47 N0 K_47 Z_47 A_v0_47 R0 B47
theorem d_at_0 : decode method_5_code 0 = .ok (.iload_n 2, 1) := by decide +kernel
theorem d_at_1 : decode method_5_code 1 = .ok (.aload_n 0, 1) := by decide +kernel
theorem d_at_2 : decode method_5_code 2 = .ok (.arraylength, 1) := by decide +kernel
theorem d_at_3 : decode method_5_code 3 = .ok (.if_icmp .ge 12, 3) := by decide +kernel
theorem d_at_6 : decode method_5_code 6 = .ok (.aload_n 0, 1) := by decide +kernel
theorem d_at_7 : decode method_5_code 7 = .ok (.iload_n 2, 1) := by decide +kernel
theorem d_at_8 : decode method_5_code 8 = .ok (.iaload, 1) := by decide +kernel
theorem d_at_9 : decode method_5_code 9 = .ok (.aload_n 1, 1) := by decide +kernel
theorem d_at_10 : decode method_5_code 10 = .ok (.iload_n 2, 1) := by decide +kernel
theorem d_at_11 : decode method_5_code 11 = .ok (.iaload, 1) := by decide +kernel
theorem d_at_12 : decode method_5_code 12 = .ok (.if_icmp .ne 7, 3) := by decide +kernel
theorem d_at_15 : decode method_5_code 15 = .ok (.iconst 1, 1) := by decide +kernel
theorem d_at_16 : decode method_5_code 16 = .ok (.goto 4, 3) := by decide +kernel
theorem d_at_20 : decode method_5_code 20 = .ok (.ireturn, 1) := by decide +kernel
theorem ef_at (m : MethodId) (v0 : Addr) (v1 : Addr) (v2 : Int32) : entryFrame m #[(.ref v0), (.ref v1), (.int v2)] 3 = mkF m 0 #[.val (.ref v0), .val (.ref v1), .val (.int v2)] [] := by first | (simp [entryFrame, mkF, argsToLocals, Value.category]; done) | rfl
def Q_at (Z : State) (v0 : Addr) (v1 : Addr) (v2 : Int32) (zs : List Int32) (h0 : Heap) (n0 : Nat) (v : Option Value) (h : Heap) (L : List Loc) : Prop := v = some (.int (1 : Int32)) ∧ Fr n0 L ∧ h = h0
set_option maxRecDepth 65536 in
set_option maxHeartbeats 40000000 in
theorem rm_at (l : Launch) (Z : State) (a0 : Array Value) (hw : ∀ d ∈ tables_1, d.before a0 Z = true) (ws : List Jvm.Cond) (v0 : Addr) (v1 : Addr) (v2 : Int32) (zs : List Int32) (h0 : Heap) (n0 : Nat) (Z0 : n0 ≤ h0.size) (f0_A_v0 : AI Z h0 v0 .int zs) (f1_A_v1 : AI Z h0 v1 .int zs) (hz : ¬ (v2 < 0)) (hz2 : v2 < (Int32.ofNat (zs).length) → v2.toNatClampNeg < zs.length) :
    MetFree l (⟨"com/example/quern/quern/core/DocumentSetsComplementPinLaw", "at", "([I[II)Z"⟩ : MethodName) (head1 (Jvm.Cond.code (⟨"com/example/quern/quern/core/DocumentSetsComplementPinLaw", "at", "([I[II)Z"⟩ : MethodName) method_5_code 3 (some .boolean) :: ws) ({ frames := 0, cells := 0, slots := 0, locals := 0 } : Room)) (fun a U => a = #[(.ref v0), (.ref v1), (.int v2)] ∧ Z.Warmed39 U.vm ∧ U.heap = h0) (fun _ _ _ _ _ => True) (fun _ U o U' => ∃ v L, o = .returned v ∧ Q_at Z v0 v1 v2 zs h0 n0 v U'.heap L ∧ FrameEnd U o U' L ({ frames := 0, cells := 0, slots := 0, locals := 0 } : Room).cells ({ frames := 0, cells := 0, slots := 0, locals := 0 } : Room).slots) := by
  refine MetFree.of_bodySF (plainFor_of_name (by first | (simp [plainName, overriddenIn]; done) | decide +kernel)) hisR ?_
  intro p e s m args below meth c s₁ Bd hml0 hP hK
  obtain ⟨rfl, hZ, hh⟩ := hP
  have hx := Bd.exec
  have hby := Bd.bytes
  have hml : c.maxLocals = 3 := hml0
  have hown : s.vm.findClass "com/example/quern/quern/core/DocumentSetsComplementPinLaw" = some m.cls := findClass_of_methodNamed Bd.named
  have hnm := (name_of_methodNamed Bd.named Bd.method).1
  have hlk : meth.locks = false := Bd.notSynchronized
  have X0 : Stand p l e ({ frames := 0, cells := 0, slots := 0, locals := 0 } : Room) s m #[(.ref v0), (.ref v1), (.int v2)] below meth c s₁ [] 0 0 := Stand.of_body Bd
  have e0 : s₁.heap = h0 := by rw [← hh, Bd.state]; rfl
  have N0 := Fr.nil n0
  refine Go.enter (Q := Q_at Z v0 v1 v2 zs h0 n0) (C := ({ frames := 0, cells := 0, slots := 0, locals := 0 } : Room).cells) (N := ({ frames := 0, cells := 0, slots := 0, locals := 0 } : Room).slots) (ef_at m v0 v1 v2) ?_
  show Go p e below s _ _ _ s₁ (mkF m 0 #[.val (.ref v0), .val (.ref v1), .val (.int v2)] [])
  refine G_iloadN X0 hx (pc' := 1) rfl (hb hby d_at_0) rfl ?_
  refine G_aloadN X0 hx (pc' := 2) rfl (hb hby d_at_1) rfl rfl ?_
  refine Go.st (lenAI X0 hx hZ e0 f0_A_v0 (g := (mkF m 2 #[.val (.ref v0), .val (.ref v1), .val (.int v2)] [(.ref v0), (.int v2)])) rfl rfl (hb hby d_at_2)) ?_
  show Go p e below s _ _ _ s₁ (mkF m 3 #[.val (.ref v0), .val (.ref v1), .val (.int v2)] [(.int (Int32.ofNat (zs).length)), (.int v2)])
  by_cases hc3_1 : v2 < (Int32.ofNat (zs).length)
  · refine G_icmpNo X0 hx (pc' := 6) rfl (hb hby d_at_3) (tlt hc3_1).2.1 ?_
    refine G_aloadN X0 hx (pc' := 7) rfl (hb hby d_at_6) rfl rfl ?_
    refine G_iloadN X0 hx (pc' := 8) rfl (hb hby d_at_7) rfl ?_
    refine Go.st (ldAI X0 hx hZ e0 f0_A_v0 (j := v2) hz (hz2 hc3_1) (g := (mkF m 8 #[.val (.ref v0), .val (.ref v1), .val (.int v2)] [(.int v2), (.ref v0)])) rfl rfl (hb hby d_at_8)) ?_
    show Go p e below s _ _ _ s₁ (mkF m 9 #[.val (.ref v0), .val (.ref v1), .val (.int v2)] [(.int (zs.getD v2.toNatClampNeg 0))])
    refine G_aloadN X0 hx (pc' := 10) rfl (hb hby d_at_9) rfl rfl ?_
    refine G_iloadN X0 hx (pc' := 11) rfl (hb hby d_at_10) rfl ?_
    refine Go.st (ldAI X0 hx hZ e0 f1_A_v1 (j := v2) hz (hz2 hc3_1) (g := (mkF m 11 #[.val (.ref v0), .val (.ref v1), .val (.int v2)] [(.int v2), (.ref v1), (.int (zs.getD v2.toNatClampNeg 0))])) rfl rfl (hb hby d_at_11)) ?_
    show Go p e below s _ _ _ s₁ (mkF m 12 #[.val (.ref v0), .val (.ref v1), .val (.int v2)] [(.int (zs.getD v2.toNatClampNeg 0)), (.int (zs.getD v2.toNatClampNeg 0))])
    refine G_icmpNo X0 hx (pc' := 15) rfl (hb hby d_at_12) (teq (rfl : (zs.getD v2.toNatClampNeg 0) = (zs.getD v2.toNatClampNeg 0))).2 ?_
    refine G_iconst X0 hx (pc' := 16) rfl (hb hby d_at_15) (z := (1 : Int32)) rfl ?_
    refine G_goto X0 hx (pc' := 20) (hb hby d_at_16)  (by decide) (by decide) ?_
    refine Go.fin X0 hlk (v := some (.int (1 : Int32))) (fun h => by rw [Bd.returns] at h; cases h) (by decide) (by decide) ?_ (fun fs hr => retN X0 hx (t := .boolean) Bd.returns (by simp) (hb hby d_at_20) hr)
    show Q_at Z v0 v1 v2 zs h0 n0 _ s₁.heap _
    rw [e0]
    exact ⟨rfl, N0, rfl⟩
  · refine G_icmpYes X0 hx (pc' := 15) (hb hby d_at_3) (flt hc3_1).2.1 (by decide) (by decide) ?_
    refine G_iconst X0 hx (pc' := 16) rfl (hb hby d_at_15) (z := (1 : Int32)) rfl ?_
    refine G_goto X0 hx (pc' := 20) (hb hby d_at_16)  (by decide) (by decide) ?_
    refine Go.fin X0 hlk (v := some (.int (1 : Int32))) (fun h => by rw [Bd.returns] at h; cases h) (by decide) (by decide) ?_ (fun fs hr => retN X0 hx (t := .boolean) Bd.returns (by simp) (hb hby d_at_20) hr)
    show Q_at Z v0 v1 v2 zs h0 n0 _ s₁.heap _
    rw [e0]
    exact ⟨rfl, N0, rfl⟩
theorem own_at {zs : List Int32} {i : Nat} (hi : i ≤ 7) (h : zs.length ≤ 7) : Int32.ofNat i < Int32.ofNat zs.length → (Int32.ofNat i).toNatClampNeg < zs.length := fun q => by
  rw [Int32.lt_iff_toInt_lt, (own_nat hi).1, (own_nat h).1] at q
  rw [(own_nat hi).2.1]; omega
theorem d_same_0 : decode method_6_code 0 = .ok (.aload_n 0, 1) := by decide +kernel
theorem d_same_1 : decode method_6_code 1 = .ok (.arraylength, 1) := by decide +kernel
theorem d_same_2 : decode method_6_code 2 = .ok (.aload_n 1, 1) := by decide +kernel
theorem d_same_3 : decode method_6_code 3 = .ok (.arraylength, 1) := by decide +kernel
theorem d_same_4 : decode method_6_code 4 = .ok (.if_icmp .eq 5, 3) := by decide +kernel
theorem d_same_9 : decode method_6_code 9 = .ok (.aload_n 0, 1) := by decide +kernel
theorem d_same_10 : decode method_6_code 10 = .ok (.aload_n 1, 1) := by decide +kernel
theorem d_same_11 : decode method_6_code 11 = .ok (.iconst 0, 1) := by decide +kernel
theorem d_same_12 : decode method_6_code 12 = .ok (.invokestatic 28, 3) := by decide +kernel
theorem pd_1 : parseMethodDescriptor "([I[II)Z" = some ⟨[(.array .int), (.array .int), .int], some .boolean⟩ := by decide +kernel
theorem d_same_15 : decode method_6_code 15 = .ok (.ifCond .eq 62, 3) := by decide +kernel
theorem d_same_18 : decode method_6_code 18 = .ok (.aload_n 0, 1) := by decide +kernel
theorem d_same_19 : decode method_6_code 19 = .ok (.aload_n 1, 1) := by decide +kernel
theorem d_same_20 : decode method_6_code 20 = .ok (.iconst 1, 1) := by decide +kernel
theorem d_same_21 : decode method_6_code 21 = .ok (.invokestatic 28, 3) := by decide +kernel
theorem d_same_24 : decode method_6_code 24 = .ok (.ifCond .eq 53, 3) := by decide +kernel
theorem d_same_27 : decode method_6_code 27 = .ok (.aload_n 0, 1) := by decide +kernel
theorem d_same_28 : decode method_6_code 28 = .ok (.aload_n 1, 1) := by decide +kernel
theorem d_same_29 : decode method_6_code 29 = .ok (.iconst 2, 1) := by decide +kernel
theorem d_same_30 : decode method_6_code 30 = .ok (.invokestatic 28, 3) := by decide +kernel
theorem d_same_33 : decode method_6_code 33 = .ok (.ifCond .eq 44, 3) := by decide +kernel
theorem d_same_36 : decode method_6_code 36 = .ok (.aload_n 0, 1) := by decide +kernel
theorem d_same_37 : decode method_6_code 37 = .ok (.aload_n 1, 1) := by decide +kernel
theorem d_same_38 : decode method_6_code 38 = .ok (.iconst 3, 1) := by decide +kernel
theorem d_same_39 : decode method_6_code 39 = .ok (.invokestatic 28, 3) := by decide +kernel
theorem d_same_42 : decode method_6_code 42 = .ok (.ifCond .eq 35, 3) := by decide +kernel
theorem d_same_45 : decode method_6_code 45 = .ok (.aload_n 0, 1) := by decide +kernel
theorem d_same_46 : decode method_6_code 46 = .ok (.aload_n 1, 1) := by decide +kernel
theorem d_same_47 : decode method_6_code 47 = .ok (.iconst 4, 1) := by decide +kernel
theorem d_same_48 : decode method_6_code 48 = .ok (.invokestatic 28, 3) := by decide +kernel
theorem d_same_51 : decode method_6_code 51 = .ok (.ifCond .eq 26, 3) := by decide +kernel
theorem d_same_54 : decode method_6_code 54 = .ok (.aload_n 0, 1) := by decide +kernel
theorem d_same_55 : decode method_6_code 55 = .ok (.aload_n 1, 1) := by decide +kernel
theorem d_same_56 : decode method_6_code 56 = .ok (.iconst 5, 1) := by decide +kernel
theorem d_same_57 : decode method_6_code 57 = .ok (.invokestatic 28, 3) := by decide +kernel
theorem d_same_60 : decode method_6_code 60 = .ok (.ifCond .eq 17, 3) := by decide +kernel
theorem d_same_63 : decode method_6_code 63 = .ok (.aload_n 0, 1) := by decide +kernel
theorem d_same_64 : decode method_6_code 64 = .ok (.aload_n 1, 1) := by decide +kernel
theorem d_same_65 : decode method_6_code 65 = .ok (.bipush 6, 2) := by decide +kernel
theorem d_same_67 : decode method_6_code 67 = .ok (.invokestatic 28, 3) := by decide +kernel
theorem d_same_70 : decode method_6_code 70 = .ok (.ifCond .eq 7, 3) := by decide +kernel
theorem d_same_73 : decode method_6_code 73 = .ok (.iconst 1, 1) := by decide +kernel
theorem d_same_74 : decode method_6_code 74 = .ok (.goto 4, 3) := by decide +kernel
theorem d_same_78 : decode method_6_code 78 = .ok (.ireturn, 1) := by decide +kernel
theorem ef_same (m : MethodId) (v0 : Addr) (v1 : Addr) : entryFrame m #[(.ref v0), (.ref v1)] 2 = mkF m 0 #[.val (.ref v0), .val (.ref v1)] [] := by first | (simp [entryFrame, mkF, argsToLocals, Value.category]; done) | rfl
def Q_same (Z : State) (v0 : Addr) (v1 : Addr) (zs : List Int32) (h0 : Heap) (n0 : Nat) (v : Option Value) (h : Heap) (L : List Loc) : Prop := v = some (.int (1 : Int32)) ∧ Fr n0 L ∧ h = h0
set_option maxRecDepth 65536 in
set_option maxHeartbeats 40000000 in
theorem rm_same (l : Launch) (Z : State) (a0 : Array Value) (hw : ∀ d ∈ tables_1, d.before a0 Z = true) (ws : List Jvm.Cond) (v0 : Addr) (v1 : Addr) (zs : List Int32) (h0 : Heap) (n0 : Nat) (Z0 : n0 ≤ h0.size) (f0_A_v0 : AI Z h0 v0 .int zs) (f1_A_v1 : AI Z h0 v1 .int zs) (hz7 : zs.length ≤ 7) :
    MetFree l (⟨"com/example/quern/quern/core/DocumentSetsComplementPinLaw", "same", "([I[I)Z"⟩ : MethodName) (head1 (Jvm.Cond.code (⟨"com/example/quern/quern/core/DocumentSetsComplementPinLaw", "same", "([I[I)Z"⟩ : MethodName) method_6_code 2 (some .boolean) :: ws) ({ frames := 1, cells := 0, slots := 0, locals := 14 } : Room)) (fun a U => a = #[(.ref v0), (.ref v1)] ∧ Z.Warmed39 U.vm ∧ U.heap = h0) (fun _ _ _ _ _ => True) (fun _ U o U' => ∃ v L, o = .returned v ∧ Q_same Z v0 v1 zs h0 n0 v U'.heap L ∧ FrameEnd U o U' L ({ frames := 1, cells := 0, slots := 0, locals := 14 } : Room).cells ({ frames := 1, cells := 0, slots := 0, locals := 14 } : Room).slots) := by
  refine MetFree.of_bodySF (plainFor_of_name (by first | (simp [plainName, overriddenIn]; done) | decide +kernel)) hisR ?_
  intro p e s m args below meth c s₁ Bd hml0 hP hK
  obtain ⟨rfl, hZ, hh⟩ := hP
  have hx := Bd.exec
  have hby := Bd.bytes
  have hml : c.maxLocals = 2 := hml0
  have hown : s.vm.findClass "com/example/quern/quern/core/DocumentSetsComplementPinLaw" = some m.cls := findClass_of_methodNamed Bd.named
  have hnm := (name_of_methodNamed Bd.named Bd.method).1
  have hlk : meth.locks = false := Bd.notSynchronized
  have X0 : Stand p l e ({ frames := 1, cells := 0, slots := 0, locals := 14 } : Room) s m #[(.ref v0), (.ref v1)] below meth c s₁ [] 0 0 := Stand.of_body Bd
  have e0 : s₁.heap = h0 := by rw [← hh, Bd.state]; rfl
  have N0 := Fr.nil n0
  refine Go.enter (Q := Q_same Z v0 v1 zs h0 n0) (C := ({ frames := 1, cells := 0, slots := 0, locals := 14 } : Room).cells) (N := ({ frames := 1, cells := 0, slots := 0, locals := 14 } : Room).slots) (ef_same m v0 v1) ?_
  show Go p e below s _ _ _ s₁ (mkF m 0 #[.val (.ref v0), .val (.ref v1)] [])
  refine G_aloadN X0 hx (pc' := 1) rfl (hb hby d_same_0) rfl rfl ?_
  refine Go.st (lenAI X0 hx hZ e0 f0_A_v0 (g := (mkF m 1 #[.val (.ref v0), .val (.ref v1)] [(.ref v0)])) rfl rfl (hb hby d_same_1)) ?_
  show Go p e below s _ _ _ s₁ (mkF m 2 #[.val (.ref v0), .val (.ref v1)] [(.int (Int32.ofNat (zs).length))])
  refine G_aloadN X0 hx (pc' := 3) rfl (hb hby d_same_2) rfl rfl ?_
  refine Go.st (lenAI X0 hx hZ e0 f1_A_v1 (g := (mkF m 3 #[.val (.ref v0), .val (.ref v1)] [(.ref v1), (.int (Int32.ofNat (zs).length))])) rfl rfl (hb hby d_same_3)) ?_
  show Go p e below s _ _ _ s₁ (mkF m 4 #[.val (.ref v0), .val (.ref v1)] [(.int (Int32.ofNat (zs).length)), (.int (Int32.ofNat (zs).length))])
  refine G_icmpYes X0 hx (pc' := 9) (hb hby d_same_4) (teq (rfl : (Int32.ofNat (zs).length) = (Int32.ofNat (zs).length))).1 (by decide) (by decide) ?_
  refine G_aloadN X0 hx (pc' := 10) rfl (hb hby d_same_9) rfl rfl ?_
  refine G_aloadN X0 hx (pc' := 11) rfl (hb hby d_same_10) rfl rfl ?_
  refine G_iconst X0 hx (pc' := 12) rfl (hb hby d_same_11) (z := (0 : Int32)) rfl ?_
  obtain ⟨_, _, ⟨T62, L62, k62, n62⟩, -, X62, ⟨Lc62, hQ62, l62, y62, z62⟩, st62⟩ := Jvm.LawKit.callS X0 hx (y := (⟨"com/example/quern/quern/core/DocumentSetsComplementPinLaw", "at", "([I[II)Z"⟩ : MethodName)) hown (mvT hZ (hw _ (List.mem_of_getElem? (i := 16) rfl))) (mvT hZ (hw _ (List.mem_of_getElem? (i := 17) rfl))) (mvT hZ (hw _ (List.mem_of_getElem? (i := 3) rfl))) (mvT hZ (hw _ (List.mem_of_getElem? (i := 18) rfl))) (by decide) (backOf (W := 0) (rm_at l Z a0 hw [] v0 v1 (0 : Int32) zs h0 n0 Z0 f0_A_v0 f1_A_v1 (by decide) (own_at (by decide : 0 ≤ 7) hz7)) hZ (hw _ (List.mem_of_getElem? (i := 18) rfl)) (hw _ (List.mem_of_getElem? (i := 3) rfl)) (by decide) (by decide)) (g := (mkF m 12 #[.val (.ref v0), .val (.ref v1)] [(.int (0 : Int32)), (.ref v1), (.ref v0)])) rfl (by rw [hml]; rfl) (argsL := [(.ref v0), (.ref v1), (.int (0 : Int32))]) (rest := []) (lenOf pd_1 rfl) rfl (by show 2 * 0 + _ ≤ _; exact Nat.le_of_eq rfl) (hb hby d_same_12) (fun _ _ => ⟨rfl, e0, (by decide : 0 + 0 ≤ _), (by decide : 0 + 0 ≤ _)⟩)
  dsimp only [Pt.U, Pt.locs, Pt.cells, Pt.slots] at X62 l62 y62 z62 st62 hQ62
  rw [l62, y62, z62] at X62
  clear l62 y62 z62
  obtain ⟨rfl, N62q, e62⟩ := hQ62
  have N62 := Fr.app N0 N62q
  refine Go.st st62 ?_
  obtain ⟨G62, Y62, M62⟩ : ∃ L, Stand p l e ({ frames := 1, cells := 0, slots := 0, locals := 14 } : Room) s m #[(.ref v0), (.ref v1)] below meth c T62 L 0 0 ∧ Fr n0 L := ⟨_, X62, N62⟩
  clear X62 N62
  show Go p e below s _ _ _ T62 (mkF m 15 #[.val (.ref v0), .val (.ref v1)] [(.int (1 : Int32))])
  refine G_ifNo Y62 hx (pc' := 18) rfl (hb hby d_same_15) ((if0 _ _).trans (feq (by decide : ¬ ((1 : Int32) = (0 : Int32)))).1) ?_
  refine G_aloadN Y62 hx (pc' := 19) rfl (hb hby d_same_18) rfl rfl ?_
  refine G_aloadN Y62 hx (pc' := 20) rfl (hb hby d_same_19) rfl rfl ?_
  refine G_iconst Y62 hx (pc' := 21) rfl (hb hby d_same_20) (z := (1 : Int32)) rfl ?_
  obtain ⟨_, _, ⟨T63, L63, k63, n63⟩, -, X63, ⟨Lc63, hQ63, l63, y63, z63⟩, st63⟩ := Jvm.LawKit.callS Y62 hx (y := (⟨"com/example/quern/quern/core/DocumentSetsComplementPinLaw", "at", "([I[II)Z"⟩ : MethodName)) hown (mvT hZ (hw _ (List.mem_of_getElem? (i := 16) rfl))) (mvT hZ (hw _ (List.mem_of_getElem? (i := 17) rfl))) (mvT hZ (hw _ (List.mem_of_getElem? (i := 3) rfl))) (mvT hZ (hw _ (List.mem_of_getElem? (i := 18) rfl))) (by decide) (backOf (W := 0) (rm_at l Z a0 hw [] v0 v1 (1 : Int32) zs h0 n0 Z0 f0_A_v0 f1_A_v1 (by decide) (own_at (by decide : 1 ≤ 7) hz7)) hZ (hw _ (List.mem_of_getElem? (i := 18) rfl)) (hw _ (List.mem_of_getElem? (i := 3) rfl)) (by decide) (by decide)) (g := (mkF m 21 #[.val (.ref v0), .val (.ref v1)] [(.int (1 : Int32)), (.ref v1), (.ref v0)])) rfl (by rw [hml]; rfl) (argsL := [(.ref v0), (.ref v1), (.int (1 : Int32))]) (rest := []) (lenOf pd_1 rfl) rfl (by show 2 * 0 + _ ≤ _; exact Nat.le_of_eq rfl) (hb hby d_same_21) (fun _ _ => ⟨rfl, e62, (by decide : 0 + 0 ≤ _), (by decide : 0 + 0 ≤ _)⟩)
  dsimp only [Pt.U, Pt.locs, Pt.cells, Pt.slots] at X63 l63 y63 z63 st63 hQ63
  rw [l63, y63, z63] at X63
  clear l63 y63 z63
  obtain ⟨rfl, N63q, e63⟩ := hQ63
  have N63 := Fr.app M62 N63q
  refine Go.st st63 ?_
  obtain ⟨G63, Y63, M63⟩ : ∃ L, Stand p l e ({ frames := 1, cells := 0, slots := 0, locals := 14 } : Room) s m #[(.ref v0), (.ref v1)] below meth c T63 L 0 0 ∧ Fr n0 L := ⟨_, X63, N63⟩
  clear X63 N63
  show Go p e below s _ _ _ T63 (mkF m 24 #[.val (.ref v0), .val (.ref v1)] [(.int (1 : Int32))])
  refine G_ifNo Y63 hx (pc' := 27) rfl (hb hby d_same_24) ((if0 _ _).trans (feq (by decide : ¬ ((1 : Int32) = (0 : Int32)))).1) ?_
  refine G_aloadN Y63 hx (pc' := 28) rfl (hb hby d_same_27) rfl rfl ?_
  refine G_aloadN Y63 hx (pc' := 29) rfl (hb hby d_same_28) rfl rfl ?_
  refine G_iconst Y63 hx (pc' := 30) rfl (hb hby d_same_29) (z := (2 : Int32)) rfl ?_
  obtain ⟨_, _, ⟨T64, L64, k64, n64⟩, -, X64, ⟨Lc64, hQ64, l64, y64, z64⟩, st64⟩ := Jvm.LawKit.callS Y63 hx (y := (⟨"com/example/quern/quern/core/DocumentSetsComplementPinLaw", "at", "([I[II)Z"⟩ : MethodName)) hown (mvT hZ (hw _ (List.mem_of_getElem? (i := 16) rfl))) (mvT hZ (hw _ (List.mem_of_getElem? (i := 17) rfl))) (mvT hZ (hw _ (List.mem_of_getElem? (i := 3) rfl))) (mvT hZ (hw _ (List.mem_of_getElem? (i := 18) rfl))) (by decide) (backOf (W := 0) (rm_at l Z a0 hw [] v0 v1 (2 : Int32) zs h0 n0 Z0 f0_A_v0 f1_A_v1 (by decide) (own_at (by decide : 2 ≤ 7) hz7)) hZ (hw _ (List.mem_of_getElem? (i := 18) rfl)) (hw _ (List.mem_of_getElem? (i := 3) rfl)) (by decide) (by decide)) (g := (mkF m 30 #[.val (.ref v0), .val (.ref v1)] [(.int (2 : Int32)), (.ref v1), (.ref v0)])) rfl (by rw [hml]; rfl) (argsL := [(.ref v0), (.ref v1), (.int (2 : Int32))]) (rest := []) (lenOf pd_1 rfl) rfl (by show 2 * 0 + _ ≤ _; exact Nat.le_of_eq rfl) (hb hby d_same_30) (fun _ _ => ⟨rfl, e63, (by decide : 0 + 0 ≤ _), (by decide : 0 + 0 ≤ _)⟩)
  dsimp only [Pt.U, Pt.locs, Pt.cells, Pt.slots] at X64 l64 y64 z64 st64 hQ64
  rw [l64, y64, z64] at X64
  clear l64 y64 z64
  obtain ⟨rfl, N64q, e64⟩ := hQ64
  have N64 := Fr.app M63 N64q
  refine Go.st st64 ?_
  obtain ⟨G64, Y64, M64⟩ : ∃ L, Stand p l e ({ frames := 1, cells := 0, slots := 0, locals := 14 } : Room) s m #[(.ref v0), (.ref v1)] below meth c T64 L 0 0 ∧ Fr n0 L := ⟨_, X64, N64⟩
  clear X64 N64
  show Go p e below s _ _ _ T64 (mkF m 33 #[.val (.ref v0), .val (.ref v1)] [(.int (1 : Int32))])
  refine G_ifNo Y64 hx (pc' := 36) rfl (hb hby d_same_33) ((if0 _ _).trans (feq (by decide : ¬ ((1 : Int32) = (0 : Int32)))).1) ?_
  refine G_aloadN Y64 hx (pc' := 37) rfl (hb hby d_same_36) rfl rfl ?_
  refine G_aloadN Y64 hx (pc' := 38) rfl (hb hby d_same_37) rfl rfl ?_
  refine G_iconst Y64 hx (pc' := 39) rfl (hb hby d_same_38) (z := (3 : Int32)) rfl ?_
  obtain ⟨_, _, ⟨T65, L65, k65, n65⟩, -, X65, ⟨Lc65, hQ65, l65, y65, z65⟩, st65⟩ := Jvm.LawKit.callS Y64 hx (y := (⟨"com/example/quern/quern/core/DocumentSetsComplementPinLaw", "at", "([I[II)Z"⟩ : MethodName)) hown (mvT hZ (hw _ (List.mem_of_getElem? (i := 16) rfl))) (mvT hZ (hw _ (List.mem_of_getElem? (i := 17) rfl))) (mvT hZ (hw _ (List.mem_of_getElem? (i := 3) rfl))) (mvT hZ (hw _ (List.mem_of_getElem? (i := 18) rfl))) (by decide) (backOf (W := 0) (rm_at l Z a0 hw [] v0 v1 (3 : Int32) zs h0 n0 Z0 f0_A_v0 f1_A_v1 (by decide) (own_at (by decide : 3 ≤ 7) hz7)) hZ (hw _ (List.mem_of_getElem? (i := 18) rfl)) (hw _ (List.mem_of_getElem? (i := 3) rfl)) (by decide) (by decide)) (g := (mkF m 39 #[.val (.ref v0), .val (.ref v1)] [(.int (3 : Int32)), (.ref v1), (.ref v0)])) rfl (by rw [hml]; rfl) (argsL := [(.ref v0), (.ref v1), (.int (3 : Int32))]) (rest := []) (lenOf pd_1 rfl) rfl (by show 2 * 0 + _ ≤ _; exact Nat.le_of_eq rfl) (hb hby d_same_39) (fun _ _ => ⟨rfl, e64, (by decide : 0 + 0 ≤ _), (by decide : 0 + 0 ≤ _)⟩)
  dsimp only [Pt.U, Pt.locs, Pt.cells, Pt.slots] at X65 l65 y65 z65 st65 hQ65
  rw [l65, y65, z65] at X65
  clear l65 y65 z65
  obtain ⟨rfl, N65q, e65⟩ := hQ65
  have N65 := Fr.app M64 N65q
  refine Go.st st65 ?_
  obtain ⟨G65, Y65, M65⟩ : ∃ L, Stand p l e ({ frames := 1, cells := 0, slots := 0, locals := 14 } : Room) s m #[(.ref v0), (.ref v1)] below meth c T65 L 0 0 ∧ Fr n0 L := ⟨_, X65, N65⟩
  clear X65 N65
  show Go p e below s _ _ _ T65 (mkF m 42 #[.val (.ref v0), .val (.ref v1)] [(.int (1 : Int32))])
  refine G_ifNo Y65 hx (pc' := 45) rfl (hb hby d_same_42) ((if0 _ _).trans (feq (by decide : ¬ ((1 : Int32) = (0 : Int32)))).1) ?_
  refine G_aloadN Y65 hx (pc' := 46) rfl (hb hby d_same_45) rfl rfl ?_
  refine G_aloadN Y65 hx (pc' := 47) rfl (hb hby d_same_46) rfl rfl ?_
  refine G_iconst Y65 hx (pc' := 48) rfl (hb hby d_same_47) (z := (4 : Int32)) rfl ?_
  obtain ⟨_, _, ⟨T66, L66, k66, n66⟩, -, X66, ⟨Lc66, hQ66, l66, y66, z66⟩, st66⟩ := Jvm.LawKit.callS Y65 hx (y := (⟨"com/example/quern/quern/core/DocumentSetsComplementPinLaw", "at", "([I[II)Z"⟩ : MethodName)) hown (mvT hZ (hw _ (List.mem_of_getElem? (i := 16) rfl))) (mvT hZ (hw _ (List.mem_of_getElem? (i := 17) rfl))) (mvT hZ (hw _ (List.mem_of_getElem? (i := 3) rfl))) (mvT hZ (hw _ (List.mem_of_getElem? (i := 18) rfl))) (by decide) (backOf (W := 0) (rm_at l Z a0 hw [] v0 v1 (4 : Int32) zs h0 n0 Z0 f0_A_v0 f1_A_v1 (by decide) (own_at (by decide : 4 ≤ 7) hz7)) hZ (hw _ (List.mem_of_getElem? (i := 18) rfl)) (hw _ (List.mem_of_getElem? (i := 3) rfl)) (by decide) (by decide)) (g := (mkF m 48 #[.val (.ref v0), .val (.ref v1)] [(.int (4 : Int32)), (.ref v1), (.ref v0)])) rfl (by rw [hml]; rfl) (argsL := [(.ref v0), (.ref v1), (.int (4 : Int32))]) (rest := []) (lenOf pd_1 rfl) rfl (by show 2 * 0 + _ ≤ _; exact Nat.le_of_eq rfl) (hb hby d_same_48) (fun _ _ => ⟨rfl, e65, (by decide : 0 + 0 ≤ _), (by decide : 0 + 0 ≤ _)⟩)
  dsimp only [Pt.U, Pt.locs, Pt.cells, Pt.slots] at X66 l66 y66 z66 st66 hQ66
  rw [l66, y66, z66] at X66
  clear l66 y66 z66
  obtain ⟨rfl, N66q, e66⟩ := hQ66
  have N66 := Fr.app M65 N66q
  refine Go.st st66 ?_
  obtain ⟨G66, Y66, M66⟩ : ∃ L, Stand p l e ({ frames := 1, cells := 0, slots := 0, locals := 14 } : Room) s m #[(.ref v0), (.ref v1)] below meth c T66 L 0 0 ∧ Fr n0 L := ⟨_, X66, N66⟩
  clear X66 N66
  show Go p e below s _ _ _ T66 (mkF m 51 #[.val (.ref v0), .val (.ref v1)] [(.int (1 : Int32))])
  refine G_ifNo Y66 hx (pc' := 54) rfl (hb hby d_same_51) ((if0 _ _).trans (feq (by decide : ¬ ((1 : Int32) = (0 : Int32)))).1) ?_
  refine G_aloadN Y66 hx (pc' := 55) rfl (hb hby d_same_54) rfl rfl ?_
  refine G_aloadN Y66 hx (pc' := 56) rfl (hb hby d_same_55) rfl rfl ?_
  refine G_iconst Y66 hx (pc' := 57) rfl (hb hby d_same_56) (z := (5 : Int32)) rfl ?_
  obtain ⟨_, _, ⟨T67, L67, k67, n67⟩, -, X67, ⟨Lc67, hQ67, l67, y67, z67⟩, st67⟩ := Jvm.LawKit.callS Y66 hx (y := (⟨"com/example/quern/quern/core/DocumentSetsComplementPinLaw", "at", "([I[II)Z"⟩ : MethodName)) hown (mvT hZ (hw _ (List.mem_of_getElem? (i := 16) rfl))) (mvT hZ (hw _ (List.mem_of_getElem? (i := 17) rfl))) (mvT hZ (hw _ (List.mem_of_getElem? (i := 3) rfl))) (mvT hZ (hw _ (List.mem_of_getElem? (i := 18) rfl))) (by decide) (backOf (W := 0) (rm_at l Z a0 hw [] v0 v1 (5 : Int32) zs h0 n0 Z0 f0_A_v0 f1_A_v1 (by decide) (own_at (by decide : 5 ≤ 7) hz7)) hZ (hw _ (List.mem_of_getElem? (i := 18) rfl)) (hw _ (List.mem_of_getElem? (i := 3) rfl)) (by decide) (by decide)) (g := (mkF m 57 #[.val (.ref v0), .val (.ref v1)] [(.int (5 : Int32)), (.ref v1), (.ref v0)])) rfl (by rw [hml]; rfl) (argsL := [(.ref v0), (.ref v1), (.int (5 : Int32))]) (rest := []) (lenOf pd_1 rfl) rfl (by show 2 * 0 + _ ≤ _; exact Nat.le_of_eq rfl) (hb hby d_same_57) (fun _ _ => ⟨rfl, e66, (by decide : 0 + 0 ≤ _), (by decide : 0 + 0 ≤ _)⟩)
  dsimp only [Pt.U, Pt.locs, Pt.cells, Pt.slots] at X67 l67 y67 z67 st67 hQ67
  rw [l67, y67, z67] at X67
  clear l67 y67 z67
  obtain ⟨rfl, N67q, e67⟩ := hQ67
  have N67 := Fr.app M66 N67q
  refine Go.st st67 ?_
  obtain ⟨G67, Y67, M67⟩ : ∃ L, Stand p l e ({ frames := 1, cells := 0, slots := 0, locals := 14 } : Room) s m #[(.ref v0), (.ref v1)] below meth c T67 L 0 0 ∧ Fr n0 L := ⟨_, X67, N67⟩
  clear X67 N67
  show Go p e below s _ _ _ T67 (mkF m 60 #[.val (.ref v0), .val (.ref v1)] [(.int (1 : Int32))])
  refine G_ifNo Y67 hx (pc' := 63) rfl (hb hby d_same_60) ((if0 _ _).trans (feq (by decide : ¬ ((1 : Int32) = (0 : Int32)))).1) ?_
  refine G_aloadN Y67 hx (pc' := 64) rfl (hb hby d_same_63) rfl rfl ?_
  refine G_aloadN Y67 hx (pc' := 65) rfl (hb hby d_same_64) rfl rfl ?_
  refine G_bipush Y67 hx (pc' := 67) rfl (hb hby d_same_65) (z := (6 : Int32)) rfl ?_
  obtain ⟨_, _, ⟨T68, L68, k68, n68⟩, -, X68, ⟨Lc68, hQ68, l68, y68, z68⟩, st68⟩ := Jvm.LawKit.callS Y67 hx (y := (⟨"com/example/quern/quern/core/DocumentSetsComplementPinLaw", "at", "([I[II)Z"⟩ : MethodName)) hown (mvT hZ (hw _ (List.mem_of_getElem? (i := 16) rfl))) (mvT hZ (hw _ (List.mem_of_getElem? (i := 17) rfl))) (mvT hZ (hw _ (List.mem_of_getElem? (i := 3) rfl))) (mvT hZ (hw _ (List.mem_of_getElem? (i := 18) rfl))) (by decide) (backOf (W := 0) (rm_at l Z a0 hw [] v0 v1 (6 : Int32) zs h0 n0 Z0 f0_A_v0 f1_A_v1 (by decide) (own_at (by decide : 6 ≤ 7) hz7)) hZ (hw _ (List.mem_of_getElem? (i := 18) rfl)) (hw _ (List.mem_of_getElem? (i := 3) rfl)) (by decide) (by decide)) (g := (mkF m 67 #[.val (.ref v0), .val (.ref v1)] [(.int (6 : Int32)), (.ref v1), (.ref v0)])) rfl (by rw [hml]; rfl) (argsL := [(.ref v0), (.ref v1), (.int (6 : Int32))]) (rest := []) (lenOf pd_1 rfl) rfl (by show 2 * 0 + _ ≤ _; exact Nat.le_of_eq rfl) (hb hby d_same_67) (fun _ _ => ⟨rfl, e67, (by decide : 0 + 0 ≤ _), (by decide : 0 + 0 ≤ _)⟩)
  dsimp only [Pt.U, Pt.locs, Pt.cells, Pt.slots] at X68 l68 y68 z68 st68 hQ68
  rw [l68, y68, z68] at X68
  clear l68 y68 z68
  obtain ⟨rfl, N68q, e68⟩ := hQ68
  have N68 := Fr.app M67 N68q
  refine Go.st st68 ?_
  obtain ⟨G68, Y68, M68⟩ : ∃ L, Stand p l e ({ frames := 1, cells := 0, slots := 0, locals := 14 } : Room) s m #[(.ref v0), (.ref v1)] below meth c T68 L 0 0 ∧ Fr n0 L := ⟨_, X68, N68⟩
  clear X68 N68
  show Go p e below s _ _ _ T68 (mkF m 70 #[.val (.ref v0), .val (.ref v1)] [(.int (1 : Int32))])
  refine G_ifNo Y68 hx (pc' := 73) rfl (hb hby d_same_70) ((if0 _ _).trans (feq (by decide : ¬ ((1 : Int32) = (0 : Int32)))).1) ?_
  refine G_iconst Y68 hx (pc' := 74) rfl (hb hby d_same_73) (z := (1 : Int32)) rfl ?_
  refine G_goto Y68 hx (pc' := 78) (hb hby d_same_74)  (by decide) (by decide) ?_
  refine Go.fin Y68 hlk (v := some (.int (1 : Int32))) (fun h => by rw [Bd.returns] at h; cases h) (by decide) (by decide) ?_ (fun fs hr => retN Y68 hx (t := .boolean) Bd.returns (by simp) (hb hby d_same_78) hr)
  show Q_same Z v0 v1 zs h0 n0 _ T68.heap _
  rw [e68]
  exact ⟨rfl, M68, rfl⟩
theorem own_8 (x : Int32) : 0 ≤ ((x &&& (2147483647 : Int32)) % (8 : Int32)).toInt ∧ ((x &&& (2147483647 : Int32)) % (8 : Int32)).toInt ≤ 7 := by
  have h1 := c_mask x 2147483647 31 (by decide) (by decide)
  have h2 := (c_irem (x &&& (2147483647 : Int32)) 8 8 (by decide)).1
  have h3 : 0 ≤ (x &&& (2147483647 : Int32)).toInt := by rw [h1]; omega
  have h4 := h2 h3
  omega
theorem pd_2 : parseMethodDescriptor "(IIZ)[I" = some ⟨[.int, .int, .boolean], some (.array .int)⟩ := by decide +kernel
theorem pd_3 : parseMethodDescriptor "([II)[I" = some ⟨[(.array .int), .int], some (.array .int)⟩ := by decide +kernel
theorem pd_4 : parseMethodDescriptor "([I[I)Z" = some ⟨[(.array .int), (.array .int)], some .boolean⟩ := by decide +kernel
theorem ef_law (m : MethodId) (v0 : Int32) (v1 : Int32) : entryFrame m #[(.int v0), (.int v1)] maxLocals = mkF m 0 #[.val (.int v0), .val (.int v1), .unset, .unset, .unset, .unset] [] := by first | (simp [entryFrame, mkF, argsToLocals, Value.category, maxLocals]; done) | rfl
def Q_law (Z : State) (v0 : Int32) (v1 : Int32) (h0 : Heap) (n0 : Nat) (v : Option Value) (h : Heap) (L : List Loc) : Prop := v = some (.int (1 : Int32)) ∧ Fr n0 L
set_option maxRecDepth 65536 in
set_option maxHeartbeats 40000000 in
theorem rm_law (l : Launch) (Z : State) (a0 : Array Value) (hw : ∀ d ∈ tables_1, d.before a0 Z = true) (ws : List Jvm.Cond) (v0 : Int32) (v1 : Int32) (h0 : Heap) (n0 : Nat) (Z0 : n0 ≤ h0.size) :
    MetFree l x (head1 (Jvm.Cond.code x code maxLocals ret :: ws) room_1) (fun a U => a = #[(.int v0), (.int v1)] ∧ Z.Warmed39 U.vm ∧ U.heap = h0) (fun _ _ _ _ _ => True) (fun _ U o U' => ∃ v L, o = .returned v ∧ Q_law Z v0 v1 h0 n0 v U'.heap L ∧ FrameEnd U o U' L room_1.cells room_1.slots) := by
  refine MetFree.of_bodySF (plainFor_of_name (by first | (simp [plainName, overriddenIn]; done) | decide +kernel)) hisR ?_
  intro p e s m args below meth c s₁ Bd hml0 hP hK
  obtain ⟨rfl, hZ, hh⟩ := hP
  have hx := Bd.exec
  have hby := Bd.bytes
  have hml : c.maxLocals = 6 := hml0
  have hown : s.vm.findClass "com/example/quern/quern/core/DocumentSetsComplementPinLaw" = some m.cls := findClass_of_methodNamed Bd.named
  have hnm := (name_of_methodNamed Bd.named Bd.method).1
  have hlk : meth.locks = false := Bd.notSynchronized
  have X0 : Stand p l e room_1 s m #[(.int v0), (.int v1)] below meth c s₁ [] 0 0 := Stand.of_body Bd
  have e0 : s₁.heap = h0 := by rw [← hh, Bd.state]; rfl
  have N0 := Fr.nil n0
  refine Go.enter (Q := Q_law Z v0 v1 h0 n0) (C := room_1.cells) (N := room_1.slots) (ef_law m v0 v1) ?_
  show Go p e below s _ _ _ s₁ (mkF m 0 #[.val (.int v0), .val (.int v1), .unset, .unset, .unset, .unset] [])
  refine G_iloadN X0 hx (pc' := 1) rfl (hb hby at_0) rfl ?_
  refine G_ldc X0 hx (pc' := 3) rfl hown (mvT hZ (hw _ (List.mem_of_getElem? (i := 0) rfl))) (hb hby at_1) ?_
  refine G_iand X0 hx (pc' := 4) rfl (hb hby at_3)  ?_
  refine G_bipush X0 hx (pc' := 6) rfl (hb hby at_4) (z := (8 : Int32)) rfl ?_
  refine G_irem X0 hx (pc' := 7) rfl (hb hby at_6) (by decide) ?_
  refine G_istoreN X0 hx (pc' := 8) rfl (hb hby at_7) (L' := #[.val (.int v0), .val (.int v1), .val (.int ((v0 &&& (2147483647 : Int32)) % (8 : Int32))), .unset, .unset, .unset]) rfl ?_
  obtain ⟨cnt, h_cnt, hc0, hc7⟩ : ∃ cnt : Int32, ((v0 &&& (2147483647 : Int32)) % (8 : Int32)) = cnt ∧ 0 ≤ cnt.toInt ∧ cnt.toInt ≤ 7 := ⟨_, rfl, (own_8 _).1, (own_8 _).2⟩
  rw [h_cnt]
  refine G_iloadN X0 hx (pc' := 9) rfl (hb hby at_8) rfl ?_
  refine G_iloadN X0 hx (pc' := 10) rfl (hb hby at_9) rfl ?_
  refine G_iconst X0 hx (pc' := 11) rfl (hb hby at_10) (z := (1 : Int32)) rfl ?_
  obtain ⟨_, _, ⟨T69, L69, k69, n69⟩, -, X69, ⟨Lc69, hQ69, l69, y69, z69⟩, st69⟩ := Jvm.LawKit.callS X0 hx (y := (⟨"com/example/quern/quern/core/DocumentSetsComplementPinLaw", "members", "(IIZ)[I"⟩ : MethodName)) hown (mvT hZ (hw _ (List.mem_of_getElem? (i := 1) rfl))) (mvT hZ (hw _ (List.mem_of_getElem? (i := 2) rfl))) (mvT hZ (hw _ (List.mem_of_getElem? (i := 3) rfl))) (mvT hZ (hw _ (List.mem_of_getElem? (i := 4) rfl))) (by decide) (backOf (W := 0) (rm_members l Z a0 hw [] v1 cnt (1 : Int32) h0 n0 Z0 ) hZ (hw _ (List.mem_of_getElem? (i := 4) rfl)) (hw _ (List.mem_of_getElem? (i := 3) rfl)) (by decide) (by decide)) (g := (mkF m 11 #[.val (.int v0), .val (.int v1), .val (.int cnt), .unset, .unset, .unset] [(.int (1 : Int32)), (.int cnt), (.int v1)])) rfl (by rw [hml]; rfl) (argsL := [(.int v1), (.int cnt), (.int (1 : Int32))]) (rest := []) (lenOf pd_2 rfl) rfl (by show 2 * 0 + _ ≤ _; exact Nat.le_of_eq rfl) (hb hby at_11) (fun _ _ => ⟨rfl, e0, (by decide : 0 + 2 ≤ _), (by decide : 0 + 14 ≤ _)⟩)
  dsimp only [Pt.U, Pt.locs, Pt.cells, Pt.slots] at X69 l69 y69 z69 st69 hQ69
  rw [l69, y69, z69] at X69
  clear l69 y69 z69
  obtain ⟨b0_69, rfl, N69q, K69, le_b0_69, p69_0, p69_1⟩ := hQ69
  have N69 := Fr.app N0 N69q
  refine Go.st st69 ?_
  have g_b0_69 : n0 ≤ b0_69 := Nat.le_trans Z0 le_b0_69
  have sz_b0_69 : h0.size ≤ b0_69 := Nat.le_trans (Nat.le_refl _) le_b0_69
  have K_69 : Keep h0 T69.heap [] := (Keep.refl h0 []).trans K69 all0
  have Z_69 : n0 ≤ T69.heap.size := Nat.le_trans Z0 K_69.1
  clear st69 K69
  obtain ⟨G69, Y69, M69⟩ : ∃ L, Stand p l e room_1 s m #[(.int v0), (.int v1)] below meth c T69 L 2 14 ∧ Fr n0 L := ⟨_, X69, N69⟩
  clear X69 N69
  show Go p e below s _ _ _ T69 (mkF m 14 #[.val (.int v0), .val (.int v1), .val (.int cnt), .unset, .unset, .unset] [(.ref b0_69)])
  refine G_astoreN Y69 hx (pc' := 15) rfl (hb hby at_14) rfl (L' := #[.val (.int v0), .val (.int v1), .val (.int cnt), .val (.ref b0_69), .unset, .unset]) rfl ?_
  refine G_iloadN Y69 hx (pc' := 16) rfl (hb hby at_15) rfl ?_
  refine G_iloadN Y69 hx (pc' := 17) rfl (hb hby at_16) rfl ?_
  refine G_iconst Y69 hx (pc' := 18) rfl (hb hby at_17) (z := (0 : Int32)) rfl ?_
  obtain ⟨_, _, ⟨T70, L70, k70, n70⟩, -, X70, ⟨Lc70, hQ70, l70, y70, z70⟩, st70⟩ := Jvm.LawKit.callS Y69 hx (y := (⟨"com/example/quern/quern/core/DocumentSetsComplementPinLaw", "members", "(IIZ)[I"⟩ : MethodName)) hown (mvT hZ (hw _ (List.mem_of_getElem? (i := 1) rfl))) (mvT hZ (hw _ (List.mem_of_getElem? (i := 2) rfl))) (mvT hZ (hw _ (List.mem_of_getElem? (i := 3) rfl))) (mvT hZ (hw _ (List.mem_of_getElem? (i := 4) rfl))) (by decide) (backOf (W := 0) (rm_members l Z a0 hw [] v1 cnt (0 : Int32) T69.heap n0 Z_69 ) hZ (hw _ (List.mem_of_getElem? (i := 4) rfl)) (hw _ (List.mem_of_getElem? (i := 3) rfl)) (by decide) (by decide)) (g := (mkF m 18 #[.val (.int v0), .val (.int v1), .val (.int cnt), .val (.ref b0_69), .unset, .unset] [(.int (0 : Int32)), (.int cnt), (.int v1)])) rfl (by rw [hml]; rfl) (argsL := [(.int v1), (.int cnt), (.int (0 : Int32))]) (rest := []) (lenOf pd_2 rfl) rfl (by show 2 * 0 + _ ≤ _; exact Nat.le_of_eq rfl) (hb hby at_18) (fun _ _ => ⟨rfl, rfl, (by decide : 2 + 2 ≤ _), (by decide : 14 + 14 ≤ _)⟩)
  dsimp only [Pt.U, Pt.locs, Pt.cells, Pt.slots] at X70 l70 y70 z70 st70 hQ70
  rw [l70, y70, z70] at X70
  clear l70 y70 z70
  obtain ⟨b0_70, rfl, N70q, K70, le_b0_70, p70_0, p70_1⟩ := hQ70
  have N70 := Fr.app M69 N70q
  refine Go.st st70 ?_
  have ne_b0_69_b0_70 : b0_69 ≠ b0_70 := Nat.ne_of_lt (Nat.lt_of_lt_of_le p69_0.lt le_b0_70)
  have g_b0_70 : n0 ≤ b0_70 := Nat.le_trans Z_69 le_b0_70
  have sz_b0_70 : h0.size ≤ b0_70 := Nat.le_trans K_69.1 le_b0_70
  have E_b0_69_70 := p69_0.keep K70
  have A_b0_69_70 := p69_1.keep K70 nin0
  have K_70 : Keep h0 T70.heap [] := K_69.trans K70 all0
  have Z_70 : n0 ≤ T70.heap.size := Nat.le_trans Z0 K_70.1
  clear p69_0 p69_1 st70 K70
  obtain ⟨G70, Y70, M70⟩ : ∃ L, Stand p l e room_1 s m #[(.int v0), (.int v1)] below meth c T70 L 4 28 ∧ Fr n0 L := ⟨_, X70, N70⟩
  clear X70 N70
  show Go p e below s _ _ _ T70 (mkF m 21 #[.val (.int v0), .val (.int v1), .val (.int cnt), .val (.ref b0_69), .unset, .unset] [(.ref b0_70)])
  refine G_astore Y70 hx (pc' := 23) rfl (hb hby at_21) rfl (L' := #[.val (.int v0), .val (.int v1), .val (.int cnt), .val (.ref b0_69), .val (.ref b0_70), .unset]) rfl ?_
  refine G_aloadN Y70 hx (pc' := 24) rfl (hb hby at_23) rfl rfl ?_
  refine G_iloadN Y70 hx (pc' := 25) rfl (hb hby at_24) rfl ?_
  obtain ⟨_, _, ⟨T71, L71, k71, n71⟩, -, X71, ⟨Lc71, hQ71, l71, y71, z71⟩, st71⟩ := Jvm.LawKit.callS Y70 hx (y := (⟨"com/example/quern/quern/core/DocumentSets", "complement", "([II)[I"⟩ : MethodName)) hown (mvT hZ (hw _ (List.mem_of_getElem? (i := 9) rfl))) (mvT hZ (hw _ (List.mem_of_getElem? (i := 10) rfl))) (mvT hZ (hw _ (List.mem_of_getElem? (i := 11) rfl))) (mvT hZ (hw _ (List.mem_of_getElem? (i := 12) rfl))) (by decide) (backOf (W := 0) (rm_cmpl l Z a0 hw [] b0_69 cnt v1 T70.heap n0 Z_70 A_b0_69_70 hc0 hc7) hZ (hw _ (List.mem_of_getElem? (i := 12) rfl)) (hw _ (List.mem_of_getElem? (i := 11) rfl)) (by decide) (by decide)) (g := (mkF m 25 #[.val (.int v0), .val (.int v1), .val (.int cnt), .val (.ref b0_69), .val (.ref b0_70), .unset] [(.int cnt), (.ref b0_69)])) rfl (by rw [hml]; rfl) (argsL := [(.ref b0_69), (.int cnt)]) (rest := []) (lenOf pd_3 rfl) rfl (by show 2 * 0 + _ ≤ _; exact Nat.le_of_eq rfl) (hb hby at_25) (fun _ _ => ⟨rfl, rfl, (by decide : 4 + 1 ≤ _), (by decide : 28 + 7 ≤ _)⟩)
  dsimp only [Pt.U, Pt.locs, Pt.cells, Pt.slots] at X71 l71 y71 z71 st71 hQ71
  rw [l71, y71, z71] at X71
  clear l71 y71 z71
  obtain ⟨b0_71, rfl, N71q, K71, le_b0_71, p71_0, p71_1⟩ := hQ71
  have N71 := Fr.app M70 N71q
  refine Go.st st71 ?_
  have ne_b0_69_b0_71 : b0_69 ≠ b0_71 := Nat.ne_of_lt (Nat.lt_of_lt_of_le E_b0_69_70.lt le_b0_71)
  have ne_b0_70_b0_71 : b0_70 ≠ b0_71 := Nat.ne_of_lt (Nat.lt_of_lt_of_le p70_0.lt le_b0_71)
  have g_b0_71 : n0 ≤ b0_71 := Nat.le_trans Z_70 le_b0_71
  have sz_b0_71 : h0.size ≤ b0_71 := Nat.le_trans K_70.1 le_b0_71
  have E_b0_69_71 := E_b0_69_70.keep K71
  have A_b0_69_71 := A_b0_69_70.keep K71 nin0
  have E_b0_70_71 := p70_0.keep K71
  have A_b0_70_71 := p70_1.keep K71 nin0
  have K_71 : Keep h0 T71.heap [] := K_70.trans K71 all0
  have Z_71 : n0 ≤ T71.heap.size := Nat.le_trans Z0 K_71.1
  clear E_b0_69_70 A_b0_69_70 p70_0 p70_1 st71 K71
  obtain ⟨G71, Y71, M71⟩ : ∃ L, Stand p l e room_1 s m #[(.int v0), (.int v1)] below meth c T71 L 5 35 ∧ Fr n0 L := ⟨_, X71, N71⟩
  clear X71 N71
  show Go p e below s _ _ _ T71 (mkF m 28 #[.val (.int v0), .val (.int v1), .val (.int cnt), .val (.ref b0_69), .val (.ref b0_70), .unset] [(.ref b0_71)])
  refine G_astore Y71 hx (pc' := 30) rfl (hb hby at_28) rfl (L' := #[.val (.int v0), .val (.int v1), .val (.int cnt), .val (.ref b0_69), .val (.ref b0_70), .val (.ref b0_71)]) rfl ?_
  refine G_aload Y71 hx (pc' := 32) rfl (hb hby at_30) rfl rfl ?_
  refine G_aload Y71 hx (pc' := 34) rfl (hb hby at_32) rfl rfl ?_
  obtain ⟨_, _, ⟨T72, L72, k72, n72⟩, -, X72, ⟨Lc72, hQ72, l72, y72, z72⟩, st72⟩ := Jvm.LawKit.callS Y71 hx (y := (⟨"com/example/quern/quern/core/DocumentSetsComplementPinLaw", "same", "([I[I)Z"⟩ : MethodName)) hown (mvT hZ (hw _ (List.mem_of_getElem? (i := 13) rfl))) (mvT hZ (hw _ (List.mem_of_getElem? (i := 14) rfl))) (mvT hZ (hw _ (List.mem_of_getElem? (i := 3) rfl))) (mvT hZ (hw _ (List.mem_of_getElem? (i := 15) rfl))) (by decide) (backOf (W := 0) (rm_same l Z a0 hw [] b0_71 b0_70 (own_P 7 v1 cnt (0 : Int32)) T71.heap n0 Z_71 p71_1 A_b0_70_71 (own_P7 v1 cnt 0)) hZ (hw _ (List.mem_of_getElem? (i := 15) rfl)) (hw _ (List.mem_of_getElem? (i := 3) rfl)) (by decide) (by decide)) (g := (mkF m 34 #[.val (.int v0), .val (.int v1), .val (.int cnt), .val (.ref b0_69), .val (.ref b0_70), .val (.ref b0_71)] [(.ref b0_70), (.ref b0_71)])) rfl (by rw [hml]; rfl) (argsL := [(.ref b0_71), (.ref b0_70)]) (rest := []) (lenOf pd_4 rfl) rfl (by show 2 * 0 + _ ≤ _; exact Nat.le_of_eq rfl) (hb hby at_34) (fun _ _ => ⟨rfl, rfl, (by decide : 5 + 0 ≤ _), (by decide : 35 + 0 ≤ _)⟩)
  dsimp only [Pt.U, Pt.locs, Pt.cells, Pt.slots] at X72 l72 y72 z72 st72 hQ72
  rw [l72, y72, z72] at X72
  clear l72 y72 z72
  obtain ⟨rfl, N72q, e72⟩ := hQ72
  have N72 := Fr.app M71 N72q
  refine Go.st st72 ?_
  obtain ⟨G72, Y72, M72⟩ : ∃ L, Stand p l e room_1 s m #[(.int v0), (.int v1)] below meth c T72 L 5 35 ∧ Fr n0 L := ⟨_, X72, N72⟩
  clear X72 N72
  show Go p e below s _ _ _ T72 (mkF m 37 #[.val (.int v0), .val (.int v1), .val (.int cnt), .val (.ref b0_69), .val (.ref b0_70), .val (.ref b0_71)] [(.int (1 : Int32))])
  refine Go.fin Y72 hlk (v := some (.int (1 : Int32))) (fun h => by rw [Bd.returns] at h; cases h) (by decide) (by decide) ?_ (fun fs hr => retN Y72 hx (t := .boolean) Bd.returns (by simp) (hb hby at_37) hr)
  show Q_law Z v0 v1 h0 n0 _ T72.heap _
  rw [e72]
  exact ⟨rfl, M72⟩
set_option maxRecDepth 65536 in
set_option maxHeartbeats 40000000 in
theorem comes_1 {Post : Tables → Env → Array Value → State → Outcome → State → Prop} (hpost : ∀ tb e args s v u, (limb_1_1.after args s (.returned v) u = true ∧ limb_1_2.after args s (.returned v) u = true ∧ True) → FrameEnd s (.returned v) u (Jvm.fieldLocs frame_1_writes args s ++ Jvm.arrayLocs frame_1_arrays args s ++ Jvm.staticLocs frame_1_statics s) 24 128 → Post tb e args s (.returned v) u) :
    ArmFor flags0 classFile x code maxLocals ret World_1 tables_1 room_1 Calls_1 rest_1 Pre_1 Post := by
  intro l hfl _ _ p e ha hc hk s m args below hf hA hF happ hP
  obtain ⟨hcalls, hrest, hpre⟩ := hP
  obtain ⟨-, -, -, hnamed, -, -, -, hat⟩ := (Spec.applies_iff hf).mp happ
  obtain ⟨hg, hn⟩ := and_e (Cond.before_iff.mp (show (Jvm.Cond.and given_1 narrow_1).before args s = true from hpre))
  obtain ⟨hcnt, hg0⟩ := and_e hg
  obtain ⟨ha0, hg1⟩ := and_e hg0
  have ha1 := hg1
  obtain ⟨w0, w1, rfl⟩ : ∃ w0 w1 : Value, args = #[w0, w1] := by
    have hs : args.size = 2 := by simpa [Cond.value, given_1] using hcnt
    obtain ⟨L⟩ := args
    match L, hs with
    | [w0, w1], _ => exact ⟨w0, w1, rfl⟩
  have hw := fun d (hd : d ∈ tables_1) => atoms_spec (ws := Jvm.Cond.code x code maxLocals ret :: tables_1) hat d (List.mem_cons_of_mem _ hd)
  have hfit : Fit s := fun {y c} hc i hi => by
    obtain ⟨ha, rfl⟩ := Array.getElem?_eq_some_iff.mp hc
    have q := List.all_eq_true.mp ((Array.all_eq_true_iff_forall_mem.mp hF) _ (Array.getElem_mem ha)) i (List.mem_range.mpr hi)
    simpa [Array.getElem?_eq_getElem hi] using q
  obtain ⟨i0, ei0⟩ := is_v ha0
  obtain rfl : w0 = (.int i0) := Option.some.inj ei0
  obtain ⟨i1, ei1⟩ := is_v ha1
  obtain rfl : w1 = (.int i1) := Option.some.inj ei1
  obtain ⟨n, o, h1, h2, h3, v, L, rfl, ⟨hv, N⟩, hq⟩ := rm_law l s _ hw tables_1 i0 i1  s.heap s.heap.size (Nat.le_refl _)  p e ha hc hk s m _ below hf ((Spec.applies_iff_loose hf).mp happ).1 ⟨rfl, State.Warmed39.refl s, rfl⟩ trivial
  subst hv
  refine ⟨n, _, h1, h2, h3, hpost _ _ _ _ _ _ ⟨Cond.after_iff.mpr rfl, Cond.after_iff.mpr (eq_i res_at (Term.int_eval (1)) rfl), trivial⟩ ⟨hq.1, hq.2.1, (hq.2.2.sift fun y hy => Or.inr (N y hy)).mono (by decide) (by decide)⟩⟩
theorem main_1_1 : Claimed_1_1 := comes_1 fun _ _ _ _ _ _ h hF => ⟨h.1, hF⟩
theorem main_1_2 : Claimed_1_2 := comes_1 fun _ _ _ _ _ _ h hF => ⟨h.2.1, hF⟩
end Jvm.Pilot.@@N@@
namespace Jvm.Pilot.@@N@@
open Jvm Jvm.ClassFile Sem Op Lib Jvm.Free Jvm.Stand Jvm.Pilot.@@N@@.Jvm.D
/-! MADE BY PROGRAM (witnessworld.py) out of the Statement's table words and the real class files: 9 classes; the members and pool entries that the words name. The judged class is class 1, her method 1. -/
namespace start1
open Jvm.ClassFile
def u (s : String) : CpInfo := .utf8 (stringToUtf16 s)
/-- a pool by its gaps: so many unusable entries, then the entry; so many at the end -/
def gap : Nat → List CpInfo → List CpInfo
  | 0, r => r
  | n + 1, r => .unusable :: gap n r
def poolList (es : List (Nat × CpInfo)) (last : Nat) : List CpInfo := es.foldr (fun e r => gap e.1 (e.2 :: r)) (gap last [])
def pool (es : List (Nat × CpInfo)) (last : Nat) : Array CpInfo := ⟨poolList es last⟩
def fileOf (pool : Array CpInfo) (this : Nat) (attrs : Array Attribute := #[]) (ms : Array MethodInfo := #[]) (fl : Nat := 33) (sup : Nat := 0) (ifs : Array Nat := #[]) (fds : Array FieldInfo := #[]) : ClassFile where
  minorVersion := 0
  majorVersion := 65
  constantPool := pool
  accessFlags := fl
  thisClass := this
  superClass := sup
  interfaces := ifs
  fields := fds
  methods := ms
  attributes := attrs
def plain (name : String) (sup : Option ClassId) : Class where
  name := name
  kind := .ordinary
  loader := none
  accessFlags := 33
  super := sup
  interfaces := #[]
  cf := none
  fields := #[]
  methods := #[]
  instanceTypes := #[]
  staticTypes := #[]
  resolved := #[]
  callSites := []
  init := .initialized
  statics := none
  mirror := none

def pool0 : Array CpInfo := pool [(5, u "<init>"), (0, u "()V"), (1, .class_ 10), (1, u "java/lang/Object")] 113

def k0m0 : Method := { name := "<init>", desc := "()V", sig := { parameters := [], returnType := none }, accessFlags := 1, code := none }
/-- java/lang/Object -/
def k0 : Class := { plain "java/lang/Object" none with
  accessFlags := 33
  interfaces := #[]
  cf := some (fileOf pool0 8 #[] #[{ accessFlags := 1, nameIndex := 5, descriptorIndex := 6, attributes := #[] }] 33 0 #[] #[])
  fields := #[]
  methods := #[k0m0]
  instanceTypes := #[]
  staticTypes := #[]
  resolved := Array.replicate 124 none
  statics := none }

def pool1 : Array CpInfo := pool [(2, .class_ 4), (1, u "java/lang/Object"), (0, u "<init>"), (0, u "()V"), (0, .integer 2147483647), (0, .methodref 9 10), (0, .class_ 11), (0, .nameAndType 12 13), (0, u "com/example/quern/quern/core/DocumentSetsComplementPinLaw"), (0, u "members"), (0, u "(IIZ)[I"), (0, .methodref 15 16), (0, .class_ 17), (0, .nameAndType 18 19), (0, u "com/example/quern/quern/core/DocumentSets"), (0, u "complement"), (0, u "([II)[I"), (0, .methodref 9 21), (0, .nameAndType 22 23), (0, u "same"), (0, u "([I[I)Z"), (0, .methodref 9 25), (0, .nameAndType 26 27), (0, u "put"), (0, u "([IIIIZI)I"), (0, .methodref 9 29), (0, .nameAndType 30 31), (0, u "at"), (0, u "([I[II)Z"), (2, u "law"), (0, u "(II)Z")] 5

def k1m0 : Method := { name := "<init>", desc := "()V", sig := { parameters := [], returnType := none }, accessFlags := 2, code := none }
def k1c1 : Code := { maxStack := 3, maxLocals := 6, code := code, exceptionTable := #[], attributes := #[] }
def k1m1 : Method := { name := "law", desc := "(II)Z", sig := { parameters := [.int, .int], returnType := some .boolean }, accessFlags := 9, code := some k1c1 }
def k1c2 : Code := { maxStack := 3, maxLocals := 6, code := method_3_code, exceptionTable := #[], attributes := #[] }
def k1m2 : Method := { name := "put", desc := "([IIIIZI)I", sig := { parameters := [(.array .int), .int, .int, .int, .boolean, .int], returnType := some .int }, accessFlags := 10, code := some k1c2 }
def k1c3 : Code := { maxStack := 6, maxLocals := 6, code := method_4_code, exceptionTable := #[], attributes := #[] }
def k1m3 : Method := { name := "members", desc := "(IIZ)[I", sig := { parameters := [.int, .int, .boolean], returnType := some (.array .int) }, accessFlags := 10, code := some k1c3 }
def k1c4 : Code := { maxStack := 3, maxLocals := 3, code := method_5_code, exceptionTable := #[], attributes := #[] }
def k1m4 : Method := { name := "at", desc := "([I[II)Z", sig := { parameters := [(.array .int), (.array .int), .int], returnType := some .boolean }, accessFlags := 10, code := some k1c4 }
def k1c5 : Code := { maxStack := 3, maxLocals := 2, code := method_6_code, exceptionTable := #[], attributes := #[] }
def k1m5 : Method := { name := "same", desc := "([I[I)Z", sig := { parameters := [(.array .int), (.array .int)], returnType := some .boolean }, accessFlags := 10, code := some k1c5 }
/-- com/example/quern/quern/core/DocumentSetsComplementPinLaw -/
def k1 : Class := { plain "com/example/quern/quern/core/DocumentSetsComplementPinLaw" (some 0) with
  accessFlags := 49
  interfaces := #[]
  cf := some (fileOf pool1 9 #[] #[{ accessFlags := 2, nameIndex := 5, descriptorIndex := 6, attributes := #[] }, { accessFlags := 9, nameIndex := 34, descriptorIndex := 35, attributes := #[] }, { accessFlags := 10, nameIndex := 26, descriptorIndex := 27, attributes := #[] }, { accessFlags := 10, nameIndex := 12, descriptorIndex := 13, attributes := #[] }, { accessFlags := 10, nameIndex := 30, descriptorIndex := 31, attributes := #[] }, { accessFlags := 10, nameIndex := 22, descriptorIndex := 23, attributes := #[] }] 49 2 #[] #[])
  fields := #[]
  methods := #[k1m0, k1m1, k1m2, k1m3, k1m4, k1m5]
  instanceTypes := #[]
  staticTypes := #[]
  resolved := Array.replicate 41 none
  statics := none }

def pool2 : Array CpInfo := pool [(2, .class_ 4), (1, u "java/lang/Object"), (0, u "<init>"), (0, u "()V"), (32, .class_ 41), (1, u "com/example/quern/quern/core/DocumentSets"), (13, u "([II)[I"), (17, u "complement")] 24

def k2m0 : Method := { name := "<init>", desc := "()V", sig := { parameters := [], returnType := none }, accessFlags := 2, code := none }
def k2c1 : Code := { maxStack := 3, maxLocals := 6, code := prog_8_method_7_code, exceptionTable := #[], attributes := #[] }
def k2m1 : Method := { name := "complement", desc := "([II)[I", sig := { parameters := [(.array .int), .int], returnType := some (.array .int) }, accessFlags := 8, code := some k2c1 }
/-- com/example/quern/quern/core/DocumentSets -/
def k2 : Class := { plain "com/example/quern/quern/core/DocumentSets" (some 0) with
  accessFlags := 48
  interfaces := #[]
  cf := some (fileOf pool2 39 #[] #[{ accessFlags := 2, nameIndex := 5, descriptorIndex := 6, attributes := #[] }, { accessFlags := 8, nameIndex := 73, descriptorIndex := 55, attributes := #[] }] 48 2 #[] #[])
  fields := #[]
  methods := #[k2m0, k2m1]
  instanceTypes := #[]
  staticTypes := #[]
  resolved := Array.replicate 98 none
  statics := none }

def pool3 : Array CpInfo := pool [(1, u "java/lang/Cloneable"), (0, .class_ 1), (0, u "java/lang/Object"), (0, .class_ 3)] 3

/-- java/lang/Cloneable -/
def k3 : Class := { plain "java/lang/Cloneable" (some 0) with
  accessFlags := 1537
  interfaces := #[]
  cf := some (fileOf pool3 2 #[] #[] 1537 4 #[] #[])
  fields := #[]
  methods := #[]
  instanceTypes := #[]
  staticTypes := #[]
  resolved := Array.replicate 8 none
  statics := none }

def pool4 : Array CpInfo := pool [(1, u "java/io/Serializable"), (0, .class_ 1), (0, u "java/lang/Object"), (0, .class_ 3)] 3

/-- java/io/Serializable -/
def k4 : Class := { plain "java/io/Serializable" (some 0) with
  accessFlags := 1537
  interfaces := #[]
  cf := some (fileOf pool4 2 #[] #[] 1537 4 #[] #[])
  fields := #[]
  methods := #[]
  instanceTypes := #[]
  staticTypes := #[]
  resolved := Array.replicate 8 none
  statics := none }

/-- the primitive byte -/
def k5 : Class := { plain "byte" none with kind := .primitive 'B', accessFlags := 0x411 }
/-- [B -/
def k6 : Class := { plain "[B" (some 0) with kind := .array 5 .byte, interfaces := #[3, 4], accessFlags := 1041 }

/-- the primitive int -/
def k7 : Class := { plain "int" none with kind := .primitive 'I', accessFlags := 0x411 }
/-- [I -/
def k8 : Class := { plain "[I" (some 0) with kind := .array 7 .int, interfaces := #[3, 4], accessFlags := 1041 }

def heap : Heap := #[]
def classes : Array Class := #[k0, k1, k2, k3, k4, k5, k6, k7, k8]
def interned : List (Array UInt16 × Addr) := []
def slotsUsed : Nat := 0
def theMethod : MethodId := ⟨1, 1⟩
def args0 : Array Value := #[.int 5, .int 9]
def aboutOver (below : List Frame) : State where
  vm := { classes := classes, interned := interned.toArray }
  heap := heap
  slotsUsed := slotsUsed
  threads := #[{ frames := .invoking theMethod args0 :: below }]
def below0 : List Frame := [.native { method := ⟨0, 0⟩, args := #[] }]
def about1 : State := aboutOver below0
def p0 : Program := .bare "" "" ""
def e0 : Env := launch0.env 0 0 0
theorem w_frames : about1.frames = Frame.invoking theMethod args0 :: below0 := rfl
set_option maxRecDepth 65536 in
theorem w_args : argsFit about1.vm theMethod args0 = true := by decide +kernel
set_option maxRecDepth 65536 in
theorem w_heap : heapFits about1 = true := by decide +kernel
set_option maxRecDepth 65536 in
theorem w_runnable : about1.curStatus? = some .runnable := by decide +kernel
set_option maxRecDepth 65536 in
theorem w_alone : about1.alone = true := by decide +kernel
set_option maxRecDepth 65536 in
theorem w_named : about1.methodNamed? x = some theMethod := by decide +kernel
set_option maxRecDepth 65536 in
theorem w_hears : about1.hears theMethod below0 = true := by decide +kernel
set_option maxRecDepth 65536 in
theorem w_ripe : about1.ripe theMethod args0 below0 = true := by decide +kernel
theorem w_running : about1.status = .running := rfl
set_option maxRecDepth 65536 in
theorem w_room : about1.hasRoom e0.platform room_1 = true :=
  launch0.hasRoom_least _ room_1 (by decide +kernel) (by decide +kernel) (by decide +kernel) (by decide +kernel) (by decide +kernel) (by decide +kernel)
theorem allAtoms_all (ts : List Jvm.Cond) (a : Array Jvm.Value) (st : Jvm.State) : (allAtoms ts).before a st = ts.all (fun c => c.before a st) := by
  induction ts with
  | nil => rfl
  | cons c t ih =>
    show (Jvm.Cond.and c (allAtoms t)).before a st = _
    rw [Jvm.Cond.before_and, ih, List.all_cons]
def words1 : List Jvm.Cond := Jvm.Cond.code x code maxLocals ret :: tables_1
/-- a 'code' word, met by the world's own term for the bytes: nothing is compared byte by byte -/
theorem code_word {y : MethodName} {bytes : ByteArray} {mx : Nat} {rt : Option FieldType} {a : Array Value} {s : State} {m : MethodId} {meth : Method} {c : Code} (h1 : s.methodNamed? y = some m) (h2 : s.vm.method? m = some meth) (h3 : meth.code = some c) (h4 : c.code = bytes)
    (h5 : (c.maxLocals == mx && c.exceptionTable.isEmpty && decide (c.maxStack ≤ mostOperands) && decide (meth.sig.returnType = rt) && !meth.locks && decide (parseMethodDescriptor y.desc = some meth.sig)) = true) : (Jvm.Cond.code y bytes mx rt).before a s = true := by
  simp only [Bool.and_eq_true, beq_iff_eq, Bool.not_eq_true', decide_eq_true_eq] at h5
  obtain ⟨⟨⟨⟨⟨g1, g2⟩, g3⟩, g4⟩, g5⟩, g6⟩ := h5
  simp [Cond.before, Cond.holds, Cond.value, h1, h2, h3, h4, g1, g2, g3, g4, g5, g6]
def isCode : Jvm.Cond → Bool
  | .code _ _ _ _ => true
  | _ => false
theorem all_split {L : List Jvm.Cond} {P : Jvm.Cond → Bool} (h1 : L.all (fun c => isCode c || P c) = true) (h2 : ∀ c ∈ L.filter isCode, P c = true) : L.all P = true := by
  refine List.all_eq_true.mpr fun c hc => ?_
  have h := List.all_eq_true.mp h1 c hc
  rcases Bool.eq_false_or_eq_true (isCode c) with hi | hi
  · exact h2 c (List.mem_filter.mpr ⟨hc, hi⟩)
  · simpa [hi] using h
set_option maxRecDepth 65536 in
theorem w_c0 : (Jvm.Cond.code x code maxLocals ret).before args0 about1 = true := code_word (m := ⟨1, 1⟩) (meth := k1m1) (c := k1c1) (by decide +kernel) rfl rfl rfl (by decide +kernel)
set_option maxRecDepth 65536 in
theorem w_c1 : (Jvm.Cond.code ({ cls := "com/example/quern/quern/core/DocumentSetsComplementPinLaw", name := "members", desc := "(IIZ)[I" } : Jvm.MethodName) method_4_code (6 : Nat) (Option.some (Jvm.ClassFile.FieldType.array Jvm.ClassFile.FieldType.int))).before args0 about1 = true := code_word (m := ⟨1, 3⟩) (meth := k1m3) (c := k1c3) (by decide +kernel) rfl rfl rfl (by decide +kernel)
set_option maxRecDepth 65536 in
theorem w_c2 : (Jvm.Cond.code ({ cls := "com/example/quern/quern/core/DocumentSetsComplementPinLaw", name := "put", desc := "([IIIIZI)I" } : Jvm.MethodName) method_3_code (6 : Nat) (Option.some Jvm.ClassFile.FieldType.int)).before args0 about1 = true := code_word (m := ⟨1, 2⟩) (meth := k1m2) (c := k1c2) (by decide +kernel) rfl rfl rfl (by decide +kernel)
set_option maxRecDepth 65536 in
theorem w_c3 : (Jvm.Cond.code ({ cls := "com/example/quern/quern/core/DocumentSets", name := "complement", desc := "([II)[I" } : Jvm.MethodName) prog_8_method_7_code (6 : Nat) (Option.some (Jvm.ClassFile.FieldType.array Jvm.ClassFile.FieldType.int))).before args0 about1 = true := code_word (m := ⟨2, 1⟩) (meth := k2m1) (c := k2c1) (by decide +kernel) rfl rfl rfl (by decide +kernel)
set_option maxRecDepth 65536 in
theorem w_c4 : (Jvm.Cond.code ({ cls := "com/example/quern/quern/core/DocumentSetsComplementPinLaw", name := "same", desc := "([I[I)Z" } : Jvm.MethodName) method_6_code (2 : Nat) (Option.some Jvm.ClassFile.FieldType.boolean)).before args0 about1 = true := code_word (m := ⟨1, 5⟩) (meth := k1m5) (c := k1c5) (by decide +kernel) rfl rfl rfl (by decide +kernel)
set_option maxRecDepth 65536 in
theorem w_c5 : (Jvm.Cond.code ({ cls := "com/example/quern/quern/core/DocumentSetsComplementPinLaw", name := "at", desc := "([I[II)Z" } : Jvm.MethodName) method_5_code (3 : Nat) (Option.some Jvm.ClassFile.FieldType.boolean)).before args0 about1 = true := code_word (m := ⟨1, 4⟩) (meth := k1m4) (c := k1c4) (by decide +kernel) rfl rfl rfl (by decide +kernel)
def codes1 : List Jvm.Cond := [Jvm.Cond.code x code maxLocals ret, Jvm.Cond.code ({ cls := "com/example/quern/quern/core/DocumentSetsComplementPinLaw", name := "members", desc := "(IIZ)[I" } : Jvm.MethodName) method_4_code (6 : Nat) (Option.some (Jvm.ClassFile.FieldType.array Jvm.ClassFile.FieldType.int)), Jvm.Cond.code ({ cls := "com/example/quern/quern/core/DocumentSetsComplementPinLaw", name := "put", desc := "([IIIIZI)I" } : Jvm.MethodName) method_3_code (6 : Nat) (Option.some Jvm.ClassFile.FieldType.int), Jvm.Cond.code ({ cls := "com/example/quern/quern/core/DocumentSets", name := "complement", desc := "([II)[I" } : Jvm.MethodName) prog_8_method_7_code (6 : Nat) (Option.some (Jvm.ClassFile.FieldType.array Jvm.ClassFile.FieldType.int)), Jvm.Cond.code ({ cls := "com/example/quern/quern/core/DocumentSetsComplementPinLaw", name := "same", desc := "([I[I)Z" } : Jvm.MethodName) method_6_code (2 : Nat) (Option.some Jvm.ClassFile.FieldType.boolean), Jvm.Cond.code ({ cls := "com/example/quern/quern/core/DocumentSetsComplementPinLaw", name := "at", desc := "([I[II)Z" } : Jvm.MethodName) method_5_code (3 : Nat) (Option.some Jvm.ClassFile.FieldType.boolean)]
set_option maxRecDepth 65536 in
theorem codes_eq : words1.filter isCode = codes1 := rfl
theorem w_codes : ∀ c ∈ words1.filter isCode, c.before args0 about1 = true := by
  rw [codes_eq]
  intro c hc
  simp only [codes1, List.mem_cons, List.not_mem_nil, or_false] at hc
  rcases hc with rfl | rfl | rfl | rfl | rfl | rfl
  · exact w_c0
  · exact w_c1
  · exact w_c2
  · exact w_c3
  · exact w_c4
  · exact w_c5
set_option maxRecDepth 65536 in
theorem w_t1 : words1.all (fun c => isCode c || c.before args0 about1) = true := by decide +kernel
theorem w_tables : (allAtoms (Jvm.Cond.code x code maxLocals ret :: tables_1)).before args0 about1 = true := by
  rw [allAtoms_all]
  show words1.all (fun c => c.before args0 about1) = true
  refine all_split ?_ w_codes
  rw [w_t1]
set_option maxRecDepth 65536 in
theorem w_case : (Jvm.Cond.and given_1 narrow_1).before args0 about1 = true := by decide +kernel
theorem w_applies : (headSpec (Jvm.Cond.code x code maxLocals ret :: tables_1) room_1).applies x e0.platform about1 = true :=
  (Spec.applies_iff w_frames).mpr ⟨w_running, w_runnable, w_alone, w_named, w_hears, w_ripe, w_room, w_tables⟩
theorem atStart : AtStart classFile x code maxLocals ret World_1 tables_1 room_1 Calls_1 rest_1 Pre_1 launch0 p0 e0 about1 theMethod args0 below0 :=
  ⟨lists_1, trivial, launch0.admits_env _ _ _, launch0.least_env, fairChoices_fair.cas, fairChoices_fair.clock, w_frames, w_args, w_heap, w_applies, trivial, trivial, w_case⟩
end start1
theorem witness_1 : WitnessClaimed_1 := ⟨start1.p0, start1.e0, start1.about1, start1.theMethod, start1.args0, start1.below0, start1.atStart⟩
end Jvm.Pilot.@@N@@
