import JvmDerived
import JvmDerived.Pilot.@@N@@Statement
import JvmDerived.Pilot.@@N@@Code
set_option linter.unusedVariables false
set_option linter.unusedSimpArgs false
namespace Jvm.Pilot.@@N@@
open Jvm Jvm.ClassFile Sem Op Lib Jvm.Free Jvm.Stand Jvm.LawKit Jvm.RoadKit Bundle Jvm.Pilot.@@N@@.Jvm.D
section Own
variable {p : Program} {l : Launch} {e : Env} {R : Room} {s : State} {m : MethodId} {args : Array Value} {below : List Frame} {meth : Method} {c : Code} {T T' : State} {locs : List Loc} {cells slots C N : Nat} {Q : Option Value → Heap → List Loc → Prop} {g g' : JFrame}
/-- from T with the frame g on top the invocation of s comes to its end: it returns, and Q holds of what it returns, of the heap and of the places written -/
def Go (p : Program) (e : Env) (below : List Frame) (s : State) (C N : Nat) (Q : Option Value → Heap → List Loc → Prop) (T : State) (g : JFrame) : Prop :=
  ∃ s₂ o, Steps p.tables e below (T.setTop g) s₂ ∧ s₂.status = .running ∧ Ended s₂ below o ∧ ∃ v L, o = .returned v ∧ Q v s₂.heap L ∧ FrameEnd s o s₂ L C N
theorem Go.st (h : ∀ t, Steps p.tables e below (T'.setTop g') t → Steps p.tables e below (T.setTop g) t) (k : Go p e below s C N Q T' g') : Go p e below s C N Q T g := by
  obtain ⟨s2, o, h1, h2⟩ := k
  exact ⟨s2, o, h _ h1, h2⟩
theorem Go.enter (q : g = g') (k : Go p e below s C N Q T g') : ∃ s₂ o, Steps p.tables e below (T.setTop g) s₂ ∧ s₂.status = .running ∧ Ended s₂ below o ∧ ∃ v L, o = .returned v ∧ Q v s₂.heap L ∧ FrameEnd s o s₂ L C N := by
  subst q; exact k
theorem Go.fin (X : Stand p l e R s m args below meth c T locs cells slots) (hlk : meth.locks = false) {v : Option Value} (hv : meth.sig.returnType = none → v = none) (hC : cells ≤ C) (hN : slots ≤ N) (hq : Q v T.heap locs)
    (hs : ∀ fs, (∀ (f : JFrame) (acts : List Action), f.method = m → f.locked = none → f.entered = [] → (doReturn e (T.setTop f) acts v).1 = T.setFrames fs) → Steps p.tables e below (T.setTop g) (T.setFrames fs)) : Go p e below s C N Q T g := by
  obtain ⟨fs, hr, hrun, hended, hW, hsame⟩ := X.leave hv hlk
  exact ⟨_, _, hs fs hr, hrun, hended, _, _, rfl, hq, ⟨_, rfl⟩, hW, hsame.mono hC hN⟩
end Own
theorem own_selp {s : State} {args : Array Value} {y : MethodName} {n : Nat} (wi : (Cond.instantiable y.cls n).before args s = true) (wp : (Cond.privateMethod y).before args s = true) (hinst : (Cond.instanceMethod y).before args s = true) (hy : y.cls ≠ "java/lang/invoke/MethodHandle" ∧ y.cls ≠ "java/lang/invoke/VarHandle") : (Cond.selects y.cls y y).before args s = true := by
  obtain ⟨c, k, h1, h2, -, h4, -⟩ := Cond.instantiable_spec wi
  exact Jvm.Stand.selects_self_of_private h1 h2 (by simp only [Bool.or_eq_false_iff] at h4; exact h4.1) (Cond.privateMethod_at wp) hinst hy

section OwnG
variable {p : Program} {l : Launch} {e : Env} {R : Room} {s : State} {m : MethodId} {args : Array Value} {below : List Frame} {meth : Method} {c : Code} {T : State} {locs : List Loc} {cells slots C N : Nat} {Q : Option Value → Heap → List Loc → Prop} {pc pc' : Nat} {L L' : Array Slot} {S : List Value}
theorem G_iloadN (X : Stand p l e R s m args below meth c T locs cells slots) (hx : p.tables.exec = Jvm.exec) {k : Fin 4} {v : Int32} (hp : pc + 1 = pc') (hd : decode c.code pc = .ok (.iload_n k, 1)) (hl : L[k.val]? = some (.val (.int v))) (h : Go p e below s C N Q T (mkF m pc' L (.int v :: S))) : Go p e below s C N Q T (mkF m pc L S) := by
  subst hp; exact Go.st (fun _ k => XS.iloadN X.here hx rfl hd hl k) h
theorem G_iload (X : Stand p l e R s m args below meth c T locs cells slots) (hx : p.tables.exec = Jvm.exec) {k : Nat} {v : Int32} (hp : pc + 2 = pc') (hd : decode c.code pc = .ok (.iload k, 2)) (hl : L[k]? = some (.val (.int v))) (h : Go p e below s C N Q T (mkF m pc' L (.int v :: S))) : Go p e below s C N Q T (mkF m pc L S) := by
  subst hp; exact Go.st (fun _ k => XS.iload X.here hx rfl hd hl k) h
theorem G_istoreN (X : Stand p l e R s m args below meth c T locs cells slots) (hx : p.tables.exec = Jvm.exec) {k : Fin 4} {v : Int32} (hp : pc + 1 = pc') (hd : decode c.code pc = .ok (.istore_n k, 1)) (hl : storeLocals L k.val (.int v) = some L') (h : Go p e below s C N Q T (mkF m pc' L' S)) : Go p e below s C N Q T (mkF m pc L (.int v :: S)) := by
  subst hp; exact Go.st (fun _ k => XS.istoreN X.here hx rfl hd rfl hl k) h
theorem G_istore (X : Stand p l e R s m args below meth c T locs cells slots) (hx : p.tables.exec = Jvm.exec) {k : Nat} {v : Int32} (hp : pc + 2 = pc') (hd : decode c.code pc = .ok (.istore k, 2)) (hl : storeLocals L k (.int v) = some L') (h : Go p e below s C N Q T (mkF m pc' L' S)) : Go p e below s C N Q T (mkF m pc L (.int v :: S)) := by
  subst hp; exact Go.st (fun _ k => XS.istore X.here hx rfl hd rfl hl k) h
theorem G_lloadN (X : Stand p l e R s m args below meth c T locs cells slots) (hx : p.tables.exec = Jvm.exec) {k : Fin 4} {v : Int64} (hp : pc + 1 = pc') (hd : decode c.code pc = .ok (.lload_n k, 1)) (hl : L[k.val]? = some (.val (.long v))) (h : Go p e below s C N Q T (mkF m pc' L (.long v :: S))) : Go p e below s C N Q T (mkF m pc L S) := by
  subst hp; exact Go.st (fun _ k => XS.lloadN X.here hx rfl hd hl k) h
theorem G_lload (X : Stand p l e R s m args below meth c T locs cells slots) (hx : p.tables.exec = Jvm.exec) {k : Nat} {v : Int64} (hp : pc + 2 = pc') (hd : decode c.code pc = .ok (.lload k, 2)) (hl : L[k]? = some (.val (.long v))) (h : Go p e below s C N Q T (mkF m pc' L (.long v :: S))) : Go p e below s C N Q T (mkF m pc L S) := by
  subst hp; exact Go.st (fun _ k => XS.lload X.here hx rfl hd hl k) h
theorem G_lstoreN (X : Stand p l e R s m args below meth c T locs cells slots) (hx : p.tables.exec = Jvm.exec) {k : Fin 4} {v : Int64} (hp : pc + 1 = pc') (hd : decode c.code pc = .ok (.lstore_n k, 1)) (hl : storeLocals L k.val (.long v) = some L') (h : Go p e below s C N Q T (mkF m pc' L' S)) : Go p e below s C N Q T (mkF m pc L (.long v :: S)) := by
  subst hp; exact Go.st (fun _ k => XS.lstoreN X.here hx rfl hd rfl hl k) h
theorem G_lstore (X : Stand p l e R s m args below meth c T locs cells slots) (hx : p.tables.exec = Jvm.exec) {k : Nat} {v : Int64} (hp : pc + 2 = pc') (hd : decode c.code pc = .ok (.lstore k, 2)) (hl : storeLocals L k (.long v) = some L') (h : Go p e below s C N Q T (mkF m pc' L' S)) : Go p e below s C N Q T (mkF m pc L (.long v :: S)) := by
  subst hp; exact Go.st (fun _ k => XS.lstore X.here hx rfl hd rfl hl k) h
theorem G_aloadN (X : Stand p l e R s m args below meth c T locs cells slots) (hx : p.tables.exec = Jvm.exec) {k : Fin 4} {v : Value} (hp : pc + 1 = pc') (hd : decode c.code pc = .ok (.aload_n k, 1)) (hl : L[k.val]? = some (.val v)) (hv : v.isRef = true) (h : Go p e below s C N Q T (mkF m pc' L (v :: S))) : Go p e below s C N Q T (mkF m pc L S) := by
  subst hp; exact Go.st (fun _ k => XS.aloadN X.here hx rfl hd hl hv k) h
theorem G_aload (X : Stand p l e R s m args below meth c T locs cells slots) (hx : p.tables.exec = Jvm.exec) {k : Nat} {v : Value} (hp : pc + 2 = pc') (hd : decode c.code pc = .ok (.aload k, 2)) (hl : L[k]? = some (.val v)) (hv : v.isRef = true) (h : Go p e below s C N Q T (mkF m pc' L (v :: S))) : Go p e below s C N Q T (mkF m pc L S) := by
  subst hp; exact Go.st (fun _ k => XS.aload X.here hx rfl hd hl hv k) h
theorem G_astoreN (X : Stand p l e R s m args below meth c T locs cells slots) (hx : p.tables.exec = Jvm.exec) {k : Fin 4} {v : Value} (hp : pc + 1 = pc') (hd : decode c.code pc = .ok (.astore_n k, 1)) (hv : v.isRef = true) (hl : storeLocals L k.val v = some L') (h : Go p e below s C N Q T (mkF m pc' L' S)) : Go p e below s C N Q T (mkF m pc L (v :: S)) := by
  subst hp; exact Go.st (fun _ k => XS.astoreN X.here hx rfl hd rfl hv hl k) h
theorem G_astore (X : Stand p l e R s m args below meth c T locs cells slots) (hx : p.tables.exec = Jvm.exec) {k : Nat} {v : Value} (hp : pc + 2 = pc') (hd : decode c.code pc = .ok (.astore k, 2)) (hv : v.isRef = true) (hl : storeLocals L k v = some L') (h : Go p e below s C N Q T (mkF m pc' L' S)) : Go p e below s C N Q T (mkF m pc L (v :: S)) := by
  subst hp; exact Go.st (fun _ k => XS.astore X.here hx rfl hd rfl hv hl k) h
theorem G_iconst (X : Stand p l e R s m args below meth c T locs cells slots) (hx : p.tables.exec = Jvm.exec) {i : Int} {z : Int32} (hp : pc + 1 = pc') (hd : decode c.code pc = .ok (.iconst i, 1)) (hz : Int32.ofInt i = z) (h : Go p e below s C N Q T (mkF m pc' L (.int z :: S))) : Go p e below s C N Q T (mkF m pc L S) := by
  subst hp; exact Go.st (fun _ k => XS.iconst X.here hx rfl hd (by rw [hz]; exact k)) h
theorem G_bipush (X : Stand p l e R s m args below meth c T locs cells slots) (hx : p.tables.exec = Jvm.exec) {i : Int} {z : Int32} (hp : pc + 2 = pc') (hd : decode c.code pc = .ok (.bipush i, 2)) (hz : (Int8.ofInt i).toInt32 = z) (h : Go p e below s C N Q T (mkF m pc' L (.int z :: S))) : Go p e below s C N Q T (mkF m pc L S) := by
  subst hp; exact Go.st (fun _ k => XS.bipush X.here hx rfl hd (by rw [hz]; exact k)) h
theorem G_sipush (X : Stand p l e R s m args below meth c T locs cells slots) (hx : p.tables.exec = Jvm.exec) {i : Int} {z : Int32} (hp : pc + 3 = pc') (hd : decode c.code pc = .ok (.sipush i, 3)) (hz : (Int16.ofInt i).toInt32 = z) (h : Go p e below s C N Q T (mkF m pc' L (.int z :: S))) : Go p e below s C N Q T (mkF m pc L S) := by
  subst hp; exact Go.st (fun _ k => XS.sipush X.here hx rfl hd (by rw [hz]; exact k)) h
theorem G_lconst (X : Stand p l e R s m args below meth c T locs cells slots) (hx : p.tables.exec = Jvm.exec) {i : Fin 2} {z : Int64} (hp : pc + 1 = pc') (hd : decode c.code pc = .ok (.lconst i, 1)) (hz : Int64.ofNat i = z) (h : Go p e below s C N Q T (mkF m pc' L (.long z :: S))) : Go p e below s C N Q T (mkF m pc L S) := by
  subst hp; exact Go.st (fun _ k => XS.lconst X.here hx rfl hd (by rw [hz]; exact k)) h
theorem G_aconstNull (X : Stand p l e R s m args below meth c T locs cells slots) (hx : p.tables.exec = Jvm.exec)  (hp : pc + 1 = pc') (hd : decode c.code pc = .ok (.aconst_null, 1))  (h : Go p e below s C N Q T (mkF m pc' L (.null :: S))) : Go p e below s C N Q T (mkF m pc L S) := by
  subst hp; exact Go.st (fun _ k => XS.aconstNull X.here hx rfl hd k) h
theorem G_iadd (X : Stand p l e R s m args below meth c T locs cells slots) (hx : p.tables.exec = Jvm.exec) {x y : Int32} (hp : pc + 1 = pc') (hd : decode c.code pc = .ok (.iadd, 1))  (h : Go p e below s C N Q T (mkF m pc' L (.int (x + y) :: S))) : Go p e below s C N Q T (mkF m pc L (.int y :: .int x :: S)) := by
  subst hp; exact Go.st (fun _ k => XS.iadd X.here hx rfl hd rfl k) h
theorem G_isub (X : Stand p l e R s m args below meth c T locs cells slots) (hx : p.tables.exec = Jvm.exec) {x y : Int32} (hp : pc + 1 = pc') (hd : decode c.code pc = .ok (.isub, 1))  (h : Go p e below s C N Q T (mkF m pc' L (.int (x - y) :: S))) : Go p e below s C N Q T (mkF m pc L (.int y :: .int x :: S)) := by
  subst hp; exact Go.st (fun _ k => XS.isub X.here hx rfl hd rfl k) h
theorem G_imul (X : Stand p l e R s m args below meth c T locs cells slots) (hx : p.tables.exec = Jvm.exec) {x y : Int32} (hp : pc + 1 = pc') (hd : decode c.code pc = .ok (.imul, 1))  (h : Go p e below s C N Q T (mkF m pc' L (.int (x * y) :: S))) : Go p e below s C N Q T (mkF m pc L (.int y :: .int x :: S)) := by
  subst hp; exact Go.st (fun _ k => XS.imul X.here hx rfl hd rfl k) h
theorem G_iand (X : Stand p l e R s m args below meth c T locs cells slots) (hx : p.tables.exec = Jvm.exec) {x y : Int32} (hp : pc + 1 = pc') (hd : decode c.code pc = .ok (.iand, 1))  (h : Go p e below s C N Q T (mkF m pc' L (.int (x &&& y) :: S))) : Go p e below s C N Q T (mkF m pc L (.int y :: .int x :: S)) := by
  subst hp; exact Go.st (fun _ k => XS.iand X.here hx rfl hd rfl k) h
theorem G_ior (X : Stand p l e R s m args below meth c T locs cells slots) (hx : p.tables.exec = Jvm.exec) {x y : Int32} (hp : pc + 1 = pc') (hd : decode c.code pc = .ok (.ior, 1))  (h : Go p e below s C N Q T (mkF m pc' L (.int (x ||| y) :: S))) : Go p e below s C N Q T (mkF m pc L (.int y :: .int x :: S)) := by
  subst hp; exact Go.st (fun _ k => XS.ior X.here hx rfl hd rfl k) h
theorem G_ixor (X : Stand p l e R s m args below meth c T locs cells slots) (hx : p.tables.exec = Jvm.exec) {x y : Int32} (hp : pc + 1 = pc') (hd : decode c.code pc = .ok (.ixor, 1))  (h : Go p e below s C N Q T (mkF m pc' L (.int (x ^^^ y) :: S))) : Go p e below s C N Q T (mkF m pc L (.int y :: .int x :: S)) := by
  subst hp; exact Go.st (fun _ k => XS.ixor X.here hx rfl hd rfl k) h
theorem G_ishl (X : Stand p l e R s m args below meth c T locs cells slots) (hx : p.tables.exec = Jvm.exec) {x y : Int32} (hp : pc + 1 = pc') (hd : decode c.code pc = .ok (.ishl, 1))  (h : Go p e below s C N Q T (mkF m pc' L (.int (x <<< (y &&& 31)) :: S))) : Go p e below s C N Q T (mkF m pc L (.int y :: .int x :: S)) := by
  subst hp; exact Go.st (fun _ k => XS.ishl X.here hx rfl hd rfl k) h
theorem G_ishr (X : Stand p l e R s m args below meth c T locs cells slots) (hx : p.tables.exec = Jvm.exec) {x y : Int32} (hp : pc + 1 = pc') (hd : decode c.code pc = .ok (.ishr, 1))  (h : Go p e below s C N Q T (mkF m pc' L (.int (x >>> (y &&& 31)) :: S))) : Go p e below s C N Q T (mkF m pc L (.int y :: .int x :: S)) := by
  subst hp; exact Go.st (fun _ k => XS.ishr X.here hx rfl hd rfl k) h
theorem G_iushr (X : Stand p l e R s m args below meth c T locs cells slots) (hx : p.tables.exec = Jvm.exec) {x y : Int32} (hp : pc + 1 = pc') (hd : decode c.code pc = .ok (.iushr, 1))  (h : Go p e below s C N Q T (mkF m pc' L (.int ((x.toUInt32 >>> (y &&& 31).toUInt32).toInt32) :: S))) : Go p e below s C N Q T (mkF m pc L (.int y :: .int x :: S)) := by
  subst hp; exact Go.st (fun _ k => XS.iushr X.here hx rfl hd rfl k) h
theorem G_ladd (X : Stand p l e R s m args below meth c T locs cells slots) (hx : p.tables.exec = Jvm.exec) {x y : Int64} (hp : pc + 1 = pc') (hd : decode c.code pc = .ok (.ladd, 1))  (h : Go p e below s C N Q T (mkF m pc' L (.long (x + y) :: S))) : Go p e below s C N Q T (mkF m pc L (.long y :: .long x :: S)) := by
  subst hp; exact Go.st (fun _ k => XS.ladd X.here hx rfl hd rfl k) h
theorem G_lsub (X : Stand p l e R s m args below meth c T locs cells slots) (hx : p.tables.exec = Jvm.exec) {x y : Int64} (hp : pc + 1 = pc') (hd : decode c.code pc = .ok (.lsub, 1))  (h : Go p e below s C N Q T (mkF m pc' L (.long (x - y) :: S))) : Go p e below s C N Q T (mkF m pc L (.long y :: .long x :: S)) := by
  subst hp; exact Go.st (fun _ k => XS.lsub X.here hx rfl hd rfl k) h
theorem G_lmul (X : Stand p l e R s m args below meth c T locs cells slots) (hx : p.tables.exec = Jvm.exec) {x y : Int64} (hp : pc + 1 = pc') (hd : decode c.code pc = .ok (.lmul, 1))  (h : Go p e below s C N Q T (mkF m pc' L (.long (x * y) :: S))) : Go p e below s C N Q T (mkF m pc L (.long y :: .long x :: S)) := by
  subst hp; exact Go.st (fun _ k => XS.lmul X.here hx rfl hd rfl k) h
theorem G_land (X : Stand p l e R s m args below meth c T locs cells slots) (hx : p.tables.exec = Jvm.exec) {x y : Int64} (hp : pc + 1 = pc') (hd : decode c.code pc = .ok (.land, 1))  (h : Go p e below s C N Q T (mkF m pc' L (.long (x &&& y) :: S))) : Go p e below s C N Q T (mkF m pc L (.long y :: .long x :: S)) := by
  subst hp; exact Go.st (fun _ k => XS.land X.here hx rfl hd rfl k) h
theorem G_lor (X : Stand p l e R s m args below meth c T locs cells slots) (hx : p.tables.exec = Jvm.exec) {x y : Int64} (hp : pc + 1 = pc') (hd : decode c.code pc = .ok (.lor, 1))  (h : Go p e below s C N Q T (mkF m pc' L (.long (x ||| y) :: S))) : Go p e below s C N Q T (mkF m pc L (.long y :: .long x :: S)) := by
  subst hp; exact Go.st (fun _ k => XS.lor X.here hx rfl hd rfl k) h
theorem G_lxor (X : Stand p l e R s m args below meth c T locs cells slots) (hx : p.tables.exec = Jvm.exec) {x y : Int64} (hp : pc + 1 = pc') (hd : decode c.code pc = .ok (.lxor, 1))  (h : Go p e below s C N Q T (mkF m pc' L (.long (x ^^^ y) :: S))) : Go p e below s C N Q T (mkF m pc L (.long y :: .long x :: S)) := by
  subst hp; exact Go.st (fun _ k => XS.lxor X.here hx rfl hd rfl k) h
theorem G_lshl (X : Stand p l e R s m args below meth c T locs cells slots) (hx : p.tables.exec = Jvm.exec) {x : Int64} {y : Int32} (hp : pc + 1 = pc') (hd : decode c.code pc = .ok (.lshl, 1))  (h : Go p e below s C N Q T (mkF m pc' L (.long (x <<< (y &&& 0x3f).toInt64) :: S))) : Go p e below s C N Q T (mkF m pc L (.int y :: .long x :: S)) := by
  subst hp; exact Go.st (fun _ k => XS.lshl X.here hx rfl hd rfl k) h
theorem G_lshr (X : Stand p l e R s m args below meth c T locs cells slots) (hx : p.tables.exec = Jvm.exec) {x : Int64} {y : Int32} (hp : pc + 1 = pc') (hd : decode c.code pc = .ok (.lshr, 1))  (h : Go p e below s C N Q T (mkF m pc' L (.long (x >>> (y &&& 0x3f).toInt64) :: S))) : Go p e below s C N Q T (mkF m pc L (.int y :: .long x :: S)) := by
  subst hp; exact Go.st (fun _ k => XS.lshr X.here hx rfl hd rfl k) h
theorem G_lushr (X : Stand p l e R s m args below meth c T locs cells slots) (hx : p.tables.exec = Jvm.exec) {x : Int64} {y : Int32} (hp : pc + 1 = pc') (hd : decode c.code pc = .ok (.lushr, 1))  (h : Go p e below s C N Q T (mkF m pc' L (.long ((x.toUInt64 >>> (y &&& 0x3f).toInt64.toUInt64).toInt64) :: S))) : Go p e below s C N Q T (mkF m pc L (.int y :: .long x :: S)) := by
  subst hp; exact Go.st (fun _ k => XS.lushr X.here hx rfl hd rfl k) h
theorem G_idiv (X : Stand p l e R s m args below meth c T locs cells slots) (hx : p.tables.exec = Jvm.exec) {x y : Int32} (hp : pc + 1 = pc') (hd : decode c.code pc = .ok (.idiv, 1)) (hy : y ≠ 0) (h : Go p e below s C N Q T (mkF m pc' L (.int (x / y) :: S))) : Go p e below s C N Q T (mkF m pc L (.int y :: .int x :: S)) := by
  subst hp; exact Go.st (fun _ k => XS.idiv X.here hx rfl hd rfl hy k) h
theorem G_irem (X : Stand p l e R s m args below meth c T locs cells slots) (hx : p.tables.exec = Jvm.exec) {x y : Int32} (hp : pc + 1 = pc') (hd : decode c.code pc = .ok (.irem, 1)) (hy : y ≠ 0) (h : Go p e below s C N Q T (mkF m pc' L (.int (x % y) :: S))) : Go p e below s C N Q T (mkF m pc L (.int y :: .int x :: S)) := by
  subst hp; exact Go.st (fun _ k => iremM X hx rfl hd rfl hy k) h
theorem G_ldiv (X : Stand p l e R s m args below meth c T locs cells slots) (hx : p.tables.exec = Jvm.exec) {x y : Int64} (hp : pc + 1 = pc') (hd : decode c.code pc = .ok (.ldiv, 1)) (hy : y ≠ 0) (h : Go p e below s C N Q T (mkF m pc' L (.long (x / y) :: S))) : Go p e below s C N Q T (mkF m pc L (.long y :: .long x :: S)) := by
  subst hp; exact Go.st (fun _ k => XS.ldiv X.here hx rfl hd rfl hy k) h
theorem G_lrem (X : Stand p l e R s m args below meth c T locs cells slots) (hx : p.tables.exec = Jvm.exec) {x y : Int64} (hp : pc + 1 = pc') (hd : decode c.code pc = .ok (.lrem, 1)) (hy : y ≠ 0) (h : Go p e below s C N Q T (mkF m pc' L (.long (x % y) :: S))) : Go p e below s C N Q T (mkF m pc L (.long y :: .long x :: S)) := by
  subst hp; exact Go.st (fun _ k => XS.lrem X.here hx rfl hd rfl hy (by rw [lrem_mod]; exact k)) h
theorem G_ineg (X : Stand p l e R s m args below meth c T locs cells slots) (hx : p.tables.exec = Jvm.exec) {x : Int32} (hp : pc + 1 = pc') (hd : decode c.code pc = .ok (.ineg, 1))  (h : Go p e below s C N Q T (mkF m pc' L (.int (-x) :: S))) : Go p e below s C N Q T (mkF m pc L (.int x :: S)) := by
  subst hp; exact Go.st (fun _ k => XS.ineg X.here hx rfl hd rfl k) h
theorem G_lneg (X : Stand p l e R s m args below meth c T locs cells slots) (hx : p.tables.exec = Jvm.exec) {x : Int64} (hp : pc + 1 = pc') (hd : decode c.code pc = .ok (.lneg, 1))  (h : Go p e below s C N Q T (mkF m pc' L (.long (-x) :: S))) : Go p e below s C N Q T (mkF m pc L (.long x :: S)) := by
  subst hp; exact Go.st (fun _ k => XS.lneg X.here hx rfl hd rfl k) h
theorem G_i2l (X : Stand p l e R s m args below meth c T locs cells slots) (hx : p.tables.exec = Jvm.exec) {x : Int32} (hp : pc + 1 = pc') (hd : decode c.code pc = .ok (.i2l, 1))  (h : Go p e below s C N Q T (mkF m pc' L (.long (x.toInt64) :: S))) : Go p e below s C N Q T (mkF m pc L (.int x :: S)) := by
  subst hp; exact Go.st (fun _ k => XS.i2l X.here hx rfl hd rfl k) h
theorem G_l2i (X : Stand p l e R s m args below meth c T locs cells slots) (hx : p.tables.exec = Jvm.exec) {x : Int64} (hp : pc + 1 = pc') (hd : decode c.code pc = .ok (.l2i, 1))  (h : Go p e below s C N Q T (mkF m pc' L (.int (x.toInt32) :: S))) : Go p e below s C N Q T (mkF m pc L (.long x :: S)) := by
  subst hp; exact Go.st (fun _ k => XS.l2i X.here hx rfl hd rfl k) h
theorem G_i2b (X : Stand p l e R s m args below meth c T locs cells slots) (hx : p.tables.exec = Jvm.exec) {x : Int32} (hp : pc + 1 = pc') (hd : decode c.code pc = .ok (.i2b, 1))  (h : Go p e below s C N Q T (mkF m pc' L (.int (x.toInt8.toInt32) :: S))) : Go p e below s C N Q T (mkF m pc L (.int x :: S)) := by
  subst hp; exact Go.st (fun _ k => XS.i2b X.here hx rfl hd rfl k) h
theorem G_i2s (X : Stand p l e R s m args below meth c T locs cells slots) (hx : p.tables.exec = Jvm.exec) {x : Int32} (hp : pc + 1 = pc') (hd : decode c.code pc = .ok (.i2s, 1))  (h : Go p e below s C N Q T (mkF m pc' L (.int (x.toInt16.toInt32) :: S))) : Go p e below s C N Q T (mkF m pc L (.int x :: S)) := by
  subst hp; exact Go.st (fun _ k => XS.i2s X.here hx rfl hd rfl k) h
theorem G_i2c (X : Stand p l e R s m args below meth c T locs cells slots) (hx : p.tables.exec = Jvm.exec) {x : Int32} (hp : pc + 1 = pc') (hd : decode c.code pc = .ok (.i2c, 1))  (h : Go p e below s C N Q T (mkF m pc' L (.int (x.toUInt32.toUInt16.toUInt32.toInt32) :: S))) : Go p e below s C N Q T (mkF m pc L (.int x :: S)) := by
  subst hp; exact Go.st (fun _ k => XS.i2c X.here hx rfl hd rfl k) h
theorem G_lcmp (X : Stand p l e R s m args below meth c T locs cells slots) (hx : p.tables.exec = Jvm.exec) {x y : Int64} (hp : pc + 1 = pc') (hd : decode c.code pc = .ok (.lcmp, 1))  (h : Go p e below s C N Q T (mkF m pc' L (.int (lcmpW x y) :: S))) : Go p e below s C N Q T (mkF m pc L (.long y :: .long x :: S)) := by
  subst hp; exact Go.st (fun _ k => XS.lcmp X.here hx rfl hd rfl k) h
theorem G_iinc (X : Stand p l e R s m args below meth c T locs cells slots) (hx : p.tables.exec = Jvm.exec) {k : Nat} {cst : Int} {x z : Int32} (hp : pc + 3 = pc') (hd : decode c.code pc = .ok (.iinc k cst, 3)) (hl : L[k]? = some (.val (.int x))) (hz : x + Int32.ofInt cst = z) (hl' : storeLocals L k (.int z) = some L') (h : Go p e below s C N Q T (mkF m pc' L' S)) : Go p e below s C N Q T (mkF m pc L S) := by
  subst hp; exact Go.st (fun _ k => XS.iinc X.here hx rfl hd hl (by rw [hz]; exact hl') k) h
theorem G_dup (X : Stand p l e R s m args below meth c T locs cells slots) (hx : p.tables.exec = Jvm.exec) {x : Value} (hp : pc + 1 = pc') (hd : decode c.code pc = .ok (.dup, 1)) (hc : x.category = 1) (h : Go p e below s C N Q T (mkF m pc' L (x :: x :: S))) : Go p e below s C N Q T (mkF m pc L (x :: S)) := by
  subst hp; exact Go.st (fun _ k => XS.dup X.here hx rfl hd rfl hc k) h
theorem G_pop (X : Stand p l e R s m args below meth c T locs cells slots) (hx : p.tables.exec = Jvm.exec) {x : Value} (hp : pc + 1 = pc') (hd : decode c.code pc = .ok (.pop, 1)) (hc : x.category = 1) (h : Go p e below s C N Q T (mkF m pc' L S)) : Go p e below s C N Q T (mkF m pc L (x :: S)) := by
  subst hp; exact Go.st (fun _ k => XS.pop X.here hx rfl hd rfl hc k) h
theorem G_dupX1 (X : Stand p l e R s m args below meth c T locs cells slots) (hx : p.tables.exec = Jvm.exec) {x y : Value} (hp : pc + 1 = pc') (hd : decode c.code pc = .ok (.dup_x1, 1)) (hc : x.category = 1) (hc' : y.category = 1) (h : Go p e below s C N Q T (mkF m pc' L (x :: y :: x :: S))) : Go p e below s C N Q T (mkF m pc L (x :: y :: S)) := by
  subst hp; exact Go.st (fun _ k => XS.dupX1 X.here hx rfl hd rfl hc hc' k) h
theorem G_goto (X : Stand p l e R s m args below meth c T locs cells slots) (hx : p.tables.exec = Jvm.exec)  {o : Int} (hd : decode c.code pc = .ok (.goto o, 3))  (ho : 0 ≤ (pc : Int) + o) (hp : ((pc : Int) + o).toNat = pc') (h : Go p e below s C N Q T (mkF m pc' L S)) : Go p e below s C N Q T (mkF m pc L S) :=
  Go.st (fun _ k => XS.goto X.here hx rfl rfl hd ho hp k) h
theorem G_ifYes (X : Stand p l e R s m args below meth c T locs cells slots) (hx : p.tables.exec = Jvm.exec) {cd : ClassFile.Cond} {x : Int32} {o : Int} (hd : decode c.code pc = .ok (.ifCond cd o, 3)) (hc : ifCond.holds cd x = true) (ho : 0 ≤ (pc : Int) + o) (hp : ((pc : Int) + o).toNat = pc') (h : Go p e below s C N Q T (mkF m pc' L S)) : Go p e below s C N Q T (mkF m pc L (.int x :: S)) :=
  Go.st (fun _ k => XS.ifYes X.here hx rfl rfl hd rfl hc ho hp k) h
theorem G_icmpYes (X : Stand p l e R s m args below meth c T locs cells slots) (hx : p.tables.exec = Jvm.exec) {cd : ClassFile.Cond} {x y : Int32} {o : Int} (hd : decode c.code pc = .ok (.if_icmp cd o, 3)) (hc : if_icmp.holds cd x y = true) (ho : 0 ≤ (pc : Int) + o) (hp : ((pc : Int) + o).toNat = pc') (h : Go p e below s C N Q T (mkF m pc' L S)) : Go p e below s C N Q T (mkF m pc L (.int y :: .int x :: S)) :=
  Go.st (fun _ k => XS.icmpYes X.here hx rfl rfl hd rfl hc ho hp k) h
theorem G_ifnullYes (X : Stand p l e R s m args below meth c T locs cells slots) (hx : p.tables.exec = Jvm.exec)  {o : Int} (hd : decode c.code pc = .ok (.ifnull o, 3))  (ho : 0 ≤ (pc : Int) + o) (hp : ((pc : Int) + o).toNat = pc') (h : Go p e below s C N Q T (mkF m pc' L S)) : Go p e below s C N Q T (mkF m pc L (.null :: S)) :=
  Go.st (fun _ k => XS.ifnullYes X.here hx rfl rfl hd rfl ho hp k) h
theorem G_ifnonnullYes (X : Stand p l e R s m args below meth c T locs cells slots) (hx : p.tables.exec = Jvm.exec) {b : Addr} {o : Int} (hd : decode c.code pc = .ok (.ifnonnull o, 3))  (ho : 0 ≤ (pc : Int) + o) (hp : ((pc : Int) + o).toNat = pc') (h : Go p e below s C N Q T (mkF m pc' L S)) : Go p e below s C N Q T (mkF m pc L (.ref b :: S)) :=
  Go.st (fun _ k => XS.ifnonnullYes X.here hx rfl rfl hd rfl ho hp k) h
theorem G_ifNo (X : Stand p l e R s m args below meth c T locs cells slots) (hx : p.tables.exec = Jvm.exec) {cd : ClassFile.Cond} {x : Int32} {o : Int} (hp : pc + 3 = pc') (hd : decode c.code pc = .ok (.ifCond cd o, 3)) (hc : ifCond.holds cd x = false) (h : Go p e below s C N Q T (mkF m pc' L S)) : Go p e below s C N Q T (mkF m pc L (.int x :: S)) := by
  subst hp; exact Go.st (fun _ k => XS.ifNo X.here hx rfl hd rfl hc k) h
theorem G_icmpNo (X : Stand p l e R s m args below meth c T locs cells slots) (hx : p.tables.exec = Jvm.exec) {cd : ClassFile.Cond} {x y : Int32} {o : Int} (hp : pc + 3 = pc') (hd : decode c.code pc = .ok (.if_icmp cd o, 3)) (hc : if_icmp.holds cd x y = false) (h : Go p e below s C N Q T (mkF m pc' L S)) : Go p e below s C N Q T (mkF m pc L (.int y :: .int x :: S)) := by
  subst hp; exact Go.st (fun _ k => XS.icmpNo X.here hx rfl hd rfl hc k) h
theorem G_ifnullNo (X : Stand p l e R s m args below meth c T locs cells slots) (hx : p.tables.exec = Jvm.exec) {b : Addr} {o : Int} (hp : pc + 3 = pc') (hd : decode c.code pc = .ok (.ifnull o, 3))  (h : Go p e below s C N Q T (mkF m pc' L S)) : Go p e below s C N Q T (mkF m pc L (.ref b :: S)) := by
  subst hp; exact Go.st (fun _ k => XS.ifnullNo X.here hx rfl hd rfl k) h
theorem G_ifnonnullNo (X : Stand p l e R s m args below meth c T locs cells slots) (hx : p.tables.exec = Jvm.exec) {o : Int} (hp : pc + 3 = pc') (hd : decode c.code pc = .ok (.ifnonnull o, 3))  (h : Go p e below s C N Q T (mkF m pc' L S)) : Go p e below s C N Q T (mkF m pc L (.null :: S)) := by
  subst hp; exact Go.st (fun _ k => XS.ifnonnullNo X.here hx rfl hd rfl k) h
theorem G_ldc (X : Stand p l e R s m args below meth c T locs cells slots) (hx : p.tables.exec = Jvm.exec) (hp : pc + 2 = pc') {own : String} {index : Nat} {v : Int32} (hown : s.vm.findClass own = some m.cls) (hw : (Cond.constant own index v).before args s = true) (hd : decode c.code pc = .ok (.ldc index, 2)) (h : Go p e below s C N Q T (mkF m pc' L (.int v :: S))) : Go p e below s C N Q T (mkF m pc L S) := by
  subst hp; exact Go.st (X.ldcInt hx hown hw (g := mkF m pc L S) rfl hd) h
theorem G_ldc2 (X : Stand p l e R s m args below meth c T locs cells slots) (hx : p.tables.exec = Jvm.exec) (hp : pc + 3 = pc') {own : String} {index : Nat} {v : Int64} (hown : s.vm.findClass own = some m.cls) (hw : (Cond.constantLong own index v).before args s = true) (hd : decode c.code pc = .ok (.ldc2_w index, 3)) (h : Go p e below s C N Q T (mkF m pc' L (.long v :: S))) : Go p e below s C N Q T (mkF m pc L S) := by
  subst hp; exact Go.st (X.ldc2Long hx hown hw (g := mkF m pc L S) rfl hd) h
end OwnG

section OwnD
variable {p : Program} {l : Launch} {e : Env} {R : Room} {s : State} {m : MethodId} {args : Array Value} {below : List Frame} {meth : Method} {c : Code} {T : State} {locs : List Loc} {cells slots C N : Nat} {Q : Option Value → Heap → List Loc → Prop} {pc pc' : Nat} {L L' : Array Slot} {S : List Value}
theorem D_i2d {tb : Tables} [Ours tb] {e : Env} {below : List Frame} {T target : State} {m : MethodId} {c : Code} {g : JFrame} (h : At T m c below) (hx : tb.exec = Jvm.exec) (hg : g.method = m) {x : Int32} {rest : List Value} (hd : decode c.code g.pc = .ok (.i2d, 1)) (hs : g.stack = .int x :: rest) (hr : Steps tb e below (T.setTop { g with pc := g.pc + 1, stack := .double (FP.i2d x) :: rest }) target) : Steps tb e below (T.setTop g) target := by
  subst hg; jvm_step h [h.top, hx, hd, hs]; exact hr
theorem D_l2d {tb : Tables} [Ours tb] {e : Env} {below : List Frame} {T target : State} {m : MethodId} {c : Code} {g : JFrame} (h : At T m c below) (hx : tb.exec = Jvm.exec) (hg : g.method = m) {x : Int64} {rest : List Value} (hd : decode c.code g.pc = .ok (.l2d, 1)) (hs : g.stack = .long x :: rest) (hr : Steps tb e below (T.setTop { g with pc := g.pc + 1, stack := .double (FP.l2d x) :: rest }) target) : Steps tb e below (T.setTop g) target := by
  subst hg; jvm_step h [h.top, hx, hd, hs]; exact hr
theorem D_dcmpl {tb : Tables} [Ours tb] {e : Env} {below : List Frame} {T target : State} {m : MethodId} {c : Code} {g : JFrame} (h : At T m c below) (hx : tb.exec = Jvm.exec) (hg : g.method = m) {x y : UInt64} {rest : List Value} (hd : decode c.code g.pc = .ok (.dcmp .l, 1)) (hs : g.stack = .double y :: .double x :: rest) (hr : Steps tb e below (T.setTop { g with pc := g.pc + 1, stack := .int (cmpValue (FP.dcmp x y) .l) :: rest }) target) : Steps tb e below (T.setTop g) target := by
  subst hg; jvm_step h [h.top, hx, hd, hs]; exact hr
theorem D_dmul {x y : UInt64} (h : At T m c below) (hx : p.tables.exec = Jvm.exec) (hn : FP.dmul x y &&& 0x7fffffffffffffff ≤ 0x7ff0000000000000) (hd : decode c.code pc = .ok (.dmul, 1)) {target : State} (hr : Steps p.tables e below (T.setTop (mkF m (pc + 1) L (.double (FP.dmul x y) :: S))) target) : Steps p.tables e below (T.setTop (mkF m pc L (.double y :: .double x :: S))) target := by
  unfold mkF at *; jvm_step h [h.top, hx, hd, Op.dmul.at_number h.top hn]; exact hr
theorem D_ddiv {x y : UInt64} (h : At T m c below) (hx : p.tables.exec = Jvm.exec) (hn : FP.ddiv x y &&& 0x7fffffffffffffff ≤ 0x7ff0000000000000) (hd : decode c.code pc = .ok (.ddiv, 1)) {target : State} (hr : Steps p.tables e below (T.setTop (mkF m (pc + 1) L (.double (FP.ddiv x y) :: S))) target) : Steps p.tables e below (T.setTop (mkF m pc L (.double y :: .double x :: S))) target := by
  unfold mkF at *; jvm_step h [h.top, hx, hd, Op.ddiv.at_number h.top hn]; exact hr
theorem D_dadd {x y : UInt64} (h : At T m c below) (hx : p.tables.exec = Jvm.exec) (hn : FP.dadd x y &&& 0x7fffffffffffffff ≤ 0x7ff0000000000000) (hd : decode c.code pc = .ok (.dadd, 1)) {target : State} (hr : Steps p.tables e below (T.setTop (mkF m (pc + 1) L (.double (FP.dadd x y) :: S))) target) : Steps p.tables e below (T.setTop (mkF m pc L (.double y :: .double x :: S))) target := by
  unfold mkF at *; jvm_step h [h.top, hx, hd, Op.dadd.at_number h.top hn]; exact hr
theorem D_dload {k : Nat} {v : UInt64} (h : At T m c below) (hx : p.tables.exec = Jvm.exec) (hd : decode c.code pc = .ok (.dload k, 2)) (hl : L[k]? = some (.val (.double v))) {target : State} (hr : Steps p.tables e below (T.setTop (mkF m (pc + 2) L (.double v :: S))) target) : Steps p.tables e below (T.setTop (mkF m pc L S)) target := by
  unfold mkF at *; jvm_step h [h.top, hx, hd, hl]; exact hr
theorem D_dloadN {k : Fin 4} {v : UInt64} (h : At T m c below) (hx : p.tables.exec = Jvm.exec) (hd : decode c.code pc = .ok (.dload_n k, 1)) (hl : L[k.val]? = some (.val (.double v))) {target : State} (hr : Steps p.tables e below (T.setTop (mkF m (pc + 1) L (.double v :: S))) target) : Steps p.tables e below (T.setTop (mkF m pc L S)) target := by
  unfold mkF at *; jvm_step h [h.top, hx, hd, hl]; exact hr
theorem D_dstore {k : Nat} {v : UInt64} (h : At T m c below) (hx : p.tables.exec = Jvm.exec) (hd : decode c.code pc = .ok (.dstore k, 2)) (hl : storeLocals L k (.double v) = some L') {target : State} (hr : Steps p.tables e below (T.setTop (mkF m (pc + 2) L' S)) target) : Steps p.tables e below (T.setTop (mkF m pc L (.double v :: S))) target := by
  unfold mkF at *; jvm_step h [h.top, hx, hd, hl]; exact hr
theorem G_i2d (X : Stand p l e R s m args below meth c T locs cells slots) (hx : p.tables.exec = Jvm.exec) {x : Int32} (hp : pc + 1 = pc') (hd : decode c.code pc = .ok (.i2d, 1)) (h : Go p e below s C N Q T (mkF m pc' L (.double (FP.i2d x) :: S))) : Go p e below s C N Q T (mkF m pc L (.int x :: S)) := by
  subst hp; exact Go.st (fun _ k => D_i2d X.here hx rfl hd rfl k) h
theorem G_l2d (X : Stand p l e R s m args below meth c T locs cells slots) (hx : p.tables.exec = Jvm.exec) {x : Int64} (hp : pc + 1 = pc') (hd : decode c.code pc = .ok (.l2d, 1)) (h : Go p e below s C N Q T (mkF m pc' L (.double (FP.l2d x) :: S))) : Go p e below s C N Q T (mkF m pc L (.long x :: S)) := by
  subst hp; exact Go.st (fun _ k => D_l2d X.here hx rfl hd rfl k) h
theorem G_dcmpl (X : Stand p l e R s m args below meth c T locs cells slots) (hx : p.tables.exec = Jvm.exec) {x y : UInt64} (hp : pc + 1 = pc') (hd : decode c.code pc = .ok (.dcmp .l, 1)) (h : Go p e below s C N Q T (mkF m pc' L (.int (cmpValue (FP.dcmp x y) .l) :: S))) : Go p e below s C N Q T (mkF m pc L (.double y :: .double x :: S)) := by
  subst hp; exact Go.st (fun _ k => D_dcmpl X.here hx rfl hd rfl k) h
theorem G_dmul (X : Stand p l e R s m args below meth c T locs cells slots) (hx : p.tables.exec = Jvm.exec) {x y : UInt64} (hn : FP.dmul x y &&& 0x7fffffffffffffff ≤ 0x7ff0000000000000) (hp : pc + 1 = pc') (hd : decode c.code pc = .ok (.dmul, 1)) (h : Go p e below s C N Q T (mkF m pc' L (.double (FP.dmul x y) :: S))) : Go p e below s C N Q T (mkF m pc L (.double y :: .double x :: S)) := by
  subst hp; exact Go.st (fun _ k => D_dmul X.here hx hn hd k) h
theorem G_ddiv (X : Stand p l e R s m args below meth c T locs cells slots) (hx : p.tables.exec = Jvm.exec) {x y : UInt64} (hn : FP.ddiv x y &&& 0x7fffffffffffffff ≤ 0x7ff0000000000000) (hp : pc + 1 = pc') (hd : decode c.code pc = .ok (.ddiv, 1)) (h : Go p e below s C N Q T (mkF m pc' L (.double (FP.ddiv x y) :: S))) : Go p e below s C N Q T (mkF m pc L (.double y :: .double x :: S)) := by
  subst hp; exact Go.st (fun _ k => D_ddiv X.here hx hn hd k) h
theorem G_dadd (X : Stand p l e R s m args below meth c T locs cells slots) (hx : p.tables.exec = Jvm.exec) {x y : UInt64} (hn : FP.dadd x y &&& 0x7fffffffffffffff ≤ 0x7ff0000000000000) (hp : pc + 1 = pc') (hd : decode c.code pc = .ok (.dadd, 1)) (h : Go p e below s C N Q T (mkF m pc' L (.double (FP.dadd x y) :: S))) : Go p e below s C N Q T (mkF m pc L (.double y :: .double x :: S)) := by
  subst hp; exact Go.st (fun _ k => D_dadd X.here hx hn hd k) h
theorem G_dload (X : Stand p l e R s m args below meth c T locs cells slots) (hx : p.tables.exec = Jvm.exec) {k : Nat} {v : UInt64} (hp : pc + 2 = pc') (hd : decode c.code pc = .ok (.dload k, 2)) (hl : L[k]? = some (.val (.double v))) (h : Go p e below s C N Q T (mkF m pc' L (.double v :: S))) : Go p e below s C N Q T (mkF m pc L S) := by
  subst hp; exact Go.st (fun _ k => D_dload X.here hx hd hl k) h
theorem G_dloadN (X : Stand p l e R s m args below meth c T locs cells slots) (hx : p.tables.exec = Jvm.exec) {k : Fin 4} {v : UInt64} (hp : pc + 1 = pc') (hd : decode c.code pc = .ok (.dload_n k, 1)) (hl : L[k.val]? = some (.val (.double v))) (h : Go p e below s C N Q T (mkF m pc' L (.double v :: S))) : Go p e below s C N Q T (mkF m pc L S) := by
  subst hp; exact Go.st (fun _ k => D_dloadN X.here hx hd hl k) h
theorem G_dstore (X : Stand p l e R s m args below meth c T locs cells slots) (hx : p.tables.exec = Jvm.exec) {k : Nat} {v : UInt64} (hp : pc + 2 = pc') (hd : decode c.code pc = .ok (.dstore k, 2)) (hl : storeLocals L k (.double v) = some L') (h : Go p e below s C N Q T (mkF m pc' L' S)) : Go p e below s C N Q T (mkF m pc L (.double v :: S)) := by
  subst hp; exact Go.st (fun _ k => D_dstore X.here hx hd hl k) h
theorem G_ldc2D (X : Stand p l e R s m args below meth c T locs cells slots) (hx : p.tables.exec = Jvm.exec) (hp : pc + 3 = pc') {own : String} {index : Nat} {v : UInt64} (hown : s.vm.findClass own = some m.cls) (hw : (Cond.constantDouble own index v).before args s = true) (hd : decode c.code pc = .ok (.ldc2_w index, 3)) (h : Go p e below s C N Q T (mkF m pc' L (.double v :: S))) : Go p e below s C N Q T (mkF m pc L S) := by
  subst hp; exact Go.st (X.ldc2DoubleC hx hown hw (g := mkF m pc L S) rfl hd) h
end OwnD

section OwnF
open Jvm.FP Jvm.FP.Core Jvm.Free.Fl
theorem own_pw {c B : Nat} (P Q : Nat) (h : c * 2 ^ P = B * 2 ^ Q) : c * 2 ^ (P - Q) = B * 2 ^ (Q - P) := by
  rcases Nat.le_total P Q with w | w
  · obtain ⟨k, rfl⟩ := Nat.exists_eq_add_of_le w
    rw [Nat.sub_eq_zero_of_le (by omega), show P + k - P = k by omega]
    rw [Nat.pow_add, Nat.mul_comm (2 ^ P), ← Nat.mul_assoc] at h
    rw [Nat.pow_zero, Nat.mul_one]
    exact Nat.eq_of_mul_eq_mul_right (Nat.two_pow_pos P) h
  · obtain ⟨k, rfl⟩ := Nat.exists_eq_add_of_le w
    rw [Nat.sub_eq_zero_of_le (by omega : Q ≤ Q + k), show Q + k - Q = k by omega]
    rw [Nat.pow_add, Nat.mul_comm (2 ^ Q), ← Nat.mul_assoc] at h
    rw [Nat.pow_zero, Nat.mul_one]
    exact Nat.eq_of_mul_eq_mul_right (Nat.two_pow_pos Q) h
/-- the double a is the number A / 2^w -/
def own_R (a : UInt64) (A w : Nat) : Prop := ∃ c q, val64 a = .fin false c q ∧ -1074 ≤ q ∧ c * 2 ^ ((q + 1074).toNat + w) = A * 2 ^ 1074
theorem own_q64 : b64.qmin = -1074 := by decide
theorem own_qM : b64.qmax = 971 := by decide
theorem own_Rx {a : UInt64} {A u w : Nat} (hA : A < 2 ^ 53) (hu : u ≤ 900) (hw : w ≤ 1000) (h : val64 a = roundRatio b64 false A 1 ((u : Int) - w)) : own_R a (A * 2 ^ u) w := by
  obtain ⟨c, q, h1, h2⟩ := round_exact good_b64 false (c := A) (q := (u : Int) - w) hA (by rw [own_q64]; omega) (by rw [own_qM]; omega)
  have h3 : val64 a = .fin false c q := h.trans h1
  have h4 := h3 ▸ val64_fits a
  have h5 : b64.qmin ≤ q := h4.2.1
  rw [own_q64] at h5 h2
  refine ⟨c, q, h3, h5, ?_⟩
  unfold inUnits at h2
  rw [show q - -1074 = q + 1074 by omega] at h2
  rw [Nat.pow_add, ← Nat.mul_assoc, h2, Nat.mul_assoc, Nat.mul_assoc, ← Nat.pow_add, ← Nat.pow_add]
  congr 2
  omega
theorem own_Ri {v : Int32} {A : Nat} (h : v.toInt = A) : own_R (FP.i2d v) A 0 := by
  have b := Int32.toInt_lt v
  have := own_Rx (a := FP.i2d v) (A := A) (u := 0) (w := 0) (by omega) (by omega) (by omega) (by
    rw [show FP.i2d v = Core.i2d v from rfl, val64_i2d, h]; unfold ofInt round
    rw [show decide ((A : Int) < 0) = false from decide_eq_false (by omega)]; rfl)
  rwa [Nat.pow_zero, Nat.mul_one] at this
theorem own_Rl {v : Int64} {A u : Nat} (hA : A < 2 ^ 53) (hu : u ≤ 900) (h : v.toInt = ((A * 2 ^ u : Nat) : Int)) : own_R (FP.l2d v) (A * 2 ^ u) 0 := by
  refine own_Rx hA hu (by omega) ?_
  rw [show FP.l2d v = Core.l2d v from rfl, val64_l2d, h]; unfold ofInt round
  rw [show decide (((A * 2 ^ u : Nat) : Int) < 0) = false from decide_eq_false (by omega)]
  show roundRatio b64 false (A * 2 ^ u) 1 0 = _
  refine roundRatio_congr (by decide) (by decide) ?_
  rw [show (0 - ((u : Int) - ((0 : Nat) : Int))).toNat = 0 by omega, show (((u : Int) - ((0 : Nat) : Int)) - 0).toNat = u by omega]
  simp
/-- a quotient of two exact numbers is the rounding of any A' / 2^w' that it is -/
theorem own_div {a b : UInt64} {A B A' w w' u' v : Nat} (ha : own_R a A w) (hb : own_R b B v) (hB : 0 < B) (h : A * 2 ^ (v + w') = A' * B * 2 ^ (w + u')) : val64 (FP.ddiv a b) = roundRatio b64 false A' 1 ((u' : Int) - w') := by
  obtain ⟨c, q, h1, h2, h3⟩ := ha
  obtain ⟨d, r, k1, k2, k3⟩ := hb
  have hd : d ≠ 0 := by rintro rfl; rw [Nat.zero_mul] at k3; have := Nat.mul_pos hB (Nat.two_pow_pos 1074); omega
  rw [show FP.ddiv a b = Core.ddiv a b from rfl, val64_ddiv, h1, k1]
  show (if d = 0 then (if c = 0 then Datum.nan else .inf (false != false)) else roundRatio b64 (false != false) c d (q - r)) = _
  rw [if_neg hd]
  show roundRatio b64 false c d (q - r) = _
  refine roundRatio_congr (by omega) (by decide) ?_
  have e1 : q - r - ((u' : Int) - w') = (((q + 1074).toNat + w' : Nat) : Int) - ((r + 1074).toNat + u' : Nat) := by omega
  have e2 : ((u' : Int) - w') - (q - r) = (((r + 1074).toNat + u' : Nat) : Int) - ((q + 1074).toNat + w' : Nat) := by omega
  rw [e1, e2, Int.toNat_sub, Int.toNat_sub, Nat.mul_one]
  refine own_pw _ _ ?_
  generalize (q + 1074).toNat = x at *
  generalize (r + 1074).toNat = y at *
  have hz := Nat.two_pow_pos 1074
  clear hd
  generalize 2 ^ 1074 = z at h3 k3 hz
  have P := Nat.mul_pos (Nat.two_pow_pos (w + v)) hz
  refine Nat.eq_of_mul_eq_mul_right P ?_
  have g1 : c * 2 ^ (x + w') * (2 ^ (w + v) * z) = (c * 2 ^ (x + w)) * (2 ^ (v + w') * z) := by simp only [Nat.pow_add]; ac_rfl
  have g2 : A' * d * 2 ^ (y + u') * (2 ^ (w + v) * z) = A' * (d * 2 ^ (y + v)) * (2 ^ (w + u') * z) := by simp only [Nat.pow_add]; ac_rfl
  rw [g1, g2, h3, k3]
  have g3 : A * z * (2 ^ (v + w') * z) = (A * 2 ^ (v + w')) * (z * z) := by ac_rfl
  have g4 : A' * (B * z) * (2 ^ (w + u') * z) = (A' * B * 2 ^ (w + u')) * (z * z) := by ac_rfl
  rw [g3, g4, h]
theorem own_mul {a b : UInt64} {A B w v : Nat} (ha : own_R a A w) (hb : own_R b B v) : val64 (FP.dmul a b) = roundRatio b64 false (A * B) 1 (((0 : Nat) : Int) - ((w + v : Nat) : Int)) := by
  obtain ⟨c, q, h1, h2, h3⟩ := ha
  obtain ⟨d, r, k1, k2, k3⟩ := hb
  rw [show FP.dmul a b = Core.dmul a b from rfl, val64_dmul, h1, k1]
  show roundRatio b64 false (c * d) 1 (q + r) = _
  refine roundRatio_congr (by decide) (by decide) ?_
  have e1 : q + r - (((0 : Nat) : Int) - ((w + v : Nat) : Int)) = (((q + 1074).toNat + (r + 1074).toNat + (w + v) : Nat) : Int) - (2148 : Nat) := by omega
  have e2 : (((0 : Nat) : Int) - ((w + v : Nat) : Int)) - (q + r) = ((2148 : Nat) : Int) - ((q + 1074).toNat + (r + 1074).toNat + (w + v) : Nat) := by omega
  rw [e1, e2, Int.toNat_sub, Int.toNat_sub, Nat.mul_one, Nat.mul_one]
  refine own_pw _ _ ?_
  generalize (q + 1074).toNat = x at *
  generalize (r + 1074).toNat = y at *
  have g1 : c * d * 2 ^ (x + y + (w + v)) = (c * 2 ^ (x + w)) * (d * 2 ^ (y + v)) := by simp only [Nat.pow_add]; ac_rfl
  rw [g1, h3, k3, show (2148 : Nat) = 1074 + 1074 from rfl, Nat.pow_add]
  generalize 2 ^ 1074 = z
  ac_rfl
theorem own_add {a b : UInt64} {A B w : Nat} (ha : own_R a A w) (hb : own_R b B w) : val64 (FP.dadd a b) = roundRatio b64 false (A + B) 1 (((0 : Nat) : Int) - (w : Int)) := by
  obtain ⟨c, q, h1, h2, h3⟩ := ha
  obtain ⟨d, r, k1, k2, k3⟩ := hb
  rw [show FP.dadd a b = Core.dadd a b from rfl, val64_dadd, h1, k1]
  obtain ⟨x, hx⟩ : ∃ x : Nat, min q r = (x : Int) - 1074 := ⟨(min q r + 1074).toNat, by omega⟩
  have hs : sumUnits false c q false d r (min q r) = ((inUnits c q (min q r) + inUnits d r (min q r) : Nat) : Int) := by unfold sumUnits signed; simp
  have hg : sumSign false false (sumUnits false c q false d r (min q r)) = false := by
    rw [hs]; unfold sumSign; split
    · rfl
    · exact decide_eq_false (by omega)
  show roundRatio b64 (sumSign false false (sumUnits false c q false d r (min q r))) (sumUnits false c q false d r (min q r)).natAbs 1 (min q r) = _
  rw [hg, hs, Int.natAbs_natCast]
  refine roundRatio_congr (by decide) (by decide) ?_
  have e1 : min q r - (((0 : Nat) : Int) - (w : Int)) = ((x + w : Nat) : Int) - (1074 : Nat) := by omega
  have e2 : (((0 : Nat) : Int) - (w : Int)) - min q r = ((1074 : Nat) : Int) - (x + w : Nat) := by omega
  rw [e1, e2, Int.toNat_sub, Int.toNat_sub, Nat.mul_one, Nat.mul_one]
  refine own_pw _ _ ?_
  have j1 : inUnits c q (min q r) * 2 ^ (x + w) = A * 2 ^ 1074 := by
    rw [← h3]; unfold inUnits; rw [Nat.mul_assoc, ← Nat.pow_add]; congr 2; omega
  have j2 : inUnits d r (min q r) * 2 ^ (x + w) = B * 2 ^ 1074 := by
    rw [← k3]; unfold inUnits; rw [Nat.mul_assoc, ← Nat.pow_add]; congr 2; omega
  rw [Nat.add_mul, Nat.add_mul, j1, j2]
theorem own_nz {a : UInt64} {A : Nat} {e : Int} (hA : 0 < A) (he : -1074 ≤ e) (h : val64 a = roundRatio b64 false A 1 e) : ¬ DZero a := by
  rw [zero_bits2, ← mag_toNat64]
  have := mag_ge good_b64 (n := a.toNat) (m := 1) h (by decide) (e0 := b64.qmin) (Int.le_refl _) (by rw [own_q64]; exact he) (by decide) (by
    rw [show unitsOf b64 1 = 1 by decide, Int.sub_self]
    unfold inUnits
    have := Nat.mul_pos hA (Nat.two_pow_pos (e - b64.qmin).toNat)
    show 1 ≤ _
    exact this)
  omega
theorem own_nn {a : UInt64} {A B : Nat} {e : Int} (h : val64 a = roundRatio b64 false A B e) : NoNaN64 a :=
  noNaN64_no.mpr ((notNaN_iff a).mpr (h ▸ roundRatio_ne_nan _ _ _ _ _))
end OwnF

section OwnF2
open Jvm.FP Jvm.FP.Core Jvm.Free.Fl
theorem own_Rup {a : UInt64} {A w : Nat} (v : Nat) (h : own_R a A w) : own_R a (A * 2 ^ v) (w + v) := by
  obtain ⟨c, q, h1, h2, h3⟩ := h
  refine ⟨c, q, h1, h2, ?_⟩
  rw [← Nat.add_assoc, Nat.pow_add, ← Nat.mul_assoc, h3]
  generalize 2 ^ 1074 = z
  ac_rfl
theorem own_Rfin {a : UInt64} {A w : Nat} (h : own_R a A w) : DFin a := by
  obtain ⟨c, q, h1, -⟩ := h; exact ⟨_, _, _, h1⟩
theorem own_k75 : own_R 4604930618986332160 3 2 := ⟨3 * 2 ^ 51, -53, by decide +kernel, by decide, by decide +kernel⟩
theorem own_k12 : own_R 4608083138725491507 5404319552844595 52 := ⟨5404319552844595, -52, by decide +kernel, by decide, by decide +kernel⟩
theorem own_kq25 (k : Nat) : own_R 4598175219545276416 (2 ^ k) (k + 2) := by
  have := own_Rup k (show own_R 4598175219545276416 1 2 from ⟨2 ^ 52, -54, by decide +kernel, by decide, by decide +kernel⟩)
  rwa [Nat.one_mul, Nat.add_comm 2 k] at this
theorem own_awg {j : Int32} (h0 : 0 ≤ j.toInt) (h1 : j.toInt < 32) : ((1 : Int64) <<< (j &&& 0x3f).toInt64).toInt = ((2 ^ j.toInt.toNat : Nat) : Int) := by
  have e : j = Int32.ofNat j.toInt.toNat := by
    apply Int32.toInt_inj.mp
    rw [Int32.toInt_ofNat_of_lt (by omega)]; omega
  have D : ∀ k : Fin 32, ((1 : Int64) <<< (Int32.ofNat k.val &&& 0x3f).toInt64).toInt = ((2 ^ k.val : Nat) : Int) := by decide +kernel
  have := D ⟨j.toInt.toNat, by omega⟩
  rw [← e] at this
  exact this
theorem own_d0 (x : Int32) : 1 ≤ ((x &&& (1073741823 : Int32)) + (1 : Int32)).toInt ∧ ((x &&& (1073741823 : Int32)) + (1 : Int32)).toInt ≤ 1073741824 := by
  have h := c_mask x 1073741823 30 (by decide) (by decide)
  rw [Int32.toInt_add, h, show (1 : Int32).toInt = 1 from rfl, Int.bmod_eq_of_le (by omega) (by omega)]
  omega
theorem own_j0 (x : Int32) : 0 ≤ (x &&& (31 : Int32)).toInt ∧ (x &&& (31 : Int32)).toInt < 32 := by
  have h := c_mask x 31 5 (by decide) (by decide)
  omega
theorem own_x0 (x : Int32) : 0 ≤ (x &&& (2147483647 : Int32)).toInt := by
  have h := c_mask x 2147483647 31 (by decide) (by decide)
  omega
theorem own_k2 {k : Nat} (h : k < 32) : 2 ^ k ≤ 2147483648 := Nat.pow_le_pow_right (n := 2) (by decide) (show k ≤ 31 by omega)
theorem own_tot {d : Int32} {aa : Int64} {k : Nat} (h1 : 1 ≤ d.toInt) (h2 : d.toInt ≤ 1073741824) (hk : k < 32) (ha : aa.toInt = ((2 ^ k : Nat) : Int)) : (d.toInt64 * aa).toInt = ((d.toInt.toNat * 2 ^ k : Nat) : Int) := by
  have b := own_k2 hk
  have p := Nat.two_pow_pos k
  generalize 2 ^ k = z at *
  have e : d.toInt = (d.toInt.toNat : Int) := by omega
  generalize d.toInt.toNat = D at *
  rw [Int64.toInt_mul, Int32.toInt_toInt64, ha, e, Int.natCast_mul]
  have q : D * z ≤ 1073741824 * 2147483648 := Nat.mul_le_mul (by omega) b
  rw [← Int.natCast_mul]
  exact Int.bmod_eq_of_le (by omega) (by omega)
theorem own_num {x : Int32} {aa : Int64} {k : Nat} (h1 : 0 ≤ x.toInt) (hk : k < 32) (ha : aa.toInt = ((2 ^ k : Nat) : Int)) : ((3 : Int64) * x.toInt64 + aa).toInt = (((3 * x.toInt.toNat + 2 ^ k) * 2 ^ 0 : Nat) : Int) := by
  have b := own_k2 hk
  have c := Int32.toInt_lt x
  generalize 2 ^ k = z at *
  rw [Int64.toInt_add, Int64.toInt_mul, Int32.toInt_toInt64, ha, show (3 : Int64).toInt = 3 from rfl, Int.bmod_eq_of_le (n := 3 * x.toInt) (by omega) (by omega), Int.bmod_eq_of_le (by omega) (by omega)]
  omega
theorem own_den {aa : Int64} {k : Nat} (hk : k < 32) (ha : aa.toInt = ((2 ^ k : Nat) : Int)) : ((4 : Int64) * aa).toInt = ((4 * 2 ^ k : Nat) : Int) := by
  have b := own_k2 hk
  generalize 2 ^ k = z at *
  rw [Int64.toInt_mul, ha, show (4 : Int64).toInt = 4 from rfl, Int.bmod_eq_of_le (by omega) (by omega)]
  omega
theorem own_av {d : Int32} {aa : Int64} {k : Nat} (h1 : 1 ≤ d.toInt) (h2 : d.toInt ≤ 1073741824) (hk : k < 32) (ha : aa.toInt = ((2 ^ k : Nat) : Int)) : own_R (FP.ddiv (FP.l2d (d.toInt64 * aa)) (FP.i2d d)) (2 ^ k) 0 := by
  have e : d.toInt = (d.toInt.toNat : Int) := by omega
  have := own_Rx (u := k) (w := 0) (A := 1) (by decide) (by omega) (by omega) (own_div (A' := 1) (w' := 0) (u' := k) (own_Rl (by omega) (by omega) (own_tot h1 h2 hk ha)) (own_Ri e) (by omega) (by simp only [Nat.add_zero, Nat.zero_add, Nat.pow_zero, Nat.mul_one, Nat.one_mul]))
  rwa [Nat.one_mul] at this
theorem own_r {x : Int32} {aa : Int64} {k : Nat} (h1 : 0 ≤ x.toInt) (hk : k < 32) (ha : aa.toInt = ((2 ^ k : Nat) : Int)) : val64 (FP.ddiv (FP.l2d ((3 : Int64) * x.toInt64 + aa)) (FP.l2d ((4 : Int64) * aa))) = roundRatio b64 false (3 * x.toInt.toNat + 2 ^ k) 1 (((0 : Nat) : Int) - ((k + 2 : Nat) : Int)) := by
  have b := own_k2 hk
  have c := Int32.toInt_lt x
  have p := Nat.two_pow_pos k
  refine own_div (own_Rl (by omega) (by omega) (own_num h1 hk ha)) (own_Rl (by decide) (by omega) (own_den hk ha)) (by omega) ?_
  simp only [Nat.add_zero, Nat.zero_add, Nat.pow_zero, Nat.mul_one, Nat.pow_add]
  rw [Nat.mul_comm 4]
theorem own_t {x : Int32} {av : UInt64} {k : Nat} (h1 : 0 ≤ x.toInt) (hk : k < 32) (ha : own_R av (2 ^ k) 0) : own_R (FP.dmul 4604930618986332160 (FP.i2d x)) (3 * x.toInt.toNat) 2 ∧ own_R (FP.ddiv (FP.dmul 4604930618986332160 (FP.i2d x)) av) (3 * x.toInt.toNat) (k + 2) ∧ val64 (FP.dadd 4598175219545276416 (FP.ddiv (FP.dmul 4604930618986332160 (FP.i2d x)) av)) = roundRatio b64 false (3 * x.toInt.toNat + 2 ^ k) 1 (((0 : Nat) : Int) - ((k + 2 : Nat) : Int)) := by
  have c := Int32.toInt_lt x
  have p := Nat.two_pow_pos k
  have e : x.toInt = (x.toInt.toNat : Int) := by omega
  have a1 := own_Rx (u := 0) (by omega) (by omega) (by omega) (own_mul own_k75 (own_Ri e))
  rw [Nat.pow_zero, Nat.mul_one, Nat.add_zero] at a1
  have a2 := own_Rx (u := 0) (w := k + 2) (A := 3 * x.toInt.toNat) (by omega) (by omega) (by omega) (own_div a1 ha p (by simp only [Nat.add_zero, Nat.zero_add, Nat.pow_zero, Nat.mul_one, Nat.pow_add]; ac_rfl))
  rw [Nat.pow_zero, Nat.mul_one] at a2
  have a3 := own_add (own_kq25 k) a2
  rw [Nat.add_comm] at a3
  exact ⟨a1, a2, a3⟩
/-- the length term, computed both ways -/
theorem own_eq {x : Int32} {aa : Int64} {av : UInt64} {k : Nat} (h1 : 0 ≤ x.toInt) (hk : k < 32) (ha : aa.toInt = ((2 ^ k : Nat) : Int)) (hv : own_R av (2 ^ k) 0) : FP.dadd 4598175219545276416 (FP.ddiv (FP.dmul 4604930618986332160 (FP.i2d x)) av) = FP.ddiv (FP.l2d ((3 : Int64) * x.toInt64 + aa)) (FP.l2d ((4 : Int64) * aa)) := by
  have e := (own_t h1 hk hv).2.2
  exact val64_inj (e ▸ roundRatio_ne_nan _ _ _ _ _) (e.trans (own_r h1 hk ha).symm)
theorem own_fin {a : UInt64} {K : Nat} (h : a.toNat % 2 ^ 63 < K * 2 ^ 52) (hK : K ≤ 2047) : Fin64 a := fin64_core.mpr (fin_of_lt h hK)
theorem own_p1 (i f : Int32) : NoNaN64 (FP.dmul (FP.i2d i) (FP.i2d f)) ∧ NoNaN64 (FP.dmul (FP.dmul (FP.i2d i) (FP.i2d f)) 4612136378390124954) :=
  ⟨dmul_out (Free.Fl.i2d_fin i) (Free.Fl.i2d_fin f), dmul_out (own_fin (Core.dmul_mag (Core.i2d_mag i) (Core.i2d_mag f) (by decide) (by decide)) (by decide)) (show (4612136378390124954 : UInt64) &&& 0x7fffffffffffffff < 0x7ff0000000000000 by decide)⟩
theorem own_p2 {x f : Int32} {aa : Int64} {k : Nat} (h1 : 0 ≤ x.toInt) (hf : 0 ≤ f.toInt) (hk : k < 32) (ha : aa.toInt = ((2 ^ k : Nat) : Int)) {r : UInt64} (hr : r = FP.ddiv (FP.l2d ((3 : Int64) * x.toInt64 + aa)) (FP.l2d ((4 : Int64) * aa))) :
    NoNaN64 r ∧ NoNaN64 (FP.dmul 4608083138725491507 r) ∧ NoNaN64 (FP.dadd (FP.i2d f) (FP.dmul 4608083138725491507 r)) ∧ ∀ a, NoNaN64 a → NoNaN64 (FP.ddiv a (FP.dadd (FP.i2d f) (FP.dmul 4608083138725491507 r))) := by
  have v := hr ▸ own_r h1 hk ha
  have b := own_k2 hk
  have c := Int32.toInt_lt x
  have p := Nat.two_pow_pos k
  have d4 : ((4 : Int64) * aa).toInt ≠ 0 := by rw [own_den hk ha]; omega
  have m1 : r.toNat % 2 ^ 63 < 1089 * 2 ^ 52 := by
    have := Core.ddiv_mag (Core.l2d_mag ((3 : Int64) * x.toInt64 + aa)) (Core.l2d_big d4).1 (Core.l2d_big d4).2 (by decide) (by decide)
    rw [hr]; exact this
  have m2 : (FP.dmul 4608083138725491507 r).toNat % 2 ^ 63 < 1091 * 2 ^ 52 := by
    have := Core.dmul_mag (a := 4608083138725491507) (Ka := 1024) (Kb := 1089) (by decide) m1 (by decide) (by decide)
    exact this
  have m3 : (FP.dadd (FP.i2d f) (FP.dmul 4608083138725491507 r)).toNat % 2 ^ 63 < 1093 * 2 ^ 52 := by
    have := Core.dadd_mag (K := 1091) (Nat.lt_trans (Core.i2d_mag f) (by decide)) m2 (by decide)
    exact this
  have f2 := own_fin m2 (by decide)
  have f3 := own_fin m3 (by decide)
  refine ⟨own_nn v, f2.noNaN, f3.noNaN, fun a hA => ddiv_out hA f3 (nz64_core.mpr ?_)⟩
  have R := own_Rx (u := 0) (by omega) (by omega) (by omega) v
  have v2 := own_mul own_k12 R
  have z2 := own_nz (Nat.mul_pos (by decide) (Nat.mul_pos (by omega) (Nat.two_pow_pos 0))) (by omega) v2
  obtain ⟨s2, c2, q2, w2⟩ := fin64_core.mp f2
  have s0 : s2 = false := by
    have := sgn_roundRatio b64 false (5404319552844595 * ((3 * x.toInt.toNat + 2 ^ k) * 2 ^ 0)) 1 (((0 : Nat) : Int) - ((52 + (k + 2) : Nat) : Int))
    rw [← v2, w2] at this; exact this
  subst s0
  have q0 : b64.qmin ≤ q2 := (w2 ▸ val64_fits _ : Core.fits b64 (.fin false c2 q2)).2.1
  rw [own_q64] at q0
  have c0 : c2 ≠ 0 := by rintro rfl; exact z2 ⟨_, _, w2⟩
  have R2 : own_R (FP.dmul 4608083138725491507 r) (c2 * 2 ^ (q2 + 1074).toNat) 1074 := ⟨c2, q2, w2, q0, by rw [Nat.pow_add, Nat.mul_assoc]⟩
  have R1 := own_Rup 1074 (own_Ri (v := f) (A := f.toInt.toNat) (by omega))
  rw [Nat.zero_add] at R1
  refine own_nz ?_ (by omega) (own_add R1 R2)
  have := Nat.mul_pos (Nat.pos_of_ne_zero c0) (Nat.two_pow_pos (q2 + 1074).toNat)
  exact Nat.lt_of_lt_of_le this (Nat.le_add_left _ _)
theorem own_cmp {a : UInt64} (h : NoNaN64 a) : cmpValue (FP.dcmp a a) .l = 0 := by
  rw [show FP.dcmp a a = some .eq from Core.dcmp_self (val64_no.mp h)]; rfl
end OwnF2

open Jvm.Free.Fl (NoNaN64)
theorem d_binit_0 : decode prog_6_method_1_code 0 = .ok (.aload_n 0, 1) := by decide +kernel
theorem d_binit_1 : decode prog_6_method_1_code 1 = .ok (.invokespecial 1, 3) := by decide +kernel
theorem d_binit_4 : decode prog_6_method_1_code 4 = .ok (.aload_n 0, 1) := by decide +kernel
theorem d_binit_5 : decode prog_6_method_1_code 5 = .ok (.iload_n 1, 1) := by decide +kernel
theorem d_binit_6 : decode prog_6_method_1_code 6 = .ok (.putfield 7, 3) := by decide +kernel
theorem d_binit_9 : decode prog_6_method_1_code 9 = .ok (.aload_n 0, 1) := by decide +kernel
theorem d_binit_10 : decode prog_6_method_1_code 10 = .ok (.lload_n 2, 1) := by decide +kernel
theorem d_binit_11 : decode prog_6_method_1_code 11 = .ok (.l2d, 1) := by decide +kernel
theorem d_binit_12 : decode prog_6_method_1_code 12 = .ok (.iload_n 1, 1) := by decide +kernel
theorem d_binit_13 : decode prog_6_method_1_code 13 = .ok (.i2d, 1) := by decide +kernel
theorem d_binit_14 : decode prog_6_method_1_code 14 = .ok (.ddiv, 1) := by decide +kernel
theorem d_binit_15 : decode prog_6_method_1_code 15 = .ok (.putfield 13, 3) := by decide +kernel
theorem d_binit_18 : decode prog_6_method_1_code 18 = .ok (.return_, 1) := by decide +kernel
theorem ef_binit (m : MethodId) (v0 : Addr) (v1 : Int32) (v2 : Int64) : entryFrame m #[(.ref v0), (.int v1), (.long v2)] 4 = mkF m 0 #[.val (.ref v0), .val (.int v1), .val (.long v2), .second] [] := by first | (simp [entryFrame, mkF, argsToLocals, Value.category]; done) | rfl
def Q_binit (Z : State) (v0 : Addr) (v1 : Int32) (v2 : Int64) (h0 : Heap) (n0 : Nat) (v : Option Value) (h : Heap) (L : List Loc) : Prop := v = none ∧ Fr n0 L ∧ Keep h0 h [v0] ∧ Exa Z h v0 "com/example/quern/quern/core/Bm25" ∧ Fld Z h v0 "com/example/quern/quern/core/Bm25" "averageLength" "D" (.double (FP.ddiv (FP.l2d v2) (FP.i2d v1)))
set_option maxRecDepth 65536 in
set_option maxHeartbeats 40000000 in
theorem rm_binit (l : Launch) (Z : State) (a0 : Array Value) (hw : ∀ d ∈ tables_1, d.before a0 Z = true) (ws : List Jvm.Cond) (v0 : Addr) (v1 : Int32) (v2 : Int64) (h0 : Heap) (n0 : Nat) (Z0 : n0 ≤ h0.size) (f0_E_v0 : Exa Z h0 v0 "com/example/quern/quern/core/Bm25") (f1_F_v0 : Fld Z h0 v0 "com/example/quern/quern/core/Bm25" "documentCount" "I" (.int (0 : Int32))) (f2_F_v0 : Fld Z h0 v0 "com/example/quern/quern/core/Bm25" "averageLength" "D" (.double (0 : UInt64))) (g_v0 : n0 ≤ v0) (hn : NoNaN64 (FP.ddiv (FP.l2d v2) (FP.i2d v1))) :
    MetFree l (⟨"com/example/quern/quern/core/Bm25", "<init>", "(IJ)V"⟩ : MethodName) (head1 (Jvm.Cond.code (⟨"com/example/quern/quern/core/Bm25", "<init>", "(IJ)V"⟩ : MethodName) prog_6_method_1_code 4 none :: ws) ({ frames := 1, cells := 0, slots := 0, locals := 12 } : Room)) (fun a U => a = #[(.ref v0), (.int v1), (.long v2)] ∧ Z.Warmed39 U.vm ∧ U.heap = h0) (fun _ _ _ _ _ => True) (fun _ U o U' => ∃ v L, o = .returned v ∧ Q_binit Z v0 v1 v2 h0 n0 v U'.heap L ∧ FrameEnd U o U' L ({ frames := 1, cells := 0, slots := 0, locals := 12 } : Room).cells ({ frames := 1, cells := 0, slots := 0, locals := 12 } : Room).slots) := by
  refine MetFree.of_bodySF (plainFor_of_name (by first | (simp [plainName, overriddenIn]; done) | decide +kernel)) hisR ?_
  intro p e s m args below meth c s₁ Bd hml0 hP hK
  obtain ⟨rfl, hZ, hh⟩ := hP
  have hx := Bd.exec
  have hby := Bd.bytes
  have hml : c.maxLocals = 4 := hml0
  have hown : s.vm.findClass "com/example/quern/quern/core/Bm25" = some m.cls := findClass_of_methodNamed Bd.named
  have hnm := (name_of_methodNamed Bd.named Bd.method).1
  have hlk : meth.locks = false := Bd.notSynchronized
  have X0 : Stand p l e ({ frames := 1, cells := 0, slots := 0, locals := 12 } : Room) s m #[(.ref v0), (.int v1), (.long v2)] below meth c s₁ [] 0 0 := Stand.of_body Bd
  have e0 : s₁.heap = h0 := by rw [← hh, Bd.state]; rfl
  have N0 := Fr.nil n0
  refine Go.enter (Q := Q_binit Z v0 v1 v2 h0 n0) (C := ({ frames := 1, cells := 0, slots := 0, locals := 12 } : Room).cells) (N := ({ frames := 1, cells := 0, slots := 0, locals := 12 } : Room).slots) (ef_binit m v0 v1 v2) ?_
  show Go p e below s _ _ _ s₁ (mkF m 0 #[.val (.ref v0), .val (.int v1), .val (.long v2), .second] [])
  refine G_aloadN X0 hx (pc' := 1) rfl (hb hby d_binit_0) rfl rfl ?_
  obtain ⟨T1, X1, e1, st1⟩ := initO X0 hx hZ hown (hw _ (List.mem_of_getElem? (i := 7) rfl)) (hw _ (List.mem_of_getElem? (i := 8) rfl)) (hw _ (List.mem_of_getElem? (i := 9) rfl)) e0 (g := (mkF m 1 #[.val (.ref v0), .val (.int v1), .val (.long v2), .second] [(.ref v0)])) rfl (by rw [hml]; rfl) rfl (hb hby d_binit_1) (by decide) (W := 0) (by show 2 * 0 + _ ≤ _; exact Nat.le_of_eq rfl) (by decide)
  refine Go.st st1 ?_
  show Go p e below s _ _ _ T1 (mkF m 4 #[.val (.ref v0), .val (.int v1), .val (.long v2), .second] [])
  refine G_aloadN X1 hx (pc' := 5) rfl (hb hby d_binit_4) rfl rfl ?_
  refine G_iloadN X1 hx (pc' := 6) rfl (hb hby d_binit_5) rfl ?_
  obtain ⟨T2, h2, X2, e2, W2, st2⟩ := putF X1 hx hZ hown (host := "") (Or.inl (hw _ (List.mem_of_getElem? (i := 10) rfl))) Via.refl e1 f1_F_v0 f0_E_v0 (Or.inr ⟨(hw _ (List.mem_of_getElem? (i := 11) rfl)), rfl, hnm⟩) (hw _ (List.mem_of_getElem? (i := 2) rfl)) (ty := .int) (by decide) rfl rfl (g := (mkF m 6 #[.val (.ref v0), .val (.int v1), .val (.long v2), .second] [(.int v1), (.ref v0)])) rfl rfl (hb hby d_binit_6)
  refine Go.st st2 ?_
  have F_v0_w2 := f1_F_v0.same W2
  have E_v0_2 := f0_E_v0.wr W2
  have F_v0_averageLength_2 := f2_F_v0.other W2 (Or.inr (slot_ne (Or.inr (hw _ (List.mem_of_getElem? (i := 13) rfl))) (Or.inr (hw _ (List.mem_of_getElem? (i := 11) rfl))) (by decide) (t := .double) (t' := .int) (by decide) (by decide)))
  have K_2 : Keep h0 h2 [v0] := (Keep.refl h0 [v0]).wr W2 (Or.inl (List.mem_of_getElem? (i := 0) rfl))
  have Z_2 : n0 ≤ h2.size := Nat.le_trans Z0 K_2.1
  have N2 := Fr.snoc X2 N0 g_v0
  clear f0_E_v0 f1_F_v0 f2_F_v0 W2 st2
  obtain ⟨G2, Y2, M2⟩ : ∃ L, Stand p l e ({ frames := 1, cells := 0, slots := 0, locals := 12 } : Room) s m #[(.ref v0), (.int v1), (.long v2)] below meth c T2 L 0 0 ∧ Fr n0 L := ⟨_, X2, N2⟩
  clear X2 N2
  show Go p e below s _ _ _ T2 (mkF m 9 #[.val (.ref v0), .val (.int v1), .val (.long v2), .second] [])
  refine G_aloadN Y2 hx (pc' := 10) rfl (hb hby d_binit_9) rfl rfl ?_
  refine G_lloadN Y2 hx (pc' := 11) rfl (hb hby d_binit_10) rfl ?_
  refine G_l2d Y2 hx (pc' := 12) rfl (hb hby d_binit_11)  ?_
  refine G_iloadN Y2 hx (pc' := 13) rfl (hb hby d_binit_12) rfl ?_
  refine G_i2d Y2 hx (pc' := 14) rfl (hb hby d_binit_13)  ?_
  refine G_ddiv Y2 hx hn (pc' := 15) rfl (hb hby d_binit_14) ?_
  obtain ⟨T3, h3, X3, e3, W3, st3⟩ := putF Y2 hx hZ hown (host := "") (Or.inl (hw _ (List.mem_of_getElem? (i := 12) rfl))) Via.refl e2 F_v0_averageLength_2 E_v0_2 (Or.inr ⟨(hw _ (List.mem_of_getElem? (i := 13) rfl)), rfl, hnm⟩) (hw _ (List.mem_of_getElem? (i := 2) rfl)) (ty := .double) (by decide) rfl rfl (g := (mkF m 15 #[.val (.ref v0), .val (.int v1), .val (.long v2), .second] [(.double (FP.ddiv (FP.l2d v2) (FP.i2d v1))), (.ref v0)])) rfl rfl (hb hby d_binit_15)
  refine Go.st st3 ?_
  have F_v0_w3 := F_v0_averageLength_2.same W3
  have E_v0_3 := E_v0_2.wr W3
  have F_v0_documentCount_3 := F_v0_w2.other W3 (Or.inr (slot_ne (Or.inr (hw _ (List.mem_of_getElem? (i := 11) rfl))) (Or.inr (hw _ (List.mem_of_getElem? (i := 13) rfl))) (by decide) (t := .int) (t' := .double) (by decide) (by decide)))
  have K_3 : Keep h0 h3 [v0] := K_2.wr W3 (Or.inl (List.mem_of_getElem? (i := 0) rfl))
  have Z_3 : n0 ≤ h3.size := Nat.le_trans Z0 K_3.1
  have N3 := Fr.snoc X3 M2 g_v0
  clear E_v0_2 F_v0_averageLength_2 F_v0_w2 W3 st3
  obtain ⟨G3, Y3, M3⟩ : ∃ L, Stand p l e ({ frames := 1, cells := 0, slots := 0, locals := 12 } : Room) s m #[(.ref v0), (.int v1), (.long v2)] below meth c T3 L 0 0 ∧ Fr n0 L := ⟨_, X3, N3⟩
  clear X3 N3
  show Go p e below s _ _ _ T3 (mkF m 18 #[.val (.ref v0), .val (.int v1), .val (.long v2), .second] [])
  refine Go.fin Y3 hlk (v := none) (fun _ => rfl) (by decide) (by decide) ?_ (fun fs hr => Y3.returnOut hx Bd.returns (hb hby d_binit_18) hr)
  show Q_binit Z v0 v1 v2 h0 n0 _ T3.heap _
  rw [e3]
  exact ⟨rfl, M3, K_3, E_v0_3, F_v0_w3⟩
theorem d_weight_0 : decode prog_6_method_3_code 0 = .ok (.dload_n 1, 1) := by decide +kernel
theorem d_weight_1 : decode prog_6_method_3_code 1 = .ok (.iload_n 3, 1) := by decide +kernel
theorem d_weight_2 : decode prog_6_method_3_code 2 = .ok (.i2d, 1) := by decide +kernel
theorem d_weight_3 : decode prog_6_method_3_code 3 = .ok (.dmul, 1) := by decide +kernel
theorem d_weight_4 : decode prog_6_method_3_code 4 = .ok (.ldc2_w 25, 3) := by decide +kernel
theorem d_weight_7 : decode prog_6_method_3_code 7 = .ok (.dmul, 1) := by decide +kernel
theorem d_weight_8 : decode prog_6_method_3_code 8 = .ok (.iload_n 3, 1) := by decide +kernel
theorem d_weight_9 : decode prog_6_method_3_code 9 = .ok (.i2d, 1) := by decide +kernel
theorem d_weight_10 : decode prog_6_method_3_code 10 = .ok (.ldc2_w 27, 3) := by decide +kernel
theorem d_weight_13 : decode prog_6_method_3_code 13 = .ok (.ldc2_w 29, 3) := by decide +kernel
theorem d_weight_16 : decode prog_6_method_3_code 16 = .ok (.ldc2_w 31, 3) := by decide +kernel
theorem d_weight_19 : decode prog_6_method_3_code 19 = .ok (.iload 4, 2) := by decide +kernel
theorem d_weight_21 : decode prog_6_method_3_code 21 = .ok (.i2d, 1) := by decide +kernel
theorem d_weight_22 : decode prog_6_method_3_code 22 = .ok (.dmul, 1) := by decide +kernel
theorem d_weight_23 : decode prog_6_method_3_code 23 = .ok (.aload_n 0, 1) := by decide +kernel
theorem d_weight_24 : decode prog_6_method_3_code 24 = .ok (.getfield 13, 3) := by decide +kernel
theorem d_weight_27 : decode prog_6_method_3_code 27 = .ok (.ddiv, 1) := by decide +kernel
theorem d_weight_28 : decode prog_6_method_3_code 28 = .ok (.dadd, 1) := by decide +kernel
theorem d_weight_29 : decode prog_6_method_3_code 29 = .ok (.dmul, 1) := by decide +kernel
theorem d_weight_30 : decode prog_6_method_3_code 30 = .ok (.dadd, 1) := by decide +kernel
theorem d_weight_31 : decode prog_6_method_3_code 31 = .ok (.ddiv, 1) := by decide +kernel
theorem d_weight_32 : decode prog_6_method_3_code 32 = .ok (.dreturn, 1) := by decide +kernel
theorem ef_weight (m : MethodId) (v0 : Addr) (v1 : UInt64) (v2 : Int32) (v3 : Int32) : entryFrame m #[(.ref v0), (.double v1), (.int v2), (.int v3)] 5 = mkF m 0 #[.val (.ref v0), .val (.double v1), .second, .val (.int v2), .val (.int v3)] [] := by first | (simp [entryFrame, mkF, argsToLocals, Value.category]; done) | rfl
def Q_weight (Z : State) (v0 : Addr) (v1 : UInt64) (v2 : Int32) (v3 : Int32) (av : UInt64) (h0 : Heap) (n0 : Nat) (v : Option Value) (h : Heap) (L : List Loc) : Prop := v = some (.double (FP.ddiv (FP.dmul (FP.dmul v1 (FP.i2d v2)) (4612136378390124954 : UInt64)) (FP.dadd (FP.i2d v2) (FP.dmul (4608083138725491507 : UInt64) (FP.dadd (4598175219545276416 : UInt64) (FP.ddiv (FP.dmul (4604930618986332160 : UInt64) (FP.i2d v3)) av)))))) ∧ Fr n0 L ∧ h = h0
set_option maxRecDepth 65536 in
set_option maxHeartbeats 40000000 in
theorem rm_weight (l : Launch) (Z : State) (a0 : Array Value) (hw : ∀ d ∈ tables_1, d.before a0 Z = true) (ws : List Jvm.Cond) (v0 : Addr) (v1 : UInt64) (v2 : Int32) (v3 : Int32) (av : UInt64) (h0 : Heap) (n0 : Nat) (Z0 : n0 ≤ h0.size) (f0_E_v0 : Exa Z h0 v0 "com/example/quern/quern/core/Bm25") (f1_F_v0 : Fld Z h0 v0 "com/example/quern/quern/core/Bm25" "averageLength" "D" (.double av)) (n3 : NoNaN64 (FP.dmul v1 (FP.i2d v2))) (n7 : NoNaN64 (FP.dmul (FP.dmul v1 (FP.i2d v2)) (4612136378390124954 : UInt64))) (n22 : NoNaN64 (FP.dmul (4604930618986332160 : UInt64) (FP.i2d v3))) (n27 : NoNaN64 (FP.ddiv (FP.dmul (4604930618986332160 : UInt64) (FP.i2d v3)) av)) (n28 : NoNaN64 (FP.dadd (4598175219545276416 : UInt64) (FP.ddiv (FP.dmul (4604930618986332160 : UInt64) (FP.i2d v3)) av))) (n29 : NoNaN64 (FP.dmul (4608083138725491507 : UInt64) (FP.dadd (4598175219545276416 : UInt64) (FP.ddiv (FP.dmul (4604930618986332160 : UInt64) (FP.i2d v3)) av)))) (n30 : NoNaN64 (FP.dadd (FP.i2d v2) (FP.dmul (4608083138725491507 : UInt64) (FP.dadd (4598175219545276416 : UInt64) (FP.ddiv (FP.dmul (4604930618986332160 : UInt64) (FP.i2d v3)) av))))) (n31 : NoNaN64 (FP.ddiv (FP.dmul (FP.dmul v1 (FP.i2d v2)) (4612136378390124954 : UInt64)) (FP.dadd (FP.i2d v2) (FP.dmul (4608083138725491507 : UInt64) (FP.dadd (4598175219545276416 : UInt64) (FP.ddiv (FP.dmul (4604930618986332160 : UInt64) (FP.i2d v3)) av)))))) :
    MetFree l (⟨"com/example/quern/quern/core/Bm25", "weight", "(DII)D"⟩ : MethodName) (head1 (Jvm.Cond.code (⟨"com/example/quern/quern/core/Bm25", "weight", "(DII)D"⟩ : MethodName) prog_6_method_3_code 5 (some .double) :: ws) ({ frames := 0, cells := 0, slots := 0, locals := 0 } : Room)) (fun a U => a = #[(.ref v0), (.double v1), (.int v2), (.int v3)] ∧ Z.Warmed39 U.vm ∧ U.heap = h0) (fun _ _ _ _ _ => True) (fun _ U o U' => ∃ v L, o = .returned v ∧ Q_weight Z v0 v1 v2 v3 av h0 n0 v U'.heap L ∧ FrameEnd U o U' L ({ frames := 0, cells := 0, slots := 0, locals := 0 } : Room).cells ({ frames := 0, cells := 0, slots := 0, locals := 0 } : Room).slots) := by
  refine MetFree.of_bodySF (plainFor_of_name (by first | (simp [plainName, overriddenIn]; done) | decide +kernel)) hisR ?_
  intro p e s m args below meth c s₁ Bd hml0 hP hK
  obtain ⟨rfl, hZ, hh⟩ := hP
  have hx := Bd.exec
  have hby := Bd.bytes
  have hml : c.maxLocals = 5 := hml0
  have hown : s.vm.findClass "com/example/quern/quern/core/Bm25" = some m.cls := findClass_of_methodNamed Bd.named
  have hnm := (name_of_methodNamed Bd.named Bd.method).1
  have hlk : meth.locks = false := Bd.notSynchronized
  have X0 : Stand p l e ({ frames := 0, cells := 0, slots := 0, locals := 0 } : Room) s m #[(.ref v0), (.double v1), (.int v2), (.int v3)] below meth c s₁ [] 0 0 := Stand.of_body Bd
  have e0 : s₁.heap = h0 := by rw [← hh, Bd.state]; rfl
  have N0 := Fr.nil n0
  refine Go.enter (Q := Q_weight Z v0 v1 v2 v3 av h0 n0) (C := ({ frames := 0, cells := 0, slots := 0, locals := 0 } : Room).cells) (N := ({ frames := 0, cells := 0, slots := 0, locals := 0 } : Room).slots) (ef_weight m v0 v1 v2 v3) ?_
  show Go p e below s _ _ _ s₁ (mkF m 0 #[.val (.ref v0), .val (.double v1), .second, .val (.int v2), .val (.int v3)] [])
  refine G_dloadN X0 hx (pc' := 1) rfl (hb hby d_weight_0) rfl ?_
  refine G_iloadN X0 hx (pc' := 2) rfl (hb hby d_weight_1) rfl ?_
  refine G_i2d X0 hx (pc' := 3) rfl (hb hby d_weight_2)  ?_
  refine G_dmul X0 hx n3 (pc' := 4) rfl (hb hby d_weight_3) ?_
  refine G_ldc2D X0 hx (pc' := 7) rfl hown (mvT hZ (hw _ (List.mem_of_getElem? (i := 24) rfl))) (hb hby d_weight_4) ?_
  refine G_dmul X0 hx n7 (pc' := 8) rfl (hb hby d_weight_7) ?_
  refine G_iloadN X0 hx (pc' := 9) rfl (hb hby d_weight_8) rfl ?_
  refine G_i2d X0 hx (pc' := 10) rfl (hb hby d_weight_9)  ?_
  refine G_ldc2D X0 hx (pc' := 13) rfl hown (mvT hZ (hw _ (List.mem_of_getElem? (i := 25) rfl))) (hb hby d_weight_10) ?_
  refine G_ldc2D X0 hx (pc' := 16) rfl hown (mvT hZ (hw _ (List.mem_of_getElem? (i := 26) rfl))) (hb hby d_weight_13) ?_
  refine G_ldc2D X0 hx (pc' := 19) rfl hown (mvT hZ (hw _ (List.mem_of_getElem? (i := 27) rfl))) (hb hby d_weight_16) ?_
  refine G_iload X0 hx (pc' := 21) rfl (hb hby d_weight_19) rfl ?_
  refine G_i2d X0 hx (pc' := 22) rfl (hb hby d_weight_21)  ?_
  refine G_dmul X0 hx n22 (pc' := 23) rfl (hb hby d_weight_22) ?_
  refine G_aloadN X0 hx (pc' := 24) rfl (hb hby d_weight_23) rfl rfl ?_
  obtain ⟨T4, X4, e4, st4⟩ := getF X0 hx hZ hown (host := "") (Or.inl (hw _ (List.mem_of_getElem? (i := 12) rfl))) Via.refl e0 f1_F_v0 (g := (mkF m 24 #[.val (.ref v0), .val (.double v1), .second, .val (.int v2), .val (.int v3)] [(.ref v0), (.double (FP.dmul (4604930618986332160 : UInt64) (FP.i2d v3))), (.double (4598175219545276416 : UInt64)), (.double (4608083138725491507 : UInt64)), (.double (FP.i2d v2)), (.double (FP.dmul (FP.dmul v1 (FP.i2d v2)) (4612136378390124954 : UInt64)))])) rfl rfl (hb hby d_weight_24)
  refine Go.st st4 ?_
  show Go p e below s _ _ _ T4 (mkF m 27 #[.val (.ref v0), .val (.double v1), .second, .val (.int v2), .val (.int v3)] [(.double av), (.double (FP.dmul (4604930618986332160 : UInt64) (FP.i2d v3))), (.double (4598175219545276416 : UInt64)), (.double (4608083138725491507 : UInt64)), (.double (FP.i2d v2)), (.double (FP.dmul (FP.dmul v1 (FP.i2d v2)) (4612136378390124954 : UInt64)))])
  refine G_ddiv X4 hx n27 (pc' := 28) rfl (hb hby d_weight_27) ?_
  refine G_dadd X4 hx n28 (pc' := 29) rfl (hb hby d_weight_28) ?_
  refine G_dmul X4 hx n29 (pc' := 30) rfl (hb hby d_weight_29) ?_
  refine G_dadd X4 hx n30 (pc' := 31) rfl (hb hby d_weight_30) ?_
  refine G_ddiv X4 hx n31 (pc' := 32) rfl (hb hby d_weight_31) ?_
  refine Go.fin X4 hlk (v := some (.double (FP.ddiv (FP.dmul (FP.dmul v1 (FP.i2d v2)) (4612136378390124954 : UInt64)) (FP.dadd (FP.i2d v2) (FP.dmul (4608083138725491507 : UInt64) (FP.dadd (4598175219545276416 : UInt64) (FP.ddiv (FP.dmul (4604930618986332160 : UInt64) (FP.i2d v3)) av))))))) (fun h => by rw [Bd.returns] at h; cases h) (by decide) (by decide) ?_ (fun fs hr => retOut X4 hx Bd.returns rfl (Or.inr (Or.inr (Or.inl ⟨rfl, rfl, _, rfl⟩))) (hb hby d_weight_32) hr)
  show Q_weight Z v0 v1 v2 v3 av h0 n0 _ T4.heap _
  rw [e4]
  exact ⟨rfl, N0, rfl⟩
section OwnF3
open Jvm.FP Jvm.FP.Core Jvm.Free.Fl
theorem own_last {i ff xl : Int32} {aa : Int64} {av : UInt64} {k : Nat} (h1 : 0 ≤ xl.toInt) (hf : 0 ≤ ff.toInt) (hk : k < 32) (ha : aa.toInt = ((2 ^ k : Nat) : Int)) (hv : own_R av (2 ^ k) 0) : cmpValue (FP.dcmp (FP.ddiv (FP.dmul (FP.dmul (FP.i2d i) (FP.i2d ff)) (4612136378390124954 : UInt64)) (FP.dadd (FP.i2d ff) (FP.dmul (4608083138725491507 : UInt64) (FP.dadd (4598175219545276416 : UInt64) (FP.ddiv (FP.dmul (4604930618986332160 : UInt64) (FP.i2d xl)) av))))) (FP.ddiv (FP.dmul (FP.dmul (FP.i2d i) (FP.i2d ff)) (4612136378390124954 : UInt64)) (FP.dadd (FP.i2d ff) (FP.dmul (4608083138725491507 : UInt64) (FP.ddiv (FP.l2d ((3 : Int64) * xl.toInt64 + aa)) (FP.l2d ((4 : Int64) * aa))))))) .l = 0 := by
  rw [own_eq h1 hk ha hv]
  exact own_cmp ((own_p2 h1 hf hk ha rfl).2.2.2 _ (own_p1 i ff).2)
end OwnF3
theorem pd_0 : parseMethodDescriptor "(IJ)V" = some ⟨[.int, .long], none⟩ := by decide +kernel
theorem pd_1 : parseMethodDescriptor "(DII)D" = some ⟨[.double, .int, .int], some .double⟩ := by decide +kernel
theorem ef_law (m : MethodId) (v0 : Int32) (v1 : Int32) (v2 : Int32) (v3 : Int32) (v4 : Int32) : entryFrame m #[(.int v0), (.int v1), (.int v2), (.int v3), (.int v4)] maxLocals = mkF m 0 #[.val (.int v0), .val (.int v1), .val (.int v2), .val (.int v3), .val (.int v4), .unset, .unset, .unset, .unset, .unset, .unset, .unset, .unset, .unset, .unset, .unset, .unset, .unset, .unset, .unset] [] := by first | (simp [entryFrame, mkF, argsToLocals, Value.category, maxLocals]; done) | rfl
def Q_law (Z : State) (v0 : Int32) (v1 : Int32) (v2 : Int32) (v3 : Int32) (v4 : Int32) (h0 : Heap) (n0 : Nat) (v : Option Value) (h : Heap) (L : List Loc) : Prop := v = some (.int (1 : Int32)) ∧ Fr n0 L
set_option maxRecDepth 65536 in
set_option maxHeartbeats 40000000 in
theorem rm_law (l : Launch) (Z : State) (a0 : Array Value) (hw : ∀ d ∈ tables_1, d.before a0 Z = true) (ws : List Jvm.Cond) (v0 : Int32) (v1 : Int32) (v2 : Int32) (v3 : Int32) (v4 : Int32) (h0 : Heap) (n0 : Nat) (Z0 : n0 ≤ h0.size) :
    MetFree l x (head1 (Jvm.Cond.code x code maxLocals ret :: ws) room_1) (fun a U => a = #[(.int v0), (.int v1), (.int v2), (.int v3), (.int v4)] ∧ Z.Warmed39 U.vm ∧ U.heap = h0) (fun _ _ _ _ _ => True) (fun _ U o U' => ∃ v L, o = .returned v ∧ Q_law Z v0 v1 v2 v3 v4 h0 n0 v U'.heap L ∧ FrameEnd U o U' L room_1.cells room_1.slots) := by
  refine MetFree.of_bodySF (plainFor_of_name (by first | (simp [plainName, overriddenIn]; done) | decide +kernel)) hisR ?_
  intro p e s m args below meth c s₁ Bd hml0 hP hK
  obtain ⟨rfl, hZ, hh⟩ := hP
  have hx := Bd.exec
  have hby := Bd.bytes
  have hml : c.maxLocals = 20 := hml0
  have hown : s.vm.findClass "com/example/quern/quern/core/Bm25WeightPinLaw" = some m.cls := findClass_of_methodNamed Bd.named
  have hnm := (name_of_methodNamed Bd.named Bd.method).1
  have hlk : meth.locks = false := Bd.notSynchronized
  have X0 : Stand p l e room_1 s m #[(.int v0), (.int v1), (.int v2), (.int v3), (.int v4)] below meth c s₁ [] 0 0 := Stand.of_body Bd
  have e0 : s₁.heap = h0 := by rw [← hh, Bd.state]; rfl
  have N0 := Fr.nil n0
  refine Go.enter (Q := Q_law Z v0 v1 v2 v3 v4 h0 n0) (C := room_1.cells) (N := room_1.slots) (ef_law m v0 v1 v2 v3 v4) ?_
  show Go p e below s _ _ _ s₁ (mkF m 0 #[.val (.int v0), .val (.int v1), .val (.int v2), .val (.int v3), .val (.int v4), .unset, .unset, .unset, .unset, .unset, .unset, .unset, .unset, .unset, .unset, .unset, .unset, .unset, .unset, .unset] [])
  refine G_iloadN X0 hx (pc' := 1) rfl (hb hby at_0) rfl ?_
  refine G_ldc X0 hx (pc' := 3) rfl hown (mvT hZ (hw _ (List.mem_of_getElem? (i := 0) rfl))) (hb hby at_1) ?_
  refine G_iand X0 hx (pc' := 4) rfl (hb hby at_3)  ?_
  refine G_iconst X0 hx (pc' := 5) rfl (hb hby at_4) (z := (1 : Int32)) rfl ?_
  refine G_iadd X0 hx (pc' := 6) rfl (hb hby at_5)  ?_
  refine G_istore X0 hx (pc' := 8) rfl (hb hby at_6) (L' := #[.val (.int v0), .val (.int v1), .val (.int v2), .val (.int v3), .val (.int v4), .val (.int ((v0 &&& (1073741823 : Int32)) + (1 : Int32))), .unset, .unset, .unset, .unset, .unset, .unset, .unset, .unset, .unset, .unset, .unset, .unset, .unset, .unset]) rfl ?_
  obtain ⟨dd, h_dd, hd1, hd2⟩ : ∃ dd : Int32, ((v0 &&& (1073741823 : Int32)) + (1 : Int32)) = dd ∧ 1 ≤ dd.toInt ∧ dd.toInt ≤ 1073741824 := ⟨_, rfl, (own_d0 _).1, (own_d0 _).2⟩
  rw [h_dd]
  refine G_iloadN X0 hx (pc' := 9) rfl (hb hby at_8) rfl ?_
  refine G_bipush X0 hx (pc' := 11) rfl (hb hby at_9) (z := (31 : Int32)) rfl ?_
  refine G_iand X0 hx (pc' := 12) rfl (hb hby at_11)  ?_
  refine G_istore X0 hx (pc' := 14) rfl (hb hby at_12) (L' := #[.val (.int v0), .val (.int v1), .val (.int v2), .val (.int v3), .val (.int v4), .val (.int dd), .val (.int (v1 &&& (31 : Int32))), .unset, .unset, .unset, .unset, .unset, .unset, .unset, .unset, .unset, .unset, .unset, .unset, .unset]) rfl ?_
  obtain ⟨jj, h_jj, hj0, hj1⟩ : ∃ jj : Int32, (v1 &&& (31 : Int32)) = jj ∧ 0 ≤ jj.toInt ∧ jj.toInt.toNat < 32 := ⟨_, rfl, (own_j0 _).1, (by have := own_j0 v1; omega)⟩
  rw [h_jj]
  refine G_lconst X0 hx (pc' := 15) rfl (hb hby at_14) (z := (1 : Int64)) rfl ?_
  refine G_iload X0 hx (pc' := 17) rfl (hb hby at_15) rfl ?_
  refine G_lshl X0 hx (pc' := 18) rfl (hb hby at_17)  ?_
  refine G_lstore X0 hx (pc' := 20) rfl (hb hby at_18) (L' := #[.val (.int v0), .val (.int v1), .val (.int v2), .val (.int v3), .val (.int v4), .val (.int dd), .val (.int jj), .val (.long ((1 : Int64) <<< (jj &&& 0x3f).toInt64)), .second, .unset, .unset, .unset, .unset, .unset, .unset, .unset, .unset, .unset, .unset, .unset]) rfl ?_
  obtain ⟨aa, h_aa, hk⟩ : ∃ aa : Int64, ((1 : Int64) <<< (jj &&& 0x3f).toInt64) = aa ∧ aa.toInt = ((2 ^ jj.toInt.toNat : Nat) : Int) := ⟨_, rfl, (own_awg hj0 (by omega))⟩
  rw [h_aa]
  refine G_iload X0 hx (pc' := 22) rfl (hb hby at_20) rfl ?_
  refine G_i2l X0 hx (pc' := 23) rfl (hb hby at_22)  ?_
  refine G_lload X0 hx (pc' := 25) rfl (hb hby at_23) rfl ?_
  refine G_lmul X0 hx (pc' := 26) rfl (hb hby at_25)  ?_
  refine G_lstore X0 hx (pc' := 28) rfl (hb hby at_26) (L' := #[.val (.int v0), .val (.int v1), .val (.int v2), .val (.int v3), .val (.int v4), .val (.int dd), .val (.int jj), .val (.long aa), .second, .val (.long ((dd.toInt64) * aa)), .second, .unset, .unset, .unset, .unset, .unset, .unset, .unset, .unset, .unset]) rfl ?_
  obtain ⟨T5, h5, X5, e5, E5, A5, D5, -, st5⟩ := newO X0 hx hZ hown (hw _ (List.mem_of_getElem? (i := 1) rfl)) (hw _ (List.mem_of_getElem? (i := 2) rfl)) (hw _ (List.mem_of_getElem? (i := 3) rfl)) e0 (g := (mkF m 28 #[.val (.int v0), .val (.int v1), .val (.int v2), .val (.int v3), .val (.int v4), .val (.int dd), .val (.int jj), .val (.long aa), .second, .val (.long ((dd.toInt64) * aa)), .second, .unset, .unset, .unset, .unset, .unset, .unset, .unset, .unset, .unset] [])) rfl (hb hby at_28) (by decide) (by decide)
  obtain ⟨b5, q5⟩ : ∃ z, z = h0.size := ⟨_, rfl⟩
  rw [← q5] at A5 D5 st5
  refine Go.st st5 ?_
  have g_b5 : n0 ≤ b5 := Nat.le_trans Z0 (Nat.le_of_eq q5.symm)
  have sz_b5 : h0.size ≤ b5 := Nat.le_trans (Nat.le_refl _) (Nat.le_of_eq q5.symm)
  have F_b5_documentCount : Fld Z h5 b5 "com/example/quern/quern/core/Bm25" "documentCount" "I" (.int (0 : Int32)) := D5 (Or.inr (hw _ (List.mem_of_getElem? (i := 11) rfl))) (ty := .int) (by decide)
  have F_b5_averageLength : Fld Z h5 b5 "com/example/quern/quern/core/Bm25" "averageLength" "D" (.double (0 : UInt64)) := D5 (Or.inr (hw _ (List.mem_of_getElem? (i := 13) rfl))) (ty := .double) (by decide)
  have K_5 : Keep h0 h5 [] := (Keep.refl h0 []).ext E5
  have Z_5 : n0 ≤ h5.size := Nat.le_trans Z0 K_5.1
  clear E5 st5 D5
  show Go p e below s _ _ _ T5 (mkF m 31 #[.val (.int v0), .val (.int v1), .val (.int v2), .val (.int v3), .val (.int v4), .val (.int dd), .val (.int jj), .val (.long aa), .second, .val (.long ((dd.toInt64) * aa)), .second, .unset, .unset, .unset, .unset, .unset, .unset, .unset, .unset, .unset] [(.ref b5)])
  refine G_dup X5 hx (pc' := 32) rfl (hb hby at_31) rfl ?_
  refine G_iload X5 hx (pc' := 34) rfl (hb hby at_32) rfl ?_
  refine G_lload X5 hx (pc' := 36) rfl (hb hby at_34) rfl ?_
  obtain ⟨_, _, ⟨T6, L6, k6, n6⟩, -, X6, ⟨Lc6, hQ6, l6, y6, z6⟩, st6⟩ := X5.specialBack hx (y := (⟨"com/example/quern/quern/core/Bm25", "<init>", "(IJ)V"⟩ : MethodName)) rfl hown (mvT hZ (hw _ (List.mem_of_getElem? (i := 4) rfl))) (mvT hZ (hw _ (List.mem_of_getElem? (i := 5) rfl))) (mvT hZ (hw _ (List.mem_of_getElem? (i := 6) rfl))) (by decide) (backOf (W := 1) (rm_binit l Z a0 hw [] b5 dd ((dd.toInt64) * aa) h5 n0 Z_5 A5 F_b5_documentCount F_b5_averageLength g_b5 (Jvm.Free.Fl.Fin64.noNaN (Jvm.Free.Fl.fin64_core.mpr (own_Rfin (own_av hd1 hd2 hj1 hk))))) hZ (hw _ (List.mem_of_getElem? (i := 6) rfl)) (hw _ (List.mem_of_getElem? (i := 3) rfl)) (by decide) (by decide)) (g := (mkF m 36 #[.val (.int v0), .val (.int v1), .val (.int v2), .val (.int v3), .val (.int v4), .val (.int dd), .val (.int jj), .val (.long aa), .second, .val (.long ((dd.toInt64) * aa)), .second, .unset, .unset, .unset, .unset, .unset, .unset, .unset, .unset, .unset] [(.long ((dd.toInt64) * aa)), (.int dd), (.ref b5), (.ref b5)])) rfl (by rw [hml]; rfl) (Steps.refl _) (a := b5) (argsL := [(.int dd), (.long ((dd.toInt64) * aa))]) (rest := [(.ref b5)]) (lenOf pd_0 rfl) rfl (by show 2 * 0 + _ ≤ _; exact Nat.le_of_eq rfl) (hb hby at_36) (fun _ _ => ⟨rfl, e5, (by decide : 1 + 0 ≤ _), (by decide : 2 + 0 ≤ _)⟩)
  dsimp only [Pt.U, Pt.locs, Pt.cells, Pt.slots] at X6 l6 y6 z6 st6 hQ6
  rw [l6, y6, z6] at X6
  clear l6 y6 z6
  obtain ⟨rfl, N6q, K6, p6_0, p6_1⟩ := hQ6
  have N6 := Fr.app N0 N6q
  refine Go.st (fun _ k => st6.trans k) ?_
  have K_6 : Keep h0 T6.heap [] := K_5.trans K6 (allS (Or.inr sz_b5) all0)
  have Z_6 : n0 ≤ T6.heap.size := Nat.le_trans Z0 K_6.1
  clear A5 F_b5_documentCount F_b5_averageLength st6 K6
  obtain ⟨G6, Y6, M6⟩ : ∃ L, Stand p l e room_1 s m #[(.int v0), (.int v1), (.int v2), (.int v3), (.int v4)] below meth c T6 L 1 2 ∧ Fr n0 L := ⟨_, X6, N6⟩
  clear X6 N6
  show Go p e below s _ _ _ T6 (mkF m 39 #[.val (.int v0), .val (.int v1), .val (.int v2), .val (.int v3), .val (.int v4), .val (.int dd), .val (.int jj), .val (.long aa), .second, .val (.long ((dd.toInt64) * aa)), .second, .unset, .unset, .unset, .unset, .unset, .unset, .unset, .unset, .unset] [(.ref b5)])
  refine G_astore Y6 hx (pc' := 41) rfl (hb hby at_39) rfl (L' := #[.val (.int v0), .val (.int v1), .val (.int v2), .val (.int v3), .val (.int v4), .val (.int dd), .val (.int jj), .val (.long aa), .second, .val (.long ((dd.toInt64) * aa)), .second, .val (.ref b5), .unset, .unset, .unset, .unset, .unset, .unset, .unset, .unset]) rfl ?_
  refine G_iloadN Y6 hx (pc' := 42) rfl (hb hby at_41) rfl ?_
  refine G_ldc Y6 hx (pc' := 44) rfl hown (mvT hZ (hw _ (List.mem_of_getElem? (i := 14) rfl))) (hb hby at_42) ?_
  refine G_iand Y6 hx (pc' := 45) rfl (hb hby at_44)  ?_
  refine G_istore Y6 hx (pc' := 47) rfl (hb hby at_45) (L' := #[.val (.int v0), .val (.int v1), .val (.int v2), .val (.int v3), .val (.int v4), .val (.int dd), .val (.int jj), .val (.long aa), .second, .val (.long ((dd.toInt64) * aa)), .second, .val (.ref b5), .val (.int (v2 &&& (2147483647 : Int32))), .unset, .unset, .unset, .unset, .unset, .unset, .unset]) rfl ?_
  obtain ⟨xl, h_xl, hxl⟩ : ∃ xl : Int32, (v2 &&& (2147483647 : Int32)) = xl ∧ 0 ≤ xl.toInt := ⟨_, rfl, (own_x0 _)⟩
  rw [h_xl]
  refine G_iloadN Y6 hx (pc' := 48) rfl (hb hby at_47) rfl ?_
  refine G_ldc Y6 hx (pc' := 50) rfl hown (mvT hZ (hw _ (List.mem_of_getElem? (i := 14) rfl))) (hb hby at_48) ?_
  refine G_iand Y6 hx (pc' := 51) rfl (hb hby at_50)  ?_
  refine G_istore Y6 hx (pc' := 53) rfl (hb hby at_51) (L' := #[.val (.int v0), .val (.int v1), .val (.int v2), .val (.int v3), .val (.int v4), .val (.int dd), .val (.int jj), .val (.long aa), .second, .val (.long ((dd.toInt64) * aa)), .second, .val (.ref b5), .val (.int xl), .val (.int (v3 &&& (2147483647 : Int32))), .unset, .unset, .unset, .unset, .unset, .unset]) rfl ?_
  obtain ⟨ff, h_ff, hff⟩ : ∃ ff : Int32, (v3 &&& (2147483647 : Int32)) = ff ∧ 0 ≤ ff.toInt := ⟨_, rfl, (own_x0 _)⟩
  rw [h_ff]
  refine G_iload Y6 hx (pc' := 55) rfl (hb hby at_53) rfl ?_
  refine G_i2d Y6 hx (pc' := 56) rfl (hb hby at_55)  ?_
  refine G_dstore Y6 hx (pc' := 58) rfl (hb hby at_56) (L' := #[.val (.int v0), .val (.int v1), .val (.int v2), .val (.int v3), .val (.int v4), .val (.int dd), .val (.int jj), .val (.long aa), .second, .val (.long ((dd.toInt64) * aa)), .second, .val (.ref b5), .val (.int xl), .val (.int ff), .val (.double (FP.i2d v4)), .second, .unset, .unset, .unset, .unset]) rfl ?_
  refine G_ldc2 Y6 hx (pc' := 61) rfl hown (mvT hZ (hw _ (List.mem_of_getElem? (i := 15) rfl))) (hb hby at_58) ?_
  refine G_iload Y6 hx (pc' := 63) rfl (hb hby at_61) rfl ?_
  refine G_i2l Y6 hx (pc' := 64) rfl (hb hby at_63)  ?_
  refine G_lmul Y6 hx (pc' := 65) rfl (hb hby at_64)  ?_
  refine G_lload Y6 hx (pc' := 67) rfl (hb hby at_65) rfl ?_
  refine G_ladd Y6 hx (pc' := 68) rfl (hb hby at_67)  ?_
  refine G_l2d Y6 hx (pc' := 69) rfl (hb hby at_68)  ?_
  refine G_ldc2 Y6 hx (pc' := 72) rfl hown (mvT hZ (hw _ (List.mem_of_getElem? (i := 16) rfl))) (hb hby at_69) ?_
  refine G_lload Y6 hx (pc' := 74) rfl (hb hby at_72) rfl ?_
  refine G_lmul Y6 hx (pc' := 75) rfl (hb hby at_74)  ?_
  refine G_l2d Y6 hx (pc' := 76) rfl (hb hby at_75)  ?_
  refine G_ddiv Y6 hx (own_p2 hxl hff hj1 hk rfl).1 (pc' := 77) rfl (hb hby at_76) ?_
  refine G_dstore Y6 hx (pc' := 79) rfl (hb hby at_77) (L' := #[.val (.int v0), .val (.int v1), .val (.int v2), .val (.int v3), .val (.int v4), .val (.int dd), .val (.int jj), .val (.long aa), .second, .val (.long ((dd.toInt64) * aa)), .second, .val (.ref b5), .val (.int xl), .val (.int ff), .val (.double (FP.i2d v4)), .second, .val (.double (FP.ddiv (FP.l2d (((3 : Int64) * (xl.toInt64)) + aa)) (FP.l2d ((4 : Int64) * aa)))), .second, .unset, .unset]) rfl ?_
  refine G_dload Y6 hx (pc' := 81) rfl (hb hby at_79) rfl ?_
  refine G_iload Y6 hx (pc' := 83) rfl (hb hby at_81) rfl ?_
  refine G_i2d Y6 hx (pc' := 84) rfl (hb hby at_83)  ?_
  refine G_dmul Y6 hx (own_p1 _ _).1 (pc' := 85) rfl (hb hby at_84) ?_
  refine G_ldc2D Y6 hx (pc' := 88) rfl hown (mvT hZ (hw _ (List.mem_of_getElem? (i := 17) rfl))) (hb hby at_85) ?_
  refine G_dmul Y6 hx (own_p1 _ _).2 (pc' := 89) rfl (hb hby at_88) ?_
  refine G_iload Y6 hx (pc' := 91) rfl (hb hby at_89) rfl ?_
  refine G_i2d Y6 hx (pc' := 92) rfl (hb hby at_91)  ?_
  refine G_ldc2D Y6 hx (pc' := 95) rfl hown (mvT hZ (hw _ (List.mem_of_getElem? (i := 18) rfl))) (hb hby at_92) ?_
  refine G_dload Y6 hx (pc' := 97) rfl (hb hby at_95) rfl ?_
  refine G_dmul Y6 hx (own_p2 hxl hff hj1 hk rfl).2.1 (pc' := 98) rfl (hb hby at_97) ?_
  refine G_dadd Y6 hx (own_p2 hxl hff hj1 hk rfl).2.2.1 (pc' := 99) rfl (hb hby at_98) ?_
  refine G_ddiv Y6 hx ((own_p2 hxl hff hj1 hk rfl).2.2.2 _ (own_p1 _ _).2) (pc' := 100) rfl (hb hby at_99) ?_
  refine G_dstore Y6 hx (pc' := 102) rfl (hb hby at_100) (L' := #[.val (.int v0), .val (.int v1), .val (.int v2), .val (.int v3), .val (.int v4), .val (.int dd), .val (.int jj), .val (.long aa), .second, .val (.long ((dd.toInt64) * aa)), .second, .val (.ref b5), .val (.int xl), .val (.int ff), .val (.double (FP.i2d v4)), .second, .val (.double (FP.ddiv (FP.l2d (((3 : Int64) * (xl.toInt64)) + aa)) (FP.l2d ((4 : Int64) * aa)))), .second, .val (.double (FP.ddiv (FP.dmul (FP.dmul (FP.i2d v4) (FP.i2d ff)) (4612136378390124954 : UInt64)) (FP.dadd (FP.i2d ff) (FP.dmul (4608083138725491507 : UInt64) (FP.ddiv (FP.l2d (((3 : Int64) * (xl.toInt64)) + aa)) (FP.l2d ((4 : Int64) * aa))))))), .second]) rfl ?_
  refine G_aload Y6 hx (pc' := 104) rfl (hb hby at_102) rfl rfl ?_
  refine G_dload Y6 hx (pc' := 106) rfl (hb hby at_104) rfl ?_
  refine G_iload Y6 hx (pc' := 108) rfl (hb hby at_106) rfl ?_
  refine G_iload Y6 hx (pc' := 110) rfl (hb hby at_108) rfl ?_
  obtain ⟨cq7, kq7, q7a, q7b, q7c⟩ := isOf hZ rfl p6_0
  obtain ⟨_, _, ⟨T7, L7, k7, n7⟩, -, X7, ⟨Lc7, hQ7, l7, y7, z7⟩, st7⟩ := Y6.virtualBack hx (y := (⟨"com/example/quern/quern/core/Bm25", "weight", "(DII)D"⟩ : MethodName)) (z := (⟨"com/example/quern/quern/core/Bm25", "weight", "(DII)D"⟩ : MethodName)) hown (mvT hZ (hw _ (List.mem_of_getElem? (i := 19) rfl))) (mvT hZ (hw _ (List.mem_of_getElem? (i := 20) rfl))) (notFace_of_selects (args := #[]) (mvT hZ (hw _ (List.mem_of_getElem? (i := 22) rfl)))) (mvT hZ (hw _ (List.mem_of_getElem? (i := 22) rfl))) (mvT hZ (hw _ (List.mem_of_getElem? (i := 21) rfl))) (by decide) (backOf (W := 0) (rm_weight l Z a0 hw [] b5 (FP.i2d v4) ff xl (FP.ddiv (FP.l2d ((dd.toInt64) * aa)) (FP.i2d dd)) T6.heap n0 Z_6 p6_0 p6_1 (own_p1 _ _).1 (own_p1 _ _).2 (Jvm.Free.Fl.Fin64.noNaN (Jvm.Free.Fl.fin64_core.mpr (own_Rfin (own_t hxl hj1 (own_av hd1 hd2 hj1 hk)).1))) (Jvm.Free.Fl.Fin64.noNaN (Jvm.Free.Fl.fin64_core.mpr (own_Rfin (own_t hxl hj1 (own_av hd1 hd2 hj1 hk)).2.1))) (own_p2 hxl hff hj1 hk (own_eq hxl hj1 hk (own_av hd1 hd2 hj1 hk))).1 (own_p2 hxl hff hj1 hk (own_eq hxl hj1 hk (own_av hd1 hd2 hj1 hk))).2.1 (own_p2 hxl hff hj1 hk (own_eq hxl hj1 hk (own_av hd1 hd2 hj1 hk))).2.2.1 ((own_p2 hxl hff hj1 hk (own_eq hxl hj1 hk (own_av hd1 hd2 hj1 hk))).2.2.2 _ (own_p1 _ _).2)) hZ (hw _ (List.mem_of_getElem? (i := 23) rfl)) (hw _ (List.mem_of_getElem? (i := 3) rfl)) (by decide) (by decide)) q7a q7c (g := (mkF m 110 #[.val (.int v0), .val (.int v1), .val (.int v2), .val (.int v3), .val (.int v4), .val (.int dd), .val (.int jj), .val (.long aa), .second, .val (.long ((dd.toInt64) * aa)), .second, .val (.ref b5), .val (.int xl), .val (.int ff), .val (.double (FP.i2d v4)), .second, .val (.double (FP.ddiv (FP.l2d (((3 : Int64) * (xl.toInt64)) + aa)) (FP.l2d ((4 : Int64) * aa)))), .second, .val (.double (FP.ddiv (FP.dmul (FP.dmul (FP.i2d v4) (FP.i2d ff)) (4612136378390124954 : UInt64)) (FP.dadd (FP.i2d ff) (FP.dmul (4608083138725491507 : UInt64) (FP.ddiv (FP.l2d (((3 : Int64) * (xl.toInt64)) + aa)) (FP.l2d ((4 : Int64) * aa))))))), .second] [(.int xl), (.int ff), (.double (FP.i2d v4)), (.ref b5)])) rfl (by rw [hml]; rfl) (Steps.refl _) (argsL := [(.double (FP.i2d v4)), (.int ff), (.int xl)]) (rest := []) (lenOf pd_1 rfl) rfl (by show 2 * 0 + _ ≤ _; exact Nat.le_of_eq rfl) (hb hby at_110) (fun _ _ => ⟨rfl, rfl, (by decide : 1 + 0 ≤ _), (by decide : 2 + 0 ≤ _)⟩)
  dsimp only [Pt.U, Pt.locs, Pt.cells, Pt.slots] at X7 l7 y7 z7 st7 hQ7
  rw [l7, y7, z7] at X7
  clear l7 y7 z7
  obtain ⟨rfl, N7q, e7⟩ := hQ7
  have N7 := Fr.app M6 N7q
  refine Go.st (fun _ k => st7.trans k) ?_
  obtain ⟨G7, Y7, M7⟩ : ∃ L, Stand p l e room_1 s m #[(.int v0), (.int v1), (.int v2), (.int v3), (.int v4)] below meth c T7 L 1 2 ∧ Fr n0 L := ⟨_, X7, N7⟩
  clear X7 N7
  show Go p e below s _ _ _ T7 (mkF m 113 #[.val (.int v0), .val (.int v1), .val (.int v2), .val (.int v3), .val (.int v4), .val (.int dd), .val (.int jj), .val (.long aa), .second, .val (.long ((dd.toInt64) * aa)), .second, .val (.ref b5), .val (.int xl), .val (.int ff), .val (.double (FP.i2d v4)), .second, .val (.double (FP.ddiv (FP.l2d (((3 : Int64) * (xl.toInt64)) + aa)) (FP.l2d ((4 : Int64) * aa)))), .second, .val (.double (FP.ddiv (FP.dmul (FP.dmul (FP.i2d v4) (FP.i2d ff)) (4612136378390124954 : UInt64)) (FP.dadd (FP.i2d ff) (FP.dmul (4608083138725491507 : UInt64) (FP.ddiv (FP.l2d (((3 : Int64) * (xl.toInt64)) + aa)) (FP.l2d ((4 : Int64) * aa))))))), .second] [(.double (FP.ddiv (FP.dmul (FP.dmul (FP.i2d v4) (FP.i2d ff)) (4612136378390124954 : UInt64)) (FP.dadd (FP.i2d ff) (FP.dmul (4608083138725491507 : UInt64) (FP.dadd (4598175219545276416 : UInt64) (FP.ddiv (FP.dmul (4604930618986332160 : UInt64) (FP.i2d xl)) (FP.ddiv (FP.l2d ((dd.toInt64) * aa)) (FP.i2d dd))))))))])
  refine G_dload Y7 hx (pc' := 115) rfl (hb hby at_113) rfl ?_
  refine G_dcmpl Y7 hx (pc' := 116) rfl (hb hby at_115)  ?_
  refine G_ifNo Y7 hx (pc' := 119) rfl (hb hby at_116) ((if0 _ _).trans (teq ((own_last hxl hff hj1 hk (own_av hd1 hd2 hj1 hk)) : (cmpValue (FP.dcmp (FP.ddiv (FP.dmul (FP.dmul (FP.i2d v4) (FP.i2d ff)) (4612136378390124954 : UInt64)) (FP.dadd (FP.i2d ff) (FP.dmul (4608083138725491507 : UInt64) (FP.dadd (4598175219545276416 : UInt64) (FP.ddiv (FP.dmul (4604930618986332160 : UInt64) (FP.i2d xl)) (FP.ddiv (FP.l2d ((dd.toInt64) * aa)) (FP.i2d dd))))))) (FP.ddiv (FP.dmul (FP.dmul (FP.i2d v4) (FP.i2d ff)) (4612136378390124954 : UInt64)) (FP.dadd (FP.i2d ff) (FP.dmul (4608083138725491507 : UInt64) (FP.ddiv (FP.l2d (((3 : Int64) * (xl.toInt64)) + aa)) (FP.l2d ((4 : Int64) * aa))))))) .l) = (0 : Int32))).2) ?_
  refine G_iconst Y7 hx (pc' := 120) rfl (hb hby at_119) (z := (1 : Int32)) rfl ?_
  refine G_goto Y7 hx (pc' := 124) (hb hby at_120)  (by decide) (by decide) ?_
  refine Go.fin Y7 hlk (v := some (.int (1 : Int32))) (fun h => by rw [Bd.returns] at h; cases h) (by decide) (by decide) ?_ (fun fs hr => retN Y7 hx (t := .boolean) Bd.returns (by simp) (hb hby at_124) hr)
  show Q_law Z v0 v1 v2 v3 v4 h0 n0 _ T7.heap _
  rw [e7]
  exact ⟨rfl, M7⟩
set_option maxRecDepth 65536 in
set_option maxHeartbeats 40000000 in
theorem comes_1 {Post : Tables → Env → Array Value → State → Outcome → State → Prop} (hpost : ∀ tb e args s v u, (limb_1_1.after args s (.returned v) u = true ∧ limb_1_2.after args s (.returned v) u = true ∧ True) → FrameEnd s (.returned v) u (Jvm.fieldLocs frame_1_writes args s ++ Jvm.arrayLocs frame_1_arrays args s ++ Jvm.staticLocs frame_1_statics s) 16 128 → Post tb e args s (.returned v) u) :
    ArmFor flags0 classFile x code maxLocals ret World_1 tables_1 room_1 Calls_1 rest_1 Pre_1 Post := by
  intro l hfl _ _ p e ha hc hk s m args below hf hA hF happ hP
  obtain ⟨hcalls, hrest, hpre⟩ := hP
  obtain ⟨-, -, -, hnamed, -, -, -, hat⟩ := (Spec.applies_iff hf).mp happ
  obtain ⟨hg, hn⟩ := and_e (Cond.before_iff.mp (show (Jvm.Cond.and given_1 narrow_1).before args s = true from hpre))
  obtain ⟨hcnt, hg0⟩ := and_e hg
  obtain ⟨ha0, hg1⟩ := and_e hg0
  obtain ⟨ha1, hg2⟩ := and_e hg1
  obtain ⟨ha2, hg3⟩ := and_e hg2
  obtain ⟨ha3, hg4⟩ := and_e hg3
  have ha4 := hg4
  obtain ⟨w0, w1, w2, w3, w4, rfl⟩ : ∃ w0 w1 w2 w3 w4 : Value, args = #[w0, w1, w2, w3, w4] := by
    have hs : args.size = 5 := by simpa [Cond.value, given_1] using hcnt
    obtain ⟨L⟩ := args
    match L, hs with
    | [w0, w1, w2, w3, w4], _ => exact ⟨w0, w1, w2, w3, w4, rfl⟩
  have hw := fun d (hd : d ∈ tables_1) => atoms_spec (ws := Jvm.Cond.code x code maxLocals ret :: tables_1) hat d (List.mem_cons_of_mem _ hd)
  have hfit : Fit s := fun {y c} hc i hi => by
    obtain ⟨ha, rfl⟩ := Array.getElem?_eq_some_iff.mp hc
    have q := List.all_eq_true.mp ((Array.all_eq_true_iff_forall_mem.mp hF) _ (Array.getElem_mem ha)) i (List.mem_range.mpr hi)
    simpa [Array.getElem?_eq_getElem hi] using q
  obtain ⟨i0, ei0⟩ := is_v ha0
  obtain rfl : w0 = (.int i0) := Option.some.inj ei0
  obtain ⟨i1, ei1⟩ := is_v ha1
  obtain rfl : w1 = (.int i1) := Option.some.inj ei1
  obtain ⟨i2, ei2⟩ := is_v ha2
  obtain rfl : w2 = (.int i2) := Option.some.inj ei2
  obtain ⟨i3, ei3⟩ := is_v ha3
  obtain rfl : w3 = (.int i3) := Option.some.inj ei3
  obtain ⟨i4, ei4⟩ := is_v ha4
  obtain rfl : w4 = (.int i4) := Option.some.inj ei4
  obtain ⟨n, o, h1, h2, h3, v, L, rfl, ⟨hv, N⟩, hq⟩ := rm_law l s _ hw tables_1 i0 i1 i2 i3 i4  s.heap s.heap.size (Nat.le_refl _)  p e ha hc hk s m _ below hf ((Spec.applies_iff_loose hf).mp happ).1 ⟨rfl, State.Warmed39.refl s, rfl⟩ trivial
  subst hv
  refine ⟨n, _, h1, h2, h3, hpost _ _ _ _ _ _ ⟨Cond.after_iff.mpr rfl, Cond.after_iff.mpr (eq_i res_at (Term.int_eval (1)) rfl), trivial⟩ ⟨hq.1, hq.2.1, (hq.2.2.sift fun y hy => Or.inr (N y hy)).mono (by decide) (by decide)⟩⟩
theorem main_1_1 : Claimed_1_1 := comes_1 fun _ _ _ _ _ _ h hF => ⟨h.1, hF⟩
theorem main_1_2 : Claimed_1_2 := comes_1 fun _ _ _ _ _ _ h hF => ⟨h.2.1, hF⟩
end Jvm.Pilot.@@N@@
namespace Jvm.Pilot.@@N@@
open Jvm Jvm.ClassFile Sem Op Lib Jvm.Free Jvm.Stand Jvm.Pilot.@@N@@.Jvm.D
/-! MADE BY PROGRAM (witnessworld.py) out of the Statement's table words and the real class files: 9 classes; the members and pool entries that the words name. The judged class is class 1, her method 1. -/
namespace start1
open Jvm.ClassFile
def u (s : String) : CpInfo := .utf8 (stringToUtf16 s)
/-- a pool by its gaps: so many unusable entries, then the entry; so many at the end -/
def gap : Nat → List CpInfo → List CpInfo
  | 0, r => r
  | n + 1, r => .unusable :: gap n r
def poolList (es : List (Nat × CpInfo)) (last : Nat) : List CpInfo := es.foldr (fun e r => gap e.1 (e.2 :: r)) (gap last [])
def pool (es : List (Nat × CpInfo)) (last : Nat) : Array CpInfo := ⟨poolList es last⟩
def fileOf (pool : Array CpInfo) (this : Nat) (attrs : Array Attribute := #[]) (ms : Array MethodInfo := #[]) (fl : Nat := 33) (sup : Nat := 0) (ifs : Array Nat := #[]) (fds : Array FieldInfo := #[]) : ClassFile where
  minorVersion := 0
  majorVersion := 65
  constantPool := pool
  accessFlags := fl
  thisClass := this
  superClass := sup
  interfaces := ifs
  fields := fds
  methods := ms
  attributes := attrs
def plain (name : String) (sup : Option ClassId) : Class where
  name := name
  kind := .ordinary
  loader := none
  accessFlags := 33
  super := sup
  interfaces := #[]
  cf := none
  fields := #[]
  methods := #[]
  instanceTypes := #[]
  staticTypes := #[]
  resolved := #[]
  callSites := []
  init := .initialized
  statics := none
  mirror := none

def pool0 : Array CpInfo := pool [(5, u "<init>"), (0, u "()V"), (1, .class_ 10), (1, u "java/lang/Object")] 113

def k0c0 : Code := { maxStack := 0, maxLocals := 1, code := object_method_1_code, exceptionTable := #[], attributes := #[] }
def k0m0 : Method := { name := "<init>", desc := "()V", sig := { parameters := [], returnType := none }, accessFlags := 1, code := some k0c0 }
/-- java/lang/Object -/
def k0 : Class := { plain "java/lang/Object" none with
  accessFlags := 33
  interfaces := #[]
  cf := some (fileOf pool0 8 #[] #[{ accessFlags := 1, nameIndex := 5, descriptorIndex := 6, attributes := #[] }] 33 0 #[] #[])
  fields := #[]
  methods := #[k0m0]
  instanceTypes := #[]
  staticTypes := #[]
  resolved := Array.replicate 124 none
  statics := none }

def pool1 : Array CpInfo := pool [(2, .class_ 4), (1, u "java/lang/Object"), (0, u "<init>"), (0, u "()V"), (0, .integer 1073741823), (0, .class_ 9), (0, u "com/example/quern/quern/core/Bm25"), (0, .methodref 8 11), (0, .nameAndType 5 12), (0, u "(IJ)V"), (0, .integer 2147483647), (0, .long 3), (1, .long 4), (1, .double 4612136378390124954), (1, .double 4608083138725491507), (1, .methodref 8 23), (0, .nameAndType 24 25), (0, u "weight"), (0, u "(DII)D"), (0, .class_ 27), (0, u "com/example/quern/quern/core/Bm25WeightPinLaw"), (2, u "law"), (0, u "(IIIII)Z")] 3

def k1m0 : Method := { name := "<init>", desc := "()V", sig := { parameters := [], returnType := none }, accessFlags := 1, code := none }
def k1c1 : Code := { maxStack := 8, maxLocals := 20, code := code, exceptionTable := #[], attributes := #[] }
def k1m1 : Method := { name := "law", desc := "(IIIII)Z", sig := { parameters := [.int, .int, .int, .int, .int], returnType := some .boolean }, accessFlags := 9, code := some k1c1 }
/-- com/example/quern/quern/core/Bm25WeightPinLaw -/
def k1 : Class := { plain "com/example/quern/quern/core/Bm25WeightPinLaw" (some 0) with
  accessFlags := 49
  interfaces := #[]
  cf := some (fileOf pool1 26 #[] #[{ accessFlags := 1, nameIndex := 5, descriptorIndex := 6, attributes := #[] }, { accessFlags := 9, nameIndex := 30, descriptorIndex := 31, attributes := #[] }] 49 2 #[] #[])
  fields := #[]
  methods := #[k1m0, k1m1]
  instanceTypes := #[]
  staticTypes := #[]
  resolved := Array.replicate 35 none
  statics := none }

def pool2 : Array CpInfo := pool [(1, .methodref 2 3), (0, .class_ 4), (0, .nameAndType 5 6), (0, u "java/lang/Object"), (0, u "<init>"), (0, u "()V"), (0, .fieldref 8 9), (0, .class_ 10), (0, .nameAndType 11 12), (0, u "com/example/quern/quern/core/Bm25"), (0, u "documentCount"), (0, u "I"), (0, .fieldref 8 14), (0, .nameAndType 15 16), (0, u "averageLength"), (0, u "D"), (8, .double 4612136378390124954), (1, .double 4608083138725491507), (1, .double 4598175219545276416), (1, .double 4604930618986332160), (1, u "K1"), (1, u "B"), (0, u "(IJ)V"), (4, u "weight"), (0, u "(DII)D")] 2

def k2c0 : Code := { maxStack := 5, maxLocals := 4, code := prog_6_method_1_code, exceptionTable := #[], attributes := #[] }
def k2m0 : Method := { name := "<init>", desc := "(IJ)V", sig := { parameters := [.int, .long], returnType := none }, accessFlags := 0, code := some k2c0 }
def k2c1 : Code := { maxStack := 12, maxLocals := 5, code := prog_6_method_3_code, exceptionTable := #[], attributes := #[] }
def k2m1 : Method := { name := "weight", desc := "(DII)D", sig := { parameters := [.double, .int, .int], returnType := some .double }, accessFlags := 0, code := some k2c1 }
/-- com/example/quern/quern/core/Bm25 -/
def k2 : Class := { plain "com/example/quern/quern/core/Bm25" (some 0) with
  accessFlags := 48
  interfaces := #[]
  cf := some (fileOf pool2 8 #[] #[{ accessFlags := 0, nameIndex := 5, descriptorIndex := 36, attributes := #[] }, { accessFlags := 0, nameIndex := 41, descriptorIndex := 42, attributes := #[] }] 48 2 #[] #[{ accessFlags := 24, nameIndex := 33, descriptorIndex := 16, attributes := #[] }, { accessFlags := 24, nameIndex := 35, descriptorIndex := 16, attributes := #[] }, { accessFlags := 18, nameIndex := 11, descriptorIndex := 12, attributes := #[] }, { accessFlags := 18, nameIndex := 15, descriptorIndex := 16, attributes := #[] }])
  fields := #[{ name := "K1", type := .double, accessFlags := 24, slot := 0, constantValue := 0 }, { name := "B", type := .double, accessFlags := 24, slot := 1, constantValue := 0 }, { name := "documentCount", type := .int, accessFlags := 18, slot := 0, constantValue := 0 }, { name := "averageLength", type := .double, accessFlags := 18, slot := 1, constantValue := 0 }]
  methods := #[k2m0, k2m1]
  instanceTypes := #[.int, .double]
  staticTypes := #[.double, .double]
  resolved := Array.replicate 45 none
  statics := none }

def pool3 : Array CpInfo := pool [(1, u "java/lang/Cloneable"), (0, .class_ 1), (0, u "java/lang/Object"), (0, .class_ 3)] 3

/-- java/lang/Cloneable -/
def k3 : Class := { plain "java/lang/Cloneable" (some 0) with
  accessFlags := 1537
  interfaces := #[]
  cf := some (fileOf pool3 2 #[] #[] 1537 4 #[] #[])
  fields := #[]
  methods := #[]
  instanceTypes := #[]
  staticTypes := #[]
  resolved := Array.replicate 8 none
  statics := none }

def pool4 : Array CpInfo := pool [(1, u "java/io/Serializable"), (0, .class_ 1), (0, u "java/lang/Object"), (0, .class_ 3)] 3

/-- java/io/Serializable -/
def k4 : Class := { plain "java/io/Serializable" (some 0) with
  accessFlags := 1537
  interfaces := #[]
  cf := some (fileOf pool4 2 #[] #[] 1537 4 #[] #[])
  fields := #[]
  methods := #[]
  instanceTypes := #[]
  staticTypes := #[]
  resolved := Array.replicate 8 none
  statics := none }

/-- the primitive byte -/
def k5 : Class := { plain "byte" none with kind := .primitive 'B', accessFlags := 0x411 }
/-- [B -/
def k6 : Class := { plain "[B" (some 0) with kind := .array 5 .byte, interfaces := #[3, 4], accessFlags := 1041 }

/-- the primitive int -/
def k7 : Class := { plain "int" none with kind := .primitive 'I', accessFlags := 0x411 }
/-- [I -/
def k8 : Class := { plain "[I" (some 0) with kind := .array 7 .int, interfaces := #[3, 4], accessFlags := 1041 }

def heap : Heap := #[]
def classes : Array Class := #[k0, k1, k2, k3, k4, k5, k6, k7, k8]
def interned : List (Array UInt16 × Addr) := []
def slotsUsed : Nat := 0
def theMethod : MethodId := ⟨1, 1⟩
def args0 : Array Value := #[.int 5, .int 7, .int 3, .int 1, .int 2]
def aboutOver (below : List Frame) : State where
  vm := { classes := classes, interned := interned.toArray }
  heap := heap
  slotsUsed := slotsUsed
  threads := #[{ frames := .invoking theMethod args0 :: below }]
def below0 : List Frame := [.native { method := ⟨0, 0⟩, args := #[] }]
def about1 : State := aboutOver below0
def p0 : Program := .bare "" "" ""
def e0 : Env := launch0.env 0 0 0
theorem w_frames : about1.frames = Frame.invoking theMethod args0 :: below0 := rfl
set_option maxRecDepth 65536 in
theorem w_args : argsFit about1.vm theMethod args0 = true := by decide +kernel
set_option maxRecDepth 65536 in
theorem w_heap : heapFits about1 = true := by decide +kernel
set_option maxRecDepth 65536 in
theorem w_runnable : about1.curStatus? = some .runnable := by decide +kernel
set_option maxRecDepth 65536 in
theorem w_alone : about1.alone = true := by decide +kernel
set_option maxRecDepth 65536 in
theorem w_named : about1.methodNamed? x = some theMethod := by decide +kernel
set_option maxRecDepth 65536 in
theorem w_hears : about1.hears theMethod below0 = true := by decide +kernel
set_option maxRecDepth 65536 in
theorem w_ripe : about1.ripe theMethod args0 below0 = true := by decide +kernel
theorem w_running : about1.status = .running := rfl
set_option maxRecDepth 65536 in
theorem w_room : about1.hasRoom e0.platform room_1 = true :=
  launch0.hasRoom_least _ room_1 (by decide +kernel) (by decide +kernel) (by decide +kernel) (by decide +kernel) (by decide +kernel) (by decide +kernel)
theorem allAtoms_all (ts : List Jvm.Cond) (a : Array Jvm.Value) (st : Jvm.State) : (allAtoms ts).before a st = ts.all (fun c => c.before a st) := by
  induction ts with
  | nil => rfl
  | cons c t ih =>
    show (Jvm.Cond.and c (allAtoms t)).before a st = _
    rw [Jvm.Cond.before_and, ih, List.all_cons]
def words1 : List Jvm.Cond := Jvm.Cond.code x code maxLocals ret :: tables_1
/-- a 'code' word, met by the world's own term for the bytes: nothing is compared byte by byte -/
theorem code_word {y : MethodName} {bytes : ByteArray} {mx : Nat} {rt : Option FieldType} {a : Array Value} {s : State} {m : MethodId} {meth : Method} {c : Code} (h1 : s.methodNamed? y = some m) (h2 : s.vm.method? m = some meth) (h3 : meth.code = some c) (h4 : c.code = bytes)
    (h5 : (c.maxLocals == mx && c.exceptionTable.isEmpty && decide (c.maxStack ≤ mostOperands) && decide (meth.sig.returnType = rt) && !meth.locks && decide (parseMethodDescriptor y.desc = some meth.sig)) = true) : (Jvm.Cond.code y bytes mx rt).before a s = true := by
  simp only [Bool.and_eq_true, beq_iff_eq, Bool.not_eq_true', decide_eq_true_eq] at h5
  obtain ⟨⟨⟨⟨⟨g1, g2⟩, g3⟩, g4⟩, g5⟩, g6⟩ := h5
  simp [Cond.before, Cond.holds, Cond.value, h1, h2, h3, h4, g1, g2, g3, g4, g5, g6]
def isCode : Jvm.Cond → Bool
  | .code _ _ _ _ => true
  | _ => false
theorem all_split {L : List Jvm.Cond} {P : Jvm.Cond → Bool} (h1 : L.all (fun c => isCode c || P c) = true) (h2 : ∀ c ∈ L.filter isCode, P c = true) : L.all P = true := by
  refine List.all_eq_true.mpr fun c hc => ?_
  have h := List.all_eq_true.mp h1 c hc
  rcases Bool.eq_false_or_eq_true (isCode c) with hi | hi
  · exact h2 c (List.mem_filter.mpr ⟨hc, hi⟩)
  · simpa [hi] using h
set_option maxRecDepth 65536 in
theorem w_c0 : (Jvm.Cond.code x code maxLocals ret).before args0 about1 = true := code_word (m := ⟨1, 1⟩) (meth := k1m1) (c := k1c1) (by decide +kernel) rfl rfl rfl (by decide +kernel)
set_option maxRecDepth 65536 in
theorem w_c1 : (Jvm.Cond.code ({ cls := "com/example/quern/quern/core/Bm25", name := "<init>", desc := "(IJ)V" } : Jvm.MethodName) prog_6_method_1_code (4 : Nat) (Option.none : Option Jvm.ClassFile.FieldType)).before args0 about1 = true := code_word (m := ⟨2, 0⟩) (meth := k2m0) (c := k2c0) (by decide +kernel) rfl rfl rfl (by decide +kernel)
set_option maxRecDepth 65536 in
theorem w_c2 : (Jvm.Cond.code ({ cls := "java/lang/Object", name := "<init>", desc := "()V" } : Jvm.MethodName) object_method_1_code (1 : Nat) (Option.none : Option Jvm.ClassFile.FieldType)).before args0 about1 = true := code_word (m := ⟨0, 0⟩) (meth := k0m0) (c := k0c0) (by decide +kernel) rfl rfl rfl (by decide +kernel)
set_option maxRecDepth 65536 in
theorem w_c3 : (Jvm.Cond.code ({ cls := "com/example/quern/quern/core/Bm25", name := "weight", desc := "(DII)D" } : Jvm.MethodName) prog_6_method_3_code (5 : Nat) (Option.some Jvm.ClassFile.FieldType.double)).before args0 about1 = true := code_word (m := ⟨2, 1⟩) (meth := k2m1) (c := k2c1) (by decide +kernel) rfl rfl rfl (by decide +kernel)
def codes1 : List Jvm.Cond := [Jvm.Cond.code x code maxLocals ret, Jvm.Cond.code ({ cls := "com/example/quern/quern/core/Bm25", name := "<init>", desc := "(IJ)V" } : Jvm.MethodName) prog_6_method_1_code (4 : Nat) (Option.none : Option Jvm.ClassFile.FieldType), Jvm.Cond.code ({ cls := "java/lang/Object", name := "<init>", desc := "()V" } : Jvm.MethodName) object_method_1_code (1 : Nat) (Option.none : Option Jvm.ClassFile.FieldType), Jvm.Cond.code ({ cls := "com/example/quern/quern/core/Bm25", name := "weight", desc := "(DII)D" } : Jvm.MethodName) prog_6_method_3_code (5 : Nat) (Option.some Jvm.ClassFile.FieldType.double)]
set_option maxRecDepth 65536 in
theorem codes_eq : words1.filter isCode = codes1 := rfl
theorem w_codes : ∀ c ∈ words1.filter isCode, c.before args0 about1 = true := by
  rw [codes_eq]
  intro c hc
  simp only [codes1, List.mem_cons, List.not_mem_nil, or_false] at hc
  rcases hc with rfl | rfl | rfl | rfl
  · exact w_c0
  · exact w_c1
  · exact w_c2
  · exact w_c3
set_option maxRecDepth 65536 in
theorem w_t1 : (words1.take 24).all (fun c => isCode c || c.before args0 about1) = true := by decide +kernel
set_option maxRecDepth 65536 in
theorem w_t2 : (words1.drop 24).all (fun c => isCode c || c.before args0 about1) = true := by decide +kernel
theorem w_tables : (allAtoms (Jvm.Cond.code x code maxLocals ret :: tables_1)).before args0 about1 = true := by
  rw [allAtoms_all]
  show words1.all (fun c => c.before args0 about1) = true
  refine all_split ?_ w_codes
  rw [← List.take_append_drop 24 words1, List.all_append, w_t1, w_t2]
  rfl
set_option maxRecDepth 65536 in
theorem w_case : (Jvm.Cond.and given_1 narrow_1).before args0 about1 = true := by decide +kernel
theorem w_applies : (headSpec (Jvm.Cond.code x code maxLocals ret :: tables_1) room_1).applies x e0.platform about1 = true :=
  (Spec.applies_iff w_frames).mpr ⟨w_running, w_runnable, w_alone, w_named, w_hears, w_ripe, w_room, w_tables⟩
theorem atStart : AtStart classFile x code maxLocals ret World_1 tables_1 room_1 Calls_1 rest_1 Pre_1 launch0 p0 e0 about1 theMethod args0 below0 :=
  ⟨lists_1, trivial, launch0.admits_env _ _ _, launch0.least_env, fairChoices_fair.cas, fairChoices_fair.clock, w_frames, w_args, w_heap, w_applies, trivial, trivial, w_case⟩
end start1
theorem witness_1 : WitnessClaimed_1 := ⟨start1.p0, start1.e0, start1.about1, start1.theMethod, start1.args0, start1.below0, start1.atStart⟩
end Jvm.Pilot.@@N@@
