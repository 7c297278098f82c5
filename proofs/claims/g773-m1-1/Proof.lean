import JvmDerived
import JvmDerived.Pilot.@@N@@Statement
import JvmDerived.Pilot.@@N@@Code
set_option linter.unusedVariables false
set_option linter.unusedSimpArgs false
namespace Jvm.Pilot.@@N@@
open Jvm Jvm.ClassFile Sem Op Lib Jvm.Free Jvm.Stand Jvm.LawKit Jvm.RoadKit Bundle Jvm.Pilot.@@N@@.Jvm.D
section Own
variable {p : Program} {l : Launch} {e : Env} {R : Room} {s : State} {m : MethodId} {args : Array Value} {below : List Frame} {meth : Method} {c : Code} {T T' : State} {locs : List Loc} {cells slots C N : Nat} {Q : Option Value → Heap → List Loc → Prop} {g g' : JFrame}
/-- from T with the frame g on top the invocation of s comes to its end: it returns, and Q holds of what it returns, of the heap and of the places written -/
def Go (p : Program) (e : Env) (below : List Frame) (s : State) (C N : Nat) (Q : Option Value → Heap → List Loc → Prop) (T : State) (g : JFrame) : Prop :=
  ∃ s₂ o, Steps p.tables e below (T.setTop g) s₂ ∧ s₂.status = .running ∧ Ended s₂ below o ∧ ∃ v L, o = .returned v ∧ Q v s₂.heap L ∧ FrameEnd s o s₂ L C N
theorem Go.st (h : ∀ t, Steps p.tables e below (T'.setTop g') t → Steps p.tables e below (T.setTop g) t) (k : Go p e below s C N Q T' g') : Go p e below s C N Q T g := by
  obtain ⟨s2, o, h1, h2⟩ := k
  exact ⟨s2, o, h _ h1, h2⟩
theorem Go.enter (q : g = g') (k : Go p e below s C N Q T g') : ∃ s₂ o, Steps p.tables e below (T.setTop g) s₂ ∧ s₂.status = .running ∧ Ended s₂ below o ∧ ∃ v L, o = .returned v ∧ Q v s₂.heap L ∧ FrameEnd s o s₂ L C N := by
  subst q; exact k
theorem Go.fin (X : Stand p l e R s m args below meth c T locs cells slots) (hlk : meth.locks = false) {v : Option Value} (hv : meth.sig.returnType = none → v = none) (hC : cells ≤ C) (hN : slots ≤ N) (hq : Q v T.heap locs)
    (hs : ∀ fs, (∀ (f : JFrame) (acts : List Action), f.method = m → f.locked = none → f.entered = [] → (doReturn e (T.setTop f) acts v).1 = T.setFrames fs) → Steps p.tables e below (T.setTop g) (T.setFrames fs)) : Go p e below s C N Q T g := by
  obtain ⟨fs, hr, hrun, hended, hW, hsame⟩ := X.leave hv hlk
  exact ⟨_, _, hs fs hr, hrun, hended, _, _, rfl, hq, ⟨_, rfl⟩, hW, hsame.mono hC hN⟩
end Own
theorem own_selp {s : State} {args : Array Value} {y : MethodName} {n : Nat} (wi : (Cond.instantiable y.cls n).before args s = true) (wp : (Cond.privateMethod y).before args s = true) (hinst : (Cond.instanceMethod y).before args s = true) (hy : y.cls ≠ "java/lang/invoke/MethodHandle" ∧ y.cls ≠ "java/lang/invoke/VarHandle") : (Cond.selects y.cls y y).before args s = true := by
  obtain ⟨c, k, h1, h2, -, h4, -⟩ := Cond.instantiable_spec wi
  exact Jvm.Stand.selects_self_of_private h1 h2 (by simp only [Bool.or_eq_false_iff] at h4; exact h4.1) (Cond.privateMethod_at wp) hinst hy

section OwnG
variable {p : Program} {l : Launch} {e : Env} {R : Room} {s : State} {m : MethodId} {args : Array Value} {below : List Frame} {meth : Method} {c : Code} {T : State} {locs : List Loc} {cells slots C N : Nat} {Q : Option Value → Heap → List Loc → Prop} {pc pc' : Nat} {L L' : Array Slot} {S : List Value}
theorem G_iloadN (X : Stand p l e R s m args below meth c T locs cells slots) (hx : p.tables.exec = Jvm.exec) {k : Fin 4} {v : Int32} (hp : pc + 1 = pc') (hd : decode c.code pc = .ok (.iload_n k, 1)) (hl : L[k.val]? = some (.val (.int v))) (h : Go p e below s C N Q T (mkF m pc' L (.int v :: S))) : Go p e below s C N Q T (mkF m pc L S) := by
  subst hp; exact Go.st (fun _ k => XS.iloadN X.here hx rfl hd hl k) h
theorem G_iload (X : Stand p l e R s m args below meth c T locs cells slots) (hx : p.tables.exec = Jvm.exec) {k : Nat} {v : Int32} (hp : pc + 2 = pc') (hd : decode c.code pc = .ok (.iload k, 2)) (hl : L[k]? = some (.val (.int v))) (h : Go p e below s C N Q T (mkF m pc' L (.int v :: S))) : Go p e below s C N Q T (mkF m pc L S) := by
  subst hp; exact Go.st (fun _ k => XS.iload X.here hx rfl hd hl k) h
theorem G_istoreN (X : Stand p l e R s m args below meth c T locs cells slots) (hx : p.tables.exec = Jvm.exec) {k : Fin 4} {v : Int32} (hp : pc + 1 = pc') (hd : decode c.code pc = .ok (.istore_n k, 1)) (hl : storeLocals L k.val (.int v) = some L') (h : Go p e below s C N Q T (mkF m pc' L' S)) : Go p e below s C N Q T (mkF m pc L (.int v :: S)) := by
  subst hp; exact Go.st (fun _ k => XS.istoreN X.here hx rfl hd rfl hl k) h
theorem G_istore (X : Stand p l e R s m args below meth c T locs cells slots) (hx : p.tables.exec = Jvm.exec) {k : Nat} {v : Int32} (hp : pc + 2 = pc') (hd : decode c.code pc = .ok (.istore k, 2)) (hl : storeLocals L k (.int v) = some L') (h : Go p e below s C N Q T (mkF m pc' L' S)) : Go p e below s C N Q T (mkF m pc L (.int v :: S)) := by
  subst hp; exact Go.st (fun _ k => XS.istore X.here hx rfl hd rfl hl k) h
theorem G_lloadN (X : Stand p l e R s m args below meth c T locs cells slots) (hx : p.tables.exec = Jvm.exec) {k : Fin 4} {v : Int64} (hp : pc + 1 = pc') (hd : decode c.code pc = .ok (.lload_n k, 1)) (hl : L[k.val]? = some (.val (.long v))) (h : Go p e below s C N Q T (mkF m pc' L (.long v :: S))) : Go p e below s C N Q T (mkF m pc L S) := by
  subst hp; exact Go.st (fun _ k => XS.lloadN X.here hx rfl hd hl k) h
theorem G_lload (X : Stand p l e R s m args below meth c T locs cells slots) (hx : p.tables.exec = Jvm.exec) {k : Nat} {v : Int64} (hp : pc + 2 = pc') (hd : decode c.code pc = .ok (.lload k, 2)) (hl : L[k]? = some (.val (.long v))) (h : Go p e below s C N Q T (mkF m pc' L (.long v :: S))) : Go p e below s C N Q T (mkF m pc L S) := by
  subst hp; exact Go.st (fun _ k => XS.lload X.here hx rfl hd hl k) h
theorem G_lstoreN (X : Stand p l e R s m args below meth c T locs cells slots) (hx : p.tables.exec = Jvm.exec) {k : Fin 4} {v : Int64} (hp : pc + 1 = pc') (hd : decode c.code pc = .ok (.lstore_n k, 1)) (hl : storeLocals L k.val (.long v) = some L') (h : Go p e below s C N Q T (mkF m pc' L' S)) : Go p e below s C N Q T (mkF m pc L (.long v :: S)) := by
  subst hp; exact Go.st (fun _ k => XS.lstoreN X.here hx rfl hd rfl hl k) h
theorem G_lstore (X : Stand p l e R s m args below meth c T locs cells slots) (hx : p.tables.exec = Jvm.exec) {k : Nat} {v : Int64} (hp : pc + 2 = pc') (hd : decode c.code pc = .ok (.lstore k, 2)) (hl : storeLocals L k (.long v) = some L') (h : Go p e below s C N Q T (mkF m pc' L' S)) : Go p e below s C N Q T (mkF m pc L (.long v :: S)) := by
  subst hp; exact Go.st (fun _ k => XS.lstore X.here hx rfl hd rfl hl k) h
theorem G_aloadN (X : Stand p l e R s m args below meth c T locs cells slots) (hx : p.tables.exec = Jvm.exec) {k : Fin 4} {v : Value} (hp : pc + 1 = pc') (hd : decode c.code pc = .ok (.aload_n k, 1)) (hl : L[k.val]? = some (.val v)) (hv : v.isRef = true) (h : Go p e below s C N Q T (mkF m pc' L (v :: S))) : Go p e below s C N Q T (mkF m pc L S) := by
  subst hp; exact Go.st (fun _ k => XS.aloadN X.here hx rfl hd hl hv k) h
theorem G_aload (X : Stand p l e R s m args below meth c T locs cells slots) (hx : p.tables.exec = Jvm.exec) {k : Nat} {v : Value} (hp : pc + 2 = pc') (hd : decode c.code pc = .ok (.aload k, 2)) (hl : L[k]? = some (.val v)) (hv : v.isRef = true) (h : Go p e below s C N Q T (mkF m pc' L (v :: S))) : Go p e below s C N Q T (mkF m pc L S) := by
  subst hp; exact Go.st (fun _ k => XS.aload X.here hx rfl hd hl hv k) h
theorem G_astoreN (X : Stand p l e R s m args below meth c T locs cells slots) (hx : p.tables.exec = Jvm.exec) {k : Fin 4} {v : Value} (hp : pc + 1 = pc') (hd : decode c.code pc = .ok (.astore_n k, 1)) (hv : v.isRef = true) (hl : storeLocals L k.val v = some L') (h : Go p e below s C N Q T (mkF m pc' L' S)) : Go p e below s C N Q T (mkF m pc L (v :: S)) := by
  subst hp; exact Go.st (fun _ k => XS.astoreN X.here hx rfl hd rfl hv hl k) h
theorem G_astore (X : Stand p l e R s m args below meth c T locs cells slots) (hx : p.tables.exec = Jvm.exec) {k : Nat} {v : Value} (hp : pc + 2 = pc') (hd : decode c.code pc = .ok (.astore k, 2)) (hv : v.isRef = true) (hl : storeLocals L k v = some L') (h : Go p e below s C N Q T (mkF m pc' L' S)) : Go p e below s C N Q T (mkF m pc L (v :: S)) := by
  subst hp; exact Go.st (fun _ k => XS.astore X.here hx rfl hd rfl hv hl k) h
theorem G_iconst (X : Stand p l e R s m args below meth c T locs cells slots) (hx : p.tables.exec = Jvm.exec) {i : Int} {z : Int32} (hp : pc + 1 = pc') (hd : decode c.code pc = .ok (.iconst i, 1)) (hz : Int32.ofInt i = z) (h : Go p e below s C N Q T (mkF m pc' L (.int z :: S))) : Go p e below s C N Q T (mkF m pc L S) := by
  subst hp; exact Go.st (fun _ k => XS.iconst X.here hx rfl hd (by rw [hz]; exact k)) h
theorem G_bipush (X : Stand p l e R s m args below meth c T locs cells slots) (hx : p.tables.exec = Jvm.exec) {i : Int} {z : Int32} (hp : pc + 2 = pc') (hd : decode c.code pc = .ok (.bipush i, 2)) (hz : (Int8.ofInt i).toInt32 = z) (h : Go p e below s C N Q T (mkF m pc' L (.int z :: S))) : Go p e below s C N Q T (mkF m pc L S) := by
  subst hp; exact Go.st (fun _ k => XS.bipush X.here hx rfl hd (by rw [hz]; exact k)) h
theorem G_sipush (X : Stand p l e R s m args below meth c T locs cells slots) (hx : p.tables.exec = Jvm.exec) {i : Int} {z : Int32} (hp : pc + 3 = pc') (hd : decode c.code pc = .ok (.sipush i, 3)) (hz : (Int16.ofInt i).toInt32 = z) (h : Go p e below s C N Q T (mkF m pc' L (.int z :: S))) : Go p e below s C N Q T (mkF m pc L S) := by
  subst hp; exact Go.st (fun _ k => XS.sipush X.here hx rfl hd (by rw [hz]; exact k)) h
theorem G_lconst (X : Stand p l e R s m args below meth c T locs cells slots) (hx : p.tables.exec = Jvm.exec) {i : Fin 2} {z : Int64} (hp : pc + 1 = pc') (hd : decode c.code pc = .ok (.lconst i, 1)) (hz : Int64.ofNat i = z) (h : Go p e below s C N Q T (mkF m pc' L (.long z :: S))) : Go p e below s C N Q T (mkF m pc L S) := by
  subst hp; exact Go.st (fun _ k => XS.lconst X.here hx rfl hd (by rw [hz]; exact k)) h
theorem G_aconstNull (X : Stand p l e R s m args below meth c T locs cells slots) (hx : p.tables.exec = Jvm.exec)  (hp : pc + 1 = pc') (hd : decode c.code pc = .ok (.aconst_null, 1))  (h : Go p e below s C N Q T (mkF m pc' L (.null :: S))) : Go p e below s C N Q T (mkF m pc L S) := by
  subst hp; exact Go.st (fun _ k => XS.aconstNull X.here hx rfl hd k) h
theorem G_iadd (X : Stand p l e R s m args below meth c T locs cells slots) (hx : p.tables.exec = Jvm.exec) {x y : Int32} (hp : pc + 1 = pc') (hd : decode c.code pc = .ok (.iadd, 1))  (h : Go p e below s C N Q T (mkF m pc' L (.int (x + y) :: S))) : Go p e below s C N Q T (mkF m pc L (.int y :: .int x :: S)) := by
  subst hp; exact Go.st (fun _ k => XS.iadd X.here hx rfl hd rfl k) h
theorem G_isub (X : Stand p l e R s m args below meth c T locs cells slots) (hx : p.tables.exec = Jvm.exec) {x y : Int32} (hp : pc + 1 = pc') (hd : decode c.code pc = .ok (.isub, 1))  (h : Go p e below s C N Q T (mkF m pc' L (.int (x - y) :: S))) : Go p e below s C N Q T (mkF m pc L (.int y :: .int x :: S)) := by
  subst hp; exact Go.st (fun _ k => XS.isub X.here hx rfl hd rfl k) h
theorem G_imul (X : Stand p l e R s m args below meth c T locs cells slots) (hx : p.tables.exec = Jvm.exec) {x y : Int32} (hp : pc + 1 = pc') (hd : decode c.code pc = .ok (.imul, 1))  (h : Go p e below s C N Q T (mkF m pc' L (.int (x * y) :: S))) : Go p e below s C N Q T (mkF m pc L (.int y :: .int x :: S)) := by
  subst hp; exact Go.st (fun _ k => XS.imul X.here hx rfl hd rfl k) h
theorem G_iand (X : Stand p l e R s m args below meth c T locs cells slots) (hx : p.tables.exec = Jvm.exec) {x y : Int32} (hp : pc + 1 = pc') (hd : decode c.code pc = .ok (.iand, 1))  (h : Go p e below s C N Q T (mkF m pc' L (.int (x &&& y) :: S))) : Go p e below s C N Q T (mkF m pc L (.int y :: .int x :: S)) := by
  subst hp; exact Go.st (fun _ k => XS.iand X.here hx rfl hd rfl k) h
theorem G_ior (X : Stand p l e R s m args below meth c T locs cells slots) (hx : p.tables.exec = Jvm.exec) {x y : Int32} (hp : pc + 1 = pc') (hd : decode c.code pc = .ok (.ior, 1))  (h : Go p e below s C N Q T (mkF m pc' L (.int (x ||| y) :: S))) : Go p e below s C N Q T (mkF m pc L (.int y :: .int x :: S)) := by
  subst hp; exact Go.st (fun _ k => XS.ior X.here hx rfl hd rfl k) h
theorem G_ixor (X : Stand p l e R s m args below meth c T locs cells slots) (hx : p.tables.exec = Jvm.exec) {x y : Int32} (hp : pc + 1 = pc') (hd : decode c.code pc = .ok (.ixor, 1))  (h : Go p e below s C N Q T (mkF m pc' L (.int (x ^^^ y) :: S))) : Go p e below s C N Q T (mkF m pc L (.int y :: .int x :: S)) := by
  subst hp; exact Go.st (fun _ k => XS.ixor X.here hx rfl hd rfl k) h
theorem G_ishl (X : Stand p l e R s m args below meth c T locs cells slots) (hx : p.tables.exec = Jvm.exec) {x y : Int32} (hp : pc + 1 = pc') (hd : decode c.code pc = .ok (.ishl, 1))  (h : Go p e below s C N Q T (mkF m pc' L (.int (x <<< (y &&& 31)) :: S))) : Go p e below s C N Q T (mkF m pc L (.int y :: .int x :: S)) := by
  subst hp; exact Go.st (fun _ k => XS.ishl X.here hx rfl hd rfl k) h
theorem G_ishr (X : Stand p l e R s m args below meth c T locs cells slots) (hx : p.tables.exec = Jvm.exec) {x y : Int32} (hp : pc + 1 = pc') (hd : decode c.code pc = .ok (.ishr, 1))  (h : Go p e below s C N Q T (mkF m pc' L (.int (x >>> (y &&& 31)) :: S))) : Go p e below s C N Q T (mkF m pc L (.int y :: .int x :: S)) := by
  subst hp; exact Go.st (fun _ k => XS.ishr X.here hx rfl hd rfl k) h
theorem G_iushr (X : Stand p l e R s m args below meth c T locs cells slots) (hx : p.tables.exec = Jvm.exec) {x y : Int32} (hp : pc + 1 = pc') (hd : decode c.code pc = .ok (.iushr, 1))  (h : Go p e below s C N Q T (mkF m pc' L (.int ((x.toUInt32 >>> (y &&& 31).toUInt32).toInt32) :: S))) : Go p e below s C N Q T (mkF m pc L (.int y :: .int x :: S)) := by
  subst hp; exact Go.st (fun _ k => XS.iushr X.here hx rfl hd rfl k) h
theorem G_ladd (X : Stand p l e R s m args below meth c T locs cells slots) (hx : p.tables.exec = Jvm.exec) {x y : Int64} (hp : pc + 1 = pc') (hd : decode c.code pc = .ok (.ladd, 1))  (h : Go p e below s C N Q T (mkF m pc' L (.long (x + y) :: S))) : Go p e below s C N Q T (mkF m pc L (.long y :: .long x :: S)) := by
  subst hp; exact Go.st (fun _ k => XS.ladd X.here hx rfl hd rfl k) h
theorem G_lsub (X : Stand p l e R s m args below meth c T locs cells slots) (hx : p.tables.exec = Jvm.exec) {x y : Int64} (hp : pc + 1 = pc') (hd : decode c.code pc = .ok (.lsub, 1))  (h : Go p e below s C N Q T (mkF m pc' L (.long (x - y) :: S))) : Go p e below s C N Q T (mkF m pc L (.long y :: .long x :: S)) := by
  subst hp; exact Go.st (fun _ k => XS.lsub X.here hx rfl hd rfl k) h
theorem G_lmul (X : Stand p l e R s m args below meth c T locs cells slots) (hx : p.tables.exec = Jvm.exec) {x y : Int64} (hp : pc + 1 = pc') (hd : decode c.code pc = .ok (.lmul, 1))  (h : Go p e below s C N Q T (mkF m pc' L (.long (x * y) :: S))) : Go p e below s C N Q T (mkF m pc L (.long y :: .long x :: S)) := by
  subst hp; exact Go.st (fun _ k => XS.lmul X.here hx rfl hd rfl k) h
theorem G_land (X : Stand p l e R s m args below meth c T locs cells slots) (hx : p.tables.exec = Jvm.exec) {x y : Int64} (hp : pc + 1 = pc') (hd : decode c.code pc = .ok (.land, 1))  (h : Go p e below s C N Q T (mkF m pc' L (.long (x &&& y) :: S))) : Go p e below s C N Q T (mkF m pc L (.long y :: .long x :: S)) := by
  subst hp; exact Go.st (fun _ k => XS.land X.here hx rfl hd rfl k) h
theorem G_lor (X : Stand p l e R s m args below meth c T locs cells slots) (hx : p.tables.exec = Jvm.exec) {x y : Int64} (hp : pc + 1 = pc') (hd : decode c.code pc = .ok (.lor, 1))  (h : Go p e below s C N Q T (mkF m pc' L (.long (x ||| y) :: S))) : Go p e below s C N Q T (mkF m pc L (.long y :: .long x :: S)) := by
  subst hp; exact Go.st (fun _ k => XS.lor X.here hx rfl hd rfl k) h
theorem G_lxor (X : Stand p l e R s m args below meth c T locs cells slots) (hx : p.tables.exec = Jvm.exec) {x y : Int64} (hp : pc + 1 = pc') (hd : decode c.code pc = .ok (.lxor, 1))  (h : Go p e below s C N Q T (mkF m pc' L (.long (x ^^^ y) :: S))) : Go p e below s C N Q T (mkF m pc L (.long y :: .long x :: S)) := by
  subst hp; exact Go.st (fun _ k => XS.lxor X.here hx rfl hd rfl k) h
theorem G_lshl (X : Stand p l e R s m args below meth c T locs cells slots) (hx : p.tables.exec = Jvm.exec) {x : Int64} {y : Int32} (hp : pc + 1 = pc') (hd : decode c.code pc = .ok (.lshl, 1))  (h : Go p e below s C N Q T (mkF m pc' L (.long (x <<< (y &&& 0x3f).toInt64) :: S))) : Go p e below s C N Q T (mkF m pc L (.int y :: .long x :: S)) := by
  subst hp; exact Go.st (fun _ k => XS.lshl X.here hx rfl hd rfl k) h
theorem G_lshr (X : Stand p l e R s m args below meth c T locs cells slots) (hx : p.tables.exec = Jvm.exec) {x : Int64} {y : Int32} (hp : pc + 1 = pc') (hd : decode c.code pc = .ok (.lshr, 1))  (h : Go p e below s C N Q T (mkF m pc' L (.long (x >>> (y &&& 0x3f).toInt64) :: S))) : Go p e below s C N Q T (mkF m pc L (.int y :: .long x :: S)) := by
  subst hp; exact Go.st (fun _ k => XS.lshr X.here hx rfl hd rfl k) h
theorem G_lushr (X : Stand p l e R s m args below meth c T locs cells slots) (hx : p.tables.exec = Jvm.exec) {x : Int64} {y : Int32} (hp : pc + 1 = pc') (hd : decode c.code pc = .ok (.lushr, 1))  (h : Go p e below s C N Q T (mkF m pc' L (.long ((x.toUInt64 >>> (y &&& 0x3f).toInt64.toUInt64).toInt64) :: S))) : Go p e below s C N Q T (mkF m pc L (.int y :: .long x :: S)) := by
  subst hp; exact Go.st (fun _ k => XS.lushr X.here hx rfl hd rfl k) h
theorem G_idiv (X : Stand p l e R s m args below meth c T locs cells slots) (hx : p.tables.exec = Jvm.exec) {x y : Int32} (hp : pc + 1 = pc') (hd : decode c.code pc = .ok (.idiv, 1)) (hy : y ≠ 0) (h : Go p e below s C N Q T (mkF m pc' L (.int (x / y) :: S))) : Go p e below s C N Q T (mkF m pc L (.int y :: .int x :: S)) := by
  subst hp; exact Go.st (fun _ k => XS.idiv X.here hx rfl hd rfl hy k) h
theorem G_irem (X : Stand p l e R s m args below meth c T locs cells slots) (hx : p.tables.exec = Jvm.exec) {x y : Int32} (hp : pc + 1 = pc') (hd : decode c.code pc = .ok (.irem, 1)) (hy : y ≠ 0) (h : Go p e below s C N Q T (mkF m pc' L (.int (x % y) :: S))) : Go p e below s C N Q T (mkF m pc L (.int y :: .int x :: S)) := by
  subst hp; exact Go.st (fun _ k => iremM X hx rfl hd rfl hy k) h
theorem G_ldiv (X : Stand p l e R s m args below meth c T locs cells slots) (hx : p.tables.exec = Jvm.exec) {x y : Int64} (hp : pc + 1 = pc') (hd : decode c.code pc = .ok (.ldiv, 1)) (hy : y ≠ 0) (h : Go p e below s C N Q T (mkF m pc' L (.long (x / y) :: S))) : Go p e below s C N Q T (mkF m pc L (.long y :: .long x :: S)) := by
  subst hp; exact Go.st (fun _ k => XS.ldiv X.here hx rfl hd rfl hy k) h
theorem G_lrem (X : Stand p l e R s m args below meth c T locs cells slots) (hx : p.tables.exec = Jvm.exec) {x y : Int64} (hp : pc + 1 = pc') (hd : decode c.code pc = .ok (.lrem, 1)) (hy : y ≠ 0) (h : Go p e below s C N Q T (mkF m pc' L (.long (x % y) :: S))) : Go p e below s C N Q T (mkF m pc L (.long y :: .long x :: S)) := by
  subst hp; exact Go.st (fun _ k => XS.lrem X.here hx rfl hd rfl hy (by rw [lrem_mod]; exact k)) h
theorem G_ineg (X : Stand p l e R s m args below meth c T locs cells slots) (hx : p.tables.exec = Jvm.exec) {x : Int32} (hp : pc + 1 = pc') (hd : decode c.code pc = .ok (.ineg, 1))  (h : Go p e below s C N Q T (mkF m pc' L (.int (-x) :: S))) : Go p e below s C N Q T (mkF m pc L (.int x :: S)) := by
  subst hp; exact Go.st (fun _ k => XS.ineg X.here hx rfl hd rfl k) h
theorem G_lneg (X : Stand p l e R s m args below meth c T locs cells slots) (hx : p.tables.exec = Jvm.exec) {x : Int64} (hp : pc + 1 = pc') (hd : decode c.code pc = .ok (.lneg, 1))  (h : Go p e below s C N Q T (mkF m pc' L (.long (-x) :: S))) : Go p e below s C N Q T (mkF m pc L (.long x :: S)) := by
  subst hp; exact Go.st (fun _ k => XS.lneg X.here hx rfl hd rfl k) h
theorem G_i2l (X : Stand p l e R s m args below meth c T locs cells slots) (hx : p.tables.exec = Jvm.exec) {x : Int32} (hp : pc + 1 = pc') (hd : decode c.code pc = .ok (.i2l, 1))  (h : Go p e below s C N Q T (mkF m pc' L (.long (x.toInt64) :: S))) : Go p e below s C N Q T (mkF m pc L (.int x :: S)) := by
  subst hp; exact Go.st (fun _ k => XS.i2l X.here hx rfl hd rfl k) h
theorem G_l2i (X : Stand p l e R s m args below meth c T locs cells slots) (hx : p.tables.exec = Jvm.exec) {x : Int64} (hp : pc + 1 = pc') (hd : decode c.code pc = .ok (.l2i, 1))  (h : Go p e below s C N Q T (mkF m pc' L (.int (x.toInt32) :: S))) : Go p e below s C N Q T (mkF m pc L (.long x :: S)) := by
  subst hp; exact Go.st (fun _ k => XS.l2i X.here hx rfl hd rfl k) h
theorem G_i2b (X : Stand p l e R s m args below meth c T locs cells slots) (hx : p.tables.exec = Jvm.exec) {x : Int32} (hp : pc + 1 = pc') (hd : decode c.code pc = .ok (.i2b, 1))  (h : Go p e below s C N Q T (mkF m pc' L (.int (x.toInt8.toInt32) :: S))) : Go p e below s C N Q T (mkF m pc L (.int x :: S)) := by
  subst hp; exact Go.st (fun _ k => XS.i2b X.here hx rfl hd rfl k) h
theorem G_i2s (X : Stand p l e R s m args below meth c T locs cells slots) (hx : p.tables.exec = Jvm.exec) {x : Int32} (hp : pc + 1 = pc') (hd : decode c.code pc = .ok (.i2s, 1))  (h : Go p e below s C N Q T (mkF m pc' L (.int (x.toInt16.toInt32) :: S))) : Go p e below s C N Q T (mkF m pc L (.int x :: S)) := by
  subst hp; exact Go.st (fun _ k => XS.i2s X.here hx rfl hd rfl k) h
theorem G_i2c (X : Stand p l e R s m args below meth c T locs cells slots) (hx : p.tables.exec = Jvm.exec) {x : Int32} (hp : pc + 1 = pc') (hd : decode c.code pc = .ok (.i2c, 1))  (h : Go p e below s C N Q T (mkF m pc' L (.int (x.toUInt32.toUInt16.toUInt32.toInt32) :: S))) : Go p e below s C N Q T (mkF m pc L (.int x :: S)) := by
  subst hp; exact Go.st (fun _ k => XS.i2c X.here hx rfl hd rfl k) h
theorem G_lcmp (X : Stand p l e R s m args below meth c T locs cells slots) (hx : p.tables.exec = Jvm.exec) {x y : Int64} (hp : pc + 1 = pc') (hd : decode c.code pc = .ok (.lcmp, 1))  (h : Go p e below s C N Q T (mkF m pc' L (.int (lcmpW x y) :: S))) : Go p e below s C N Q T (mkF m pc L (.long y :: .long x :: S)) := by
  subst hp; exact Go.st (fun _ k => XS.lcmp X.here hx rfl hd rfl k) h
theorem G_iinc (X : Stand p l e R s m args below meth c T locs cells slots) (hx : p.tables.exec = Jvm.exec) {k : Nat} {cst : Int} {x z : Int32} (hp : pc + 3 = pc') (hd : decode c.code pc = .ok (.iinc k cst, 3)) (hl : L[k]? = some (.val (.int x))) (hz : x + Int32.ofInt cst = z) (hl' : storeLocals L k (.int z) = some L') (h : Go p e below s C N Q T (mkF m pc' L' S)) : Go p e below s C N Q T (mkF m pc L S) := by
  subst hp; exact Go.st (fun _ k => XS.iinc X.here hx rfl hd hl (by rw [hz]; exact hl') k) h
theorem G_dup (X : Stand p l e R s m args below meth c T locs cells slots) (hx : p.tables.exec = Jvm.exec) {x : Value} (hp : pc + 1 = pc') (hd : decode c.code pc = .ok (.dup, 1)) (hc : x.category = 1) (h : Go p e below s C N Q T (mkF m pc' L (x :: x :: S))) : Go p e below s C N Q T (mkF m pc L (x :: S)) := by
  subst hp; exact Go.st (fun _ k => XS.dup X.here hx rfl hd rfl hc k) h
theorem G_pop (X : Stand p l e R s m args below meth c T locs cells slots) (hx : p.tables.exec = Jvm.exec) {x : Value} (hp : pc + 1 = pc') (hd : decode c.code pc = .ok (.pop, 1)) (hc : x.category = 1) (h : Go p e below s C N Q T (mkF m pc' L S)) : Go p e below s C N Q T (mkF m pc L (x :: S)) := by
  subst hp; exact Go.st (fun _ k => XS.pop X.here hx rfl hd rfl hc k) h
theorem G_dupX1 (X : Stand p l e R s m args below meth c T locs cells slots) (hx : p.tables.exec = Jvm.exec) {x y : Value} (hp : pc + 1 = pc') (hd : decode c.code pc = .ok (.dup_x1, 1)) (hc : x.category = 1) (hc' : y.category = 1) (h : Go p e below s C N Q T (mkF m pc' L (x :: y :: x :: S))) : Go p e below s C N Q T (mkF m pc L (x :: y :: S)) := by
  subst hp; exact Go.st (fun _ k => XS.dupX1 X.here hx rfl hd rfl hc hc' k) h
theorem G_goto (X : Stand p l e R s m args below meth c T locs cells slots) (hx : p.tables.exec = Jvm.exec)  {o : Int} (hd : decode c.code pc = .ok (.goto o, 3))  (ho : 0 ≤ (pc : Int) + o) (hp : ((pc : Int) + o).toNat = pc') (h : Go p e below s C N Q T (mkF m pc' L S)) : Go p e below s C N Q T (mkF m pc L S) :=
  Go.st (fun _ k => XS.goto X.here hx rfl rfl hd ho hp k) h
theorem G_ifYes (X : Stand p l e R s m args below meth c T locs cells slots) (hx : p.tables.exec = Jvm.exec) {cd : ClassFile.Cond} {x : Int32} {o : Int} (hd : decode c.code pc = .ok (.ifCond cd o, 3)) (hc : ifCond.holds cd x = true) (ho : 0 ≤ (pc : Int) + o) (hp : ((pc : Int) + o).toNat = pc') (h : Go p e below s C N Q T (mkF m pc' L S)) : Go p e below s C N Q T (mkF m pc L (.int x :: S)) :=
  Go.st (fun _ k => XS.ifYes X.here hx rfl rfl hd rfl hc ho hp k) h
theorem G_icmpYes (X : Stand p l e R s m args below meth c T locs cells slots) (hx : p.tables.exec = Jvm.exec) {cd : ClassFile.Cond} {x y : Int32} {o : Int} (hd : decode c.code pc = .ok (.if_icmp cd o, 3)) (hc : if_icmp.holds cd x y = true) (ho : 0 ≤ (pc : Int) + o) (hp : ((pc : Int) + o).toNat = pc') (h : Go p e below s C N Q T (mkF m pc' L S)) : Go p e below s C N Q T (mkF m pc L (.int y :: .int x :: S)) :=
  Go.st (fun _ k => XS.icmpYes X.here hx rfl rfl hd rfl hc ho hp k) h
theorem G_ifnullYes (X : Stand p l e R s m args below meth c T locs cells slots) (hx : p.tables.exec = Jvm.exec)  {o : Int} (hd : decode c.code pc = .ok (.ifnull o, 3))  (ho : 0 ≤ (pc : Int) + o) (hp : ((pc : Int) + o).toNat = pc') (h : Go p e below s C N Q T (mkF m pc' L S)) : Go p e below s C N Q T (mkF m pc L (.null :: S)) :=
  Go.st (fun _ k => XS.ifnullYes X.here hx rfl rfl hd rfl ho hp k) h
theorem G_ifnonnullYes (X : Stand p l e R s m args below meth c T locs cells slots) (hx : p.tables.exec = Jvm.exec) {b : Addr} {o : Int} (hd : decode c.code pc = .ok (.ifnonnull o, 3))  (ho : 0 ≤ (pc : Int) + o) (hp : ((pc : Int) + o).toNat = pc') (h : Go p e below s C N Q T (mkF m pc' L S)) : Go p e below s C N Q T (mkF m pc L (.ref b :: S)) :=
  Go.st (fun _ k => XS.ifnonnullYes X.here hx rfl rfl hd rfl ho hp k) h
theorem G_ifNo (X : Stand p l e R s m args below meth c T locs cells slots) (hx : p.tables.exec = Jvm.exec) {cd : ClassFile.Cond} {x : Int32} {o : Int} (hp : pc + 3 = pc') (hd : decode c.code pc = .ok (.ifCond cd o, 3)) (hc : ifCond.holds cd x = false) (h : Go p e below s C N Q T (mkF m pc' L S)) : Go p e below s C N Q T (mkF m pc L (.int x :: S)) := by
  subst hp; exact Go.st (fun _ k => XS.ifNo X.here hx rfl hd rfl hc k) h
theorem G_icmpNo (X : Stand p l e R s m args below meth c T locs cells slots) (hx : p.tables.exec = Jvm.exec) {cd : ClassFile.Cond} {x y : Int32} {o : Int} (hp : pc + 3 = pc') (hd : decode c.code pc = .ok (.if_icmp cd o, 3)) (hc : if_icmp.holds cd x y = false) (h : Go p e below s C N Q T (mkF m pc' L S)) : Go p e below s C N Q T (mkF m pc L (.int y :: .int x :: S)) := by
  subst hp; exact Go.st (fun _ k => XS.icmpNo X.here hx rfl hd rfl hc k) h
theorem G_ifnullNo (X : Stand p l e R s m args below meth c T locs cells slots) (hx : p.tables.exec = Jvm.exec) {b : Addr} {o : Int} (hp : pc + 3 = pc') (hd : decode c.code pc = .ok (.ifnull o, 3))  (h : Go p e below s C N Q T (mkF m pc' L S)) : Go p e below s C N Q T (mkF m pc L (.ref b :: S)) := by
  subst hp; exact Go.st (fun _ k => XS.ifnullNo X.here hx rfl hd rfl k) h
theorem G_ifnonnullNo (X : Stand p l e R s m args below meth c T locs cells slots) (hx : p.tables.exec = Jvm.exec) {o : Int} (hp : pc + 3 = pc') (hd : decode c.code pc = .ok (.ifnonnull o, 3))  (h : Go p e below s C N Q T (mkF m pc' L S)) : Go p e below s C N Q T (mkF m pc L (.null :: S)) := by
  subst hp; exact Go.st (fun _ k => XS.ifnonnullNo X.here hx rfl hd rfl k) h
theorem G_ldc (X : Stand p l e R s m args below meth c T locs cells slots) (hx : p.tables.exec = Jvm.exec) (hp : pc + 2 = pc') {own : String} {index : Nat} {v : Int32} (hown : s.vm.findClass own = some m.cls) (hw : (Cond.constant own index v).before args s = true) (hd : decode c.code pc = .ok (.ldc index, 2)) (h : Go p e below s C N Q T (mkF m pc' L (.int v :: S))) : Go p e below s C N Q T (mkF m pc L S) := by
  subst hp; exact Go.st (X.ldcInt hx hown hw (g := mkF m pc L S) rfl hd) h
theorem G_ldc2 (X : Stand p l e R s m args below meth c T locs cells slots) (hx : p.tables.exec = Jvm.exec) (hp : pc + 3 = pc') {own : String} {index : Nat} {v : Int64} (hown : s.vm.findClass own = some m.cls) (hw : (Cond.constantLong own index v).before args s = true) (hd : decode c.code pc = .ok (.ldc2_w index, 3)) (h : Go p e below s C N Q T (mkF m pc' L (.long v :: S))) : Go p e below s C N Q T (mkF m pc L S) := by
  subst hp; exact Go.st (X.ldc2Long hx hown hw (g := mkF m pc L S) rfl hd) h
end OwnG

section OwnArr
variable {p : Program} {l : Launch} {e : Env} {R : Room} {s : State} {m : MethodId} {args : Array Value} {below : List Frame} {meth : Method} {c : Code} {T T' : State} {locs : List Loc} {cells slots : Nat} {Z : State} {a0 : Array Value} {h h' : Heap} {a b : Addr} {ty : FieldType} {vs : List Value} {xs : List Int32} {ys : List Int64} {v : Value} {sl : Nat} {ws : List Addr}
/-- the array at a, of components ty, holds just these values -/
def AV (Z : State) (h : Heap) (a : Addr) (ty : FieldType) (vs : List Value) : Prop := ∃ c : Cell, Arr Z h a c ty ∧ c.slots = vs.toArray ∧ vs.length < 2147483648 ∧ ∀ v ∈ vs, fits ty v = true
def AI (Z : State) (h : Heap) (a : Addr) (ty : FieldType) (xs : List Int32) : Prop := AV Z h a ty (xs.map Value.int)
def AJ (Z : State) (h : Heap) (a : Addr) (ys : List Int64) : Prop := AV Z h a .long (ys.map Value.long)
theorem AV.lt (F : AV Z h a ty vs) : a < h.size := by obtain ⟨c, A, -⟩ := F; exact A.lt
theorem AV.ext (F : AV Z h a ty vs) (E : Ext h h') : AV Z h' a ty vs := by obtain ⟨c, A, r⟩ := F; exact ⟨c, A.ext E, r⟩
theorem AV.other (F : AV Z h b ty vs) (W : Wr h h' a sl v) (q : b ≠ a) : AV Z h' b ty vs := by obtain ⟨c, A, r⟩ := F; exact ⟨c, A.other W q, r⟩
theorem AV.keep (F : AV Z h a ty vs) (K : Keep h h' ws) (q : a ∉ ws) : AV Z h' a ty vs := by obtain ⟨c, A, r⟩ := F; exact ⟨c, ⟨K.2.1 a c A.1 q, A.2⟩, r⟩
theorem AI.lt (F : AI Z h a ty xs) : a < h.size := AV.lt F
theorem AI.ext (F : AI Z h a ty xs) (E : Ext h h') : AI Z h' a ty xs := AV.ext F E
theorem AI.other (F : AI Z h b ty xs) (W : Wr h h' a sl v) (q : b ≠ a) : AI Z h' b ty xs := AV.other F W q
theorem AI.keep (F : AI Z h a ty xs) (K : Keep h h' ws) (q : a ∉ ws) : AI Z h' a ty xs := AV.keep F K q
theorem AJ.lt (F : AJ Z h a ys) : a < h.size := AV.lt F
theorem AJ.ext (F : AJ Z h a ys) (E : Ext h h') : AJ Z h' a ys := AV.ext F E
theorem AJ.other (F : AJ Z h b ys) (W : Wr h h' a sl v) (q : b ≠ a) : AJ Z h' b ys := AV.other F W q
theorem AJ.keep (F : AJ Z h a ys) (K : Keep h h' ws) (q : a ∉ ws) : AJ Z h' a ys := AV.keep F K q
theorem own_in {j : Int32} {n : Nat} (h1 : ¬ j < 0) (h2 : j.toNatClampNeg < n) : ¬ (j < 0 ∨ n ≤ j.toNatClampNeg) := fun q => q.elim h1 (fun r => by omega)
theorem AV.new {k : ClassId} {n : Int32} (A : Arr Z h a (newA k ty n) ty) (q : ¬ n < 0) (hf : fits ty (defaultValue ty) = true) : AV Z h a ty (List.replicate n.toNatClampNeg (defaultValue ty)) := by
  refine ⟨_, A, by simp [newA], ?_, fun v hv => ?_⟩
  · rw [List.length_replicate]; exact (back32 q).2
  · rw [List.eq_of_mem_replicate hv]; exact hf
theorem AV.set {cl : Cell} {jn : Nat} (A : Arr Z h a cl ty) (e1 : cl.slots = vs.toArray) (e2 : vs.length < 2147483648) (e3 : ∀ v ∈ vs, fits ty v = true) (hv : fits ty v = true) (W : Wr h h' a jn v) : AV Z h' a ty (vs.set jn v) := by
  refine ⟨cl.setSlot jn v, A.same W, ?_, by rw [List.length_set]; exact e2, fun w hw => ?_⟩
  · simp [Cell.setSlot, e1]
  · rcases List.mem_or_eq_of_mem_set hw with q | q
    · exact e3 w q
    · rw [q]; exact hv
theorem newAI (X : Stand p l e R s m args below meth c T locs cells slots) (hx : p.tables.exec = Jvm.exec) (hZ : Z.Warmed39 s.vm) {aty : ArrayType} (w : (Cond.arrayClass (newarray.typeOf aty)).before a0 Z = true) (eT : T.heap = h) {g : JFrame} (hg : g.method = m) (hd : decode c.code g.pc = .ok (.newarray aty, 2)) {n : Int32} {rest : List Value} (hs : g.stack = .int n :: rest)
    (hn : ¬ n < 0) {ty : FieldType} (hty : newarray.typeOf aty = ty) (hdv : defaultValue ty = .int 0 ∧ fits ty (.int 0) = true) {cap : Nat} (hcap : n.toNatClampNeg ≤ cap) (hb : cap * 8 ≤ 536870912) (hc : cells + 1 ≤ R.cells) (hl : slots + cap ≤ R.slots) {ad : String} (had : "[" ++ (newarray.typeOf aty).toString = ad) :
    ∃ T' h', Stand p l e R s m args below meth c T' locs (cells + 1) (slots + cap) ∧ T'.heap = h' ∧ Ext h h' ∧ Exa Z h' h.size ad ∧ AI Z h' h.size ty (List.replicate n.toNatClampNeg 0) ∧
      ∀ target, Steps p.tables e below (T'.setTop { g with pc := g.pc + 2, stack := .ref h.size :: rest }) target → Steps p.tables e below (T.setTop g) target := by
  subst hty
  obtain ⟨T', h', cA, X', e', E', A', B', st⟩ := newPE X hx hZ w eT hg hd hs hn hcap hb hc hl had
  have V := AV.new A' hn (by rw [hdv.1]; exact hdv.2)
  refine ⟨T', h', X', e', E', B', ?_, st⟩
  unfold AI
  rw [List.map_replicate, ← hdv.1]
  exact V
theorem newAJ (X : Stand p l e R s m args below meth c T locs cells slots) (hx : p.tables.exec = Jvm.exec) (hZ : Z.Warmed39 s.vm) (w : (Cond.arrayClass .long).before a0 Z = true) (eT : T.heap = h) {g : JFrame} (hg : g.method = m) (hd : decode c.code g.pc = .ok (.newarray .long, 2)) {n : Int32} {rest : List Value} (hs : g.stack = .int n :: rest)
    (hn : ¬ n < 0) {cap : Nat} (hcap : n.toNatClampNeg ≤ cap) (hb : cap * 8 ≤ 536870912) (hc : cells + 1 ≤ R.cells) (hl : slots + cap ≤ R.slots) {ad : String} (had : "[" ++ (newarray.typeOf .long).toString = ad) :
    ∃ T' h', Stand p l e R s m args below meth c T' locs (cells + 1) (slots + cap) ∧ T'.heap = h' ∧ Ext h h' ∧ Exa Z h' h.size ad ∧ AJ Z h' h.size (List.replicate n.toNatClampNeg 0) ∧
      ∀ target, Steps p.tables e below (T'.setTop { g with pc := g.pc + 2, stack := .ref h.size :: rest }) target → Steps p.tables e below (T.setTop g) target := by
  obtain ⟨T', h', cA, X', e', E', A', B', st⟩ := newPE X hx hZ (aty := .long) w eT hg hd hs hn hcap hb hc hl had
  have V := AV.new A' hn rfl
  refine ⟨T', h', X', e', E', B', ?_, st⟩
  unfold AJ
  rw [List.map_replicate]
  exact V
theorem own_len {n : Nat} (h : n < 2147483648) : n.toInt32 = Int32.ofNat n := rfl
theorem lenAV (X : Stand p l e R s m args below meth c T locs cells slots) (hx : p.tables.exec = Jvm.exec) (hZ : Z.Warmed39 s.vm) (eT : T.heap = h) (A : AV Z h a ty vs) {g : JFrame} (hg : g.method = m) {rest : List Value} (hs : g.stack = .ref a :: rest) (hd : decode c.code g.pc = .ok (.arraylength, 1)) :
    ∀ target, Steps p.tables e below (T.setTop { g with pc := g.pc + 1, stack := .int (Int32.ofNat vs.length) :: rest }) target → Steps p.tables e below (T.setTop g) target := by
  obtain ⟨cl, A, e1, e2, e3⟩ := A
  intro target k
  have hl : cl.slots.size.toInt32 = Int32.ofNat vs.length := by rw [e1]; rfl
  refine X.arraylength hx (cell := cl) (by rw [eT]; exact A.1) (State.isArrayOf_alike hZ.alike A.2.1) hg hs hd _ ?_
  rw [hl]; exact k
theorem lenAI (X : Stand p l e R s m args below meth c T locs cells slots) (hx : p.tables.exec = Jvm.exec) (hZ : Z.Warmed39 s.vm) (eT : T.heap = h) (A : AI Z h a ty xs) {g : JFrame} (hg : g.method = m) {rest : List Value} (hs : g.stack = .ref a :: rest) (hd : decode c.code g.pc = .ok (.arraylength, 1)) :
    ∀ target, Steps p.tables e below (T.setTop { g with pc := g.pc + 1, stack := .int (Int32.ofNat xs.length) :: rest }) target → Steps p.tables e below (T.setTop g) target := by
  have k := lenAV X hx hZ eT A hg hs hd
  rw [List.length_map] at k; exact k
theorem lenAJ (X : Stand p l e R s m args below meth c T locs cells slots) (hx : p.tables.exec = Jvm.exec) (hZ : Z.Warmed39 s.vm) (eT : T.heap = h) (A : AJ Z h a ys) {g : JFrame} (hg : g.method = m) {rest : List Value} (hs : g.stack = .ref a :: rest) (hd : decode c.code g.pc = .ok (.arraylength, 1)) :
    ∀ target, Steps p.tables e below (T.setTop { g with pc := g.pc + 1, stack := .int (Int32.ofNat ys.length) :: rest }) target → Steps p.tables e below (T.setTop g) target := by
  have k := lenAV X hx hZ eT A hg hs hd
  rw [List.length_map] at k; exact k
theorem own_getI {jn : Nat} (h2 : jn < xs.length) : (xs.map Value.int).toArray[jn]? = some (.int (xs.getD jn 0)) := by
  simp [List.getD_eq_getElem?_getD, h2]
theorem own_getJ {jn : Nat} (h2 : jn < ys.length) : (ys.map Value.long).toArray[jn]? = some (.long (ys.getD jn 0)) := by
  simp [List.getD_eq_getElem?_getD, h2]
theorem ldAI (X : Stand p l e R s m args below meth c T locs cells slots) (hx : p.tables.exec = Jvm.exec) (hZ : Z.Warmed39 s.vm) (eT : T.heap = h) (A : AI Z h a .int xs) {j : Int32} (h1 : ¬ j < 0) (h2 : j.toNatClampNeg < xs.length) {g : JFrame} (hg : g.method = m) {rest : List Value} (hs : g.stack = .int j :: .ref a :: rest) (hd : decode c.code g.pc = .ok (.iaload, 1)) :
    ∀ target, Steps p.tables e below (T.setTop { g with pc := g.pc + 1, stack := .int (xs.getD j.toNatClampNeg 0) :: rest }) target → Steps p.tables e below (T.setTop g) target := by
  obtain ⟨cl, A, e1, e2, e3⟩ := A
  intro target k
  refine X.iaload hx (cell := cl) (by rw [eT]; exact A.1) (State.isArrayOf_alike hZ.alike A.2.1) A.2.2 (own_in h1 (by rw [e1]; simpa using h2)) (by rw [e1]; exact own_getI h2) hg hs hd _ k
theorem ldAB (X : Stand p l e R s m args below meth c T locs cells slots) (hx : p.tables.exec = Jvm.exec) (hZ : Z.Warmed39 s.vm) (eT : T.heap = h) (A : AI Z h a .byte xs) {j : Int32} (h1 : ¬ j < 0) (h2 : j.toNatClampNeg < xs.length) {g : JFrame} (hg : g.method = m) {rest : List Value} (hs : g.stack = .int j :: .ref a :: rest) (hd : decode c.code g.pc = .ok (.baload, 1)) :
    ∀ target, Steps p.tables e below (T.setTop { g with pc := g.pc + 1, stack := .int (xs.getD j.toNatClampNeg 0) :: rest }) target → Steps p.tables e below (T.setTop g) target := by
  obtain ⟨cl, A, e1, e2, e3⟩ := A
  intro target k
  refine X.baloadBytes hx (cell := cl) (by rw [eT]; exact A.1) (State.isArrayOf_alike hZ.alike A.2.1) A.2.2 (own_in h1 (by rw [e1]; simpa using h2)) (by rw [e1]; exact own_getI h2) hg hs hd _ k
theorem ldAJ (X : Stand p l e R s m args below meth c T locs cells slots) (hx : p.tables.exec = Jvm.exec) (hZ : Z.Warmed39 s.vm) (eT : T.heap = h) (A : AJ Z h a ys) {j : Int32} (h1 : ¬ j < 0) (h2 : j.toNatClampNeg < ys.length) {g : JFrame} (hg : g.method = m) {rest : List Value} (hs : g.stack = .int j :: .ref a :: rest) (hd : decode c.code g.pc = .ok (.laload, 1)) :
    ∀ target, Steps p.tables e below (T.setTop { g with pc := g.pc + 1, stack := .long (ys.getD j.toNatClampNeg 0) :: rest }) target → Steps p.tables e below (T.setTop g) target := by
  obtain ⟨cl, A, e1, e2, e3⟩ := A
  intro target k
  refine X.laload hx (cell := cl) (by rw [eT]; exact A.1) (State.isArrayOf_alike hZ.alike A.2.1) A.2.2 (own_in h1 (by rw [e1]; simpa using h2)) (by rw [e1]; exact own_getJ h2) hg hs hd _ k
theorem stAI (X : Stand p l e R s m args below meth c T locs cells slots) (hx : p.tables.exec = Jvm.exec) (hZ : Z.Warmed39 s.vm) (eT : T.heap = h) (A : AI Z h a .int xs) {j x : Int32} (h1 : ¬ j < 0) (h2 : j.toNatClampNeg < xs.length) {g : JFrame} (hg : g.method = m) {rest : List Value} (hs : g.stack = .int x :: .int j :: .ref a :: rest) (hd : decode c.code g.pc = .ok (.iastore, 1)) :
    ∃ T' h', Stand p l e R s m args below meth c T' (locs ++ [⟨a, j.toNatClampNeg⟩]) cells slots ∧ T'.heap = h' ∧ Wr h h' a j.toNatClampNeg (.int x) ∧ AI Z h' a .int (xs.set j.toNatClampNeg x) ∧ ∀ target, Steps p.tables e below (T'.setTop { g with pc := g.pc + 1, stack := rest }) target → Steps p.tables e below (T.setTop g) target := by
  obtain ⟨cl, A, e1, e2, e3⟩ := A
  obtain ⟨T', h', X', e', W', st⟩ := stI X hx hZ eT A (own_in h1 (by rw [e1]; simpa using h2)) hg hs hd
  refine ⟨T', h', X', e', W', ?_, st⟩
  unfold AI
  rw [List.map_set]
  exact AV.set A e1 e2 e3 rfl W'
theorem stAB (X : Stand p l e R s m args below meth c T locs cells slots) (hx : p.tables.exec = Jvm.exec) (hZ : Z.Warmed39 s.vm) (eT : T.heap = h) (A : AI Z h a .byte xs) {j x : Int32} (h1 : ¬ j < 0) (h2 : j.toNatClampNeg < xs.length) {g : JFrame} (hg : g.method = m) {rest : List Value} (hs : g.stack = .int x :: .int j :: .ref a :: rest) (hd : decode c.code g.pc = .ok (.bastore, 1)) :
    ∃ T' h', Stand p l e R s m args below meth c T' (locs ++ [⟨a, j.toNatClampNeg⟩]) cells slots ∧ T'.heap = h' ∧ Wr h h' a j.toNatClampNeg (.int (x.toInt8.toInt32)) ∧ AI Z h' a .byte (xs.set j.toNatClampNeg (x.toInt8.toInt32)) ∧ ∀ target, Steps p.tables e below (T'.setTop { g with pc := g.pc + 1, stack := rest }) target → Steps p.tables e below (T.setTop g) target := by
  obtain ⟨cl, A, e1, e2, e3⟩ := A
  obtain ⟨T', h', X', e', W', st⟩ := stB X hx hZ eT A (own_in h1 (by rw [e1]; simpa using h2)) hg hs hd
  refine ⟨T', h', X', e', W', ?_, st⟩
  unfold AI
  rw [List.map_set]
  exact AV.set A e1 e2 e3 (fits_nar_byte x) W'
theorem own_b2 (y : Int32) : (y.toInt8.toInt32).toInt8.toInt32 = y.toInt8.toInt32 := by simp
theorem stABn (X : Stand p l e R s m args below meth c T locs cells slots) (hx : p.tables.exec = Jvm.exec) (hZ : Z.Warmed39 s.vm) (eT : T.heap = h) (A : AI Z h a .byte xs) {j y : Int32} (h1 : ¬ j < 0) (h2 : j.toNatClampNeg < xs.length) {g : JFrame} (hg : g.method = m) {rest : List Value} (hs : g.stack = .int (y.toInt8.toInt32) :: .int j :: .ref a :: rest) (hd : decode c.code g.pc = .ok (.bastore, 1)) :
    ∃ T' h', Stand p l e R s m args below meth c T' (locs ++ [⟨a, j.toNatClampNeg⟩]) cells slots ∧ T'.heap = h' ∧ Wr h h' a j.toNatClampNeg (.int (y.toInt8.toInt32)) ∧ AI Z h' a .byte (xs.set j.toNatClampNeg (y.toInt8.toInt32)) ∧ ∀ target, Steps p.tables e below (T'.setTop { g with pc := g.pc + 1, stack := rest }) target → Steps p.tables e below (T.setTop g) target := by
  have k := stAB X hx hZ eT A h1 h2 hg hs hd
  rw [own_b2] at k
  exact k
theorem stAJ (X : Stand p l e R s m args below meth c T locs cells slots) (hx : p.tables.exec = Jvm.exec) (hZ : Z.Warmed39 s.vm) (eT : T.heap = h) (A : AJ Z h a ys) {j : Int32} {x : Int64} (h1 : ¬ j < 0) (h2 : j.toNatClampNeg < ys.length) {g : JFrame} (hg : g.method = m) {rest : List Value} (hs : g.stack = .long x :: .int j :: .ref a :: rest) (hd : decode c.code g.pc = .ok (.lastore, 1)) :
    ∃ T' h', Stand p l e R s m args below meth c T' (locs ++ [⟨a, j.toNatClampNeg⟩]) cells slots ∧ T'.heap = h' ∧ Wr h h' a j.toNatClampNeg (.long x) ∧ AJ Z h' a (ys.set j.toNatClampNeg x) ∧ ∀ target, Steps p.tables e below (T'.setTop { g with pc := g.pc + 1, stack := rest }) target → Steps p.tables e below (T.setTop g) target := by
  obtain ⟨cl, A, e1, e2, e3⟩ := A
  obtain ⟨T', h', X', e', W', st⟩ := stJ X hx hZ eT A (own_in h1 (by rw [e1]; simpa using h2)) hg hs hd
  refine ⟨T', h', X', e', W', ?_, st⟩
  unfold AJ
  rw [List.map_set]
  exact AV.set A e1 e2 e3 rfl W'
theorem ldAIL (X : Stand p l e R s m args below meth c T locs cells slots) (hx : p.tables.exec = Jvm.exec) (hZ : Z.Warmed39 s.vm) (eT : T.heap = h) (A : AI Z h a .int xs) {j : Int32} (h1 : ¬ j < 0) {jn : Nat} (hj : j.toNatClampNeg = jn) (h2 : jn < xs.length) {g : JFrame} (hg : g.method = m) {rest : List Value} (hs : g.stack = .int j :: .ref a :: rest) (hd : decode c.code g.pc = .ok (.iaload, 1)) :
    ∀ target, Steps p.tables e below (T.setTop { g with pc := g.pc + 1, stack := .int (xs.getD jn 0) :: rest }) target → Steps p.tables e below (T.setTop g) target := by
  subst hj; exact ldAI X hx hZ eT A h1 h2 hg hs hd
theorem ldABL (X : Stand p l e R s m args below meth c T locs cells slots) (hx : p.tables.exec = Jvm.exec) (hZ : Z.Warmed39 s.vm) (eT : T.heap = h) (A : AI Z h a .byte xs) {j : Int32} (h1 : ¬ j < 0) {jn : Nat} (hj : j.toNatClampNeg = jn) (h2 : jn < xs.length) {g : JFrame} (hg : g.method = m) {rest : List Value} (hs : g.stack = .int j :: .ref a :: rest) (hd : decode c.code g.pc = .ok (.baload, 1)) :
    ∀ target, Steps p.tables e below (T.setTop { g with pc := g.pc + 1, stack := .int (xs.getD jn 0) :: rest }) target → Steps p.tables e below (T.setTop g) target := by
  subst hj; exact ldAB X hx hZ eT A h1 h2 hg hs hd
theorem ldAJL (X : Stand p l e R s m args below meth c T locs cells slots) (hx : p.tables.exec = Jvm.exec) (hZ : Z.Warmed39 s.vm) (eT : T.heap = h) (A : AJ Z h a ys) {j : Int32} (h1 : ¬ j < 0) {jn : Nat} (hj : j.toNatClampNeg = jn) (h2 : jn < ys.length) {g : JFrame} (hg : g.method = m) {rest : List Value} (hs : g.stack = .int j :: .ref a :: rest) (hd : decode c.code g.pc = .ok (.laload, 1)) :
    ∀ target, Steps p.tables e below (T.setTop { g with pc := g.pc + 1, stack := .long (ys.getD jn 0) :: rest }) target → Steps p.tables e below (T.setTop g) target := by
  subst hj; exact ldAJ X hx hZ eT A h1 h2 hg hs hd
theorem stAIL (X : Stand p l e R s m args below meth c T locs cells slots) (hx : p.tables.exec = Jvm.exec) (hZ : Z.Warmed39 s.vm) (eT : T.heap = h) (A : AI Z h a .int xs) {j x : Int32} (h1 : ¬ j < 0) {jn : Nat} (hj : j.toNatClampNeg = jn) (h2 : jn < xs.length) {g : JFrame} (hg : g.method = m) {rest : List Value} (hs : g.stack = .int x :: .int j :: .ref a :: rest) (hd : decode c.code g.pc = .ok (.iastore, 1)) :
    ∃ T' h', Stand p l e R s m args below meth c T' (locs ++ [⟨a, j.toNatClampNeg⟩]) cells slots ∧ T'.heap = h' ∧ Wr h h' a j.toNatClampNeg (.int x) ∧ AI Z h' a .int (xs.set jn x) ∧ ∀ target, Steps p.tables e below (T'.setTop { g with pc := g.pc + 1, stack := rest }) target → Steps p.tables e below (T.setTop g) target := by
  subst hj; exact stAI X hx hZ eT A h1 h2 hg hs hd
theorem stABL (X : Stand p l e R s m args below meth c T locs cells slots) (hx : p.tables.exec = Jvm.exec) (hZ : Z.Warmed39 s.vm) (eT : T.heap = h) (A : AI Z h a .byte xs) {j x : Int32} (h1 : ¬ j < 0) {jn : Nat} (hj : j.toNatClampNeg = jn) (h2 : jn < xs.length) {g : JFrame} (hg : g.method = m) {rest : List Value} (hs : g.stack = .int x :: .int j :: .ref a :: rest) (hd : decode c.code g.pc = .ok (.bastore, 1)) :
    ∃ T' h', Stand p l e R s m args below meth c T' (locs ++ [⟨a, j.toNatClampNeg⟩]) cells slots ∧ T'.heap = h' ∧ Wr h h' a j.toNatClampNeg (.int (x.toInt8.toInt32)) ∧ AI Z h' a .byte (xs.set jn (x.toInt8.toInt32)) ∧ ∀ target, Steps p.tables e below (T'.setTop { g with pc := g.pc + 1, stack := rest }) target → Steps p.tables e below (T.setTop g) target := by
  subst hj; exact stAB X hx hZ eT A h1 h2 hg hs hd
theorem stABnL (X : Stand p l e R s m args below meth c T locs cells slots) (hx : p.tables.exec = Jvm.exec) (hZ : Z.Warmed39 s.vm) (eT : T.heap = h) (A : AI Z h a .byte xs) {j y : Int32} (h1 : ¬ j < 0) {jn : Nat} (hj : j.toNatClampNeg = jn) (h2 : jn < xs.length) {g : JFrame} (hg : g.method = m) {rest : List Value} (hs : g.stack = .int (y.toInt8.toInt32) :: .int j :: .ref a :: rest) (hd : decode c.code g.pc = .ok (.bastore, 1)) :
    ∃ T' h', Stand p l e R s m args below meth c T' (locs ++ [⟨a, j.toNatClampNeg⟩]) cells slots ∧ T'.heap = h' ∧ Wr h h' a j.toNatClampNeg (.int (y.toInt8.toInt32)) ∧ AI Z h' a .byte (xs.set jn (y.toInt8.toInt32)) ∧ ∀ target, Steps p.tables e below (T'.setTop { g with pc := g.pc + 1, stack := rest }) target → Steps p.tables e below (T.setTop g) target := by
  subst hj; exact stABn X hx hZ eT A h1 h2 hg hs hd
theorem stAJL (X : Stand p l e R s m args below meth c T locs cells slots) (hx : p.tables.exec = Jvm.exec) (hZ : Z.Warmed39 s.vm) (eT : T.heap = h) (A : AJ Z h a ys) {j : Int32} {x : Int64} (h1 : ¬ j < 0) {jn : Nat} (hj : j.toNatClampNeg = jn) (h2 : jn < ys.length) {g : JFrame} (hg : g.method = m) {rest : List Value} (hs : g.stack = .long x :: .int j :: .ref a :: rest) (hd : decode c.code g.pc = .ok (.lastore, 1)) :
    ∃ T' h', Stand p l e R s m args below meth c T' (locs ++ [⟨a, j.toNatClampNeg⟩]) cells slots ∧ T'.heap = h' ∧ Wr h h' a j.toNatClampNeg (.long x) ∧ AJ Z h' a (ys.set jn x) ∧ ∀ target, Steps p.tables e below (T'.setTop { g with pc := g.pc + 1, stack := rest }) target → Steps p.tables e below (T.setTop g) target := by
  subst hj; exact stAJ X hx hZ eT A h1 h2 hg hs hd
end OwnArr
section OwnClone
variable {p : Program} {l : Launch} {e : Env} {R : Room} {s : State} {m : MethodId} {args : Array Value} {below : List Frame} {meth : Method} {c : Code} {T T' : State} {locs : List Loc} {cells slots : Nat} {Z : State} {a0 : Array Value} {h h' : Heap} {a b : Addr} {ty : FieldType} {xs : List Int32}
theorem cloneAI (X : Stand p l e R s m args below meth c T locs cells slots) (hx : p.tables.exec = Jvm.exec) (hZ : Z.Warmed39 s.vm) {own ad : String} {index : Nat} (hown : s.vm.findClass own = some m.cls)
    (w1 : (Cond.methodLink own index ⟨ad, "clone", "()Ljava/lang/Object;"⟩).before a0 Z = true) (w2 : (Cond.sameMethod ad "java/lang/Object" "clone" "()Ljava/lang/Object;").before a0 Z = true) (w3 : (Cond.native ⟨"java/lang/Object", "clone", "()Ljava/lang/Object;"⟩).before a0 Z = true)
    (w4 : (Cond.instanceMethod ⟨"java/lang/Object", "clone", "()Ljava/lang/Object;"⟩).before a0 Z = true) (w5 : (Cond.selects ad ⟨ad, "clone", "()Ljava/lang/Object;"⟩ ⟨"java/lang/Object", "clone", "()Ljava/lang/Object;"⟩).before a0 Z = true) (w6 : (Cond.castable ad "java/lang/Cloneable").before a0 Z = true)
    (eT : T.heap = h) (A : AI Z h a ty xs) (E : Exa Z h a ad) {g : JFrame} (hg : g.method = m) (hsize : g.locals.size = c.maxLocals) {rest : List Value} (hst : g.stack = .ref a :: rest) (hd : decode c.code g.pc = .ok (.invokevirtual index, 3))
    (hf : 1 ≤ R.frames) {W cap : Nat} (hW : 2 * g.monitorRoom + (rest.map fun v => v.category).sum ≤ W) (hl : W + 14 ≤ R.locals) (hcap : xs.length ≤ cap) (hc : cells + 1 ≤ R.cells) (hsl : slots + cap ≤ R.slots) :
    ∃ T' h', Stand p l e R s m args below meth c T' locs (cells + 1) (slots + cap) ∧ T'.heap = h' ∧ Ext h h' ∧ Exa Z h' h.size ad ∧ AI Z h' h.size ty xs ∧
      ∀ target, Steps p.tables e below (T'.setTop { g with pc := g.pc + 3, stack := .ref h.size :: rest }) target → Steps p.tables e below (T.setTop g) target := by
  obtain ⟨cl, A, e1, e2, e3⟩ := A
  have FC : FitC Z cl := fitC_of A fun i hi v hv => by
    rw [e1] at hv
    exact e3 v (by simpa using Array.mem_of_getElem? hv)
  obtain ⟨T', h', X', e', ex, A', E', st⟩ := cloneA X hx hZ hown w1 w2 w3 w4 w5 w6 eT A E FC hg hsize hst hd hf hW hl (by rw [e1]; simpa using hcap) hc hsl
  exact ⟨T', h', X', e', ex, E', ⟨_, A', e1, e2, e3⟩, st⟩
end OwnClone


def own_pows : List Int64 := [(1 : Int64), (10 : Int64), (100 : Int64), (1000 : Int64), (10000 : Int64), (100000 : Int64), (1000000 : Int64), (10000000 : Int64), (100000000 : Int64), (1000000000 : Int64), (10000000000 : Int64), (100000000000 : Int64), (1000000000000 : Int64), (10000000000000 : Int64), (100000000000000 : Int64), (1000000000000000 : Int64), (10000000000000000 : Int64), (100000000000000000 : Int64), (1000000000000000000 : Int64)]
theorem own_pnz : ∀ n : Fin 19, own_pows.getD n.val 0 ≠ 0 := by decide +kernel
theorem own_nz {d : Int32} (h0 : 0 ≤ d.toInt) (h1 : d.toInt < 19) : own_pows.getD d.toNatClampNeg 0 ≠ 0 := own_pnz ⟨d.toInt.toNat, by omega⟩
theorem own_i1 {d : Int32} (h0 : 0 ≤ d.toInt) : ¬ d < 0 := by
  rw [Int32.lt_iff_toInt_lt]
  have l : (0 : Int32).toInt = 0 := by decide
  omega
theorem own_i2 {d : Int32} (h0 : 0 ≤ d.toInt) (h1 : d.toInt < 19) : d.toNatClampNeg < own_pows.length := by
  show d.toInt.toNat < 19
  omega
theorem own_mod (x : Int32) : 0 ≤ ((x &&& (2147483647 : Int32)) % (19 : Int32)).toInt ∧ ((x &&& (2147483647 : Int32)) % (19 : Int32)).toInt < 19 := by
  have h1 := c_mask x 2147483647 31 (by decide) (by decide)
  have h2 := (c_irem (x &&& (2147483647 : Int32)) 19 19 (by decide)).1
  have h3 : 0 ≤ (x &&& (2147483647 : Int32)).toInt := by rw [h1]; omega
  have h4 := h2 h3
  omega
theorem d_abs_0 : decode jdk_29_method_61_code 0 = .ok (.lload_n 0, 1) := by decide +kernel
theorem d_abs_1 : decode jdk_29_method_61_code 1 = .ok (.lconst 0, 1) := by decide +kernel
theorem d_abs_2 : decode jdk_29_method_61_code 2 = .ok (.lcmp, 1) := by decide +kernel
theorem d_abs_3 : decode jdk_29_method_61_code 3 = .ok (.ifCond .ge 8, 3) := by decide +kernel
theorem d_abs_6 : decode jdk_29_method_61_code 6 = .ok (.lload_n 0, 1) := by decide +kernel
theorem d_abs_7 : decode jdk_29_method_61_code 7 = .ok (.lneg, 1) := by decide +kernel
theorem d_abs_8 : decode jdk_29_method_61_code 8 = .ok (.goto 4, 3) := by decide +kernel
theorem d_abs_12 : decode jdk_29_method_61_code 12 = .ok (.lreturn, 1) := by decide +kernel
theorem d_abs_11 : decode jdk_29_method_61_code 11 = .ok (.lload_n 0, 1) := by decide +kernel
def f_abs (v0 : Int64) : Int64 := (if v0 < (0 : Int64) then (-v0) else v0)
theorem ef_abs (m : MethodId) (v0 : Int64) : entryFrame m #[(.long v0)] 2 = mkF m 0 #[.val (.long v0), .second] [] := by first | (simp [entryFrame, mkF, argsToLocals, Value.category]; done) | rfl
def Q_abs (Z : State) (v0 : Int64) (h0 : Heap) (n0 : Nat) (v : Option Value) (h : Heap) (L : List Loc) : Prop := v = some (.long (f_abs v0)) ∧ Fr n0 L ∧ h = h0
set_option maxRecDepth 65536 in
set_option maxHeartbeats 40000000 in
theorem rm_abs (l : Launch) (Z : State) (a0 : Array Value) (hw : ∀ d ∈ tables_1, d.before a0 Z = true) (ws : List Jvm.Cond) (v0 : Int64) (h0 : Heap) (n0 : Nat) (Z0 : n0 ≤ h0.size) :
    MetFree l (⟨"java/lang/Math", "abs", "(J)J"⟩ : MethodName) (head1 (Jvm.Cond.code (⟨"java/lang/Math", "abs", "(J)J"⟩ : MethodName) jdk_29_method_61_code 2 (some .long) :: ws) ({ frames := 0, cells := 0, slots := 0, locals := 0 } : Room)) (fun a U => a = #[(.long v0)] ∧ Z.Warmed39 U.vm ∧ U.heap = h0) (fun _ _ _ _ _ => True) (fun _ U o U' => ∃ v L, o = .returned v ∧ Q_abs Z v0 h0 n0 v U'.heap L ∧ FrameEnd U o U' L ({ frames := 0, cells := 0, slots := 0, locals := 0 } : Room).cells ({ frames := 0, cells := 0, slots := 0, locals := 0 } : Room).slots) := by
  refine MetFree.of_bodySF (Jvm.Free.JP.mathPlain rfl (by decide +kernel)) hisR ?_
  intro p e s m args below meth c s₁ Bd hml0 hP hK
  obtain ⟨rfl, hZ, hh⟩ := hP
  have hx := Bd.exec
  have hby := Bd.bytes
  have hml : c.maxLocals = 2 := hml0
  have hown : s.vm.findClass "java/lang/Math" = some m.cls := findClass_of_methodNamed Bd.named
  have hnm := (name_of_methodNamed Bd.named Bd.method).1
  have hlk : meth.locks = false := Bd.notSynchronized
  have X0 : Stand p l e ({ frames := 0, cells := 0, slots := 0, locals := 0 } : Room) s m #[(.long v0)] below meth c s₁ [] 0 0 := Stand.of_body Bd
  have e0 : s₁.heap = h0 := by rw [← hh, Bd.state]; rfl
  have N0 := Fr.nil n0
  refine Go.enter (Q := Q_abs Z v0 h0 n0) (C := ({ frames := 0, cells := 0, slots := 0, locals := 0 } : Room).cells) (N := ({ frames := 0, cells := 0, slots := 0, locals := 0 } : Room).slots) (ef_abs m v0) ?_
  show Go p e below s _ _ _ s₁ (mkF m 0 #[.val (.long v0), .second] [])
  refine G_lloadN X0 hx (pc' := 1) rfl (hb hby d_abs_0) rfl ?_
  refine G_lconst X0 hx (pc' := 2) rfl (hb hby d_abs_1) (z := (0 : Int64)) rfl ?_
  refine G_lcmp X0 hx (pc' := 3) rfl (hb hby d_abs_2)  ?_
  by_cases hc3_1 : v0 < (0 : Int64)
  · refine G_ifNo X0 hx (pc' := 6) rfl (hb hby d_abs_3) ((if0 _ _).trans (tlt ((lw_lt _ _).2 hc3_1)).2.1) ?_
    refine G_lloadN X0 hx (pc' := 7) rfl (hb hby d_abs_6) rfl ?_
    refine G_lneg X0 hx (pc' := 8) rfl (hb hby d_abs_7)  ?_
    refine G_goto X0 hx (pc' := 12) (hb hby d_abs_8)  (by decide) (by decide) ?_
    refine Go.fin X0 hlk (v := some (.long (-v0))) (fun h => by rw [Bd.returns] at h; cases h) (by decide) (by decide) ?_ (fun fs hr => retOut X0 hx Bd.returns rfl (Or.inr (Or.inl ⟨rfl, rfl, _, rfl⟩)) (hb hby d_abs_12) hr)
    show Q_abs Z v0 h0 n0 _ s₁.heap _
    rw [e0]
    exact ⟨congrArg (fun z => some (Value.long z)) (Eq.symm ((if_pos hc3_1).trans rfl)), N0, rfl⟩
  · refine G_ifYes X0 hx (pc' := 11) (hb hby d_abs_3) ((if0 _ _).trans (flt (fun q => hc3_1 ((lw_lt _ _).1 q))).2.1) (by decide) (by decide) ?_
    refine G_lloadN X0 hx (pc' := 12) rfl (hb hby d_abs_11) rfl ?_
    refine Go.fin X0 hlk (v := some (.long v0)) (fun h => by rw [Bd.returns] at h; cases h) (by decide) (by decide) ?_ (fun fs hr => retOut X0 hx Bd.returns rfl (Or.inr (Or.inl ⟨rfl, rfl, _, rfl⟩)) (hb hby d_abs_12) hr)
    show Q_abs Z v0 h0 n0 _ s₁.heap _
    rw [e0]
    exact ⟨congrArg (fun z => some (Value.long z)) (Eq.symm ((if_neg hc3_1).trans rfl)), N0, rfl⟩
theorem d_digits_0 : decode method_2_code 0 = .ok (.lload_n 0, 1) := by decide +kernel
theorem d_digits_1 : decode method_2_code 1 = .ok (.ldc2_w 7, 3) := by decide +kernel
theorem d_digits_4 : decode method_2_code 4 = .ok (.lcmp, 1) := by decide +kernel
theorem d_digits_5 : decode method_2_code 5 = .ok (.ifCond .ge 5, 3) := by decide +kernel
theorem d_digits_8 : decode method_2_code 8 = .ok (.iconst 1, 1) := by decide +kernel
theorem d_digits_9 : decode method_2_code 9 = .ok (.ireturn, 1) := by decide +kernel
theorem d_digits_10 : decode method_2_code 10 = .ok (.lload_n 0, 1) := by decide +kernel
theorem d_digits_11 : decode method_2_code 11 = .ok (.ldc2_w 9, 3) := by decide +kernel
theorem d_digits_14 : decode method_2_code 14 = .ok (.lcmp, 1) := by decide +kernel
theorem d_digits_15 : decode method_2_code 15 = .ok (.ifCond .ge 5, 3) := by decide +kernel
theorem d_digits_18 : decode method_2_code 18 = .ok (.iconst 2, 1) := by decide +kernel
theorem d_digits_19 : decode method_2_code 19 = .ok (.ireturn, 1) := by decide +kernel
theorem d_digits_20 : decode method_2_code 20 = .ok (.lload_n 0, 1) := by decide +kernel
theorem d_digits_21 : decode method_2_code 21 = .ok (.ldc2_w 11, 3) := by decide +kernel
theorem d_digits_24 : decode method_2_code 24 = .ok (.lcmp, 1) := by decide +kernel
theorem d_digits_25 : decode method_2_code 25 = .ok (.ifCond .ge 5, 3) := by decide +kernel
theorem d_digits_28 : decode method_2_code 28 = .ok (.iconst 3, 1) := by decide +kernel
theorem d_digits_29 : decode method_2_code 29 = .ok (.ireturn, 1) := by decide +kernel
theorem d_digits_30 : decode method_2_code 30 = .ok (.lload_n 0, 1) := by decide +kernel
theorem d_digits_31 : decode method_2_code 31 = .ok (.ldc2_w 13, 3) := by decide +kernel
theorem d_digits_34 : decode method_2_code 34 = .ok (.lcmp, 1) := by decide +kernel
theorem d_digits_35 : decode method_2_code 35 = .ok (.ifCond .ge 5, 3) := by decide +kernel
theorem d_digits_38 : decode method_2_code 38 = .ok (.iconst 4, 1) := by decide +kernel
theorem d_digits_39 : decode method_2_code 39 = .ok (.ireturn, 1) := by decide +kernel
theorem d_digits_40 : decode method_2_code 40 = .ok (.lload_n 0, 1) := by decide +kernel
theorem d_digits_41 : decode method_2_code 41 = .ok (.ldc2_w 15, 3) := by decide +kernel
theorem d_digits_44 : decode method_2_code 44 = .ok (.lcmp, 1) := by decide +kernel
theorem d_digits_45 : decode method_2_code 45 = .ok (.ifCond .ge 5, 3) := by decide +kernel
theorem d_digits_48 : decode method_2_code 48 = .ok (.iconst 5, 1) := by decide +kernel
theorem d_digits_49 : decode method_2_code 49 = .ok (.ireturn, 1) := by decide +kernel
theorem d_digits_50 : decode method_2_code 50 = .ok (.lload_n 0, 1) := by decide +kernel
theorem d_digits_51 : decode method_2_code 51 = .ok (.ldc2_w 17, 3) := by decide +kernel
theorem d_digits_54 : decode method_2_code 54 = .ok (.lcmp, 1) := by decide +kernel
theorem d_digits_55 : decode method_2_code 55 = .ok (.ifCond .ge 6, 3) := by decide +kernel
theorem d_digits_58 : decode method_2_code 58 = .ok (.bipush 6, 2) := by decide +kernel
theorem d_digits_60 : decode method_2_code 60 = .ok (.ireturn, 1) := by decide +kernel
theorem d_digits_61 : decode method_2_code 61 = .ok (.lload_n 0, 1) := by decide +kernel
theorem d_digits_62 : decode method_2_code 62 = .ok (.ldc2_w 19, 3) := by decide +kernel
theorem d_digits_65 : decode method_2_code 65 = .ok (.lcmp, 1) := by decide +kernel
theorem d_digits_66 : decode method_2_code 66 = .ok (.ifCond .ge 6, 3) := by decide +kernel
theorem d_digits_69 : decode method_2_code 69 = .ok (.bipush 7, 2) := by decide +kernel
theorem d_digits_71 : decode method_2_code 71 = .ok (.ireturn, 1) := by decide +kernel
theorem d_digits_72 : decode method_2_code 72 = .ok (.lload_n 0, 1) := by decide +kernel
theorem d_digits_73 : decode method_2_code 73 = .ok (.ldc2_w 21, 3) := by decide +kernel
theorem d_digits_76 : decode method_2_code 76 = .ok (.lcmp, 1) := by decide +kernel
theorem d_digits_77 : decode method_2_code 77 = .ok (.ifCond .ge 6, 3) := by decide +kernel
theorem d_digits_80 : decode method_2_code 80 = .ok (.bipush 8, 2) := by decide +kernel
theorem d_digits_82 : decode method_2_code 82 = .ok (.ireturn, 1) := by decide +kernel
theorem d_digits_83 : decode method_2_code 83 = .ok (.lload_n 0, 1) := by decide +kernel
theorem d_digits_84 : decode method_2_code 84 = .ok (.ldc2_w 23, 3) := by decide +kernel
theorem d_digits_87 : decode method_2_code 87 = .ok (.lcmp, 1) := by decide +kernel
theorem d_digits_88 : decode method_2_code 88 = .ok (.ifCond .ge 6, 3) := by decide +kernel
theorem d_digits_91 : decode method_2_code 91 = .ok (.bipush 9, 2) := by decide +kernel
theorem d_digits_93 : decode method_2_code 93 = .ok (.ireturn, 1) := by decide +kernel
theorem d_digits_94 : decode method_2_code 94 = .ok (.lload_n 0, 1) := by decide +kernel
theorem d_digits_95 : decode method_2_code 95 = .ok (.ldc2_w 25, 3) := by decide +kernel
theorem d_digits_98 : decode method_2_code 98 = .ok (.lcmp, 1) := by decide +kernel
theorem d_digits_99 : decode method_2_code 99 = .ok (.ifCond .ge 6, 3) := by decide +kernel
theorem d_digits_102 : decode method_2_code 102 = .ok (.bipush 10, 2) := by decide +kernel
theorem d_digits_104 : decode method_2_code 104 = .ok (.ireturn, 1) := by decide +kernel
theorem d_digits_105 : decode method_2_code 105 = .ok (.lload_n 0, 1) := by decide +kernel
theorem d_digits_106 : decode method_2_code 106 = .ok (.ldc2_w 27, 3) := by decide +kernel
theorem d_digits_109 : decode method_2_code 109 = .ok (.lcmp, 1) := by decide +kernel
theorem d_digits_110 : decode method_2_code 110 = .ok (.ifCond .ge 6, 3) := by decide +kernel
theorem d_digits_113 : decode method_2_code 113 = .ok (.bipush 11, 2) := by decide +kernel
theorem d_digits_115 : decode method_2_code 115 = .ok (.ireturn, 1) := by decide +kernel
theorem d_digits_116 : decode method_2_code 116 = .ok (.lload_n 0, 1) := by decide +kernel
theorem d_digits_117 : decode method_2_code 117 = .ok (.ldc2_w 29, 3) := by decide +kernel
theorem d_digits_120 : decode method_2_code 120 = .ok (.lcmp, 1) := by decide +kernel
theorem d_digits_121 : decode method_2_code 121 = .ok (.ifCond .ge 6, 3) := by decide +kernel
theorem d_digits_124 : decode method_2_code 124 = .ok (.bipush 12, 2) := by decide +kernel
theorem d_digits_126 : decode method_2_code 126 = .ok (.ireturn, 1) := by decide +kernel
theorem d_digits_127 : decode method_2_code 127 = .ok (.lload_n 0, 1) := by decide +kernel
theorem d_digits_128 : decode method_2_code 128 = .ok (.ldc2_w 31, 3) := by decide +kernel
theorem d_digits_131 : decode method_2_code 131 = .ok (.lcmp, 1) := by decide +kernel
theorem d_digits_132 : decode method_2_code 132 = .ok (.ifCond .ge 6, 3) := by decide +kernel
theorem d_digits_135 : decode method_2_code 135 = .ok (.bipush 13, 2) := by decide +kernel
theorem d_digits_137 : decode method_2_code 137 = .ok (.ireturn, 1) := by decide +kernel
theorem d_digits_138 : decode method_2_code 138 = .ok (.lload_n 0, 1) := by decide +kernel
theorem d_digits_139 : decode method_2_code 139 = .ok (.ldc2_w 33, 3) := by decide +kernel
theorem d_digits_142 : decode method_2_code 142 = .ok (.lcmp, 1) := by decide +kernel
theorem d_digits_143 : decode method_2_code 143 = .ok (.ifCond .ge 6, 3) := by decide +kernel
theorem d_digits_146 : decode method_2_code 146 = .ok (.bipush 14, 2) := by decide +kernel
theorem d_digits_148 : decode method_2_code 148 = .ok (.ireturn, 1) := by decide +kernel
theorem d_digits_149 : decode method_2_code 149 = .ok (.lload_n 0, 1) := by decide +kernel
theorem d_digits_150 : decode method_2_code 150 = .ok (.ldc2_w 35, 3) := by decide +kernel
theorem d_digits_153 : decode method_2_code 153 = .ok (.lcmp, 1) := by decide +kernel
theorem d_digits_154 : decode method_2_code 154 = .ok (.ifCond .ge 6, 3) := by decide +kernel
theorem d_digits_157 : decode method_2_code 157 = .ok (.bipush 15, 2) := by decide +kernel
theorem d_digits_159 : decode method_2_code 159 = .ok (.ireturn, 1) := by decide +kernel
theorem d_digits_160 : decode method_2_code 160 = .ok (.lload_n 0, 1) := by decide +kernel
theorem d_digits_161 : decode method_2_code 161 = .ok (.ldc2_w 37, 3) := by decide +kernel
theorem d_digits_164 : decode method_2_code 164 = .ok (.lcmp, 1) := by decide +kernel
theorem d_digits_165 : decode method_2_code 165 = .ok (.ifCond .ge 6, 3) := by decide +kernel
theorem d_digits_168 : decode method_2_code 168 = .ok (.bipush 16, 2) := by decide +kernel
theorem d_digits_170 : decode method_2_code 170 = .ok (.ireturn, 1) := by decide +kernel
theorem d_digits_171 : decode method_2_code 171 = .ok (.lload_n 0, 1) := by decide +kernel
theorem d_digits_172 : decode method_2_code 172 = .ok (.ldc2_w 39, 3) := by decide +kernel
theorem d_digits_175 : decode method_2_code 175 = .ok (.lcmp, 1) := by decide +kernel
theorem d_digits_176 : decode method_2_code 176 = .ok (.ifCond .ge 6, 3) := by decide +kernel
theorem d_digits_179 : decode method_2_code 179 = .ok (.bipush 17, 2) := by decide +kernel
theorem d_digits_181 : decode method_2_code 181 = .ok (.ireturn, 1) := by decide +kernel
theorem d_digits_182 : decode method_2_code 182 = .ok (.lload_n 0, 1) := by decide +kernel
theorem d_digits_183 : decode method_2_code 183 = .ok (.ldc2_w 41, 3) := by decide +kernel
theorem d_digits_186 : decode method_2_code 186 = .ok (.lcmp, 1) := by decide +kernel
theorem d_digits_187 : decode method_2_code 187 = .ok (.ifCond .ge 6, 3) := by decide +kernel
theorem d_digits_190 : decode method_2_code 190 = .ok (.bipush 18, 2) := by decide +kernel
theorem d_digits_192 : decode method_2_code 192 = .ok (.ireturn, 1) := by decide +kernel
theorem d_digits_193 : decode method_2_code 193 = .ok (.bipush 19, 2) := by decide +kernel
theorem d_digits_195 : decode method_2_code 195 = .ok (.ireturn, 1) := by decide +kernel
def f_digits (v0 : Int64) : Int32 := (if v0 < (10 : Int64) then (1 : Int32) else (if v0 < (100 : Int64) then (2 : Int32) else (if v0 < (1000 : Int64) then (3 : Int32) else (if v0 < (10000 : Int64) then (4 : Int32) else (if v0 < (100000 : Int64) then (5 : Int32) else (if v0 < (1000000 : Int64) then (6 : Int32) else (if v0 < (10000000 : Int64) then (7 : Int32) else (if v0 < (100000000 : Int64) then (8 : Int32) else (if v0 < (1000000000 : Int64) then (9 : Int32) else (if v0 < (10000000000 : Int64) then (10 : Int32) else (if v0 < (100000000000 : Int64) then (11 : Int32) else (if v0 < (1000000000000 : Int64) then (12 : Int32) else (if v0 < (10000000000000 : Int64) then (13 : Int32) else (if v0 < (100000000000000 : Int64) then (14 : Int32) else (if v0 < (1000000000000000 : Int64) then (15 : Int32) else (if v0 < (10000000000000000 : Int64) then (16 : Int32) else (if v0 < (100000000000000000 : Int64) then (17 : Int32) else (if v0 < (1000000000000000000 : Int64) then (18 : Int32) else (19 : Int32)))))))))))))))))))
theorem ef_digits (m : MethodId) (v0 : Int64) : entryFrame m #[(.long v0)] 2 = mkF m 0 #[.val (.long v0), .second] [] := by first | (simp [entryFrame, mkF, argsToLocals, Value.category]; done) | rfl
def Q_digits (Z : State) (v0 : Int64) (h0 : Heap) (n0 : Nat) (v : Option Value) (h : Heap) (L : List Loc) : Prop := v = some (.int (f_digits v0)) ∧ Fr n0 L ∧ h = h0
set_option maxRecDepth 65536 in
set_option maxHeartbeats 40000000 in
theorem rm_digits (l : Launch) (Z : State) (a0 : Array Value) (hw : ∀ d ∈ tables_1, d.before a0 Z = true) (ws : List Jvm.Cond) (v0 : Int64) (h0 : Heap) (n0 : Nat) (Z0 : n0 ≤ h0.size) :
    MetFree l (⟨"com/example/colonwise/colonwise/model/BencodeIntegerTextLengthPinLaw", "digits", "(J)I"⟩ : MethodName) (head1 (Jvm.Cond.code (⟨"com/example/colonwise/colonwise/model/BencodeIntegerTextLengthPinLaw", "digits", "(J)I"⟩ : MethodName) method_2_code 2 (some .int) :: ws) ({ frames := 0, cells := 0, slots := 0, locals := 0 } : Room)) (fun a U => a = #[(.long v0)] ∧ Z.Warmed39 U.vm ∧ U.heap = h0) (fun _ _ _ _ _ => True) (fun _ U o U' => ∃ v L, o = .returned v ∧ Q_digits Z v0 h0 n0 v U'.heap L ∧ FrameEnd U o U' L ({ frames := 0, cells := 0, slots := 0, locals := 0 } : Room).cells ({ frames := 0, cells := 0, slots := 0, locals := 0 } : Room).slots) := by
  refine MetFree.of_bodySF (plainFor_of_name (by first | (simp [plainName, overriddenIn]; done) | decide +kernel)) hisR ?_
  intro p e s m args below meth c s₁ Bd hml0 hP hK
  obtain ⟨rfl, hZ, hh⟩ := hP
  have hx := Bd.exec
  have hby := Bd.bytes
  have hml : c.maxLocals = 2 := hml0
  have hown : s.vm.findClass "com/example/colonwise/colonwise/model/BencodeIntegerTextLengthPinLaw" = some m.cls := findClass_of_methodNamed Bd.named
  have hnm := (name_of_methodNamed Bd.named Bd.method).1
  have hlk : meth.locks = false := Bd.notSynchronized
  have X0 : Stand p l e ({ frames := 0, cells := 0, slots := 0, locals := 0 } : Room) s m #[(.long v0)] below meth c s₁ [] 0 0 := Stand.of_body Bd
  have e0 : s₁.heap = h0 := by rw [← hh, Bd.state]; rfl
  have N0 := Fr.nil n0
  refine Go.enter (Q := Q_digits Z v0 h0 n0) (C := ({ frames := 0, cells := 0, slots := 0, locals := 0 } : Room).cells) (N := ({ frames := 0, cells := 0, slots := 0, locals := 0 } : Room).slots) (ef_digits m v0) ?_
  show Go p e below s _ _ _ s₁ (mkF m 0 #[.val (.long v0), .second] [])
  refine G_lloadN X0 hx (pc' := 1) rfl (hb hby d_digits_0) rfl ?_
  refine G_ldc2 X0 hx (pc' := 4) rfl hown (mvT hZ (hw _ (List.mem_of_getElem? (i := 1) rfl))) (hb hby d_digits_1) ?_
  refine G_lcmp X0 hx (pc' := 5) rfl (hb hby d_digits_4)  ?_
  by_cases hc5_1 : v0 < (10 : Int64)
  · refine G_ifNo X0 hx (pc' := 8) rfl (hb hby d_digits_5) ((if0 _ _).trans (tlt ((lw_lt _ _).2 hc5_1)).2.1) ?_
    refine G_iconst X0 hx (pc' := 9) rfl (hb hby d_digits_8) (z := (1 : Int32)) rfl ?_
    refine Go.fin X0 hlk (v := some (.int (1 : Int32))) (fun h => by rw [Bd.returns] at h; cases h) (by decide) (by decide) ?_ (fun fs hr => retOut X0 hx Bd.returns rfl (Or.inl ⟨rfl, Or.inl rfl, _, rfl⟩) (hb hby d_digits_9) hr)
    show Q_digits Z v0 h0 n0 _ s₁.heap _
    rw [e0]
    exact ⟨congrArg (fun z => some (Value.int z)) (Eq.symm ((if_pos hc5_1).trans rfl)), N0, rfl⟩
  · refine G_ifYes X0 hx (pc' := 10) (hb hby d_digits_5) ((if0 _ _).trans (flt (fun q => hc5_1 ((lw_lt _ _).1 q))).2.1) (by decide) (by decide) ?_
    refine G_lloadN X0 hx (pc' := 11) rfl (hb hby d_digits_10) rfl ?_
    refine G_ldc2 X0 hx (pc' := 14) rfl hown (mvT hZ (hw _ (List.mem_of_getElem? (i := 2) rfl))) (hb hby d_digits_11) ?_
    refine G_lcmp X0 hx (pc' := 15) rfl (hb hby d_digits_14)  ?_
    by_cases hc15_2 : v0 < (100 : Int64)
    · refine G_ifNo X0 hx (pc' := 18) rfl (hb hby d_digits_15) ((if0 _ _).trans (tlt ((lw_lt _ _).2 hc15_2)).2.1) ?_
      refine G_iconst X0 hx (pc' := 19) rfl (hb hby d_digits_18) (z := (2 : Int32)) rfl ?_
      refine Go.fin X0 hlk (v := some (.int (2 : Int32))) (fun h => by rw [Bd.returns] at h; cases h) (by decide) (by decide) ?_ (fun fs hr => retOut X0 hx Bd.returns rfl (Or.inl ⟨rfl, Or.inl rfl, _, rfl⟩) (hb hby d_digits_19) hr)
      show Q_digits Z v0 h0 n0 _ s₁.heap _
      rw [e0]
      exact ⟨congrArg (fun z => some (Value.int z)) (Eq.symm ((if_neg hc5_1).trans ((if_pos hc15_2).trans rfl))), N0, rfl⟩
    · refine G_ifYes X0 hx (pc' := 20) (hb hby d_digits_15) ((if0 _ _).trans (flt (fun q => hc15_2 ((lw_lt _ _).1 q))).2.1) (by decide) (by decide) ?_
      refine G_lloadN X0 hx (pc' := 21) rfl (hb hby d_digits_20) rfl ?_
      refine G_ldc2 X0 hx (pc' := 24) rfl hown (mvT hZ (hw _ (List.mem_of_getElem? (i := 3) rfl))) (hb hby d_digits_21) ?_
      refine G_lcmp X0 hx (pc' := 25) rfl (hb hby d_digits_24)  ?_
      by_cases hc25_3 : v0 < (1000 : Int64)
      · refine G_ifNo X0 hx (pc' := 28) rfl (hb hby d_digits_25) ((if0 _ _).trans (tlt ((lw_lt _ _).2 hc25_3)).2.1) ?_
        refine G_iconst X0 hx (pc' := 29) rfl (hb hby d_digits_28) (z := (3 : Int32)) rfl ?_
        refine Go.fin X0 hlk (v := some (.int (3 : Int32))) (fun h => by rw [Bd.returns] at h; cases h) (by decide) (by decide) ?_ (fun fs hr => retOut X0 hx Bd.returns rfl (Or.inl ⟨rfl, Or.inl rfl, _, rfl⟩) (hb hby d_digits_29) hr)
        show Q_digits Z v0 h0 n0 _ s₁.heap _
        rw [e0]
        exact ⟨congrArg (fun z => some (Value.int z)) (Eq.symm ((if_neg hc5_1).trans ((if_neg hc15_2).trans ((if_pos hc25_3).trans rfl)))), N0, rfl⟩
      · refine G_ifYes X0 hx (pc' := 30) (hb hby d_digits_25) ((if0 _ _).trans (flt (fun q => hc25_3 ((lw_lt _ _).1 q))).2.1) (by decide) (by decide) ?_
        refine G_lloadN X0 hx (pc' := 31) rfl (hb hby d_digits_30) rfl ?_
        refine G_ldc2 X0 hx (pc' := 34) rfl hown (mvT hZ (hw _ (List.mem_of_getElem? (i := 4) rfl))) (hb hby d_digits_31) ?_
        refine G_lcmp X0 hx (pc' := 35) rfl (hb hby d_digits_34)  ?_
        by_cases hc35_4 : v0 < (10000 : Int64)
        · refine G_ifNo X0 hx (pc' := 38) rfl (hb hby d_digits_35) ((if0 _ _).trans (tlt ((lw_lt _ _).2 hc35_4)).2.1) ?_
          refine G_iconst X0 hx (pc' := 39) rfl (hb hby d_digits_38) (z := (4 : Int32)) rfl ?_
          refine Go.fin X0 hlk (v := some (.int (4 : Int32))) (fun h => by rw [Bd.returns] at h; cases h) (by decide) (by decide) ?_ (fun fs hr => retOut X0 hx Bd.returns rfl (Or.inl ⟨rfl, Or.inl rfl, _, rfl⟩) (hb hby d_digits_39) hr)
          show Q_digits Z v0 h0 n0 _ s₁.heap _
          rw [e0]
          exact ⟨congrArg (fun z => some (Value.int z)) (Eq.symm ((if_neg hc5_1).trans ((if_neg hc15_2).trans ((if_neg hc25_3).trans ((if_pos hc35_4).trans rfl))))), N0, rfl⟩
        · refine G_ifYes X0 hx (pc' := 40) (hb hby d_digits_35) ((if0 _ _).trans (flt (fun q => hc35_4 ((lw_lt _ _).1 q))).2.1) (by decide) (by decide) ?_
          refine G_lloadN X0 hx (pc' := 41) rfl (hb hby d_digits_40) rfl ?_
          refine G_ldc2 X0 hx (pc' := 44) rfl hown (mvT hZ (hw _ (List.mem_of_getElem? (i := 5) rfl))) (hb hby d_digits_41) ?_
          refine G_lcmp X0 hx (pc' := 45) rfl (hb hby d_digits_44)  ?_
          by_cases hc45_5 : v0 < (100000 : Int64)
          · refine G_ifNo X0 hx (pc' := 48) rfl (hb hby d_digits_45) ((if0 _ _).trans (tlt ((lw_lt _ _).2 hc45_5)).2.1) ?_
            refine G_iconst X0 hx (pc' := 49) rfl (hb hby d_digits_48) (z := (5 : Int32)) rfl ?_
            refine Go.fin X0 hlk (v := some (.int (5 : Int32))) (fun h => by rw [Bd.returns] at h; cases h) (by decide) (by decide) ?_ (fun fs hr => retOut X0 hx Bd.returns rfl (Or.inl ⟨rfl, Or.inl rfl, _, rfl⟩) (hb hby d_digits_49) hr)
            show Q_digits Z v0 h0 n0 _ s₁.heap _
            rw [e0]
            exact ⟨congrArg (fun z => some (Value.int z)) (Eq.symm ((if_neg hc5_1).trans ((if_neg hc15_2).trans ((if_neg hc25_3).trans ((if_neg hc35_4).trans ((if_pos hc45_5).trans rfl)))))), N0, rfl⟩
          · refine G_ifYes X0 hx (pc' := 50) (hb hby d_digits_45) ((if0 _ _).trans (flt (fun q => hc45_5 ((lw_lt _ _).1 q))).2.1) (by decide) (by decide) ?_
            refine G_lloadN X0 hx (pc' := 51) rfl (hb hby d_digits_50) rfl ?_
            refine G_ldc2 X0 hx (pc' := 54) rfl hown (mvT hZ (hw _ (List.mem_of_getElem? (i := 6) rfl))) (hb hby d_digits_51) ?_
            refine G_lcmp X0 hx (pc' := 55) rfl (hb hby d_digits_54)  ?_
            by_cases hc55_6 : v0 < (1000000 : Int64)
            · refine G_ifNo X0 hx (pc' := 58) rfl (hb hby d_digits_55) ((if0 _ _).trans (tlt ((lw_lt _ _).2 hc55_6)).2.1) ?_
              refine G_bipush X0 hx (pc' := 60) rfl (hb hby d_digits_58) (z := (6 : Int32)) rfl ?_
              refine Go.fin X0 hlk (v := some (.int (6 : Int32))) (fun h => by rw [Bd.returns] at h; cases h) (by decide) (by decide) ?_ (fun fs hr => retOut X0 hx Bd.returns rfl (Or.inl ⟨rfl, Or.inl rfl, _, rfl⟩) (hb hby d_digits_60) hr)
              show Q_digits Z v0 h0 n0 _ s₁.heap _
              rw [e0]
              exact ⟨congrArg (fun z => some (Value.int z)) (Eq.symm ((if_neg hc5_1).trans ((if_neg hc15_2).trans ((if_neg hc25_3).trans ((if_neg hc35_4).trans ((if_neg hc45_5).trans ((if_pos hc55_6).trans rfl))))))), N0, rfl⟩
            · refine G_ifYes X0 hx (pc' := 61) (hb hby d_digits_55) ((if0 _ _).trans (flt (fun q => hc55_6 ((lw_lt _ _).1 q))).2.1) (by decide) (by decide) ?_
              refine G_lloadN X0 hx (pc' := 62) rfl (hb hby d_digits_61) rfl ?_
              refine G_ldc2 X0 hx (pc' := 65) rfl hown (mvT hZ (hw _ (List.mem_of_getElem? (i := 7) rfl))) (hb hby d_digits_62) ?_
              refine G_lcmp X0 hx (pc' := 66) rfl (hb hby d_digits_65)  ?_
              by_cases hc66_7 : v0 < (10000000 : Int64)
              · refine G_ifNo X0 hx (pc' := 69) rfl (hb hby d_digits_66) ((if0 _ _).trans (tlt ((lw_lt _ _).2 hc66_7)).2.1) ?_
                refine G_bipush X0 hx (pc' := 71) rfl (hb hby d_digits_69) (z := (7 : Int32)) rfl ?_
                refine Go.fin X0 hlk (v := some (.int (7 : Int32))) (fun h => by rw [Bd.returns] at h; cases h) (by decide) (by decide) ?_ (fun fs hr => retOut X0 hx Bd.returns rfl (Or.inl ⟨rfl, Or.inl rfl, _, rfl⟩) (hb hby d_digits_71) hr)
                show Q_digits Z v0 h0 n0 _ s₁.heap _
                rw [e0]
                exact ⟨congrArg (fun z => some (Value.int z)) (Eq.symm ((if_neg hc5_1).trans ((if_neg hc15_2).trans ((if_neg hc25_3).trans ((if_neg hc35_4).trans ((if_neg hc45_5).trans ((if_neg hc55_6).trans ((if_pos hc66_7).trans rfl)))))))), N0, rfl⟩
              · refine G_ifYes X0 hx (pc' := 72) (hb hby d_digits_66) ((if0 _ _).trans (flt (fun q => hc66_7 ((lw_lt _ _).1 q))).2.1) (by decide) (by decide) ?_
                refine G_lloadN X0 hx (pc' := 73) rfl (hb hby d_digits_72) rfl ?_
                refine G_ldc2 X0 hx (pc' := 76) rfl hown (mvT hZ (hw _ (List.mem_of_getElem? (i := 8) rfl))) (hb hby d_digits_73) ?_
                refine G_lcmp X0 hx (pc' := 77) rfl (hb hby d_digits_76)  ?_
                by_cases hc77_8 : v0 < (100000000 : Int64)
                · refine G_ifNo X0 hx (pc' := 80) rfl (hb hby d_digits_77) ((if0 _ _).trans (tlt ((lw_lt _ _).2 hc77_8)).2.1) ?_
                  refine G_bipush X0 hx (pc' := 82) rfl (hb hby d_digits_80) (z := (8 : Int32)) rfl ?_
                  refine Go.fin X0 hlk (v := some (.int (8 : Int32))) (fun h => by rw [Bd.returns] at h; cases h) (by decide) (by decide) ?_ (fun fs hr => retOut X0 hx Bd.returns rfl (Or.inl ⟨rfl, Or.inl rfl, _, rfl⟩) (hb hby d_digits_82) hr)
                  show Q_digits Z v0 h0 n0 _ s₁.heap _
                  rw [e0]
                  exact ⟨congrArg (fun z => some (Value.int z)) (Eq.symm ((if_neg hc5_1).trans ((if_neg hc15_2).trans ((if_neg hc25_3).trans ((if_neg hc35_4).trans ((if_neg hc45_5).trans ((if_neg hc55_6).trans ((if_neg hc66_7).trans ((if_pos hc77_8).trans rfl))))))))), N0, rfl⟩
                · refine G_ifYes X0 hx (pc' := 83) (hb hby d_digits_77) ((if0 _ _).trans (flt (fun q => hc77_8 ((lw_lt _ _).1 q))).2.1) (by decide) (by decide) ?_
                  refine G_lloadN X0 hx (pc' := 84) rfl (hb hby d_digits_83) rfl ?_
                  refine G_ldc2 X0 hx (pc' := 87) rfl hown (mvT hZ (hw _ (List.mem_of_getElem? (i := 9) rfl))) (hb hby d_digits_84) ?_
                  refine G_lcmp X0 hx (pc' := 88) rfl (hb hby d_digits_87)  ?_
                  by_cases hc88_9 : v0 < (1000000000 : Int64)
                  · refine G_ifNo X0 hx (pc' := 91) rfl (hb hby d_digits_88) ((if0 _ _).trans (tlt ((lw_lt _ _).2 hc88_9)).2.1) ?_
                    refine G_bipush X0 hx (pc' := 93) rfl (hb hby d_digits_91) (z := (9 : Int32)) rfl ?_
                    refine Go.fin X0 hlk (v := some (.int (9 : Int32))) (fun h => by rw [Bd.returns] at h; cases h) (by decide) (by decide) ?_ (fun fs hr => retOut X0 hx Bd.returns rfl (Or.inl ⟨rfl, Or.inl rfl, _, rfl⟩) (hb hby d_digits_93) hr)
                    show Q_digits Z v0 h0 n0 _ s₁.heap _
                    rw [e0]
                    exact ⟨congrArg (fun z => some (Value.int z)) (Eq.symm ((if_neg hc5_1).trans ((if_neg hc15_2).trans ((if_neg hc25_3).trans ((if_neg hc35_4).trans ((if_neg hc45_5).trans ((if_neg hc55_6).trans ((if_neg hc66_7).trans ((if_neg hc77_8).trans ((if_pos hc88_9).trans rfl)))))))))), N0, rfl⟩
                  · refine G_ifYes X0 hx (pc' := 94) (hb hby d_digits_88) ((if0 _ _).trans (flt (fun q => hc88_9 ((lw_lt _ _).1 q))).2.1) (by decide) (by decide) ?_
                    refine G_lloadN X0 hx (pc' := 95) rfl (hb hby d_digits_94) rfl ?_
                    refine G_ldc2 X0 hx (pc' := 98) rfl hown (mvT hZ (hw _ (List.mem_of_getElem? (i := 10) rfl))) (hb hby d_digits_95) ?_
                    refine G_lcmp X0 hx (pc' := 99) rfl (hb hby d_digits_98)  ?_
                    by_cases hc99_10 : v0 < (10000000000 : Int64)
                    · refine G_ifNo X0 hx (pc' := 102) rfl (hb hby d_digits_99) ((if0 _ _).trans (tlt ((lw_lt _ _).2 hc99_10)).2.1) ?_
                      refine G_bipush X0 hx (pc' := 104) rfl (hb hby d_digits_102) (z := (10 : Int32)) rfl ?_
                      refine Go.fin X0 hlk (v := some (.int (10 : Int32))) (fun h => by rw [Bd.returns] at h; cases h) (by decide) (by decide) ?_ (fun fs hr => retOut X0 hx Bd.returns rfl (Or.inl ⟨rfl, Or.inl rfl, _, rfl⟩) (hb hby d_digits_104) hr)
                      show Q_digits Z v0 h0 n0 _ s₁.heap _
                      rw [e0]
                      exact ⟨congrArg (fun z => some (Value.int z)) (Eq.symm ((if_neg hc5_1).trans ((if_neg hc15_2).trans ((if_neg hc25_3).trans ((if_neg hc35_4).trans ((if_neg hc45_5).trans ((if_neg hc55_6).trans ((if_neg hc66_7).trans ((if_neg hc77_8).trans ((if_neg hc88_9).trans ((if_pos hc99_10).trans rfl))))))))))), N0, rfl⟩
                    · refine G_ifYes X0 hx (pc' := 105) (hb hby d_digits_99) ((if0 _ _).trans (flt (fun q => hc99_10 ((lw_lt _ _).1 q))).2.1) (by decide) (by decide) ?_
                      refine G_lloadN X0 hx (pc' := 106) rfl (hb hby d_digits_105) rfl ?_
                      refine G_ldc2 X0 hx (pc' := 109) rfl hown (mvT hZ (hw _ (List.mem_of_getElem? (i := 11) rfl))) (hb hby d_digits_106) ?_
                      refine G_lcmp X0 hx (pc' := 110) rfl (hb hby d_digits_109)  ?_
                      by_cases hc110_11 : v0 < (100000000000 : Int64)
                      · refine G_ifNo X0 hx (pc' := 113) rfl (hb hby d_digits_110) ((if0 _ _).trans (tlt ((lw_lt _ _).2 hc110_11)).2.1) ?_
                        refine G_bipush X0 hx (pc' := 115) rfl (hb hby d_digits_113) (z := (11 : Int32)) rfl ?_
                        refine Go.fin X0 hlk (v := some (.int (11 : Int32))) (fun h => by rw [Bd.returns] at h; cases h) (by decide) (by decide) ?_ (fun fs hr => retOut X0 hx Bd.returns rfl (Or.inl ⟨rfl, Or.inl rfl, _, rfl⟩) (hb hby d_digits_115) hr)
                        show Q_digits Z v0 h0 n0 _ s₁.heap _
                        rw [e0]
                        exact ⟨congrArg (fun z => some (Value.int z)) (Eq.symm ((if_neg hc5_1).trans ((if_neg hc15_2).trans ((if_neg hc25_3).trans ((if_neg hc35_4).trans ((if_neg hc45_5).trans ((if_neg hc55_6).trans ((if_neg hc66_7).trans ((if_neg hc77_8).trans ((if_neg hc88_9).trans ((if_neg hc99_10).trans ((if_pos hc110_11).trans rfl)))))))))))), N0, rfl⟩
                      · refine G_ifYes X0 hx (pc' := 116) (hb hby d_digits_110) ((if0 _ _).trans (flt (fun q => hc110_11 ((lw_lt _ _).1 q))).2.1) (by decide) (by decide) ?_
                        refine G_lloadN X0 hx (pc' := 117) rfl (hb hby d_digits_116) rfl ?_
                        refine G_ldc2 X0 hx (pc' := 120) rfl hown (mvT hZ (hw _ (List.mem_of_getElem? (i := 12) rfl))) (hb hby d_digits_117) ?_
                        refine G_lcmp X0 hx (pc' := 121) rfl (hb hby d_digits_120)  ?_
                        by_cases hc121_12 : v0 < (1000000000000 : Int64)
                        · refine G_ifNo X0 hx (pc' := 124) rfl (hb hby d_digits_121) ((if0 _ _).trans (tlt ((lw_lt _ _).2 hc121_12)).2.1) ?_
                          refine G_bipush X0 hx (pc' := 126) rfl (hb hby d_digits_124) (z := (12 : Int32)) rfl ?_
                          refine Go.fin X0 hlk (v := some (.int (12 : Int32))) (fun h => by rw [Bd.returns] at h; cases h) (by decide) (by decide) ?_ (fun fs hr => retOut X0 hx Bd.returns rfl (Or.inl ⟨rfl, Or.inl rfl, _, rfl⟩) (hb hby d_digits_126) hr)
                          show Q_digits Z v0 h0 n0 _ s₁.heap _
                          rw [e0]
                          exact ⟨congrArg (fun z => some (Value.int z)) (Eq.symm ((if_neg hc5_1).trans ((if_neg hc15_2).trans ((if_neg hc25_3).trans ((if_neg hc35_4).trans ((if_neg hc45_5).trans ((if_neg hc55_6).trans ((if_neg hc66_7).trans ((if_neg hc77_8).trans ((if_neg hc88_9).trans ((if_neg hc99_10).trans ((if_neg hc110_11).trans ((if_pos hc121_12).trans rfl))))))))))))), N0, rfl⟩
                        · refine G_ifYes X0 hx (pc' := 127) (hb hby d_digits_121) ((if0 _ _).trans (flt (fun q => hc121_12 ((lw_lt _ _).1 q))).2.1) (by decide) (by decide) ?_
                          refine G_lloadN X0 hx (pc' := 128) rfl (hb hby d_digits_127) rfl ?_
                          refine G_ldc2 X0 hx (pc' := 131) rfl hown (mvT hZ (hw _ (List.mem_of_getElem? (i := 13) rfl))) (hb hby d_digits_128) ?_
                          refine G_lcmp X0 hx (pc' := 132) rfl (hb hby d_digits_131)  ?_
                          by_cases hc132_13 : v0 < (10000000000000 : Int64)
                          · refine G_ifNo X0 hx (pc' := 135) rfl (hb hby d_digits_132) ((if0 _ _).trans (tlt ((lw_lt _ _).2 hc132_13)).2.1) ?_
                            refine G_bipush X0 hx (pc' := 137) rfl (hb hby d_digits_135) (z := (13 : Int32)) rfl ?_
                            refine Go.fin X0 hlk (v := some (.int (13 : Int32))) (fun h => by rw [Bd.returns] at h; cases h) (by decide) (by decide) ?_ (fun fs hr => retOut X0 hx Bd.returns rfl (Or.inl ⟨rfl, Or.inl rfl, _, rfl⟩) (hb hby d_digits_137) hr)
                            show Q_digits Z v0 h0 n0 _ s₁.heap _
                            rw [e0]
                            exact ⟨congrArg (fun z => some (Value.int z)) (Eq.symm ((if_neg hc5_1).trans ((if_neg hc15_2).trans ((if_neg hc25_3).trans ((if_neg hc35_4).trans ((if_neg hc45_5).trans ((if_neg hc55_6).trans ((if_neg hc66_7).trans ((if_neg hc77_8).trans ((if_neg hc88_9).trans ((if_neg hc99_10).trans ((if_neg hc110_11).trans ((if_neg hc121_12).trans ((if_pos hc132_13).trans rfl)))))))))))))), N0, rfl⟩
                          · refine G_ifYes X0 hx (pc' := 138) (hb hby d_digits_132) ((if0 _ _).trans (flt (fun q => hc132_13 ((lw_lt _ _).1 q))).2.1) (by decide) (by decide) ?_
                            refine G_lloadN X0 hx (pc' := 139) rfl (hb hby d_digits_138) rfl ?_
                            refine G_ldc2 X0 hx (pc' := 142) rfl hown (mvT hZ (hw _ (List.mem_of_getElem? (i := 14) rfl))) (hb hby d_digits_139) ?_
                            refine G_lcmp X0 hx (pc' := 143) rfl (hb hby d_digits_142)  ?_
                            by_cases hc143_14 : v0 < (100000000000000 : Int64)
                            · refine G_ifNo X0 hx (pc' := 146) rfl (hb hby d_digits_143) ((if0 _ _).trans (tlt ((lw_lt _ _).2 hc143_14)).2.1) ?_
                              refine G_bipush X0 hx (pc' := 148) rfl (hb hby d_digits_146) (z := (14 : Int32)) rfl ?_
                              refine Go.fin X0 hlk (v := some (.int (14 : Int32))) (fun h => by rw [Bd.returns] at h; cases h) (by decide) (by decide) ?_ (fun fs hr => retOut X0 hx Bd.returns rfl (Or.inl ⟨rfl, Or.inl rfl, _, rfl⟩) (hb hby d_digits_148) hr)
                              show Q_digits Z v0 h0 n0 _ s₁.heap _
                              rw [e0]
                              exact ⟨congrArg (fun z => some (Value.int z)) (Eq.symm ((if_neg hc5_1).trans ((if_neg hc15_2).trans ((if_neg hc25_3).trans ((if_neg hc35_4).trans ((if_neg hc45_5).trans ((if_neg hc55_6).trans ((if_neg hc66_7).trans ((if_neg hc77_8).trans ((if_neg hc88_9).trans ((if_neg hc99_10).trans ((if_neg hc110_11).trans ((if_neg hc121_12).trans ((if_neg hc132_13).trans ((if_pos hc143_14).trans rfl))))))))))))))), N0, rfl⟩
                            · refine G_ifYes X0 hx (pc' := 149) (hb hby d_digits_143) ((if0 _ _).trans (flt (fun q => hc143_14 ((lw_lt _ _).1 q))).2.1) (by decide) (by decide) ?_
                              refine G_lloadN X0 hx (pc' := 150) rfl (hb hby d_digits_149) rfl ?_
                              refine G_ldc2 X0 hx (pc' := 153) rfl hown (mvT hZ (hw _ (List.mem_of_getElem? (i := 15) rfl))) (hb hby d_digits_150) ?_
                              refine G_lcmp X0 hx (pc' := 154) rfl (hb hby d_digits_153)  ?_
                              by_cases hc154_15 : v0 < (1000000000000000 : Int64)
                              · refine G_ifNo X0 hx (pc' := 157) rfl (hb hby d_digits_154) ((if0 _ _).trans (tlt ((lw_lt _ _).2 hc154_15)).2.1) ?_
                                refine G_bipush X0 hx (pc' := 159) rfl (hb hby d_digits_157) (z := (15 : Int32)) rfl ?_
                                refine Go.fin X0 hlk (v := some (.int (15 : Int32))) (fun h => by rw [Bd.returns] at h; cases h) (by decide) (by decide) ?_ (fun fs hr => retOut X0 hx Bd.returns rfl (Or.inl ⟨rfl, Or.inl rfl, _, rfl⟩) (hb hby d_digits_159) hr)
                                show Q_digits Z v0 h0 n0 _ s₁.heap _
                                rw [e0]
                                exact ⟨congrArg (fun z => some (Value.int z)) (Eq.symm ((if_neg hc5_1).trans ((if_neg hc15_2).trans ((if_neg hc25_3).trans ((if_neg hc35_4).trans ((if_neg hc45_5).trans ((if_neg hc55_6).trans ((if_neg hc66_7).trans ((if_neg hc77_8).trans ((if_neg hc88_9).trans ((if_neg hc99_10).trans ((if_neg hc110_11).trans ((if_neg hc121_12).trans ((if_neg hc132_13).trans ((if_neg hc143_14).trans ((if_pos hc154_15).trans rfl)))))))))))))))), N0, rfl⟩
                              · refine G_ifYes X0 hx (pc' := 160) (hb hby d_digits_154) ((if0 _ _).trans (flt (fun q => hc154_15 ((lw_lt _ _).1 q))).2.1) (by decide) (by decide) ?_
                                refine G_lloadN X0 hx (pc' := 161) rfl (hb hby d_digits_160) rfl ?_
                                refine G_ldc2 X0 hx (pc' := 164) rfl hown (mvT hZ (hw _ (List.mem_of_getElem? (i := 16) rfl))) (hb hby d_digits_161) ?_
                                refine G_lcmp X0 hx (pc' := 165) rfl (hb hby d_digits_164)  ?_
                                by_cases hc165_16 : v0 < (10000000000000000 : Int64)
                                · refine G_ifNo X0 hx (pc' := 168) rfl (hb hby d_digits_165) ((if0 _ _).trans (tlt ((lw_lt _ _).2 hc165_16)).2.1) ?_
                                  refine G_bipush X0 hx (pc' := 170) rfl (hb hby d_digits_168) (z := (16 : Int32)) rfl ?_
                                  refine Go.fin X0 hlk (v := some (.int (16 : Int32))) (fun h => by rw [Bd.returns] at h; cases h) (by decide) (by decide) ?_ (fun fs hr => retOut X0 hx Bd.returns rfl (Or.inl ⟨rfl, Or.inl rfl, _, rfl⟩) (hb hby d_digits_170) hr)
                                  show Q_digits Z v0 h0 n0 _ s₁.heap _
                                  rw [e0]
                                  exact ⟨congrArg (fun z => some (Value.int z)) (Eq.symm ((if_neg hc5_1).trans ((if_neg hc15_2).trans ((if_neg hc25_3).trans ((if_neg hc35_4).trans ((if_neg hc45_5).trans ((if_neg hc55_6).trans ((if_neg hc66_7).trans ((if_neg hc77_8).trans ((if_neg hc88_9).trans ((if_neg hc99_10).trans ((if_neg hc110_11).trans ((if_neg hc121_12).trans ((if_neg hc132_13).trans ((if_neg hc143_14).trans ((if_neg hc154_15).trans ((if_pos hc165_16).trans rfl))))))))))))))))), N0, rfl⟩
                                · refine G_ifYes X0 hx (pc' := 171) (hb hby d_digits_165) ((if0 _ _).trans (flt (fun q => hc165_16 ((lw_lt _ _).1 q))).2.1) (by decide) (by decide) ?_
                                  refine G_lloadN X0 hx (pc' := 172) rfl (hb hby d_digits_171) rfl ?_
                                  refine G_ldc2 X0 hx (pc' := 175) rfl hown (mvT hZ (hw _ (List.mem_of_getElem? (i := 17) rfl))) (hb hby d_digits_172) ?_
                                  refine G_lcmp X0 hx (pc' := 176) rfl (hb hby d_digits_175)  ?_
                                  by_cases hc176_17 : v0 < (100000000000000000 : Int64)
                                  · refine G_ifNo X0 hx (pc' := 179) rfl (hb hby d_digits_176) ((if0 _ _).trans (tlt ((lw_lt _ _).2 hc176_17)).2.1) ?_
                                    refine G_bipush X0 hx (pc' := 181) rfl (hb hby d_digits_179) (z := (17 : Int32)) rfl ?_
                                    refine Go.fin X0 hlk (v := some (.int (17 : Int32))) (fun h => by rw [Bd.returns] at h; cases h) (by decide) (by decide) ?_ (fun fs hr => retOut X0 hx Bd.returns rfl (Or.inl ⟨rfl, Or.inl rfl, _, rfl⟩) (hb hby d_digits_181) hr)
                                    show Q_digits Z v0 h0 n0 _ s₁.heap _
                                    rw [e0]
                                    exact ⟨congrArg (fun z => some (Value.int z)) (Eq.symm ((if_neg hc5_1).trans ((if_neg hc15_2).trans ((if_neg hc25_3).trans ((if_neg hc35_4).trans ((if_neg hc45_5).trans ((if_neg hc55_6).trans ((if_neg hc66_7).trans ((if_neg hc77_8).trans ((if_neg hc88_9).trans ((if_neg hc99_10).trans ((if_neg hc110_11).trans ((if_neg hc121_12).trans ((if_neg hc132_13).trans ((if_neg hc143_14).trans ((if_neg hc154_15).trans ((if_neg hc165_16).trans ((if_pos hc176_17).trans rfl)))))))))))))))))), N0, rfl⟩
                                  · refine G_ifYes X0 hx (pc' := 182) (hb hby d_digits_176) ((if0 _ _).trans (flt (fun q => hc176_17 ((lw_lt _ _).1 q))).2.1) (by decide) (by decide) ?_
                                    refine G_lloadN X0 hx (pc' := 183) rfl (hb hby d_digits_182) rfl ?_
                                    refine G_ldc2 X0 hx (pc' := 186) rfl hown (mvT hZ (hw _ (List.mem_of_getElem? (i := 18) rfl))) (hb hby d_digits_183) ?_
                                    refine G_lcmp X0 hx (pc' := 187) rfl (hb hby d_digits_186)  ?_
                                    by_cases hc187_18 : v0 < (1000000000000000000 : Int64)
                                    · refine G_ifNo X0 hx (pc' := 190) rfl (hb hby d_digits_187) ((if0 _ _).trans (tlt ((lw_lt _ _).2 hc187_18)).2.1) ?_
                                      refine G_bipush X0 hx (pc' := 192) rfl (hb hby d_digits_190) (z := (18 : Int32)) rfl ?_
                                      refine Go.fin X0 hlk (v := some (.int (18 : Int32))) (fun h => by rw [Bd.returns] at h; cases h) (by decide) (by decide) ?_ (fun fs hr => retOut X0 hx Bd.returns rfl (Or.inl ⟨rfl, Or.inl rfl, _, rfl⟩) (hb hby d_digits_192) hr)
                                      show Q_digits Z v0 h0 n0 _ s₁.heap _
                                      rw [e0]
                                      exact ⟨congrArg (fun z => some (Value.int z)) (Eq.symm ((if_neg hc5_1).trans ((if_neg hc15_2).trans ((if_neg hc25_3).trans ((if_neg hc35_4).trans ((if_neg hc45_5).trans ((if_neg hc55_6).trans ((if_neg hc66_7).trans ((if_neg hc77_8).trans ((if_neg hc88_9).trans ((if_neg hc99_10).trans ((if_neg hc110_11).trans ((if_neg hc121_12).trans ((if_neg hc132_13).trans ((if_neg hc143_14).trans ((if_neg hc154_15).trans ((if_neg hc165_16).trans ((if_neg hc176_17).trans ((if_pos hc187_18).trans rfl))))))))))))))))))), N0, rfl⟩
                                    · refine G_ifYes X0 hx (pc' := 193) (hb hby d_digits_187) ((if0 _ _).trans (flt (fun q => hc187_18 ((lw_lt _ _).1 q))).2.1) (by decide) (by decide) ?_
                                      refine G_bipush X0 hx (pc' := 195) rfl (hb hby d_digits_193) (z := (19 : Int32)) rfl ?_
                                      refine Go.fin X0 hlk (v := some (.int (19 : Int32))) (fun h => by rw [Bd.returns] at h; cases h) (by decide) (by decide) ?_ (fun fs hr => retOut X0 hx Bd.returns rfl (Or.inl ⟨rfl, Or.inl rfl, _, rfl⟩) (hb hby d_digits_195) hr)
                                      show Q_digits Z v0 h0 n0 _ s₁.heap _
                                      rw [e0]
                                      exact ⟨congrArg (fun z => some (Value.int z)) (Eq.symm ((if_neg hc5_1).trans ((if_neg hc15_2).trans ((if_neg hc25_3).trans ((if_neg hc35_4).trans ((if_neg hc45_5).trans ((if_neg hc55_6).trans ((if_neg hc66_7).trans ((if_neg hc77_8).trans ((if_neg hc88_9).trans ((if_neg hc99_10).trans ((if_neg hc110_11).trans ((if_neg hc121_12).trans ((if_neg hc132_13).trans ((if_neg hc143_14).trans ((if_neg hc154_15).trans ((if_neg hc165_16).trans ((if_neg hc176_17).trans ((if_neg hc187_18).trans rfl))))))))))))))))))), N0, rfl⟩
theorem d_textLen_0 : decode prog_28_method_10_code 0 = .ok (.lload_n 0, 1) := by decide +kernel
theorem d_textLen_1 : decode prog_28_method_10_code 1 = .ok (.lconst 0, 1) := by decide +kernel
theorem d_textLen_2 : decode prog_28_method_10_code 2 = .ok (.lcmp, 1) := by decide +kernel
theorem d_textLen_3 : decode prog_28_method_10_code 3 = .ok (.ifCond .ge 7, 3) := by decide +kernel
theorem d_textLen_6 : decode prog_28_method_10_code 6 = .ok (.lload_n 0, 1) := by decide +kernel
theorem d_textLen_7 : decode prog_28_method_10_code 7 = .ok (.goto 5, 3) := by decide +kernel
theorem d_textLen_12 : decode prog_28_method_10_code 12 = .ok (.lstore_n 2, 1) := by decide +kernel
theorem d_textLen_13 : decode prog_28_method_10_code 13 = .ok (.iconst 1, 1) := by decide +kernel
theorem d_textLen_14 : decode prog_28_method_10_code 14 = .ok (.istore 4, 2) := by decide +kernel
theorem d_textLen_16 : decode prog_28_method_10_code 16 = .ok (.ldc2_w 101, 3) := by decide +kernel
theorem d_textLen_19 : decode prog_28_method_10_code 19 = .ok (.lstore 5, 2) := by decide +kernel
theorem d_textLen_21 : decode prog_28_method_10_code 21 = .ok (.iload 4, 2) := by decide +kernel
theorem d_textLen_23 : decode prog_28_method_10_code 23 = .ok (.bipush 18, 2) := by decide +kernel
theorem d_textLen_25 : decode prog_28_method_10_code 25 = .ok (.if_icmp .gt 24, 3) := by decide +kernel
theorem d_textLen_28 : decode prog_28_method_10_code 28 = .ok (.lload_n 2, 1) := by decide +kernel
theorem d_textLen_29 : decode prog_28_method_10_code 29 = .ok (.lload 5, 2) := by decide +kernel
theorem d_textLen_31 : decode prog_28_method_10_code 31 = .ok (.lcmp, 1) := by decide +kernel
theorem d_textLen_32 : decode prog_28_method_10_code 32 = .ok (.ifCond .gt 17, 3) := by decide +kernel
theorem d_textLen_49 : decode prog_28_method_10_code 49 = .ok (.lload_n 0, 1) := by decide +kernel
theorem d_textLen_50 : decode prog_28_method_10_code 50 = .ok (.lconst 0, 1) := by decide +kernel
theorem d_textLen_51 : decode prog_28_method_10_code 51 = .ok (.lcmp, 1) := by decide +kernel
theorem d_textLen_52 : decode prog_28_method_10_code 52 = .ok (.ifCond .ge 10, 3) := by decide +kernel
theorem d_textLen_55 : decode prog_28_method_10_code 55 = .ok (.iload 4, 2) := by decide +kernel
theorem d_textLen_57 : decode prog_28_method_10_code 57 = .ok (.iconst 1, 1) := by decide +kernel
theorem d_textLen_58 : decode prog_28_method_10_code 58 = .ok (.iadd, 1) := by decide +kernel
theorem d_textLen_59 : decode prog_28_method_10_code 59 = .ok (.goto 5, 3) := by decide +kernel
theorem d_textLen_64 : decode prog_28_method_10_code 64 = .ok (.ireturn, 1) := by decide +kernel
theorem d_textLen_35 : decode prog_28_method_10_code 35 = .ok (.iinc 4 1, 3) := by decide +kernel
theorem d_textLen_38 : decode prog_28_method_10_code 38 = .ok (.lload 5, 2) := by decide +kernel
theorem d_textLen_40 : decode prog_28_method_10_code 40 = .ok (.ldc2_w 103, 3) := by decide +kernel
theorem d_textLen_43 : decode prog_28_method_10_code 43 = .ok (.lmul, 1) := by decide +kernel
theorem d_textLen_44 : decode prog_28_method_10_code 44 = .ok (.lstore 5, 2) := by decide +kernel
theorem d_textLen_46 : decode prog_28_method_10_code 46 = .ok (.goto (-25), 3) := by decide +kernel
theorem d_textLen_10 : decode prog_28_method_10_code 10 = .ok (.lload_n 0, 1) := by decide +kernel
theorem d_textLen_11 : decode prog_28_method_10_code 11 = .ok (.lneg, 1) := by decide +kernel
theorem d_textLen_62 : decode prog_28_method_10_code 62 = .ok (.iload 4, 2) := by decide +kernel
def f_textLen (v0 : Int64) : Int32 := (if v0 < (0 : Int64) then (if (-10 : Int64) < v0 then (2 : Int32) else (if (-100 : Int64) < v0 then (3 : Int32) else (if (-1000 : Int64) < v0 then (4 : Int32) else (if (-10000 : Int64) < v0 then (5 : Int32) else (if (-100000 : Int64) < v0 then (6 : Int32) else (if (-1000000 : Int64) < v0 then (7 : Int32) else (if (-10000000 : Int64) < v0 then (8 : Int32) else (if (-100000000 : Int64) < v0 then (9 : Int32) else (if (-1000000000 : Int64) < v0 then (10 : Int32) else (if (-10000000000 : Int64) < v0 then (11 : Int32) else (if (-100000000000 : Int64) < v0 then (12 : Int32) else (if (-1000000000000 : Int64) < v0 then (13 : Int32) else (if (-10000000000000 : Int64) < v0 then (14 : Int32) else (if (-100000000000000 : Int64) < v0 then (15 : Int32) else (if (-1000000000000000 : Int64) < v0 then (16 : Int32) else (if (-10000000000000000 : Int64) < v0 then (17 : Int32) else (if (-100000000000000000 : Int64) < v0 then (18 : Int32) else (if (-1000000000000000000 : Int64) < v0 then (19 : Int32) else (20 : Int32))))))))))))))))))) else (if (-10 : Int64) < (-v0) then (1 : Int32) else (if (-100 : Int64) < (-v0) then (2 : Int32) else (if (-1000 : Int64) < (-v0) then (3 : Int32) else (if (-10000 : Int64) < (-v0) then (4 : Int32) else (if (-100000 : Int64) < (-v0) then (5 : Int32) else (if (-1000000 : Int64) < (-v0) then (6 : Int32) else (if (-10000000 : Int64) < (-v0) then (7 : Int32) else (if (-100000000 : Int64) < (-v0) then (8 : Int32) else (if (-1000000000 : Int64) < (-v0) then (9 : Int32) else (if (-10000000000 : Int64) < (-v0) then (10 : Int32) else (if (-100000000000 : Int64) < (-v0) then (11 : Int32) else (if (-1000000000000 : Int64) < (-v0) then (12 : Int32) else (if (-10000000000000 : Int64) < (-v0) then (13 : Int32) else (if (-100000000000000 : Int64) < (-v0) then (14 : Int32) else (if (-1000000000000000 : Int64) < (-v0) then (15 : Int32) else (if (-10000000000000000 : Int64) < (-v0) then (16 : Int32) else (if (-100000000000000000 : Int64) < (-v0) then (17 : Int32) else (if (-1000000000000000000 : Int64) < (-v0) then (18 : Int32) else (19 : Int32))))))))))))))))))))
theorem ef_textLen (m : MethodId) (v0 : Int64) : entryFrame m #[(.long v0)] 7 = mkF m 0 #[.val (.long v0), .second, .unset, .unset, .unset, .unset, .unset] [] := by first | (simp [entryFrame, mkF, argsToLocals, Value.category]; done) | rfl
def Q_textLen (Z : State) (v0 : Int64) (h0 : Heap) (n0 : Nat) (v : Option Value) (h : Heap) (L : List Loc) : Prop := v = some (.int (f_textLen v0)) ∧ Fr n0 L ∧ h = h0
set_option maxRecDepth 65536 in
set_option maxHeartbeats 40000000 in
theorem rm_textLen (l : Launch) (Z : State) (a0 : Array Value) (hw : ∀ d ∈ tables_1, d.before a0 Z = true) (ws : List Jvm.Cond) (v0 : Int64) (h0 : Heap) (n0 : Nat) (Z0 : n0 ≤ h0.size) :
    MetFree l (⟨"com/example/colonwise/colonwise/model/BencodeInteger", "textLength", "(J)I"⟩ : MethodName) (head1 (Jvm.Cond.code (⟨"com/example/colonwise/colonwise/model/BencodeInteger", "textLength", "(J)I"⟩ : MethodName) prog_28_method_10_code 7 (some .int) :: ws) ({ frames := 0, cells := 0, slots := 0, locals := 0 } : Room)) (fun a U => a = #[(.long v0)] ∧ Z.Warmed39 U.vm ∧ U.heap = h0) (fun _ _ _ _ _ => True) (fun _ U o U' => ∃ v L, o = .returned v ∧ Q_textLen Z v0 h0 n0 v U'.heap L ∧ FrameEnd U o U' L ({ frames := 0, cells := 0, slots := 0, locals := 0 } : Room).cells ({ frames := 0, cells := 0, slots := 0, locals := 0 } : Room).slots) := by
  refine MetFree.of_bodySF (plainFor_of_name (by first | (simp [plainName, overriddenIn]; done) | decide +kernel)) hisR ?_
  intro p e s m args below meth c s₁ Bd hml0 hP hK
  obtain ⟨rfl, hZ, hh⟩ := hP
  have hx := Bd.exec
  have hby := Bd.bytes
  have hml : c.maxLocals = 7 := hml0
  have hown : s.vm.findClass "com/example/colonwise/colonwise/model/BencodeInteger" = some m.cls := findClass_of_methodNamed Bd.named
  have hnm := (name_of_methodNamed Bd.named Bd.method).1
  have hlk : meth.locks = false := Bd.notSynchronized
  have X0 : Stand p l e ({ frames := 0, cells := 0, slots := 0, locals := 0 } : Room) s m #[(.long v0)] below meth c s₁ [] 0 0 := Stand.of_body Bd
  have e0 : s₁.heap = h0 := by rw [← hh, Bd.state]; rfl
  have N0 := Fr.nil n0
  refine Go.enter (Q := Q_textLen Z v0 h0 n0) (C := ({ frames := 0, cells := 0, slots := 0, locals := 0 } : Room).cells) (N := ({ frames := 0, cells := 0, slots := 0, locals := 0 } : Room).slots) (ef_textLen m v0) ?_
  show Go p e below s _ _ _ s₁ (mkF m 0 #[.val (.long v0), .second, .unset, .unset, .unset, .unset, .unset] [])
  refine G_lloadN X0 hx (pc' := 1) rfl (hb hby d_textLen_0) rfl ?_
  refine G_lconst X0 hx (pc' := 2) rfl (hb hby d_textLen_1) (z := (0 : Int64)) rfl ?_
  refine G_lcmp X0 hx (pc' := 3) rfl (hb hby d_textLen_2)  ?_
  by_cases hc3_1 : v0 < (0 : Int64)
  · refine G_ifNo X0 hx (pc' := 6) rfl (hb hby d_textLen_3) ((if0 _ _).trans (tlt ((lw_lt _ _).2 hc3_1)).2.1) ?_
    refine G_lloadN X0 hx (pc' := 7) rfl (hb hby d_textLen_6) rfl ?_
    refine G_goto X0 hx (pc' := 12) (hb hby d_textLen_7)  (by decide) (by decide) ?_
    refine G_lstoreN X0 hx (pc' := 13) rfl (hb hby d_textLen_12) (L' := #[.val (.long v0), .second, .val (.long v0), .second, .unset, .unset, .unset]) rfl ?_
    refine G_iconst X0 hx (pc' := 14) rfl (hb hby d_textLen_13) (z := (1 : Int32)) rfl ?_
    refine G_istore X0 hx (pc' := 16) rfl (hb hby d_textLen_14) (L' := #[.val (.long v0), .second, .val (.long v0), .second, .val (.int (1 : Int32)), .unset, .unset]) rfl ?_
    refine G_ldc2 X0 hx (pc' := 19) rfl hown (mvT hZ (hw _ (List.mem_of_getElem? (i := 33) rfl))) (hb hby d_textLen_16) ?_
    refine G_lstore X0 hx (pc' := 21) rfl (hb hby d_textLen_19) (L' := #[.val (.long v0), .second, .val (.long v0), .second, .val (.int (1 : Int32)), .val (.long (-10 : Int64)), .second]) rfl ?_
    refine G_iload X0 hx (pc' := 23) rfl (hb hby d_textLen_21) rfl ?_
    refine G_bipush X0 hx (pc' := 25) rfl (hb hby d_textLen_23) (z := (18 : Int32)) rfl ?_
    refine G_icmpNo X0 hx (pc' := 28) rfl (hb hby d_textLen_25) (flt (by decide : ¬ ((18 : Int32) < (1 : Int32)))).2.2.1 ?_
    refine G_lloadN X0 hx (pc' := 29) rfl (hb hby d_textLen_28) rfl ?_
    refine G_lload X0 hx (pc' := 31) rfl (hb hby d_textLen_29) rfl ?_
    refine G_lcmp X0 hx (pc' := 32) rfl (hb hby d_textLen_31)  ?_
    by_cases hc32_2 : (-10 : Int64) < v0
    · refine G_ifYes X0 hx (pc' := 49) (hb hby d_textLen_32) ((if0 _ _).trans (tlt ((lw_gt _ _).2 hc32_2)).2.2.1) (by decide) (by decide) ?_
      refine G_lloadN X0 hx (pc' := 50) rfl (hb hby d_textLen_49) rfl ?_
      refine G_lconst X0 hx (pc' := 51) rfl (hb hby d_textLen_50) (z := (0 : Int64)) rfl ?_
      refine G_lcmp X0 hx (pc' := 52) rfl (hb hby d_textLen_51)  ?_
      refine G_ifNo X0 hx (pc' := 55) rfl (hb hby d_textLen_52) ((if0 _ _).trans (tlt ((lw_lt _ _).2 hc3_1)).2.1) ?_
      refine G_iload X0 hx (pc' := 57) rfl (hb hby d_textLen_55) rfl ?_
      refine G_iconst X0 hx (pc' := 58) rfl (hb hby d_textLen_57) (z := (1 : Int32)) rfl ?_
      refine G_iadd X0 hx (pc' := 59) rfl (hb hby d_textLen_58)  ?_
      rw [show ((1 : Int32) + (1 : Int32)) = (2 : Int32) from by decide]
      refine G_goto X0 hx (pc' := 64) (hb hby d_textLen_59)  (by decide) (by decide) ?_
      refine Go.fin X0 hlk (v := some (.int (2 : Int32))) (fun h => by rw [Bd.returns] at h; cases h) (by decide) (by decide) ?_ (fun fs hr => retOut X0 hx Bd.returns rfl (Or.inl ⟨rfl, Or.inl rfl, _, rfl⟩) (hb hby d_textLen_64) hr)
      show Q_textLen Z v0 h0 n0 _ s₁.heap _
      rw [e0]
      exact ⟨congrArg (fun z => some (Value.int z)) (Eq.symm ((if_pos hc3_1).trans ((if_pos hc32_2).trans rfl))), N0, rfl⟩
    · refine G_ifNo X0 hx (pc' := 35) rfl (hb hby d_textLen_32) ((if0 _ _).trans (flt (fun q => hc32_2 ((lw_gt _ _).1 q))).2.2.1) ?_
      refine G_iinc X0 hx (pc' := 38) rfl (hb hby d_textLen_35) rfl (z := (2 : Int32)) rfl (L' := #[.val (.long v0), .second, .val (.long v0), .second, .val (.int (2 : Int32)), .val (.long (-10 : Int64)), .second]) rfl ?_
      refine G_lload X0 hx (pc' := 40) rfl (hb hby d_textLen_38) rfl ?_
      refine G_ldc2 X0 hx (pc' := 43) rfl hown (mvT hZ (hw _ (List.mem_of_getElem? (i := 34) rfl))) (hb hby d_textLen_40) ?_
      refine G_lmul X0 hx (pc' := 44) rfl (hb hby d_textLen_43)  ?_
      rw [show ((-10 : Int64) * (10 : Int64)) = (-100 : Int64) from by decide]
      refine G_lstore X0 hx (pc' := 46) rfl (hb hby d_textLen_44) (L' := #[.val (.long v0), .second, .val (.long v0), .second, .val (.int (2 : Int32)), .val (.long (-100 : Int64)), .second]) rfl ?_
      refine G_goto X0 hx (pc' := 21) (hb hby d_textLen_46)  (by decide) (by decide) ?_
      refine G_iload X0 hx (pc' := 23) rfl (hb hby d_textLen_21) rfl ?_
      refine G_bipush X0 hx (pc' := 25) rfl (hb hby d_textLen_23) (z := (18 : Int32)) rfl ?_
      refine G_icmpNo X0 hx (pc' := 28) rfl (hb hby d_textLen_25) (flt (by decide : ¬ ((18 : Int32) < (2 : Int32)))).2.2.1 ?_
      refine G_lloadN X0 hx (pc' := 29) rfl (hb hby d_textLen_28) rfl ?_
      refine G_lload X0 hx (pc' := 31) rfl (hb hby d_textLen_29) rfl ?_
      refine G_lcmp X0 hx (pc' := 32) rfl (hb hby d_textLen_31)  ?_
      by_cases hc32_3 : (-100 : Int64) < v0
      · refine G_ifYes X0 hx (pc' := 49) (hb hby d_textLen_32) ((if0 _ _).trans (tlt ((lw_gt _ _).2 hc32_3)).2.2.1) (by decide) (by decide) ?_
        refine G_lloadN X0 hx (pc' := 50) rfl (hb hby d_textLen_49) rfl ?_
        refine G_lconst X0 hx (pc' := 51) rfl (hb hby d_textLen_50) (z := (0 : Int64)) rfl ?_
        refine G_lcmp X0 hx (pc' := 52) rfl (hb hby d_textLen_51)  ?_
        refine G_ifNo X0 hx (pc' := 55) rfl (hb hby d_textLen_52) ((if0 _ _).trans (tlt ((lw_lt _ _).2 hc3_1)).2.1) ?_
        refine G_iload X0 hx (pc' := 57) rfl (hb hby d_textLen_55) rfl ?_
        refine G_iconst X0 hx (pc' := 58) rfl (hb hby d_textLen_57) (z := (1 : Int32)) rfl ?_
        refine G_iadd X0 hx (pc' := 59) rfl (hb hby d_textLen_58)  ?_
        rw [show ((2 : Int32) + (1 : Int32)) = (3 : Int32) from by decide]
        refine G_goto X0 hx (pc' := 64) (hb hby d_textLen_59)  (by decide) (by decide) ?_
        refine Go.fin X0 hlk (v := some (.int (3 : Int32))) (fun h => by rw [Bd.returns] at h; cases h) (by decide) (by decide) ?_ (fun fs hr => retOut X0 hx Bd.returns rfl (Or.inl ⟨rfl, Or.inl rfl, _, rfl⟩) (hb hby d_textLen_64) hr)
        show Q_textLen Z v0 h0 n0 _ s₁.heap _
        rw [e0]
        exact ⟨congrArg (fun z => some (Value.int z)) (Eq.symm ((if_pos hc3_1).trans ((if_neg hc32_2).trans ((if_pos hc32_3).trans rfl)))), N0, rfl⟩
      · refine G_ifNo X0 hx (pc' := 35) rfl (hb hby d_textLen_32) ((if0 _ _).trans (flt (fun q => hc32_3 ((lw_gt _ _).1 q))).2.2.1) ?_
        refine G_iinc X0 hx (pc' := 38) rfl (hb hby d_textLen_35) rfl (z := (3 : Int32)) rfl (L' := #[.val (.long v0), .second, .val (.long v0), .second, .val (.int (3 : Int32)), .val (.long (-100 : Int64)), .second]) rfl ?_
        refine G_lload X0 hx (pc' := 40) rfl (hb hby d_textLen_38) rfl ?_
        refine G_ldc2 X0 hx (pc' := 43) rfl hown (mvT hZ (hw _ (List.mem_of_getElem? (i := 34) rfl))) (hb hby d_textLen_40) ?_
        refine G_lmul X0 hx (pc' := 44) rfl (hb hby d_textLen_43)  ?_
        rw [show ((-100 : Int64) * (10 : Int64)) = (-1000 : Int64) from by decide]
        refine G_lstore X0 hx (pc' := 46) rfl (hb hby d_textLen_44) (L' := #[.val (.long v0), .second, .val (.long v0), .second, .val (.int (3 : Int32)), .val (.long (-1000 : Int64)), .second]) rfl ?_
        refine G_goto X0 hx (pc' := 21) (hb hby d_textLen_46)  (by decide) (by decide) ?_
        refine G_iload X0 hx (pc' := 23) rfl (hb hby d_textLen_21) rfl ?_
        refine G_bipush X0 hx (pc' := 25) rfl (hb hby d_textLen_23) (z := (18 : Int32)) rfl ?_
        refine G_icmpNo X0 hx (pc' := 28) rfl (hb hby d_textLen_25) (flt (by decide : ¬ ((18 : Int32) < (3 : Int32)))).2.2.1 ?_
        refine G_lloadN X0 hx (pc' := 29) rfl (hb hby d_textLen_28) rfl ?_
        refine G_lload X0 hx (pc' := 31) rfl (hb hby d_textLen_29) rfl ?_
        refine G_lcmp X0 hx (pc' := 32) rfl (hb hby d_textLen_31)  ?_
        by_cases hc32_4 : (-1000 : Int64) < v0
        · refine G_ifYes X0 hx (pc' := 49) (hb hby d_textLen_32) ((if0 _ _).trans (tlt ((lw_gt _ _).2 hc32_4)).2.2.1) (by decide) (by decide) ?_
          refine G_lloadN X0 hx (pc' := 50) rfl (hb hby d_textLen_49) rfl ?_
          refine G_lconst X0 hx (pc' := 51) rfl (hb hby d_textLen_50) (z := (0 : Int64)) rfl ?_
          refine G_lcmp X0 hx (pc' := 52) rfl (hb hby d_textLen_51)  ?_
          refine G_ifNo X0 hx (pc' := 55) rfl (hb hby d_textLen_52) ((if0 _ _).trans (tlt ((lw_lt _ _).2 hc3_1)).2.1) ?_
          refine G_iload X0 hx (pc' := 57) rfl (hb hby d_textLen_55) rfl ?_
          refine G_iconst X0 hx (pc' := 58) rfl (hb hby d_textLen_57) (z := (1 : Int32)) rfl ?_
          refine G_iadd X0 hx (pc' := 59) rfl (hb hby d_textLen_58)  ?_
          rw [show ((3 : Int32) + (1 : Int32)) = (4 : Int32) from by decide]
          refine G_goto X0 hx (pc' := 64) (hb hby d_textLen_59)  (by decide) (by decide) ?_
          refine Go.fin X0 hlk (v := some (.int (4 : Int32))) (fun h => by rw [Bd.returns] at h; cases h) (by decide) (by decide) ?_ (fun fs hr => retOut X0 hx Bd.returns rfl (Or.inl ⟨rfl, Or.inl rfl, _, rfl⟩) (hb hby d_textLen_64) hr)
          show Q_textLen Z v0 h0 n0 _ s₁.heap _
          rw [e0]
          exact ⟨congrArg (fun z => some (Value.int z)) (Eq.symm ((if_pos hc3_1).trans ((if_neg hc32_2).trans ((if_neg hc32_3).trans ((if_pos hc32_4).trans rfl))))), N0, rfl⟩
        · refine G_ifNo X0 hx (pc' := 35) rfl (hb hby d_textLen_32) ((if0 _ _).trans (flt (fun q => hc32_4 ((lw_gt _ _).1 q))).2.2.1) ?_
          refine G_iinc X0 hx (pc' := 38) rfl (hb hby d_textLen_35) rfl (z := (4 : Int32)) rfl (L' := #[.val (.long v0), .second, .val (.long v0), .second, .val (.int (4 : Int32)), .val (.long (-1000 : Int64)), .second]) rfl ?_
          refine G_lload X0 hx (pc' := 40) rfl (hb hby d_textLen_38) rfl ?_
          refine G_ldc2 X0 hx (pc' := 43) rfl hown (mvT hZ (hw _ (List.mem_of_getElem? (i := 34) rfl))) (hb hby d_textLen_40) ?_
          refine G_lmul X0 hx (pc' := 44) rfl (hb hby d_textLen_43)  ?_
          rw [show ((-1000 : Int64) * (10 : Int64)) = (-10000 : Int64) from by decide]
          refine G_lstore X0 hx (pc' := 46) rfl (hb hby d_textLen_44) (L' := #[.val (.long v0), .second, .val (.long v0), .second, .val (.int (4 : Int32)), .val (.long (-10000 : Int64)), .second]) rfl ?_
          refine G_goto X0 hx (pc' := 21) (hb hby d_textLen_46)  (by decide) (by decide) ?_
          refine G_iload X0 hx (pc' := 23) rfl (hb hby d_textLen_21) rfl ?_
          refine G_bipush X0 hx (pc' := 25) rfl (hb hby d_textLen_23) (z := (18 : Int32)) rfl ?_
          refine G_icmpNo X0 hx (pc' := 28) rfl (hb hby d_textLen_25) (flt (by decide : ¬ ((18 : Int32) < (4 : Int32)))).2.2.1 ?_
          refine G_lloadN X0 hx (pc' := 29) rfl (hb hby d_textLen_28) rfl ?_
          refine G_lload X0 hx (pc' := 31) rfl (hb hby d_textLen_29) rfl ?_
          refine G_lcmp X0 hx (pc' := 32) rfl (hb hby d_textLen_31)  ?_
          by_cases hc32_5 : (-10000 : Int64) < v0
          · refine G_ifYes X0 hx (pc' := 49) (hb hby d_textLen_32) ((if0 _ _).trans (tlt ((lw_gt _ _).2 hc32_5)).2.2.1) (by decide) (by decide) ?_
            refine G_lloadN X0 hx (pc' := 50) rfl (hb hby d_textLen_49) rfl ?_
            refine G_lconst X0 hx (pc' := 51) rfl (hb hby d_textLen_50) (z := (0 : Int64)) rfl ?_
            refine G_lcmp X0 hx (pc' := 52) rfl (hb hby d_textLen_51)  ?_
            refine G_ifNo X0 hx (pc' := 55) rfl (hb hby d_textLen_52) ((if0 _ _).trans (tlt ((lw_lt _ _).2 hc3_1)).2.1) ?_
            refine G_iload X0 hx (pc' := 57) rfl (hb hby d_textLen_55) rfl ?_
            refine G_iconst X0 hx (pc' := 58) rfl (hb hby d_textLen_57) (z := (1 : Int32)) rfl ?_
            refine G_iadd X0 hx (pc' := 59) rfl (hb hby d_textLen_58)  ?_
            rw [show ((4 : Int32) + (1 : Int32)) = (5 : Int32) from by decide]
            refine G_goto X0 hx (pc' := 64) (hb hby d_textLen_59)  (by decide) (by decide) ?_
            refine Go.fin X0 hlk (v := some (.int (5 : Int32))) (fun h => by rw [Bd.returns] at h; cases h) (by decide) (by decide) ?_ (fun fs hr => retOut X0 hx Bd.returns rfl (Or.inl ⟨rfl, Or.inl rfl, _, rfl⟩) (hb hby d_textLen_64) hr)
            show Q_textLen Z v0 h0 n0 _ s₁.heap _
            rw [e0]
            exact ⟨congrArg (fun z => some (Value.int z)) (Eq.symm ((if_pos hc3_1).trans ((if_neg hc32_2).trans ((if_neg hc32_3).trans ((if_neg hc32_4).trans ((if_pos hc32_5).trans rfl)))))), N0, rfl⟩
          · refine G_ifNo X0 hx (pc' := 35) rfl (hb hby d_textLen_32) ((if0 _ _).trans (flt (fun q => hc32_5 ((lw_gt _ _).1 q))).2.2.1) ?_
            refine G_iinc X0 hx (pc' := 38) rfl (hb hby d_textLen_35) rfl (z := (5 : Int32)) rfl (L' := #[.val (.long v0), .second, .val (.long v0), .second, .val (.int (5 : Int32)), .val (.long (-10000 : Int64)), .second]) rfl ?_
            refine G_lload X0 hx (pc' := 40) rfl (hb hby d_textLen_38) rfl ?_
            refine G_ldc2 X0 hx (pc' := 43) rfl hown (mvT hZ (hw _ (List.mem_of_getElem? (i := 34) rfl))) (hb hby d_textLen_40) ?_
            refine G_lmul X0 hx (pc' := 44) rfl (hb hby d_textLen_43)  ?_
            rw [show ((-10000 : Int64) * (10 : Int64)) = (-100000 : Int64) from by decide]
            refine G_lstore X0 hx (pc' := 46) rfl (hb hby d_textLen_44) (L' := #[.val (.long v0), .second, .val (.long v0), .second, .val (.int (5 : Int32)), .val (.long (-100000 : Int64)), .second]) rfl ?_
            refine G_goto X0 hx (pc' := 21) (hb hby d_textLen_46)  (by decide) (by decide) ?_
            refine G_iload X0 hx (pc' := 23) rfl (hb hby d_textLen_21) rfl ?_
            refine G_bipush X0 hx (pc' := 25) rfl (hb hby d_textLen_23) (z := (18 : Int32)) rfl ?_
            refine G_icmpNo X0 hx (pc' := 28) rfl (hb hby d_textLen_25) (flt (by decide : ¬ ((18 : Int32) < (5 : Int32)))).2.2.1 ?_
            refine G_lloadN X0 hx (pc' := 29) rfl (hb hby d_textLen_28) rfl ?_
            refine G_lload X0 hx (pc' := 31) rfl (hb hby d_textLen_29) rfl ?_
            refine G_lcmp X0 hx (pc' := 32) rfl (hb hby d_textLen_31)  ?_
            by_cases hc32_6 : (-100000 : Int64) < v0
            · refine G_ifYes X0 hx (pc' := 49) (hb hby d_textLen_32) ((if0 _ _).trans (tlt ((lw_gt _ _).2 hc32_6)).2.2.1) (by decide) (by decide) ?_
              refine G_lloadN X0 hx (pc' := 50) rfl (hb hby d_textLen_49) rfl ?_
              refine G_lconst X0 hx (pc' := 51) rfl (hb hby d_textLen_50) (z := (0 : Int64)) rfl ?_
              refine G_lcmp X0 hx (pc' := 52) rfl (hb hby d_textLen_51)  ?_
              refine G_ifNo X0 hx (pc' := 55) rfl (hb hby d_textLen_52) ((if0 _ _).trans (tlt ((lw_lt _ _).2 hc3_1)).2.1) ?_
              refine G_iload X0 hx (pc' := 57) rfl (hb hby d_textLen_55) rfl ?_
              refine G_iconst X0 hx (pc' := 58) rfl (hb hby d_textLen_57) (z := (1 : Int32)) rfl ?_
              refine G_iadd X0 hx (pc' := 59) rfl (hb hby d_textLen_58)  ?_
              rw [show ((5 : Int32) + (1 : Int32)) = (6 : Int32) from by decide]
              refine G_goto X0 hx (pc' := 64) (hb hby d_textLen_59)  (by decide) (by decide) ?_
              refine Go.fin X0 hlk (v := some (.int (6 : Int32))) (fun h => by rw [Bd.returns] at h; cases h) (by decide) (by decide) ?_ (fun fs hr => retOut X0 hx Bd.returns rfl (Or.inl ⟨rfl, Or.inl rfl, _, rfl⟩) (hb hby d_textLen_64) hr)
              show Q_textLen Z v0 h0 n0 _ s₁.heap _
              rw [e0]
              exact ⟨congrArg (fun z => some (Value.int z)) (Eq.symm ((if_pos hc3_1).trans ((if_neg hc32_2).trans ((if_neg hc32_3).trans ((if_neg hc32_4).trans ((if_neg hc32_5).trans ((if_pos hc32_6).trans rfl))))))), N0, rfl⟩
            · refine G_ifNo X0 hx (pc' := 35) rfl (hb hby d_textLen_32) ((if0 _ _).trans (flt (fun q => hc32_6 ((lw_gt _ _).1 q))).2.2.1) ?_
              refine G_iinc X0 hx (pc' := 38) rfl (hb hby d_textLen_35) rfl (z := (6 : Int32)) rfl (L' := #[.val (.long v0), .second, .val (.long v0), .second, .val (.int (6 : Int32)), .val (.long (-100000 : Int64)), .second]) rfl ?_
              refine G_lload X0 hx (pc' := 40) rfl (hb hby d_textLen_38) rfl ?_
              refine G_ldc2 X0 hx (pc' := 43) rfl hown (mvT hZ (hw _ (List.mem_of_getElem? (i := 34) rfl))) (hb hby d_textLen_40) ?_
              refine G_lmul X0 hx (pc' := 44) rfl (hb hby d_textLen_43)  ?_
              rw [show ((-100000 : Int64) * (10 : Int64)) = (-1000000 : Int64) from by decide]
              refine G_lstore X0 hx (pc' := 46) rfl (hb hby d_textLen_44) (L' := #[.val (.long v0), .second, .val (.long v0), .second, .val (.int (6 : Int32)), .val (.long (-1000000 : Int64)), .second]) rfl ?_
              refine G_goto X0 hx (pc' := 21) (hb hby d_textLen_46)  (by decide) (by decide) ?_
              refine G_iload X0 hx (pc' := 23) rfl (hb hby d_textLen_21) rfl ?_
              refine G_bipush X0 hx (pc' := 25) rfl (hb hby d_textLen_23) (z := (18 : Int32)) rfl ?_
              refine G_icmpNo X0 hx (pc' := 28) rfl (hb hby d_textLen_25) (flt (by decide : ¬ ((18 : Int32) < (6 : Int32)))).2.2.1 ?_
              refine G_lloadN X0 hx (pc' := 29) rfl (hb hby d_textLen_28) rfl ?_
              refine G_lload X0 hx (pc' := 31) rfl (hb hby d_textLen_29) rfl ?_
              refine G_lcmp X0 hx (pc' := 32) rfl (hb hby d_textLen_31)  ?_
              by_cases hc32_7 : (-1000000 : Int64) < v0
              · refine G_ifYes X0 hx (pc' := 49) (hb hby d_textLen_32) ((if0 _ _).trans (tlt ((lw_gt _ _).2 hc32_7)).2.2.1) (by decide) (by decide) ?_
                refine G_lloadN X0 hx (pc' := 50) rfl (hb hby d_textLen_49) rfl ?_
                refine G_lconst X0 hx (pc' := 51) rfl (hb hby d_textLen_50) (z := (0 : Int64)) rfl ?_
                refine G_lcmp X0 hx (pc' := 52) rfl (hb hby d_textLen_51)  ?_
                refine G_ifNo X0 hx (pc' := 55) rfl (hb hby d_textLen_52) ((if0 _ _).trans (tlt ((lw_lt _ _).2 hc3_1)).2.1) ?_
                refine G_iload X0 hx (pc' := 57) rfl (hb hby d_textLen_55) rfl ?_
                refine G_iconst X0 hx (pc' := 58) rfl (hb hby d_textLen_57) (z := (1 : Int32)) rfl ?_
                refine G_iadd X0 hx (pc' := 59) rfl (hb hby d_textLen_58)  ?_
                rw [show ((6 : Int32) + (1 : Int32)) = (7 : Int32) from by decide]
                refine G_goto X0 hx (pc' := 64) (hb hby d_textLen_59)  (by decide) (by decide) ?_
                refine Go.fin X0 hlk (v := some (.int (7 : Int32))) (fun h => by rw [Bd.returns] at h; cases h) (by decide) (by decide) ?_ (fun fs hr => retOut X0 hx Bd.returns rfl (Or.inl ⟨rfl, Or.inl rfl, _, rfl⟩) (hb hby d_textLen_64) hr)
                show Q_textLen Z v0 h0 n0 _ s₁.heap _
                rw [e0]
                exact ⟨congrArg (fun z => some (Value.int z)) (Eq.symm ((if_pos hc3_1).trans ((if_neg hc32_2).trans ((if_neg hc32_3).trans ((if_neg hc32_4).trans ((if_neg hc32_5).trans ((if_neg hc32_6).trans ((if_pos hc32_7).trans rfl)))))))), N0, rfl⟩
              · refine G_ifNo X0 hx (pc' := 35) rfl (hb hby d_textLen_32) ((if0 _ _).trans (flt (fun q => hc32_7 ((lw_gt _ _).1 q))).2.2.1) ?_
                refine G_iinc X0 hx (pc' := 38) rfl (hb hby d_textLen_35) rfl (z := (7 : Int32)) rfl (L' := #[.val (.long v0), .second, .val (.long v0), .second, .val (.int (7 : Int32)), .val (.long (-1000000 : Int64)), .second]) rfl ?_
                refine G_lload X0 hx (pc' := 40) rfl (hb hby d_textLen_38) rfl ?_
                refine G_ldc2 X0 hx (pc' := 43) rfl hown (mvT hZ (hw _ (List.mem_of_getElem? (i := 34) rfl))) (hb hby d_textLen_40) ?_
                refine G_lmul X0 hx (pc' := 44) rfl (hb hby d_textLen_43)  ?_
                rw [show ((-1000000 : Int64) * (10 : Int64)) = (-10000000 : Int64) from by decide]
                refine G_lstore X0 hx (pc' := 46) rfl (hb hby d_textLen_44) (L' := #[.val (.long v0), .second, .val (.long v0), .second, .val (.int (7 : Int32)), .val (.long (-10000000 : Int64)), .second]) rfl ?_
                refine G_goto X0 hx (pc' := 21) (hb hby d_textLen_46)  (by decide) (by decide) ?_
                refine G_iload X0 hx (pc' := 23) rfl (hb hby d_textLen_21) rfl ?_
                refine G_bipush X0 hx (pc' := 25) rfl (hb hby d_textLen_23) (z := (18 : Int32)) rfl ?_
                refine G_icmpNo X0 hx (pc' := 28) rfl (hb hby d_textLen_25) (flt (by decide : ¬ ((18 : Int32) < (7 : Int32)))).2.2.1 ?_
                refine G_lloadN X0 hx (pc' := 29) rfl (hb hby d_textLen_28) rfl ?_
                refine G_lload X0 hx (pc' := 31) rfl (hb hby d_textLen_29) rfl ?_
                refine G_lcmp X0 hx (pc' := 32) rfl (hb hby d_textLen_31)  ?_
                by_cases hc32_8 : (-10000000 : Int64) < v0
                · refine G_ifYes X0 hx (pc' := 49) (hb hby d_textLen_32) ((if0 _ _).trans (tlt ((lw_gt _ _).2 hc32_8)).2.2.1) (by decide) (by decide) ?_
                  refine G_lloadN X0 hx (pc' := 50) rfl (hb hby d_textLen_49) rfl ?_
                  refine G_lconst X0 hx (pc' := 51) rfl (hb hby d_textLen_50) (z := (0 : Int64)) rfl ?_
                  refine G_lcmp X0 hx (pc' := 52) rfl (hb hby d_textLen_51)  ?_
                  refine G_ifNo X0 hx (pc' := 55) rfl (hb hby d_textLen_52) ((if0 _ _).trans (tlt ((lw_lt _ _).2 hc3_1)).2.1) ?_
                  refine G_iload X0 hx (pc' := 57) rfl (hb hby d_textLen_55) rfl ?_
                  refine G_iconst X0 hx (pc' := 58) rfl (hb hby d_textLen_57) (z := (1 : Int32)) rfl ?_
                  refine G_iadd X0 hx (pc' := 59) rfl (hb hby d_textLen_58)  ?_
                  rw [show ((7 : Int32) + (1 : Int32)) = (8 : Int32) from by decide]
                  refine G_goto X0 hx (pc' := 64) (hb hby d_textLen_59)  (by decide) (by decide) ?_
                  refine Go.fin X0 hlk (v := some (.int (8 : Int32))) (fun h => by rw [Bd.returns] at h; cases h) (by decide) (by decide) ?_ (fun fs hr => retOut X0 hx Bd.returns rfl (Or.inl ⟨rfl, Or.inl rfl, _, rfl⟩) (hb hby d_textLen_64) hr)
                  show Q_textLen Z v0 h0 n0 _ s₁.heap _
                  rw [e0]
                  exact ⟨congrArg (fun z => some (Value.int z)) (Eq.symm ((if_pos hc3_1).trans ((if_neg hc32_2).trans ((if_neg hc32_3).trans ((if_neg hc32_4).trans ((if_neg hc32_5).trans ((if_neg hc32_6).trans ((if_neg hc32_7).trans ((if_pos hc32_8).trans rfl))))))))), N0, rfl⟩
                · refine G_ifNo X0 hx (pc' := 35) rfl (hb hby d_textLen_32) ((if0 _ _).trans (flt (fun q => hc32_8 ((lw_gt _ _).1 q))).2.2.1) ?_
                  refine G_iinc X0 hx (pc' := 38) rfl (hb hby d_textLen_35) rfl (z := (8 : Int32)) rfl (L' := #[.val (.long v0), .second, .val (.long v0), .second, .val (.int (8 : Int32)), .val (.long (-10000000 : Int64)), .second]) rfl ?_
                  refine G_lload X0 hx (pc' := 40) rfl (hb hby d_textLen_38) rfl ?_
                  refine G_ldc2 X0 hx (pc' := 43) rfl hown (mvT hZ (hw _ (List.mem_of_getElem? (i := 34) rfl))) (hb hby d_textLen_40) ?_
                  refine G_lmul X0 hx (pc' := 44) rfl (hb hby d_textLen_43)  ?_
                  rw [show ((-10000000 : Int64) * (10 : Int64)) = (-100000000 : Int64) from by decide]
                  refine G_lstore X0 hx (pc' := 46) rfl (hb hby d_textLen_44) (L' := #[.val (.long v0), .second, .val (.long v0), .second, .val (.int (8 : Int32)), .val (.long (-100000000 : Int64)), .second]) rfl ?_
                  refine G_goto X0 hx (pc' := 21) (hb hby d_textLen_46)  (by decide) (by decide) ?_
                  refine G_iload X0 hx (pc' := 23) rfl (hb hby d_textLen_21) rfl ?_
                  refine G_bipush X0 hx (pc' := 25) rfl (hb hby d_textLen_23) (z := (18 : Int32)) rfl ?_
                  refine G_icmpNo X0 hx (pc' := 28) rfl (hb hby d_textLen_25) (flt (by decide : ¬ ((18 : Int32) < (8 : Int32)))).2.2.1 ?_
                  refine G_lloadN X0 hx (pc' := 29) rfl (hb hby d_textLen_28) rfl ?_
                  refine G_lload X0 hx (pc' := 31) rfl (hb hby d_textLen_29) rfl ?_
                  refine G_lcmp X0 hx (pc' := 32) rfl (hb hby d_textLen_31)  ?_
                  by_cases hc32_9 : (-100000000 : Int64) < v0
                  · refine G_ifYes X0 hx (pc' := 49) (hb hby d_textLen_32) ((if0 _ _).trans (tlt ((lw_gt _ _).2 hc32_9)).2.2.1) (by decide) (by decide) ?_
                    refine G_lloadN X0 hx (pc' := 50) rfl (hb hby d_textLen_49) rfl ?_
                    refine G_lconst X0 hx (pc' := 51) rfl (hb hby d_textLen_50) (z := (0 : Int64)) rfl ?_
                    refine G_lcmp X0 hx (pc' := 52) rfl (hb hby d_textLen_51)  ?_
                    refine G_ifNo X0 hx (pc' := 55) rfl (hb hby d_textLen_52) ((if0 _ _).trans (tlt ((lw_lt _ _).2 hc3_1)).2.1) ?_
                    refine G_iload X0 hx (pc' := 57) rfl (hb hby d_textLen_55) rfl ?_
                    refine G_iconst X0 hx (pc' := 58) rfl (hb hby d_textLen_57) (z := (1 : Int32)) rfl ?_
                    refine G_iadd X0 hx (pc' := 59) rfl (hb hby d_textLen_58)  ?_
                    rw [show ((8 : Int32) + (1 : Int32)) = (9 : Int32) from by decide]
                    refine G_goto X0 hx (pc' := 64) (hb hby d_textLen_59)  (by decide) (by decide) ?_
                    refine Go.fin X0 hlk (v := some (.int (9 : Int32))) (fun h => by rw [Bd.returns] at h; cases h) (by decide) (by decide) ?_ (fun fs hr => retOut X0 hx Bd.returns rfl (Or.inl ⟨rfl, Or.inl rfl, _, rfl⟩) (hb hby d_textLen_64) hr)
                    show Q_textLen Z v0 h0 n0 _ s₁.heap _
                    rw [e0]
                    exact ⟨congrArg (fun z => some (Value.int z)) (Eq.symm ((if_pos hc3_1).trans ((if_neg hc32_2).trans ((if_neg hc32_3).trans ((if_neg hc32_4).trans ((if_neg hc32_5).trans ((if_neg hc32_6).trans ((if_neg hc32_7).trans ((if_neg hc32_8).trans ((if_pos hc32_9).trans rfl)))))))))), N0, rfl⟩
                  · refine G_ifNo X0 hx (pc' := 35) rfl (hb hby d_textLen_32) ((if0 _ _).trans (flt (fun q => hc32_9 ((lw_gt _ _).1 q))).2.2.1) ?_
                    refine G_iinc X0 hx (pc' := 38) rfl (hb hby d_textLen_35) rfl (z := (9 : Int32)) rfl (L' := #[.val (.long v0), .second, .val (.long v0), .second, .val (.int (9 : Int32)), .val (.long (-100000000 : Int64)), .second]) rfl ?_
                    refine G_lload X0 hx (pc' := 40) rfl (hb hby d_textLen_38) rfl ?_
                    refine G_ldc2 X0 hx (pc' := 43) rfl hown (mvT hZ (hw _ (List.mem_of_getElem? (i := 34) rfl))) (hb hby d_textLen_40) ?_
                    refine G_lmul X0 hx (pc' := 44) rfl (hb hby d_textLen_43)  ?_
                    rw [show ((-100000000 : Int64) * (10 : Int64)) = (-1000000000 : Int64) from by decide]
                    refine G_lstore X0 hx (pc' := 46) rfl (hb hby d_textLen_44) (L' := #[.val (.long v0), .second, .val (.long v0), .second, .val (.int (9 : Int32)), .val (.long (-1000000000 : Int64)), .second]) rfl ?_
                    refine G_goto X0 hx (pc' := 21) (hb hby d_textLen_46)  (by decide) (by decide) ?_
                    refine G_iload X0 hx (pc' := 23) rfl (hb hby d_textLen_21) rfl ?_
                    refine G_bipush X0 hx (pc' := 25) rfl (hb hby d_textLen_23) (z := (18 : Int32)) rfl ?_
                    refine G_icmpNo X0 hx (pc' := 28) rfl (hb hby d_textLen_25) (flt (by decide : ¬ ((18 : Int32) < (9 : Int32)))).2.2.1 ?_
                    refine G_lloadN X0 hx (pc' := 29) rfl (hb hby d_textLen_28) rfl ?_
                    refine G_lload X0 hx (pc' := 31) rfl (hb hby d_textLen_29) rfl ?_
                    refine G_lcmp X0 hx (pc' := 32) rfl (hb hby d_textLen_31)  ?_
                    by_cases hc32_10 : (-1000000000 : Int64) < v0
                    · refine G_ifYes X0 hx (pc' := 49) (hb hby d_textLen_32) ((if0 _ _).trans (tlt ((lw_gt _ _).2 hc32_10)).2.2.1) (by decide) (by decide) ?_
                      refine G_lloadN X0 hx (pc' := 50) rfl (hb hby d_textLen_49) rfl ?_
                      refine G_lconst X0 hx (pc' := 51) rfl (hb hby d_textLen_50) (z := (0 : Int64)) rfl ?_
                      refine G_lcmp X0 hx (pc' := 52) rfl (hb hby d_textLen_51)  ?_
                      refine G_ifNo X0 hx (pc' := 55) rfl (hb hby d_textLen_52) ((if0 _ _).trans (tlt ((lw_lt _ _).2 hc3_1)).2.1) ?_
                      refine G_iload X0 hx (pc' := 57) rfl (hb hby d_textLen_55) rfl ?_
                      refine G_iconst X0 hx (pc' := 58) rfl (hb hby d_textLen_57) (z := (1 : Int32)) rfl ?_
                      refine G_iadd X0 hx (pc' := 59) rfl (hb hby d_textLen_58)  ?_
                      rw [show ((9 : Int32) + (1 : Int32)) = (10 : Int32) from by decide]
                      refine G_goto X0 hx (pc' := 64) (hb hby d_textLen_59)  (by decide) (by decide) ?_
                      refine Go.fin X0 hlk (v := some (.int (10 : Int32))) (fun h => by rw [Bd.returns] at h; cases h) (by decide) (by decide) ?_ (fun fs hr => retOut X0 hx Bd.returns rfl (Or.inl ⟨rfl, Or.inl rfl, _, rfl⟩) (hb hby d_textLen_64) hr)
                      show Q_textLen Z v0 h0 n0 _ s₁.heap _
                      rw [e0]
                      exact ⟨congrArg (fun z => some (Value.int z)) (Eq.symm ((if_pos hc3_1).trans ((if_neg hc32_2).trans ((if_neg hc32_3).trans ((if_neg hc32_4).trans ((if_neg hc32_5).trans ((if_neg hc32_6).trans ((if_neg hc32_7).trans ((if_neg hc32_8).trans ((if_neg hc32_9).trans ((if_pos hc32_10).trans rfl))))))))))), N0, rfl⟩
                    · refine G_ifNo X0 hx (pc' := 35) rfl (hb hby d_textLen_32) ((if0 _ _).trans (flt (fun q => hc32_10 ((lw_gt _ _).1 q))).2.2.1) ?_
                      refine G_iinc X0 hx (pc' := 38) rfl (hb hby d_textLen_35) rfl (z := (10 : Int32)) rfl (L' := #[.val (.long v0), .second, .val (.long v0), .second, .val (.int (10 : Int32)), .val (.long (-1000000000 : Int64)), .second]) rfl ?_
                      refine G_lload X0 hx (pc' := 40) rfl (hb hby d_textLen_38) rfl ?_
                      refine G_ldc2 X0 hx (pc' := 43) rfl hown (mvT hZ (hw _ (List.mem_of_getElem? (i := 34) rfl))) (hb hby d_textLen_40) ?_
                      refine G_lmul X0 hx (pc' := 44) rfl (hb hby d_textLen_43)  ?_
                      rw [show ((-1000000000 : Int64) * (10 : Int64)) = (-10000000000 : Int64) from by decide]
                      refine G_lstore X0 hx (pc' := 46) rfl (hb hby d_textLen_44) (L' := #[.val (.long v0), .second, .val (.long v0), .second, .val (.int (10 : Int32)), .val (.long (-10000000000 : Int64)), .second]) rfl ?_
                      refine G_goto X0 hx (pc' := 21) (hb hby d_textLen_46)  (by decide) (by decide) ?_
                      refine G_iload X0 hx (pc' := 23) rfl (hb hby d_textLen_21) rfl ?_
                      refine G_bipush X0 hx (pc' := 25) rfl (hb hby d_textLen_23) (z := (18 : Int32)) rfl ?_
                      refine G_icmpNo X0 hx (pc' := 28) rfl (hb hby d_textLen_25) (flt (by decide : ¬ ((18 : Int32) < (10 : Int32)))).2.2.1 ?_
                      refine G_lloadN X0 hx (pc' := 29) rfl (hb hby d_textLen_28) rfl ?_
                      refine G_lload X0 hx (pc' := 31) rfl (hb hby d_textLen_29) rfl ?_
                      refine G_lcmp X0 hx (pc' := 32) rfl (hb hby d_textLen_31)  ?_
                      by_cases hc32_11 : (-10000000000 : Int64) < v0
                      · refine G_ifYes X0 hx (pc' := 49) (hb hby d_textLen_32) ((if0 _ _).trans (tlt ((lw_gt _ _).2 hc32_11)).2.2.1) (by decide) (by decide) ?_
                        refine G_lloadN X0 hx (pc' := 50) rfl (hb hby d_textLen_49) rfl ?_
                        refine G_lconst X0 hx (pc' := 51) rfl (hb hby d_textLen_50) (z := (0 : Int64)) rfl ?_
                        refine G_lcmp X0 hx (pc' := 52) rfl (hb hby d_textLen_51)  ?_
                        refine G_ifNo X0 hx (pc' := 55) rfl (hb hby d_textLen_52) ((if0 _ _).trans (tlt ((lw_lt _ _).2 hc3_1)).2.1) ?_
                        refine G_iload X0 hx (pc' := 57) rfl (hb hby d_textLen_55) rfl ?_
                        refine G_iconst X0 hx (pc' := 58) rfl (hb hby d_textLen_57) (z := (1 : Int32)) rfl ?_
                        refine G_iadd X0 hx (pc' := 59) rfl (hb hby d_textLen_58)  ?_
                        rw [show ((10 : Int32) + (1 : Int32)) = (11 : Int32) from by decide]
                        refine G_goto X0 hx (pc' := 64) (hb hby d_textLen_59)  (by decide) (by decide) ?_
                        refine Go.fin X0 hlk (v := some (.int (11 : Int32))) (fun h => by rw [Bd.returns] at h; cases h) (by decide) (by decide) ?_ (fun fs hr => retOut X0 hx Bd.returns rfl (Or.inl ⟨rfl, Or.inl rfl, _, rfl⟩) (hb hby d_textLen_64) hr)
                        show Q_textLen Z v0 h0 n0 _ s₁.heap _
                        rw [e0]
                        exact ⟨congrArg (fun z => some (Value.int z)) (Eq.symm ((if_pos hc3_1).trans ((if_neg hc32_2).trans ((if_neg hc32_3).trans ((if_neg hc32_4).trans ((if_neg hc32_5).trans ((if_neg hc32_6).trans ((if_neg hc32_7).trans ((if_neg hc32_8).trans ((if_neg hc32_9).trans ((if_neg hc32_10).trans ((if_pos hc32_11).trans rfl)))))))))))), N0, rfl⟩
                      · refine G_ifNo X0 hx (pc' := 35) rfl (hb hby d_textLen_32) ((if0 _ _).trans (flt (fun q => hc32_11 ((lw_gt _ _).1 q))).2.2.1) ?_
                        refine G_iinc X0 hx (pc' := 38) rfl (hb hby d_textLen_35) rfl (z := (11 : Int32)) rfl (L' := #[.val (.long v0), .second, .val (.long v0), .second, .val (.int (11 : Int32)), .val (.long (-10000000000 : Int64)), .second]) rfl ?_
                        refine G_lload X0 hx (pc' := 40) rfl (hb hby d_textLen_38) rfl ?_
                        refine G_ldc2 X0 hx (pc' := 43) rfl hown (mvT hZ (hw _ (List.mem_of_getElem? (i := 34) rfl))) (hb hby d_textLen_40) ?_
                        refine G_lmul X0 hx (pc' := 44) rfl (hb hby d_textLen_43)  ?_
                        rw [show ((-10000000000 : Int64) * (10 : Int64)) = (-100000000000 : Int64) from by decide]
                        refine G_lstore X0 hx (pc' := 46) rfl (hb hby d_textLen_44) (L' := #[.val (.long v0), .second, .val (.long v0), .second, .val (.int (11 : Int32)), .val (.long (-100000000000 : Int64)), .second]) rfl ?_
                        refine G_goto X0 hx (pc' := 21) (hb hby d_textLen_46)  (by decide) (by decide) ?_
                        refine G_iload X0 hx (pc' := 23) rfl (hb hby d_textLen_21) rfl ?_
                        refine G_bipush X0 hx (pc' := 25) rfl (hb hby d_textLen_23) (z := (18 : Int32)) rfl ?_
                        refine G_icmpNo X0 hx (pc' := 28) rfl (hb hby d_textLen_25) (flt (by decide : ¬ ((18 : Int32) < (11 : Int32)))).2.2.1 ?_
                        refine G_lloadN X0 hx (pc' := 29) rfl (hb hby d_textLen_28) rfl ?_
                        refine G_lload X0 hx (pc' := 31) rfl (hb hby d_textLen_29) rfl ?_
                        refine G_lcmp X0 hx (pc' := 32) rfl (hb hby d_textLen_31)  ?_
                        by_cases hc32_12 : (-100000000000 : Int64) < v0
                        · refine G_ifYes X0 hx (pc' := 49) (hb hby d_textLen_32) ((if0 _ _).trans (tlt ((lw_gt _ _).2 hc32_12)).2.2.1) (by decide) (by decide) ?_
                          refine G_lloadN X0 hx (pc' := 50) rfl (hb hby d_textLen_49) rfl ?_
                          refine G_lconst X0 hx (pc' := 51) rfl (hb hby d_textLen_50) (z := (0 : Int64)) rfl ?_
                          refine G_lcmp X0 hx (pc' := 52) rfl (hb hby d_textLen_51)  ?_
                          refine G_ifNo X0 hx (pc' := 55) rfl (hb hby d_textLen_52) ((if0 _ _).trans (tlt ((lw_lt _ _).2 hc3_1)).2.1) ?_
                          refine G_iload X0 hx (pc' := 57) rfl (hb hby d_textLen_55) rfl ?_
                          refine G_iconst X0 hx (pc' := 58) rfl (hb hby d_textLen_57) (z := (1 : Int32)) rfl ?_
                          refine G_iadd X0 hx (pc' := 59) rfl (hb hby d_textLen_58)  ?_
                          rw [show ((11 : Int32) + (1 : Int32)) = (12 : Int32) from by decide]
                          refine G_goto X0 hx (pc' := 64) (hb hby d_textLen_59)  (by decide) (by decide) ?_
                          refine Go.fin X0 hlk (v := some (.int (12 : Int32))) (fun h => by rw [Bd.returns] at h; cases h) (by decide) (by decide) ?_ (fun fs hr => retOut X0 hx Bd.returns rfl (Or.inl ⟨rfl, Or.inl rfl, _, rfl⟩) (hb hby d_textLen_64) hr)
                          show Q_textLen Z v0 h0 n0 _ s₁.heap _
                          rw [e0]
                          exact ⟨congrArg (fun z => some (Value.int z)) (Eq.symm ((if_pos hc3_1).trans ((if_neg hc32_2).trans ((if_neg hc32_3).trans ((if_neg hc32_4).trans ((if_neg hc32_5).trans ((if_neg hc32_6).trans ((if_neg hc32_7).trans ((if_neg hc32_8).trans ((if_neg hc32_9).trans ((if_neg hc32_10).trans ((if_neg hc32_11).trans ((if_pos hc32_12).trans rfl))))))))))))), N0, rfl⟩
                        · refine G_ifNo X0 hx (pc' := 35) rfl (hb hby d_textLen_32) ((if0 _ _).trans (flt (fun q => hc32_12 ((lw_gt _ _).1 q))).2.2.1) ?_
                          refine G_iinc X0 hx (pc' := 38) rfl (hb hby d_textLen_35) rfl (z := (12 : Int32)) rfl (L' := #[.val (.long v0), .second, .val (.long v0), .second, .val (.int (12 : Int32)), .val (.long (-100000000000 : Int64)), .second]) rfl ?_
                          refine G_lload X0 hx (pc' := 40) rfl (hb hby d_textLen_38) rfl ?_
                          refine G_ldc2 X0 hx (pc' := 43) rfl hown (mvT hZ (hw _ (List.mem_of_getElem? (i := 34) rfl))) (hb hby d_textLen_40) ?_
                          refine G_lmul X0 hx (pc' := 44) rfl (hb hby d_textLen_43)  ?_
                          rw [show ((-100000000000 : Int64) * (10 : Int64)) = (-1000000000000 : Int64) from by decide]
                          refine G_lstore X0 hx (pc' := 46) rfl (hb hby d_textLen_44) (L' := #[.val (.long v0), .second, .val (.long v0), .second, .val (.int (12 : Int32)), .val (.long (-1000000000000 : Int64)), .second]) rfl ?_
                          refine G_goto X0 hx (pc' := 21) (hb hby d_textLen_46)  (by decide) (by decide) ?_
                          refine G_iload X0 hx (pc' := 23) rfl (hb hby d_textLen_21) rfl ?_
                          refine G_bipush X0 hx (pc' := 25) rfl (hb hby d_textLen_23) (z := (18 : Int32)) rfl ?_
                          refine G_icmpNo X0 hx (pc' := 28) rfl (hb hby d_textLen_25) (flt (by decide : ¬ ((18 : Int32) < (12 : Int32)))).2.2.1 ?_
                          refine G_lloadN X0 hx (pc' := 29) rfl (hb hby d_textLen_28) rfl ?_
                          refine G_lload X0 hx (pc' := 31) rfl (hb hby d_textLen_29) rfl ?_
                          refine G_lcmp X0 hx (pc' := 32) rfl (hb hby d_textLen_31)  ?_
                          by_cases hc32_13 : (-1000000000000 : Int64) < v0
                          · refine G_ifYes X0 hx (pc' := 49) (hb hby d_textLen_32) ((if0 _ _).trans (tlt ((lw_gt _ _).2 hc32_13)).2.2.1) (by decide) (by decide) ?_
                            refine G_lloadN X0 hx (pc' := 50) rfl (hb hby d_textLen_49) rfl ?_
                            refine G_lconst X0 hx (pc' := 51) rfl (hb hby d_textLen_50) (z := (0 : Int64)) rfl ?_
                            refine G_lcmp X0 hx (pc' := 52) rfl (hb hby d_textLen_51)  ?_
                            refine G_ifNo X0 hx (pc' := 55) rfl (hb hby d_textLen_52) ((if0 _ _).trans (tlt ((lw_lt _ _).2 hc3_1)).2.1) ?_
                            refine G_iload X0 hx (pc' := 57) rfl (hb hby d_textLen_55) rfl ?_
                            refine G_iconst X0 hx (pc' := 58) rfl (hb hby d_textLen_57) (z := (1 : Int32)) rfl ?_
                            refine G_iadd X0 hx (pc' := 59) rfl (hb hby d_textLen_58)  ?_
                            rw [show ((12 : Int32) + (1 : Int32)) = (13 : Int32) from by decide]
                            refine G_goto X0 hx (pc' := 64) (hb hby d_textLen_59)  (by decide) (by decide) ?_
                            refine Go.fin X0 hlk (v := some (.int (13 : Int32))) (fun h => by rw [Bd.returns] at h; cases h) (by decide) (by decide) ?_ (fun fs hr => retOut X0 hx Bd.returns rfl (Or.inl ⟨rfl, Or.inl rfl, _, rfl⟩) (hb hby d_textLen_64) hr)
                            show Q_textLen Z v0 h0 n0 _ s₁.heap _
                            rw [e0]
                            exact ⟨congrArg (fun z => some (Value.int z)) (Eq.symm ((if_pos hc3_1).trans ((if_neg hc32_2).trans ((if_neg hc32_3).trans ((if_neg hc32_4).trans ((if_neg hc32_5).trans ((if_neg hc32_6).trans ((if_neg hc32_7).trans ((if_neg hc32_8).trans ((if_neg hc32_9).trans ((if_neg hc32_10).trans ((if_neg hc32_11).trans ((if_neg hc32_12).trans ((if_pos hc32_13).trans rfl)))))))))))))), N0, rfl⟩
                          · refine G_ifNo X0 hx (pc' := 35) rfl (hb hby d_textLen_32) ((if0 _ _).trans (flt (fun q => hc32_13 ((lw_gt _ _).1 q))).2.2.1) ?_
                            refine G_iinc X0 hx (pc' := 38) rfl (hb hby d_textLen_35) rfl (z := (13 : Int32)) rfl (L' := #[.val (.long v0), .second, .val (.long v0), .second, .val (.int (13 : Int32)), .val (.long (-1000000000000 : Int64)), .second]) rfl ?_
                            refine G_lload X0 hx (pc' := 40) rfl (hb hby d_textLen_38) rfl ?_
                            refine G_ldc2 X0 hx (pc' := 43) rfl hown (mvT hZ (hw _ (List.mem_of_getElem? (i := 34) rfl))) (hb hby d_textLen_40) ?_
                            refine G_lmul X0 hx (pc' := 44) rfl (hb hby d_textLen_43)  ?_
                            rw [show ((-1000000000000 : Int64) * (10 : Int64)) = (-10000000000000 : Int64) from by decide]
                            refine G_lstore X0 hx (pc' := 46) rfl (hb hby d_textLen_44) (L' := #[.val (.long v0), .second, .val (.long v0), .second, .val (.int (13 : Int32)), .val (.long (-10000000000000 : Int64)), .second]) rfl ?_
                            refine G_goto X0 hx (pc' := 21) (hb hby d_textLen_46)  (by decide) (by decide) ?_
                            refine G_iload X0 hx (pc' := 23) rfl (hb hby d_textLen_21) rfl ?_
                            refine G_bipush X0 hx (pc' := 25) rfl (hb hby d_textLen_23) (z := (18 : Int32)) rfl ?_
                            refine G_icmpNo X0 hx (pc' := 28) rfl (hb hby d_textLen_25) (flt (by decide : ¬ ((18 : Int32) < (13 : Int32)))).2.2.1 ?_
                            refine G_lloadN X0 hx (pc' := 29) rfl (hb hby d_textLen_28) rfl ?_
                            refine G_lload X0 hx (pc' := 31) rfl (hb hby d_textLen_29) rfl ?_
                            refine G_lcmp X0 hx (pc' := 32) rfl (hb hby d_textLen_31)  ?_
                            by_cases hc32_14 : (-10000000000000 : Int64) < v0
                            · refine G_ifYes X0 hx (pc' := 49) (hb hby d_textLen_32) ((if0 _ _).trans (tlt ((lw_gt _ _).2 hc32_14)).2.2.1) (by decide) (by decide) ?_
                              refine G_lloadN X0 hx (pc' := 50) rfl (hb hby d_textLen_49) rfl ?_
                              refine G_lconst X0 hx (pc' := 51) rfl (hb hby d_textLen_50) (z := (0 : Int64)) rfl ?_
                              refine G_lcmp X0 hx (pc' := 52) rfl (hb hby d_textLen_51)  ?_
                              refine G_ifNo X0 hx (pc' := 55) rfl (hb hby d_textLen_52) ((if0 _ _).trans (tlt ((lw_lt _ _).2 hc3_1)).2.1) ?_
                              refine G_iload X0 hx (pc' := 57) rfl (hb hby d_textLen_55) rfl ?_
                              refine G_iconst X0 hx (pc' := 58) rfl (hb hby d_textLen_57) (z := (1 : Int32)) rfl ?_
                              refine G_iadd X0 hx (pc' := 59) rfl (hb hby d_textLen_58)  ?_
                              rw [show ((13 : Int32) + (1 : Int32)) = (14 : Int32) from by decide]
                              refine G_goto X0 hx (pc' := 64) (hb hby d_textLen_59)  (by decide) (by decide) ?_
                              refine Go.fin X0 hlk (v := some (.int (14 : Int32))) (fun h => by rw [Bd.returns] at h; cases h) (by decide) (by decide) ?_ (fun fs hr => retOut X0 hx Bd.returns rfl (Or.inl ⟨rfl, Or.inl rfl, _, rfl⟩) (hb hby d_textLen_64) hr)
                              show Q_textLen Z v0 h0 n0 _ s₁.heap _
                              rw [e0]
                              exact ⟨congrArg (fun z => some (Value.int z)) (Eq.symm ((if_pos hc3_1).trans ((if_neg hc32_2).trans ((if_neg hc32_3).trans ((if_neg hc32_4).trans ((if_neg hc32_5).trans ((if_neg hc32_6).trans ((if_neg hc32_7).trans ((if_neg hc32_8).trans ((if_neg hc32_9).trans ((if_neg hc32_10).trans ((if_neg hc32_11).trans ((if_neg hc32_12).trans ((if_neg hc32_13).trans ((if_pos hc32_14).trans rfl))))))))))))))), N0, rfl⟩
                            · refine G_ifNo X0 hx (pc' := 35) rfl (hb hby d_textLen_32) ((if0 _ _).trans (flt (fun q => hc32_14 ((lw_gt _ _).1 q))).2.2.1) ?_
                              refine G_iinc X0 hx (pc' := 38) rfl (hb hby d_textLen_35) rfl (z := (14 : Int32)) rfl (L' := #[.val (.long v0), .second, .val (.long v0), .second, .val (.int (14 : Int32)), .val (.long (-10000000000000 : Int64)), .second]) rfl ?_
                              refine G_lload X0 hx (pc' := 40) rfl (hb hby d_textLen_38) rfl ?_
                              refine G_ldc2 X0 hx (pc' := 43) rfl hown (mvT hZ (hw _ (List.mem_of_getElem? (i := 34) rfl))) (hb hby d_textLen_40) ?_
                              refine G_lmul X0 hx (pc' := 44) rfl (hb hby d_textLen_43)  ?_
                              rw [show ((-10000000000000 : Int64) * (10 : Int64)) = (-100000000000000 : Int64) from by decide]
                              refine G_lstore X0 hx (pc' := 46) rfl (hb hby d_textLen_44) (L' := #[.val (.long v0), .second, .val (.long v0), .second, .val (.int (14 : Int32)), .val (.long (-100000000000000 : Int64)), .second]) rfl ?_
                              refine G_goto X0 hx (pc' := 21) (hb hby d_textLen_46)  (by decide) (by decide) ?_
                              refine G_iload X0 hx (pc' := 23) rfl (hb hby d_textLen_21) rfl ?_
                              refine G_bipush X0 hx (pc' := 25) rfl (hb hby d_textLen_23) (z := (18 : Int32)) rfl ?_
                              refine G_icmpNo X0 hx (pc' := 28) rfl (hb hby d_textLen_25) (flt (by decide : ¬ ((18 : Int32) < (14 : Int32)))).2.2.1 ?_
                              refine G_lloadN X0 hx (pc' := 29) rfl (hb hby d_textLen_28) rfl ?_
                              refine G_lload X0 hx (pc' := 31) rfl (hb hby d_textLen_29) rfl ?_
                              refine G_lcmp X0 hx (pc' := 32) rfl (hb hby d_textLen_31)  ?_
                              by_cases hc32_15 : (-100000000000000 : Int64) < v0
                              · refine G_ifYes X0 hx (pc' := 49) (hb hby d_textLen_32) ((if0 _ _).trans (tlt ((lw_gt _ _).2 hc32_15)).2.2.1) (by decide) (by decide) ?_
                                refine G_lloadN X0 hx (pc' := 50) rfl (hb hby d_textLen_49) rfl ?_
                                refine G_lconst X0 hx (pc' := 51) rfl (hb hby d_textLen_50) (z := (0 : Int64)) rfl ?_
                                refine G_lcmp X0 hx (pc' := 52) rfl (hb hby d_textLen_51)  ?_
                                refine G_ifNo X0 hx (pc' := 55) rfl (hb hby d_textLen_52) ((if0 _ _).trans (tlt ((lw_lt _ _).2 hc3_1)).2.1) ?_
                                refine G_iload X0 hx (pc' := 57) rfl (hb hby d_textLen_55) rfl ?_
                                refine G_iconst X0 hx (pc' := 58) rfl (hb hby d_textLen_57) (z := (1 : Int32)) rfl ?_
                                refine G_iadd X0 hx (pc' := 59) rfl (hb hby d_textLen_58)  ?_
                                rw [show ((14 : Int32) + (1 : Int32)) = (15 : Int32) from by decide]
                                refine G_goto X0 hx (pc' := 64) (hb hby d_textLen_59)  (by decide) (by decide) ?_
                                refine Go.fin X0 hlk (v := some (.int (15 : Int32))) (fun h => by rw [Bd.returns] at h; cases h) (by decide) (by decide) ?_ (fun fs hr => retOut X0 hx Bd.returns rfl (Or.inl ⟨rfl, Or.inl rfl, _, rfl⟩) (hb hby d_textLen_64) hr)
                                show Q_textLen Z v0 h0 n0 _ s₁.heap _
                                rw [e0]
                                exact ⟨congrArg (fun z => some (Value.int z)) (Eq.symm ((if_pos hc3_1).trans ((if_neg hc32_2).trans ((if_neg hc32_3).trans ((if_neg hc32_4).trans ((if_neg hc32_5).trans ((if_neg hc32_6).trans ((if_neg hc32_7).trans ((if_neg hc32_8).trans ((if_neg hc32_9).trans ((if_neg hc32_10).trans ((if_neg hc32_11).trans ((if_neg hc32_12).trans ((if_neg hc32_13).trans ((if_neg hc32_14).trans ((if_pos hc32_15).trans rfl)))))))))))))))), N0, rfl⟩
                              · refine G_ifNo X0 hx (pc' := 35) rfl (hb hby d_textLen_32) ((if0 _ _).trans (flt (fun q => hc32_15 ((lw_gt _ _).1 q))).2.2.1) ?_
                                refine G_iinc X0 hx (pc' := 38) rfl (hb hby d_textLen_35) rfl (z := (15 : Int32)) rfl (L' := #[.val (.long v0), .second, .val (.long v0), .second, .val (.int (15 : Int32)), .val (.long (-100000000000000 : Int64)), .second]) rfl ?_
                                refine G_lload X0 hx (pc' := 40) rfl (hb hby d_textLen_38) rfl ?_
                                refine G_ldc2 X0 hx (pc' := 43) rfl hown (mvT hZ (hw _ (List.mem_of_getElem? (i := 34) rfl))) (hb hby d_textLen_40) ?_
                                refine G_lmul X0 hx (pc' := 44) rfl (hb hby d_textLen_43)  ?_
                                rw [show ((-100000000000000 : Int64) * (10 : Int64)) = (-1000000000000000 : Int64) from by decide]
                                refine G_lstore X0 hx (pc' := 46) rfl (hb hby d_textLen_44) (L' := #[.val (.long v0), .second, .val (.long v0), .second, .val (.int (15 : Int32)), .val (.long (-1000000000000000 : Int64)), .second]) rfl ?_
                                refine G_goto X0 hx (pc' := 21) (hb hby d_textLen_46)  (by decide) (by decide) ?_
                                refine G_iload X0 hx (pc' := 23) rfl (hb hby d_textLen_21) rfl ?_
                                refine G_bipush X0 hx (pc' := 25) rfl (hb hby d_textLen_23) (z := (18 : Int32)) rfl ?_
                                refine G_icmpNo X0 hx (pc' := 28) rfl (hb hby d_textLen_25) (flt (by decide : ¬ ((18 : Int32) < (15 : Int32)))).2.2.1 ?_
                                refine G_lloadN X0 hx (pc' := 29) rfl (hb hby d_textLen_28) rfl ?_
                                refine G_lload X0 hx (pc' := 31) rfl (hb hby d_textLen_29) rfl ?_
                                refine G_lcmp X0 hx (pc' := 32) rfl (hb hby d_textLen_31)  ?_
                                by_cases hc32_16 : (-1000000000000000 : Int64) < v0
                                · refine G_ifYes X0 hx (pc' := 49) (hb hby d_textLen_32) ((if0 _ _).trans (tlt ((lw_gt _ _).2 hc32_16)).2.2.1) (by decide) (by decide) ?_
                                  refine G_lloadN X0 hx (pc' := 50) rfl (hb hby d_textLen_49) rfl ?_
                                  refine G_lconst X0 hx (pc' := 51) rfl (hb hby d_textLen_50) (z := (0 : Int64)) rfl ?_
                                  refine G_lcmp X0 hx (pc' := 52) rfl (hb hby d_textLen_51)  ?_
                                  refine G_ifNo X0 hx (pc' := 55) rfl (hb hby d_textLen_52) ((if0 _ _).trans (tlt ((lw_lt _ _).2 hc3_1)).2.1) ?_
                                  refine G_iload X0 hx (pc' := 57) rfl (hb hby d_textLen_55) rfl ?_
                                  refine G_iconst X0 hx (pc' := 58) rfl (hb hby d_textLen_57) (z := (1 : Int32)) rfl ?_
                                  refine G_iadd X0 hx (pc' := 59) rfl (hb hby d_textLen_58)  ?_
                                  rw [show ((15 : Int32) + (1 : Int32)) = (16 : Int32) from by decide]
                                  refine G_goto X0 hx (pc' := 64) (hb hby d_textLen_59)  (by decide) (by decide) ?_
                                  refine Go.fin X0 hlk (v := some (.int (16 : Int32))) (fun h => by rw [Bd.returns] at h; cases h) (by decide) (by decide) ?_ (fun fs hr => retOut X0 hx Bd.returns rfl (Or.inl ⟨rfl, Or.inl rfl, _, rfl⟩) (hb hby d_textLen_64) hr)
                                  show Q_textLen Z v0 h0 n0 _ s₁.heap _
                                  rw [e0]
                                  exact ⟨congrArg (fun z => some (Value.int z)) (Eq.symm ((if_pos hc3_1).trans ((if_neg hc32_2).trans ((if_neg hc32_3).trans ((if_neg hc32_4).trans ((if_neg hc32_5).trans ((if_neg hc32_6).trans ((if_neg hc32_7).trans ((if_neg hc32_8).trans ((if_neg hc32_9).trans ((if_neg hc32_10).trans ((if_neg hc32_11).trans ((if_neg hc32_12).trans ((if_neg hc32_13).trans ((if_neg hc32_14).trans ((if_neg hc32_15).trans ((if_pos hc32_16).trans rfl))))))))))))))))), N0, rfl⟩
                                · refine G_ifNo X0 hx (pc' := 35) rfl (hb hby d_textLen_32) ((if0 _ _).trans (flt (fun q => hc32_16 ((lw_gt _ _).1 q))).2.2.1) ?_
                                  refine G_iinc X0 hx (pc' := 38) rfl (hb hby d_textLen_35) rfl (z := (16 : Int32)) rfl (L' := #[.val (.long v0), .second, .val (.long v0), .second, .val (.int (16 : Int32)), .val (.long (-1000000000000000 : Int64)), .second]) rfl ?_
                                  refine G_lload X0 hx (pc' := 40) rfl (hb hby d_textLen_38) rfl ?_
                                  refine G_ldc2 X0 hx (pc' := 43) rfl hown (mvT hZ (hw _ (List.mem_of_getElem? (i := 34) rfl))) (hb hby d_textLen_40) ?_
                                  refine G_lmul X0 hx (pc' := 44) rfl (hb hby d_textLen_43)  ?_
                                  rw [show ((-1000000000000000 : Int64) * (10 : Int64)) = (-10000000000000000 : Int64) from by decide]
                                  refine G_lstore X0 hx (pc' := 46) rfl (hb hby d_textLen_44) (L' := #[.val (.long v0), .second, .val (.long v0), .second, .val (.int (16 : Int32)), .val (.long (-10000000000000000 : Int64)), .second]) rfl ?_
                                  refine G_goto X0 hx (pc' := 21) (hb hby d_textLen_46)  (by decide) (by decide) ?_
                                  refine G_iload X0 hx (pc' := 23) rfl (hb hby d_textLen_21) rfl ?_
                                  refine G_bipush X0 hx (pc' := 25) rfl (hb hby d_textLen_23) (z := (18 : Int32)) rfl ?_
                                  refine G_icmpNo X0 hx (pc' := 28) rfl (hb hby d_textLen_25) (flt (by decide : ¬ ((18 : Int32) < (16 : Int32)))).2.2.1 ?_
                                  refine G_lloadN X0 hx (pc' := 29) rfl (hb hby d_textLen_28) rfl ?_
                                  refine G_lload X0 hx (pc' := 31) rfl (hb hby d_textLen_29) rfl ?_
                                  refine G_lcmp X0 hx (pc' := 32) rfl (hb hby d_textLen_31)  ?_
                                  by_cases hc32_17 : (-10000000000000000 : Int64) < v0
                                  · refine G_ifYes X0 hx (pc' := 49) (hb hby d_textLen_32) ((if0 _ _).trans (tlt ((lw_gt _ _).2 hc32_17)).2.2.1) (by decide) (by decide) ?_
                                    refine G_lloadN X0 hx (pc' := 50) rfl (hb hby d_textLen_49) rfl ?_
                                    refine G_lconst X0 hx (pc' := 51) rfl (hb hby d_textLen_50) (z := (0 : Int64)) rfl ?_
                                    refine G_lcmp X0 hx (pc' := 52) rfl (hb hby d_textLen_51)  ?_
                                    refine G_ifNo X0 hx (pc' := 55) rfl (hb hby d_textLen_52) ((if0 _ _).trans (tlt ((lw_lt _ _).2 hc3_1)).2.1) ?_
                                    refine G_iload X0 hx (pc' := 57) rfl (hb hby d_textLen_55) rfl ?_
                                    refine G_iconst X0 hx (pc' := 58) rfl (hb hby d_textLen_57) (z := (1 : Int32)) rfl ?_
                                    refine G_iadd X0 hx (pc' := 59) rfl (hb hby d_textLen_58)  ?_
                                    rw [show ((16 : Int32) + (1 : Int32)) = (17 : Int32) from by decide]
                                    refine G_goto X0 hx (pc' := 64) (hb hby d_textLen_59)  (by decide) (by decide) ?_
                                    refine Go.fin X0 hlk (v := some (.int (17 : Int32))) (fun h => by rw [Bd.returns] at h; cases h) (by decide) (by decide) ?_ (fun fs hr => retOut X0 hx Bd.returns rfl (Or.inl ⟨rfl, Or.inl rfl, _, rfl⟩) (hb hby d_textLen_64) hr)
                                    show Q_textLen Z v0 h0 n0 _ s₁.heap _
                                    rw [e0]
                                    exact ⟨congrArg (fun z => some (Value.int z)) (Eq.symm ((if_pos hc3_1).trans ((if_neg hc32_2).trans ((if_neg hc32_3).trans ((if_neg hc32_4).trans ((if_neg hc32_5).trans ((if_neg hc32_6).trans ((if_neg hc32_7).trans ((if_neg hc32_8).trans ((if_neg hc32_9).trans ((if_neg hc32_10).trans ((if_neg hc32_11).trans ((if_neg hc32_12).trans ((if_neg hc32_13).trans ((if_neg hc32_14).trans ((if_neg hc32_15).trans ((if_neg hc32_16).trans ((if_pos hc32_17).trans rfl)))))))))))))))))), N0, rfl⟩
                                  · refine G_ifNo X0 hx (pc' := 35) rfl (hb hby d_textLen_32) ((if0 _ _).trans (flt (fun q => hc32_17 ((lw_gt _ _).1 q))).2.2.1) ?_
                                    refine G_iinc X0 hx (pc' := 38) rfl (hb hby d_textLen_35) rfl (z := (17 : Int32)) rfl (L' := #[.val (.long v0), .second, .val (.long v0), .second, .val (.int (17 : Int32)), .val (.long (-10000000000000000 : Int64)), .second]) rfl ?_
                                    refine G_lload X0 hx (pc' := 40) rfl (hb hby d_textLen_38) rfl ?_
                                    refine G_ldc2 X0 hx (pc' := 43) rfl hown (mvT hZ (hw _ (List.mem_of_getElem? (i := 34) rfl))) (hb hby d_textLen_40) ?_
                                    refine G_lmul X0 hx (pc' := 44) rfl (hb hby d_textLen_43)  ?_
                                    rw [show ((-10000000000000000 : Int64) * (10 : Int64)) = (-100000000000000000 : Int64) from by decide]
                                    refine G_lstore X0 hx (pc' := 46) rfl (hb hby d_textLen_44) (L' := #[.val (.long v0), .second, .val (.long v0), .second, .val (.int (17 : Int32)), .val (.long (-100000000000000000 : Int64)), .second]) rfl ?_
                                    refine G_goto X0 hx (pc' := 21) (hb hby d_textLen_46)  (by decide) (by decide) ?_
                                    refine G_iload X0 hx (pc' := 23) rfl (hb hby d_textLen_21) rfl ?_
                                    refine G_bipush X0 hx (pc' := 25) rfl (hb hby d_textLen_23) (z := (18 : Int32)) rfl ?_
                                    refine G_icmpNo X0 hx (pc' := 28) rfl (hb hby d_textLen_25) (flt (by decide : ¬ ((18 : Int32) < (17 : Int32)))).2.2.1 ?_
                                    refine G_lloadN X0 hx (pc' := 29) rfl (hb hby d_textLen_28) rfl ?_
                                    refine G_lload X0 hx (pc' := 31) rfl (hb hby d_textLen_29) rfl ?_
                                    refine G_lcmp X0 hx (pc' := 32) rfl (hb hby d_textLen_31)  ?_
                                    by_cases hc32_18 : (-100000000000000000 : Int64) < v0
                                    · refine G_ifYes X0 hx (pc' := 49) (hb hby d_textLen_32) ((if0 _ _).trans (tlt ((lw_gt _ _).2 hc32_18)).2.2.1) (by decide) (by decide) ?_
                                      refine G_lloadN X0 hx (pc' := 50) rfl (hb hby d_textLen_49) rfl ?_
                                      refine G_lconst X0 hx (pc' := 51) rfl (hb hby d_textLen_50) (z := (0 : Int64)) rfl ?_
                                      refine G_lcmp X0 hx (pc' := 52) rfl (hb hby d_textLen_51)  ?_
                                      refine G_ifNo X0 hx (pc' := 55) rfl (hb hby d_textLen_52) ((if0 _ _).trans (tlt ((lw_lt _ _).2 hc3_1)).2.1) ?_
                                      refine G_iload X0 hx (pc' := 57) rfl (hb hby d_textLen_55) rfl ?_
                                      refine G_iconst X0 hx (pc' := 58) rfl (hb hby d_textLen_57) (z := (1 : Int32)) rfl ?_
                                      refine G_iadd X0 hx (pc' := 59) rfl (hb hby d_textLen_58)  ?_
                                      rw [show ((17 : Int32) + (1 : Int32)) = (18 : Int32) from by decide]
                                      refine G_goto X0 hx (pc' := 64) (hb hby d_textLen_59)  (by decide) (by decide) ?_
                                      refine Go.fin X0 hlk (v := some (.int (18 : Int32))) (fun h => by rw [Bd.returns] at h; cases h) (by decide) (by decide) ?_ (fun fs hr => retOut X0 hx Bd.returns rfl (Or.inl ⟨rfl, Or.inl rfl, _, rfl⟩) (hb hby d_textLen_64) hr)
                                      show Q_textLen Z v0 h0 n0 _ s₁.heap _
                                      rw [e0]
                                      exact ⟨congrArg (fun z => some (Value.int z)) (Eq.symm ((if_pos hc3_1).trans ((if_neg hc32_2).trans ((if_neg hc32_3).trans ((if_neg hc32_4).trans ((if_neg hc32_5).trans ((if_neg hc32_6).trans ((if_neg hc32_7).trans ((if_neg hc32_8).trans ((if_neg hc32_9).trans ((if_neg hc32_10).trans ((if_neg hc32_11).trans ((if_neg hc32_12).trans ((if_neg hc32_13).trans ((if_neg hc32_14).trans ((if_neg hc32_15).trans ((if_neg hc32_16).trans ((if_neg hc32_17).trans ((if_pos hc32_18).trans rfl))))))))))))))))))), N0, rfl⟩
                                    · refine G_ifNo X0 hx (pc' := 35) rfl (hb hby d_textLen_32) ((if0 _ _).trans (flt (fun q => hc32_18 ((lw_gt _ _).1 q))).2.2.1) ?_
                                      refine G_iinc X0 hx (pc' := 38) rfl (hb hby d_textLen_35) rfl (z := (18 : Int32)) rfl (L' := #[.val (.long v0), .second, .val (.long v0), .second, .val (.int (18 : Int32)), .val (.long (-100000000000000000 : Int64)), .second]) rfl ?_
                                      refine G_lload X0 hx (pc' := 40) rfl (hb hby d_textLen_38) rfl ?_
                                      refine G_ldc2 X0 hx (pc' := 43) rfl hown (mvT hZ (hw _ (List.mem_of_getElem? (i := 34) rfl))) (hb hby d_textLen_40) ?_
                                      refine G_lmul X0 hx (pc' := 44) rfl (hb hby d_textLen_43)  ?_
                                      rw [show ((-100000000000000000 : Int64) * (10 : Int64)) = (-1000000000000000000 : Int64) from by decide]
                                      refine G_lstore X0 hx (pc' := 46) rfl (hb hby d_textLen_44) (L' := #[.val (.long v0), .second, .val (.long v0), .second, .val (.int (18 : Int32)), .val (.long (-1000000000000000000 : Int64)), .second]) rfl ?_
                                      refine G_goto X0 hx (pc' := 21) (hb hby d_textLen_46)  (by decide) (by decide) ?_
                                      refine G_iload X0 hx (pc' := 23) rfl (hb hby d_textLen_21) rfl ?_
                                      refine G_bipush X0 hx (pc' := 25) rfl (hb hby d_textLen_23) (z := (18 : Int32)) rfl ?_
                                      refine G_icmpNo X0 hx (pc' := 28) rfl (hb hby d_textLen_25) (flt (by decide : ¬ ((18 : Int32) < (18 : Int32)))).2.2.1 ?_
                                      refine G_lloadN X0 hx (pc' := 29) rfl (hb hby d_textLen_28) rfl ?_
                                      refine G_lload X0 hx (pc' := 31) rfl (hb hby d_textLen_29) rfl ?_
                                      refine G_lcmp X0 hx (pc' := 32) rfl (hb hby d_textLen_31)  ?_
                                      by_cases hc32_19 : (-1000000000000000000 : Int64) < v0
                                      · refine G_ifYes X0 hx (pc' := 49) (hb hby d_textLen_32) ((if0 _ _).trans (tlt ((lw_gt _ _).2 hc32_19)).2.2.1) (by decide) (by decide) ?_
                                        refine G_lloadN X0 hx (pc' := 50) rfl (hb hby d_textLen_49) rfl ?_
                                        refine G_lconst X0 hx (pc' := 51) rfl (hb hby d_textLen_50) (z := (0 : Int64)) rfl ?_
                                        refine G_lcmp X0 hx (pc' := 52) rfl (hb hby d_textLen_51)  ?_
                                        refine G_ifNo X0 hx (pc' := 55) rfl (hb hby d_textLen_52) ((if0 _ _).trans (tlt ((lw_lt _ _).2 hc3_1)).2.1) ?_
                                        refine G_iload X0 hx (pc' := 57) rfl (hb hby d_textLen_55) rfl ?_
                                        refine G_iconst X0 hx (pc' := 58) rfl (hb hby d_textLen_57) (z := (1 : Int32)) rfl ?_
                                        refine G_iadd X0 hx (pc' := 59) rfl (hb hby d_textLen_58)  ?_
                                        rw [show ((18 : Int32) + (1 : Int32)) = (19 : Int32) from by decide]
                                        refine G_goto X0 hx (pc' := 64) (hb hby d_textLen_59)  (by decide) (by decide) ?_
                                        refine Go.fin X0 hlk (v := some (.int (19 : Int32))) (fun h => by rw [Bd.returns] at h; cases h) (by decide) (by decide) ?_ (fun fs hr => retOut X0 hx Bd.returns rfl (Or.inl ⟨rfl, Or.inl rfl, _, rfl⟩) (hb hby d_textLen_64) hr)
                                        show Q_textLen Z v0 h0 n0 _ s₁.heap _
                                        rw [e0]
                                        exact ⟨congrArg (fun z => some (Value.int z)) (Eq.symm ((if_pos hc3_1).trans ((if_neg hc32_2).trans ((if_neg hc32_3).trans ((if_neg hc32_4).trans ((if_neg hc32_5).trans ((if_neg hc32_6).trans ((if_neg hc32_7).trans ((if_neg hc32_8).trans ((if_neg hc32_9).trans ((if_neg hc32_10).trans ((if_neg hc32_11).trans ((if_neg hc32_12).trans ((if_neg hc32_13).trans ((if_neg hc32_14).trans ((if_neg hc32_15).trans ((if_neg hc32_16).trans ((if_neg hc32_17).trans ((if_neg hc32_18).trans ((if_pos hc32_19).trans rfl)))))))))))))))))))), N0, rfl⟩
                                      · refine G_ifNo X0 hx (pc' := 35) rfl (hb hby d_textLen_32) ((if0 _ _).trans (flt (fun q => hc32_19 ((lw_gt _ _).1 q))).2.2.1) ?_
                                        refine G_iinc X0 hx (pc' := 38) rfl (hb hby d_textLen_35) rfl (z := (19 : Int32)) rfl (L' := #[.val (.long v0), .second, .val (.long v0), .second, .val (.int (19 : Int32)), .val (.long (-1000000000000000000 : Int64)), .second]) rfl ?_
                                        refine G_lload X0 hx (pc' := 40) rfl (hb hby d_textLen_38) rfl ?_
                                        refine G_ldc2 X0 hx (pc' := 43) rfl hown (mvT hZ (hw _ (List.mem_of_getElem? (i := 34) rfl))) (hb hby d_textLen_40) ?_
                                        refine G_lmul X0 hx (pc' := 44) rfl (hb hby d_textLen_43)  ?_
                                        rw [show ((-1000000000000000000 : Int64) * (10 : Int64)) = (8446744073709551616 : Int64) from by decide]
                                        refine G_lstore X0 hx (pc' := 46) rfl (hb hby d_textLen_44) (L' := #[.val (.long v0), .second, .val (.long v0), .second, .val (.int (19 : Int32)), .val (.long (8446744073709551616 : Int64)), .second]) rfl ?_
                                        refine G_goto X0 hx (pc' := 21) (hb hby d_textLen_46)  (by decide) (by decide) ?_
                                        refine G_iload X0 hx (pc' := 23) rfl (hb hby d_textLen_21) rfl ?_
                                        refine G_bipush X0 hx (pc' := 25) rfl (hb hby d_textLen_23) (z := (18 : Int32)) rfl ?_
                                        refine G_icmpYes X0 hx (pc' := 49) (hb hby d_textLen_25) (tlt (by decide : (18 : Int32) < (19 : Int32))).2.2.1 (by decide) (by decide) ?_
                                        refine G_lloadN X0 hx (pc' := 50) rfl (hb hby d_textLen_49) rfl ?_
                                        refine G_lconst X0 hx (pc' := 51) rfl (hb hby d_textLen_50) (z := (0 : Int64)) rfl ?_
                                        refine G_lcmp X0 hx (pc' := 52) rfl (hb hby d_textLen_51)  ?_
                                        refine G_ifNo X0 hx (pc' := 55) rfl (hb hby d_textLen_52) ((if0 _ _).trans (tlt ((lw_lt _ _).2 hc3_1)).2.1) ?_
                                        refine G_iload X0 hx (pc' := 57) rfl (hb hby d_textLen_55) rfl ?_
                                        refine G_iconst X0 hx (pc' := 58) rfl (hb hby d_textLen_57) (z := (1 : Int32)) rfl ?_
                                        refine G_iadd X0 hx (pc' := 59) rfl (hb hby d_textLen_58)  ?_
                                        rw [show ((19 : Int32) + (1 : Int32)) = (20 : Int32) from by decide]
                                        refine G_goto X0 hx (pc' := 64) (hb hby d_textLen_59)  (by decide) (by decide) ?_
                                        refine Go.fin X0 hlk (v := some (.int (20 : Int32))) (fun h => by rw [Bd.returns] at h; cases h) (by decide) (by decide) ?_ (fun fs hr => retOut X0 hx Bd.returns rfl (Or.inl ⟨rfl, Or.inl rfl, _, rfl⟩) (hb hby d_textLen_64) hr)
                                        show Q_textLen Z v0 h0 n0 _ s₁.heap _
                                        rw [e0]
                                        exact ⟨congrArg (fun z => some (Value.int z)) (Eq.symm ((if_pos hc3_1).trans ((if_neg hc32_2).trans ((if_neg hc32_3).trans ((if_neg hc32_4).trans ((if_neg hc32_5).trans ((if_neg hc32_6).trans ((if_neg hc32_7).trans ((if_neg hc32_8).trans ((if_neg hc32_9).trans ((if_neg hc32_10).trans ((if_neg hc32_11).trans ((if_neg hc32_12).trans ((if_neg hc32_13).trans ((if_neg hc32_14).trans ((if_neg hc32_15).trans ((if_neg hc32_16).trans ((if_neg hc32_17).trans ((if_neg hc32_18).trans ((if_neg hc32_19).trans rfl)))))))))))))))))))), N0, rfl⟩
  · refine G_ifYes X0 hx (pc' := 10) (hb hby d_textLen_3) ((if0 _ _).trans (flt (fun q => hc3_1 ((lw_lt _ _).1 q))).2.1) (by decide) (by decide) ?_
    refine G_lloadN X0 hx (pc' := 11) rfl (hb hby d_textLen_10) rfl ?_
    refine G_lneg X0 hx (pc' := 12) rfl (hb hby d_textLen_11)  ?_
    refine G_lstoreN X0 hx (pc' := 13) rfl (hb hby d_textLen_12) (L' := #[.val (.long v0), .second, .val (.long (-v0)), .second, .unset, .unset, .unset]) rfl ?_
    refine G_iconst X0 hx (pc' := 14) rfl (hb hby d_textLen_13) (z := (1 : Int32)) rfl ?_
    refine G_istore X0 hx (pc' := 16) rfl (hb hby d_textLen_14) (L' := #[.val (.long v0), .second, .val (.long (-v0)), .second, .val (.int (1 : Int32)), .unset, .unset]) rfl ?_
    refine G_ldc2 X0 hx (pc' := 19) rfl hown (mvT hZ (hw _ (List.mem_of_getElem? (i := 33) rfl))) (hb hby d_textLen_16) ?_
    refine G_lstore X0 hx (pc' := 21) rfl (hb hby d_textLen_19) (L' := #[.val (.long v0), .second, .val (.long (-v0)), .second, .val (.int (1 : Int32)), .val (.long (-10 : Int64)), .second]) rfl ?_
    refine G_iload X0 hx (pc' := 23) rfl (hb hby d_textLen_21) rfl ?_
    refine G_bipush X0 hx (pc' := 25) rfl (hb hby d_textLen_23) (z := (18 : Int32)) rfl ?_
    refine G_icmpNo X0 hx (pc' := 28) rfl (hb hby d_textLen_25) (flt (by decide : ¬ ((18 : Int32) < (1 : Int32)))).2.2.1 ?_
    refine G_lloadN X0 hx (pc' := 29) rfl (hb hby d_textLen_28) rfl ?_
    refine G_lload X0 hx (pc' := 31) rfl (hb hby d_textLen_29) rfl ?_
    refine G_lcmp X0 hx (pc' := 32) rfl (hb hby d_textLen_31)  ?_
    by_cases hc32_20 : (-10 : Int64) < (-v0)
    · refine G_ifYes X0 hx (pc' := 49) (hb hby d_textLen_32) ((if0 _ _).trans (tlt ((lw_gt _ _).2 hc32_20)).2.2.1) (by decide) (by decide) ?_
      refine G_lloadN X0 hx (pc' := 50) rfl (hb hby d_textLen_49) rfl ?_
      refine G_lconst X0 hx (pc' := 51) rfl (hb hby d_textLen_50) (z := (0 : Int64)) rfl ?_
      refine G_lcmp X0 hx (pc' := 52) rfl (hb hby d_textLen_51)  ?_
      refine G_ifYes X0 hx (pc' := 62) (hb hby d_textLen_52) ((if0 _ _).trans (flt (fun q => hc3_1 ((lw_lt _ _).1 q))).2.1) (by decide) (by decide) ?_
      refine G_iload X0 hx (pc' := 64) rfl (hb hby d_textLen_62) rfl ?_
      refine Go.fin X0 hlk (v := some (.int (1 : Int32))) (fun h => by rw [Bd.returns] at h; cases h) (by decide) (by decide) ?_ (fun fs hr => retOut X0 hx Bd.returns rfl (Or.inl ⟨rfl, Or.inl rfl, _, rfl⟩) (hb hby d_textLen_64) hr)
      show Q_textLen Z v0 h0 n0 _ s₁.heap _
      rw [e0]
      exact ⟨congrArg (fun z => some (Value.int z)) (Eq.symm ((if_neg hc3_1).trans ((if_pos hc32_20).trans rfl))), N0, rfl⟩
    · refine G_ifNo X0 hx (pc' := 35) rfl (hb hby d_textLen_32) ((if0 _ _).trans (flt (fun q => hc32_20 ((lw_gt _ _).1 q))).2.2.1) ?_
      refine G_iinc X0 hx (pc' := 38) rfl (hb hby d_textLen_35) rfl (z := (2 : Int32)) rfl (L' := #[.val (.long v0), .second, .val (.long (-v0)), .second, .val (.int (2 : Int32)), .val (.long (-10 : Int64)), .second]) rfl ?_
      refine G_lload X0 hx (pc' := 40) rfl (hb hby d_textLen_38) rfl ?_
      refine G_ldc2 X0 hx (pc' := 43) rfl hown (mvT hZ (hw _ (List.mem_of_getElem? (i := 34) rfl))) (hb hby d_textLen_40) ?_
      refine G_lmul X0 hx (pc' := 44) rfl (hb hby d_textLen_43)  ?_
      rw [show ((-10 : Int64) * (10 : Int64)) = (-100 : Int64) from by decide]
      refine G_lstore X0 hx (pc' := 46) rfl (hb hby d_textLen_44) (L' := #[.val (.long v0), .second, .val (.long (-v0)), .second, .val (.int (2 : Int32)), .val (.long (-100 : Int64)), .second]) rfl ?_
      refine G_goto X0 hx (pc' := 21) (hb hby d_textLen_46)  (by decide) (by decide) ?_
      refine G_iload X0 hx (pc' := 23) rfl (hb hby d_textLen_21) rfl ?_
      refine G_bipush X0 hx (pc' := 25) rfl (hb hby d_textLen_23) (z := (18 : Int32)) rfl ?_
      refine G_icmpNo X0 hx (pc' := 28) rfl (hb hby d_textLen_25) (flt (by decide : ¬ ((18 : Int32) < (2 : Int32)))).2.2.1 ?_
      refine G_lloadN X0 hx (pc' := 29) rfl (hb hby d_textLen_28) rfl ?_
      refine G_lload X0 hx (pc' := 31) rfl (hb hby d_textLen_29) rfl ?_
      refine G_lcmp X0 hx (pc' := 32) rfl (hb hby d_textLen_31)  ?_
      by_cases hc32_21 : (-100 : Int64) < (-v0)
      · refine G_ifYes X0 hx (pc' := 49) (hb hby d_textLen_32) ((if0 _ _).trans (tlt ((lw_gt _ _).2 hc32_21)).2.2.1) (by decide) (by decide) ?_
        refine G_lloadN X0 hx (pc' := 50) rfl (hb hby d_textLen_49) rfl ?_
        refine G_lconst X0 hx (pc' := 51) rfl (hb hby d_textLen_50) (z := (0 : Int64)) rfl ?_
        refine G_lcmp X0 hx (pc' := 52) rfl (hb hby d_textLen_51)  ?_
        refine G_ifYes X0 hx (pc' := 62) (hb hby d_textLen_52) ((if0 _ _).trans (flt (fun q => hc3_1 ((lw_lt _ _).1 q))).2.1) (by decide) (by decide) ?_
        refine G_iload X0 hx (pc' := 64) rfl (hb hby d_textLen_62) rfl ?_
        refine Go.fin X0 hlk (v := some (.int (2 : Int32))) (fun h => by rw [Bd.returns] at h; cases h) (by decide) (by decide) ?_ (fun fs hr => retOut X0 hx Bd.returns rfl (Or.inl ⟨rfl, Or.inl rfl, _, rfl⟩) (hb hby d_textLen_64) hr)
        show Q_textLen Z v0 h0 n0 _ s₁.heap _
        rw [e0]
        exact ⟨congrArg (fun z => some (Value.int z)) (Eq.symm ((if_neg hc3_1).trans ((if_neg hc32_20).trans ((if_pos hc32_21).trans rfl)))), N0, rfl⟩
      · refine G_ifNo X0 hx (pc' := 35) rfl (hb hby d_textLen_32) ((if0 _ _).trans (flt (fun q => hc32_21 ((lw_gt _ _).1 q))).2.2.1) ?_
        refine G_iinc X0 hx (pc' := 38) rfl (hb hby d_textLen_35) rfl (z := (3 : Int32)) rfl (L' := #[.val (.long v0), .second, .val (.long (-v0)), .second, .val (.int (3 : Int32)), .val (.long (-100 : Int64)), .second]) rfl ?_
        refine G_lload X0 hx (pc' := 40) rfl (hb hby d_textLen_38) rfl ?_
        refine G_ldc2 X0 hx (pc' := 43) rfl hown (mvT hZ (hw _ (List.mem_of_getElem? (i := 34) rfl))) (hb hby d_textLen_40) ?_
        refine G_lmul X0 hx (pc' := 44) rfl (hb hby d_textLen_43)  ?_
        rw [show ((-100 : Int64) * (10 : Int64)) = (-1000 : Int64) from by decide]
        refine G_lstore X0 hx (pc' := 46) rfl (hb hby d_textLen_44) (L' := #[.val (.long v0), .second, .val (.long (-v0)), .second, .val (.int (3 : Int32)), .val (.long (-1000 : Int64)), .second]) rfl ?_
        refine G_goto X0 hx (pc' := 21) (hb hby d_textLen_46)  (by decide) (by decide) ?_
        refine G_iload X0 hx (pc' := 23) rfl (hb hby d_textLen_21) rfl ?_
        refine G_bipush X0 hx (pc' := 25) rfl (hb hby d_textLen_23) (z := (18 : Int32)) rfl ?_
        refine G_icmpNo X0 hx (pc' := 28) rfl (hb hby d_textLen_25) (flt (by decide : ¬ ((18 : Int32) < (3 : Int32)))).2.2.1 ?_
        refine G_lloadN X0 hx (pc' := 29) rfl (hb hby d_textLen_28) rfl ?_
        refine G_lload X0 hx (pc' := 31) rfl (hb hby d_textLen_29) rfl ?_
        refine G_lcmp X0 hx (pc' := 32) rfl (hb hby d_textLen_31)  ?_
        by_cases hc32_22 : (-1000 : Int64) < (-v0)
        · refine G_ifYes X0 hx (pc' := 49) (hb hby d_textLen_32) ((if0 _ _).trans (tlt ((lw_gt _ _).2 hc32_22)).2.2.1) (by decide) (by decide) ?_
          refine G_lloadN X0 hx (pc' := 50) rfl (hb hby d_textLen_49) rfl ?_
          refine G_lconst X0 hx (pc' := 51) rfl (hb hby d_textLen_50) (z := (0 : Int64)) rfl ?_
          refine G_lcmp X0 hx (pc' := 52) rfl (hb hby d_textLen_51)  ?_
          refine G_ifYes X0 hx (pc' := 62) (hb hby d_textLen_52) ((if0 _ _).trans (flt (fun q => hc3_1 ((lw_lt _ _).1 q))).2.1) (by decide) (by decide) ?_
          refine G_iload X0 hx (pc' := 64) rfl (hb hby d_textLen_62) rfl ?_
          refine Go.fin X0 hlk (v := some (.int (3 : Int32))) (fun h => by rw [Bd.returns] at h; cases h) (by decide) (by decide) ?_ (fun fs hr => retOut X0 hx Bd.returns rfl (Or.inl ⟨rfl, Or.inl rfl, _, rfl⟩) (hb hby d_textLen_64) hr)
          show Q_textLen Z v0 h0 n0 _ s₁.heap _
          rw [e0]
          exact ⟨congrArg (fun z => some (Value.int z)) (Eq.symm ((if_neg hc3_1).trans ((if_neg hc32_20).trans ((if_neg hc32_21).trans ((if_pos hc32_22).trans rfl))))), N0, rfl⟩
        · refine G_ifNo X0 hx (pc' := 35) rfl (hb hby d_textLen_32) ((if0 _ _).trans (flt (fun q => hc32_22 ((lw_gt _ _).1 q))).2.2.1) ?_
          refine G_iinc X0 hx (pc' := 38) rfl (hb hby d_textLen_35) rfl (z := (4 : Int32)) rfl (L' := #[.val (.long v0), .second, .val (.long (-v0)), .second, .val (.int (4 : Int32)), .val (.long (-1000 : Int64)), .second]) rfl ?_
          refine G_lload X0 hx (pc' := 40) rfl (hb hby d_textLen_38) rfl ?_
          refine G_ldc2 X0 hx (pc' := 43) rfl hown (mvT hZ (hw _ (List.mem_of_getElem? (i := 34) rfl))) (hb hby d_textLen_40) ?_
          refine G_lmul X0 hx (pc' := 44) rfl (hb hby d_textLen_43)  ?_
          rw [show ((-1000 : Int64) * (10 : Int64)) = (-10000 : Int64) from by decide]
          refine G_lstore X0 hx (pc' := 46) rfl (hb hby d_textLen_44) (L' := #[.val (.long v0), .second, .val (.long (-v0)), .second, .val (.int (4 : Int32)), .val (.long (-10000 : Int64)), .second]) rfl ?_
          refine G_goto X0 hx (pc' := 21) (hb hby d_textLen_46)  (by decide) (by decide) ?_
          refine G_iload X0 hx (pc' := 23) rfl (hb hby d_textLen_21) rfl ?_
          refine G_bipush X0 hx (pc' := 25) rfl (hb hby d_textLen_23) (z := (18 : Int32)) rfl ?_
          refine G_icmpNo X0 hx (pc' := 28) rfl (hb hby d_textLen_25) (flt (by decide : ¬ ((18 : Int32) < (4 : Int32)))).2.2.1 ?_
          refine G_lloadN X0 hx (pc' := 29) rfl (hb hby d_textLen_28) rfl ?_
          refine G_lload X0 hx (pc' := 31) rfl (hb hby d_textLen_29) rfl ?_
          refine G_lcmp X0 hx (pc' := 32) rfl (hb hby d_textLen_31)  ?_
          by_cases hc32_23 : (-10000 : Int64) < (-v0)
          · refine G_ifYes X0 hx (pc' := 49) (hb hby d_textLen_32) ((if0 _ _).trans (tlt ((lw_gt _ _).2 hc32_23)).2.2.1) (by decide) (by decide) ?_
            refine G_lloadN X0 hx (pc' := 50) rfl (hb hby d_textLen_49) rfl ?_
            refine G_lconst X0 hx (pc' := 51) rfl (hb hby d_textLen_50) (z := (0 : Int64)) rfl ?_
            refine G_lcmp X0 hx (pc' := 52) rfl (hb hby d_textLen_51)  ?_
            refine G_ifYes X0 hx (pc' := 62) (hb hby d_textLen_52) ((if0 _ _).trans (flt (fun q => hc3_1 ((lw_lt _ _).1 q))).2.1) (by decide) (by decide) ?_
            refine G_iload X0 hx (pc' := 64) rfl (hb hby d_textLen_62) rfl ?_
            refine Go.fin X0 hlk (v := some (.int (4 : Int32))) (fun h => by rw [Bd.returns] at h; cases h) (by decide) (by decide) ?_ (fun fs hr => retOut X0 hx Bd.returns rfl (Or.inl ⟨rfl, Or.inl rfl, _, rfl⟩) (hb hby d_textLen_64) hr)
            show Q_textLen Z v0 h0 n0 _ s₁.heap _
            rw [e0]
            exact ⟨congrArg (fun z => some (Value.int z)) (Eq.symm ((if_neg hc3_1).trans ((if_neg hc32_20).trans ((if_neg hc32_21).trans ((if_neg hc32_22).trans ((if_pos hc32_23).trans rfl)))))), N0, rfl⟩
          · refine G_ifNo X0 hx (pc' := 35) rfl (hb hby d_textLen_32) ((if0 _ _).trans (flt (fun q => hc32_23 ((lw_gt _ _).1 q))).2.2.1) ?_
            refine G_iinc X0 hx (pc' := 38) rfl (hb hby d_textLen_35) rfl (z := (5 : Int32)) rfl (L' := #[.val (.long v0), .second, .val (.long (-v0)), .second, .val (.int (5 : Int32)), .val (.long (-10000 : Int64)), .second]) rfl ?_
            refine G_lload X0 hx (pc' := 40) rfl (hb hby d_textLen_38) rfl ?_
            refine G_ldc2 X0 hx (pc' := 43) rfl hown (mvT hZ (hw _ (List.mem_of_getElem? (i := 34) rfl))) (hb hby d_textLen_40) ?_
            refine G_lmul X0 hx (pc' := 44) rfl (hb hby d_textLen_43)  ?_
            rw [show ((-10000 : Int64) * (10 : Int64)) = (-100000 : Int64) from by decide]
            refine G_lstore X0 hx (pc' := 46) rfl (hb hby d_textLen_44) (L' := #[.val (.long v0), .second, .val (.long (-v0)), .second, .val (.int (5 : Int32)), .val (.long (-100000 : Int64)), .second]) rfl ?_
            refine G_goto X0 hx (pc' := 21) (hb hby d_textLen_46)  (by decide) (by decide) ?_
            refine G_iload X0 hx (pc' := 23) rfl (hb hby d_textLen_21) rfl ?_
            refine G_bipush X0 hx (pc' := 25) rfl (hb hby d_textLen_23) (z := (18 : Int32)) rfl ?_
            refine G_icmpNo X0 hx (pc' := 28) rfl (hb hby d_textLen_25) (flt (by decide : ¬ ((18 : Int32) < (5 : Int32)))).2.2.1 ?_
            refine G_lloadN X0 hx (pc' := 29) rfl (hb hby d_textLen_28) rfl ?_
            refine G_lload X0 hx (pc' := 31) rfl (hb hby d_textLen_29) rfl ?_
            refine G_lcmp X0 hx (pc' := 32) rfl (hb hby d_textLen_31)  ?_
            by_cases hc32_24 : (-100000 : Int64) < (-v0)
            · refine G_ifYes X0 hx (pc' := 49) (hb hby d_textLen_32) ((if0 _ _).trans (tlt ((lw_gt _ _).2 hc32_24)).2.2.1) (by decide) (by decide) ?_
              refine G_lloadN X0 hx (pc' := 50) rfl (hb hby d_textLen_49) rfl ?_
              refine G_lconst X0 hx (pc' := 51) rfl (hb hby d_textLen_50) (z := (0 : Int64)) rfl ?_
              refine G_lcmp X0 hx (pc' := 52) rfl (hb hby d_textLen_51)  ?_
              refine G_ifYes X0 hx (pc' := 62) (hb hby d_textLen_52) ((if0 _ _).trans (flt (fun q => hc3_1 ((lw_lt _ _).1 q))).2.1) (by decide) (by decide) ?_
              refine G_iload X0 hx (pc' := 64) rfl (hb hby d_textLen_62) rfl ?_
              refine Go.fin X0 hlk (v := some (.int (5 : Int32))) (fun h => by rw [Bd.returns] at h; cases h) (by decide) (by decide) ?_ (fun fs hr => retOut X0 hx Bd.returns rfl (Or.inl ⟨rfl, Or.inl rfl, _, rfl⟩) (hb hby d_textLen_64) hr)
              show Q_textLen Z v0 h0 n0 _ s₁.heap _
              rw [e0]
              exact ⟨congrArg (fun z => some (Value.int z)) (Eq.symm ((if_neg hc3_1).trans ((if_neg hc32_20).trans ((if_neg hc32_21).trans ((if_neg hc32_22).trans ((if_neg hc32_23).trans ((if_pos hc32_24).trans rfl))))))), N0, rfl⟩
            · refine G_ifNo X0 hx (pc' := 35) rfl (hb hby d_textLen_32) ((if0 _ _).trans (flt (fun q => hc32_24 ((lw_gt _ _).1 q))).2.2.1) ?_
              refine G_iinc X0 hx (pc' := 38) rfl (hb hby d_textLen_35) rfl (z := (6 : Int32)) rfl (L' := #[.val (.long v0), .second, .val (.long (-v0)), .second, .val (.int (6 : Int32)), .val (.long (-100000 : Int64)), .second]) rfl ?_
              refine G_lload X0 hx (pc' := 40) rfl (hb hby d_textLen_38) rfl ?_
              refine G_ldc2 X0 hx (pc' := 43) rfl hown (mvT hZ (hw _ (List.mem_of_getElem? (i := 34) rfl))) (hb hby d_textLen_40) ?_
              refine G_lmul X0 hx (pc' := 44) rfl (hb hby d_textLen_43)  ?_
              rw [show ((-100000 : Int64) * (10 : Int64)) = (-1000000 : Int64) from by decide]
              refine G_lstore X0 hx (pc' := 46) rfl (hb hby d_textLen_44) (L' := #[.val (.long v0), .second, .val (.long (-v0)), .second, .val (.int (6 : Int32)), .val (.long (-1000000 : Int64)), .second]) rfl ?_
              refine G_goto X0 hx (pc' := 21) (hb hby d_textLen_46)  (by decide) (by decide) ?_
              refine G_iload X0 hx (pc' := 23) rfl (hb hby d_textLen_21) rfl ?_
              refine G_bipush X0 hx (pc' := 25) rfl (hb hby d_textLen_23) (z := (18 : Int32)) rfl ?_
              refine G_icmpNo X0 hx (pc' := 28) rfl (hb hby d_textLen_25) (flt (by decide : ¬ ((18 : Int32) < (6 : Int32)))).2.2.1 ?_
              refine G_lloadN X0 hx (pc' := 29) rfl (hb hby d_textLen_28) rfl ?_
              refine G_lload X0 hx (pc' := 31) rfl (hb hby d_textLen_29) rfl ?_
              refine G_lcmp X0 hx (pc' := 32) rfl (hb hby d_textLen_31)  ?_
              by_cases hc32_25 : (-1000000 : Int64) < (-v0)
              · refine G_ifYes X0 hx (pc' := 49) (hb hby d_textLen_32) ((if0 _ _).trans (tlt ((lw_gt _ _).2 hc32_25)).2.2.1) (by decide) (by decide) ?_
                refine G_lloadN X0 hx (pc' := 50) rfl (hb hby d_textLen_49) rfl ?_
                refine G_lconst X0 hx (pc' := 51) rfl (hb hby d_textLen_50) (z := (0 : Int64)) rfl ?_
                refine G_lcmp X0 hx (pc' := 52) rfl (hb hby d_textLen_51)  ?_
                refine G_ifYes X0 hx (pc' := 62) (hb hby d_textLen_52) ((if0 _ _).trans (flt (fun q => hc3_1 ((lw_lt _ _).1 q))).2.1) (by decide) (by decide) ?_
                refine G_iload X0 hx (pc' := 64) rfl (hb hby d_textLen_62) rfl ?_
                refine Go.fin X0 hlk (v := some (.int (6 : Int32))) (fun h => by rw [Bd.returns] at h; cases h) (by decide) (by decide) ?_ (fun fs hr => retOut X0 hx Bd.returns rfl (Or.inl ⟨rfl, Or.inl rfl, _, rfl⟩) (hb hby d_textLen_64) hr)
                show Q_textLen Z v0 h0 n0 _ s₁.heap _
                rw [e0]
                exact ⟨congrArg (fun z => some (Value.int z)) (Eq.symm ((if_neg hc3_1).trans ((if_neg hc32_20).trans ((if_neg hc32_21).trans ((if_neg hc32_22).trans ((if_neg hc32_23).trans ((if_neg hc32_24).trans ((if_pos hc32_25).trans rfl)))))))), N0, rfl⟩
              · refine G_ifNo X0 hx (pc' := 35) rfl (hb hby d_textLen_32) ((if0 _ _).trans (flt (fun q => hc32_25 ((lw_gt _ _).1 q))).2.2.1) ?_
                refine G_iinc X0 hx (pc' := 38) rfl (hb hby d_textLen_35) rfl (z := (7 : Int32)) rfl (L' := #[.val (.long v0), .second, .val (.long (-v0)), .second, .val (.int (7 : Int32)), .val (.long (-1000000 : Int64)), .second]) rfl ?_
                refine G_lload X0 hx (pc' := 40) rfl (hb hby d_textLen_38) rfl ?_
                refine G_ldc2 X0 hx (pc' := 43) rfl hown (mvT hZ (hw _ (List.mem_of_getElem? (i := 34) rfl))) (hb hby d_textLen_40) ?_
                refine G_lmul X0 hx (pc' := 44) rfl (hb hby d_textLen_43)  ?_
                rw [show ((-1000000 : Int64) * (10 : Int64)) = (-10000000 : Int64) from by decide]
                refine G_lstore X0 hx (pc' := 46) rfl (hb hby d_textLen_44) (L' := #[.val (.long v0), .second, .val (.long (-v0)), .second, .val (.int (7 : Int32)), .val (.long (-10000000 : Int64)), .second]) rfl ?_
                refine G_goto X0 hx (pc' := 21) (hb hby d_textLen_46)  (by decide) (by decide) ?_
                refine G_iload X0 hx (pc' := 23) rfl (hb hby d_textLen_21) rfl ?_
                refine G_bipush X0 hx (pc' := 25) rfl (hb hby d_textLen_23) (z := (18 : Int32)) rfl ?_
                refine G_icmpNo X0 hx (pc' := 28) rfl (hb hby d_textLen_25) (flt (by decide : ¬ ((18 : Int32) < (7 : Int32)))).2.2.1 ?_
                refine G_lloadN X0 hx (pc' := 29) rfl (hb hby d_textLen_28) rfl ?_
                refine G_lload X0 hx (pc' := 31) rfl (hb hby d_textLen_29) rfl ?_
                refine G_lcmp X0 hx (pc' := 32) rfl (hb hby d_textLen_31)  ?_
                by_cases hc32_26 : (-10000000 : Int64) < (-v0)
                · refine G_ifYes X0 hx (pc' := 49) (hb hby d_textLen_32) ((if0 _ _).trans (tlt ((lw_gt _ _).2 hc32_26)).2.2.1) (by decide) (by decide) ?_
                  refine G_lloadN X0 hx (pc' := 50) rfl (hb hby d_textLen_49) rfl ?_
                  refine G_lconst X0 hx (pc' := 51) rfl (hb hby d_textLen_50) (z := (0 : Int64)) rfl ?_
                  refine G_lcmp X0 hx (pc' := 52) rfl (hb hby d_textLen_51)  ?_
                  refine G_ifYes X0 hx (pc' := 62) (hb hby d_textLen_52) ((if0 _ _).trans (flt (fun q => hc3_1 ((lw_lt _ _).1 q))).2.1) (by decide) (by decide) ?_
                  refine G_iload X0 hx (pc' := 64) rfl (hb hby d_textLen_62) rfl ?_
                  refine Go.fin X0 hlk (v := some (.int (7 : Int32))) (fun h => by rw [Bd.returns] at h; cases h) (by decide) (by decide) ?_ (fun fs hr => retOut X0 hx Bd.returns rfl (Or.inl ⟨rfl, Or.inl rfl, _, rfl⟩) (hb hby d_textLen_64) hr)
                  show Q_textLen Z v0 h0 n0 _ s₁.heap _
                  rw [e0]
                  exact ⟨congrArg (fun z => some (Value.int z)) (Eq.symm ((if_neg hc3_1).trans ((if_neg hc32_20).trans ((if_neg hc32_21).trans ((if_neg hc32_22).trans ((if_neg hc32_23).trans ((if_neg hc32_24).trans ((if_neg hc32_25).trans ((if_pos hc32_26).trans rfl))))))))), N0, rfl⟩
                · refine G_ifNo X0 hx (pc' := 35) rfl (hb hby d_textLen_32) ((if0 _ _).trans (flt (fun q => hc32_26 ((lw_gt _ _).1 q))).2.2.1) ?_
                  refine G_iinc X0 hx (pc' := 38) rfl (hb hby d_textLen_35) rfl (z := (8 : Int32)) rfl (L' := #[.val (.long v0), .second, .val (.long (-v0)), .second, .val (.int (8 : Int32)), .val (.long (-10000000 : Int64)), .second]) rfl ?_
                  refine G_lload X0 hx (pc' := 40) rfl (hb hby d_textLen_38) rfl ?_
                  refine G_ldc2 X0 hx (pc' := 43) rfl hown (mvT hZ (hw _ (List.mem_of_getElem? (i := 34) rfl))) (hb hby d_textLen_40) ?_
                  refine G_lmul X0 hx (pc' := 44) rfl (hb hby d_textLen_43)  ?_
                  rw [show ((-10000000 : Int64) * (10 : Int64)) = (-100000000 : Int64) from by decide]
                  refine G_lstore X0 hx (pc' := 46) rfl (hb hby d_textLen_44) (L' := #[.val (.long v0), .second, .val (.long (-v0)), .second, .val (.int (8 : Int32)), .val (.long (-100000000 : Int64)), .second]) rfl ?_
                  refine G_goto X0 hx (pc' := 21) (hb hby d_textLen_46)  (by decide) (by decide) ?_
                  refine G_iload X0 hx (pc' := 23) rfl (hb hby d_textLen_21) rfl ?_
                  refine G_bipush X0 hx (pc' := 25) rfl (hb hby d_textLen_23) (z := (18 : Int32)) rfl ?_
                  refine G_icmpNo X0 hx (pc' := 28) rfl (hb hby d_textLen_25) (flt (by decide : ¬ ((18 : Int32) < (8 : Int32)))).2.2.1 ?_
                  refine G_lloadN X0 hx (pc' := 29) rfl (hb hby d_textLen_28) rfl ?_
                  refine G_lload X0 hx (pc' := 31) rfl (hb hby d_textLen_29) rfl ?_
                  refine G_lcmp X0 hx (pc' := 32) rfl (hb hby d_textLen_31)  ?_
                  by_cases hc32_27 : (-100000000 : Int64) < (-v0)
                  · refine G_ifYes X0 hx (pc' := 49) (hb hby d_textLen_32) ((if0 _ _).trans (tlt ((lw_gt _ _).2 hc32_27)).2.2.1) (by decide) (by decide) ?_
                    refine G_lloadN X0 hx (pc' := 50) rfl (hb hby d_textLen_49) rfl ?_
                    refine G_lconst X0 hx (pc' := 51) rfl (hb hby d_textLen_50) (z := (0 : Int64)) rfl ?_
                    refine G_lcmp X0 hx (pc' := 52) rfl (hb hby d_textLen_51)  ?_
                    refine G_ifYes X0 hx (pc' := 62) (hb hby d_textLen_52) ((if0 _ _).trans (flt (fun q => hc3_1 ((lw_lt _ _).1 q))).2.1) (by decide) (by decide) ?_
                    refine G_iload X0 hx (pc' := 64) rfl (hb hby d_textLen_62) rfl ?_
                    refine Go.fin X0 hlk (v := some (.int (8 : Int32))) (fun h => by rw [Bd.returns] at h; cases h) (by decide) (by decide) ?_ (fun fs hr => retOut X0 hx Bd.returns rfl (Or.inl ⟨rfl, Or.inl rfl, _, rfl⟩) (hb hby d_textLen_64) hr)
                    show Q_textLen Z v0 h0 n0 _ s₁.heap _
                    rw [e0]
                    exact ⟨congrArg (fun z => some (Value.int z)) (Eq.symm ((if_neg hc3_1).trans ((if_neg hc32_20).trans ((if_neg hc32_21).trans ((if_neg hc32_22).trans ((if_neg hc32_23).trans ((if_neg hc32_24).trans ((if_neg hc32_25).trans ((if_neg hc32_26).trans ((if_pos hc32_27).trans rfl)))))))))), N0, rfl⟩
                  · refine G_ifNo X0 hx (pc' := 35) rfl (hb hby d_textLen_32) ((if0 _ _).trans (flt (fun q => hc32_27 ((lw_gt _ _).1 q))).2.2.1) ?_
                    refine G_iinc X0 hx (pc' := 38) rfl (hb hby d_textLen_35) rfl (z := (9 : Int32)) rfl (L' := #[.val (.long v0), .second, .val (.long (-v0)), .second, .val (.int (9 : Int32)), .val (.long (-100000000 : Int64)), .second]) rfl ?_
                    refine G_lload X0 hx (pc' := 40) rfl (hb hby d_textLen_38) rfl ?_
                    refine G_ldc2 X0 hx (pc' := 43) rfl hown (mvT hZ (hw _ (List.mem_of_getElem? (i := 34) rfl))) (hb hby d_textLen_40) ?_
                    refine G_lmul X0 hx (pc' := 44) rfl (hb hby d_textLen_43)  ?_
                    rw [show ((-100000000 : Int64) * (10 : Int64)) = (-1000000000 : Int64) from by decide]
                    refine G_lstore X0 hx (pc' := 46) rfl (hb hby d_textLen_44) (L' := #[.val (.long v0), .second, .val (.long (-v0)), .second, .val (.int (9 : Int32)), .val (.long (-1000000000 : Int64)), .second]) rfl ?_
                    refine G_goto X0 hx (pc' := 21) (hb hby d_textLen_46)  (by decide) (by decide) ?_
                    refine G_iload X0 hx (pc' := 23) rfl (hb hby d_textLen_21) rfl ?_
                    refine G_bipush X0 hx (pc' := 25) rfl (hb hby d_textLen_23) (z := (18 : Int32)) rfl ?_
                    refine G_icmpNo X0 hx (pc' := 28) rfl (hb hby d_textLen_25) (flt (by decide : ¬ ((18 : Int32) < (9 : Int32)))).2.2.1 ?_
                    refine G_lloadN X0 hx (pc' := 29) rfl (hb hby d_textLen_28) rfl ?_
                    refine G_lload X0 hx (pc' := 31) rfl (hb hby d_textLen_29) rfl ?_
                    refine G_lcmp X0 hx (pc' := 32) rfl (hb hby d_textLen_31)  ?_
                    by_cases hc32_28 : (-1000000000 : Int64) < (-v0)
                    · refine G_ifYes X0 hx (pc' := 49) (hb hby d_textLen_32) ((if0 _ _).trans (tlt ((lw_gt _ _).2 hc32_28)).2.2.1) (by decide) (by decide) ?_
                      refine G_lloadN X0 hx (pc' := 50) rfl (hb hby d_textLen_49) rfl ?_
                      refine G_lconst X0 hx (pc' := 51) rfl (hb hby d_textLen_50) (z := (0 : Int64)) rfl ?_
                      refine G_lcmp X0 hx (pc' := 52) rfl (hb hby d_textLen_51)  ?_
                      refine G_ifYes X0 hx (pc' := 62) (hb hby d_textLen_52) ((if0 _ _).trans (flt (fun q => hc3_1 ((lw_lt _ _).1 q))).2.1) (by decide) (by decide) ?_
                      refine G_iload X0 hx (pc' := 64) rfl (hb hby d_textLen_62) rfl ?_
                      refine Go.fin X0 hlk (v := some (.int (9 : Int32))) (fun h => by rw [Bd.returns] at h; cases h) (by decide) (by decide) ?_ (fun fs hr => retOut X0 hx Bd.returns rfl (Or.inl ⟨rfl, Or.inl rfl, _, rfl⟩) (hb hby d_textLen_64) hr)
                      show Q_textLen Z v0 h0 n0 _ s₁.heap _
                      rw [e0]
                      exact ⟨congrArg (fun z => some (Value.int z)) (Eq.symm ((if_neg hc3_1).trans ((if_neg hc32_20).trans ((if_neg hc32_21).trans ((if_neg hc32_22).trans ((if_neg hc32_23).trans ((if_neg hc32_24).trans ((if_neg hc32_25).trans ((if_neg hc32_26).trans ((if_neg hc32_27).trans ((if_pos hc32_28).trans rfl))))))))))), N0, rfl⟩
                    · refine G_ifNo X0 hx (pc' := 35) rfl (hb hby d_textLen_32) ((if0 _ _).trans (flt (fun q => hc32_28 ((lw_gt _ _).1 q))).2.2.1) ?_
                      refine G_iinc X0 hx (pc' := 38) rfl (hb hby d_textLen_35) rfl (z := (10 : Int32)) rfl (L' := #[.val (.long v0), .second, .val (.long (-v0)), .second, .val (.int (10 : Int32)), .val (.long (-1000000000 : Int64)), .second]) rfl ?_
                      refine G_lload X0 hx (pc' := 40) rfl (hb hby d_textLen_38) rfl ?_
                      refine G_ldc2 X0 hx (pc' := 43) rfl hown (mvT hZ (hw _ (List.mem_of_getElem? (i := 34) rfl))) (hb hby d_textLen_40) ?_
                      refine G_lmul X0 hx (pc' := 44) rfl (hb hby d_textLen_43)  ?_
                      rw [show ((-1000000000 : Int64) * (10 : Int64)) = (-10000000000 : Int64) from by decide]
                      refine G_lstore X0 hx (pc' := 46) rfl (hb hby d_textLen_44) (L' := #[.val (.long v0), .second, .val (.long (-v0)), .second, .val (.int (10 : Int32)), .val (.long (-10000000000 : Int64)), .second]) rfl ?_
                      refine G_goto X0 hx (pc' := 21) (hb hby d_textLen_46)  (by decide) (by decide) ?_
                      refine G_iload X0 hx (pc' := 23) rfl (hb hby d_textLen_21) rfl ?_
                      refine G_bipush X0 hx (pc' := 25) rfl (hb hby d_textLen_23) (z := (18 : Int32)) rfl ?_
                      refine G_icmpNo X0 hx (pc' := 28) rfl (hb hby d_textLen_25) (flt (by decide : ¬ ((18 : Int32) < (10 : Int32)))).2.2.1 ?_
                      refine G_lloadN X0 hx (pc' := 29) rfl (hb hby d_textLen_28) rfl ?_
                      refine G_lload X0 hx (pc' := 31) rfl (hb hby d_textLen_29) rfl ?_
                      refine G_lcmp X0 hx (pc' := 32) rfl (hb hby d_textLen_31)  ?_
                      by_cases hc32_29 : (-10000000000 : Int64) < (-v0)
                      · refine G_ifYes X0 hx (pc' := 49) (hb hby d_textLen_32) ((if0 _ _).trans (tlt ((lw_gt _ _).2 hc32_29)).2.2.1) (by decide) (by decide) ?_
                        refine G_lloadN X0 hx (pc' := 50) rfl (hb hby d_textLen_49) rfl ?_
                        refine G_lconst X0 hx (pc' := 51) rfl (hb hby d_textLen_50) (z := (0 : Int64)) rfl ?_
                        refine G_lcmp X0 hx (pc' := 52) rfl (hb hby d_textLen_51)  ?_
                        refine G_ifYes X0 hx (pc' := 62) (hb hby d_textLen_52) ((if0 _ _).trans (flt (fun q => hc3_1 ((lw_lt _ _).1 q))).2.1) (by decide) (by decide) ?_
                        refine G_iload X0 hx (pc' := 64) rfl (hb hby d_textLen_62) rfl ?_
                        refine Go.fin X0 hlk (v := some (.int (10 : Int32))) (fun h => by rw [Bd.returns] at h; cases h) (by decide) (by decide) ?_ (fun fs hr => retOut X0 hx Bd.returns rfl (Or.inl ⟨rfl, Or.inl rfl, _, rfl⟩) (hb hby d_textLen_64) hr)
                        show Q_textLen Z v0 h0 n0 _ s₁.heap _
                        rw [e0]
                        exact ⟨congrArg (fun z => some (Value.int z)) (Eq.symm ((if_neg hc3_1).trans ((if_neg hc32_20).trans ((if_neg hc32_21).trans ((if_neg hc32_22).trans ((if_neg hc32_23).trans ((if_neg hc32_24).trans ((if_neg hc32_25).trans ((if_neg hc32_26).trans ((if_neg hc32_27).trans ((if_neg hc32_28).trans ((if_pos hc32_29).trans rfl)))))))))))), N0, rfl⟩
                      · refine G_ifNo X0 hx (pc' := 35) rfl (hb hby d_textLen_32) ((if0 _ _).trans (flt (fun q => hc32_29 ((lw_gt _ _).1 q))).2.2.1) ?_
                        refine G_iinc X0 hx (pc' := 38) rfl (hb hby d_textLen_35) rfl (z := (11 : Int32)) rfl (L' := #[.val (.long v0), .second, .val (.long (-v0)), .second, .val (.int (11 : Int32)), .val (.long (-10000000000 : Int64)), .second]) rfl ?_
                        refine G_lload X0 hx (pc' := 40) rfl (hb hby d_textLen_38) rfl ?_
                        refine G_ldc2 X0 hx (pc' := 43) rfl hown (mvT hZ (hw _ (List.mem_of_getElem? (i := 34) rfl))) (hb hby d_textLen_40) ?_
                        refine G_lmul X0 hx (pc' := 44) rfl (hb hby d_textLen_43)  ?_
                        rw [show ((-10000000000 : Int64) * (10 : Int64)) = (-100000000000 : Int64) from by decide]
                        refine G_lstore X0 hx (pc' := 46) rfl (hb hby d_textLen_44) (L' := #[.val (.long v0), .second, .val (.long (-v0)), .second, .val (.int (11 : Int32)), .val (.long (-100000000000 : Int64)), .second]) rfl ?_
                        refine G_goto X0 hx (pc' := 21) (hb hby d_textLen_46)  (by decide) (by decide) ?_
                        refine G_iload X0 hx (pc' := 23) rfl (hb hby d_textLen_21) rfl ?_
                        refine G_bipush X0 hx (pc' := 25) rfl (hb hby d_textLen_23) (z := (18 : Int32)) rfl ?_
                        refine G_icmpNo X0 hx (pc' := 28) rfl (hb hby d_textLen_25) (flt (by decide : ¬ ((18 : Int32) < (11 : Int32)))).2.2.1 ?_
                        refine G_lloadN X0 hx (pc' := 29) rfl (hb hby d_textLen_28) rfl ?_
                        refine G_lload X0 hx (pc' := 31) rfl (hb hby d_textLen_29) rfl ?_
                        refine G_lcmp X0 hx (pc' := 32) rfl (hb hby d_textLen_31)  ?_
                        by_cases hc32_30 : (-100000000000 : Int64) < (-v0)
                        · refine G_ifYes X0 hx (pc' := 49) (hb hby d_textLen_32) ((if0 _ _).trans (tlt ((lw_gt _ _).2 hc32_30)).2.2.1) (by decide) (by decide) ?_
                          refine G_lloadN X0 hx (pc' := 50) rfl (hb hby d_textLen_49) rfl ?_
                          refine G_lconst X0 hx (pc' := 51) rfl (hb hby d_textLen_50) (z := (0 : Int64)) rfl ?_
                          refine G_lcmp X0 hx (pc' := 52) rfl (hb hby d_textLen_51)  ?_
                          refine G_ifYes X0 hx (pc' := 62) (hb hby d_textLen_52) ((if0 _ _).trans (flt (fun q => hc3_1 ((lw_lt _ _).1 q))).2.1) (by decide) (by decide) ?_
                          refine G_iload X0 hx (pc' := 64) rfl (hb hby d_textLen_62) rfl ?_
                          refine Go.fin X0 hlk (v := some (.int (11 : Int32))) (fun h => by rw [Bd.returns] at h; cases h) (by decide) (by decide) ?_ (fun fs hr => retOut X0 hx Bd.returns rfl (Or.inl ⟨rfl, Or.inl rfl, _, rfl⟩) (hb hby d_textLen_64) hr)
                          show Q_textLen Z v0 h0 n0 _ s₁.heap _
                          rw [e0]
                          exact ⟨congrArg (fun z => some (Value.int z)) (Eq.symm ((if_neg hc3_1).trans ((if_neg hc32_20).trans ((if_neg hc32_21).trans ((if_neg hc32_22).trans ((if_neg hc32_23).trans ((if_neg hc32_24).trans ((if_neg hc32_25).trans ((if_neg hc32_26).trans ((if_neg hc32_27).trans ((if_neg hc32_28).trans ((if_neg hc32_29).trans ((if_pos hc32_30).trans rfl))))))))))))), N0, rfl⟩
                        · refine G_ifNo X0 hx (pc' := 35) rfl (hb hby d_textLen_32) ((if0 _ _).trans (flt (fun q => hc32_30 ((lw_gt _ _).1 q))).2.2.1) ?_
                          refine G_iinc X0 hx (pc' := 38) rfl (hb hby d_textLen_35) rfl (z := (12 : Int32)) rfl (L' := #[.val (.long v0), .second, .val (.long (-v0)), .second, .val (.int (12 : Int32)), .val (.long (-100000000000 : Int64)), .second]) rfl ?_
                          refine G_lload X0 hx (pc' := 40) rfl (hb hby d_textLen_38) rfl ?_
                          refine G_ldc2 X0 hx (pc' := 43) rfl hown (mvT hZ (hw _ (List.mem_of_getElem? (i := 34) rfl))) (hb hby d_textLen_40) ?_
                          refine G_lmul X0 hx (pc' := 44) rfl (hb hby d_textLen_43)  ?_
                          rw [show ((-100000000000 : Int64) * (10 : Int64)) = (-1000000000000 : Int64) from by decide]
                          refine G_lstore X0 hx (pc' := 46) rfl (hb hby d_textLen_44) (L' := #[.val (.long v0), .second, .val (.long (-v0)), .second, .val (.int (12 : Int32)), .val (.long (-1000000000000 : Int64)), .second]) rfl ?_
                          refine G_goto X0 hx (pc' := 21) (hb hby d_textLen_46)  (by decide) (by decide) ?_
                          refine G_iload X0 hx (pc' := 23) rfl (hb hby d_textLen_21) rfl ?_
                          refine G_bipush X0 hx (pc' := 25) rfl (hb hby d_textLen_23) (z := (18 : Int32)) rfl ?_
                          refine G_icmpNo X0 hx (pc' := 28) rfl (hb hby d_textLen_25) (flt (by decide : ¬ ((18 : Int32) < (12 : Int32)))).2.2.1 ?_
                          refine G_lloadN X0 hx (pc' := 29) rfl (hb hby d_textLen_28) rfl ?_
                          refine G_lload X0 hx (pc' := 31) rfl (hb hby d_textLen_29) rfl ?_
                          refine G_lcmp X0 hx (pc' := 32) rfl (hb hby d_textLen_31)  ?_
                          by_cases hc32_31 : (-1000000000000 : Int64) < (-v0)
                          · refine G_ifYes X0 hx (pc' := 49) (hb hby d_textLen_32) ((if0 _ _).trans (tlt ((lw_gt _ _).2 hc32_31)).2.2.1) (by decide) (by decide) ?_
                            refine G_lloadN X0 hx (pc' := 50) rfl (hb hby d_textLen_49) rfl ?_
                            refine G_lconst X0 hx (pc' := 51) rfl (hb hby d_textLen_50) (z := (0 : Int64)) rfl ?_
                            refine G_lcmp X0 hx (pc' := 52) rfl (hb hby d_textLen_51)  ?_
                            refine G_ifYes X0 hx (pc' := 62) (hb hby d_textLen_52) ((if0 _ _).trans (flt (fun q => hc3_1 ((lw_lt _ _).1 q))).2.1) (by decide) (by decide) ?_
                            refine G_iload X0 hx (pc' := 64) rfl (hb hby d_textLen_62) rfl ?_
                            refine Go.fin X0 hlk (v := some (.int (12 : Int32))) (fun h => by rw [Bd.returns] at h; cases h) (by decide) (by decide) ?_ (fun fs hr => retOut X0 hx Bd.returns rfl (Or.inl ⟨rfl, Or.inl rfl, _, rfl⟩) (hb hby d_textLen_64) hr)
                            show Q_textLen Z v0 h0 n0 _ s₁.heap _
                            rw [e0]
                            exact ⟨congrArg (fun z => some (Value.int z)) (Eq.symm ((if_neg hc3_1).trans ((if_neg hc32_20).trans ((if_neg hc32_21).trans ((if_neg hc32_22).trans ((if_neg hc32_23).trans ((if_neg hc32_24).trans ((if_neg hc32_25).trans ((if_neg hc32_26).trans ((if_neg hc32_27).trans ((if_neg hc32_28).trans ((if_neg hc32_29).trans ((if_neg hc32_30).trans ((if_pos hc32_31).trans rfl)))))))))))))), N0, rfl⟩
                          · refine G_ifNo X0 hx (pc' := 35) rfl (hb hby d_textLen_32) ((if0 _ _).trans (flt (fun q => hc32_31 ((lw_gt _ _).1 q))).2.2.1) ?_
                            refine G_iinc X0 hx (pc' := 38) rfl (hb hby d_textLen_35) rfl (z := (13 : Int32)) rfl (L' := #[.val (.long v0), .second, .val (.long (-v0)), .second, .val (.int (13 : Int32)), .val (.long (-1000000000000 : Int64)), .second]) rfl ?_
                            refine G_lload X0 hx (pc' := 40) rfl (hb hby d_textLen_38) rfl ?_
                            refine G_ldc2 X0 hx (pc' := 43) rfl hown (mvT hZ (hw _ (List.mem_of_getElem? (i := 34) rfl))) (hb hby d_textLen_40) ?_
                            refine G_lmul X0 hx (pc' := 44) rfl (hb hby d_textLen_43)  ?_
                            rw [show ((-1000000000000 : Int64) * (10 : Int64)) = (-10000000000000 : Int64) from by decide]
                            refine G_lstore X0 hx (pc' := 46) rfl (hb hby d_textLen_44) (L' := #[.val (.long v0), .second, .val (.long (-v0)), .second, .val (.int (13 : Int32)), .val (.long (-10000000000000 : Int64)), .second]) rfl ?_
                            refine G_goto X0 hx (pc' := 21) (hb hby d_textLen_46)  (by decide) (by decide) ?_
                            refine G_iload X0 hx (pc' := 23) rfl (hb hby d_textLen_21) rfl ?_
                            refine G_bipush X0 hx (pc' := 25) rfl (hb hby d_textLen_23) (z := (18 : Int32)) rfl ?_
                            refine G_icmpNo X0 hx (pc' := 28) rfl (hb hby d_textLen_25) (flt (by decide : ¬ ((18 : Int32) < (13 : Int32)))).2.2.1 ?_
                            refine G_lloadN X0 hx (pc' := 29) rfl (hb hby d_textLen_28) rfl ?_
                            refine G_lload X0 hx (pc' := 31) rfl (hb hby d_textLen_29) rfl ?_
                            refine G_lcmp X0 hx (pc' := 32) rfl (hb hby d_textLen_31)  ?_
                            by_cases hc32_32 : (-10000000000000 : Int64) < (-v0)
                            · refine G_ifYes X0 hx (pc' := 49) (hb hby d_textLen_32) ((if0 _ _).trans (tlt ((lw_gt _ _).2 hc32_32)).2.2.1) (by decide) (by decide) ?_
                              refine G_lloadN X0 hx (pc' := 50) rfl (hb hby d_textLen_49) rfl ?_
                              refine G_lconst X0 hx (pc' := 51) rfl (hb hby d_textLen_50) (z := (0 : Int64)) rfl ?_
                              refine G_lcmp X0 hx (pc' := 52) rfl (hb hby d_textLen_51)  ?_
                              refine G_ifYes X0 hx (pc' := 62) (hb hby d_textLen_52) ((if0 _ _).trans (flt (fun q => hc3_1 ((lw_lt _ _).1 q))).2.1) (by decide) (by decide) ?_
                              refine G_iload X0 hx (pc' := 64) rfl (hb hby d_textLen_62) rfl ?_
                              refine Go.fin X0 hlk (v := some (.int (13 : Int32))) (fun h => by rw [Bd.returns] at h; cases h) (by decide) (by decide) ?_ (fun fs hr => retOut X0 hx Bd.returns rfl (Or.inl ⟨rfl, Or.inl rfl, _, rfl⟩) (hb hby d_textLen_64) hr)
                              show Q_textLen Z v0 h0 n0 _ s₁.heap _
                              rw [e0]
                              exact ⟨congrArg (fun z => some (Value.int z)) (Eq.symm ((if_neg hc3_1).trans ((if_neg hc32_20).trans ((if_neg hc32_21).trans ((if_neg hc32_22).trans ((if_neg hc32_23).trans ((if_neg hc32_24).trans ((if_neg hc32_25).trans ((if_neg hc32_26).trans ((if_neg hc32_27).trans ((if_neg hc32_28).trans ((if_neg hc32_29).trans ((if_neg hc32_30).trans ((if_neg hc32_31).trans ((if_pos hc32_32).trans rfl))))))))))))))), N0, rfl⟩
                            · refine G_ifNo X0 hx (pc' := 35) rfl (hb hby d_textLen_32) ((if0 _ _).trans (flt (fun q => hc32_32 ((lw_gt _ _).1 q))).2.2.1) ?_
                              refine G_iinc X0 hx (pc' := 38) rfl (hb hby d_textLen_35) rfl (z := (14 : Int32)) rfl (L' := #[.val (.long v0), .second, .val (.long (-v0)), .second, .val (.int (14 : Int32)), .val (.long (-10000000000000 : Int64)), .second]) rfl ?_
                              refine G_lload X0 hx (pc' := 40) rfl (hb hby d_textLen_38) rfl ?_
                              refine G_ldc2 X0 hx (pc' := 43) rfl hown (mvT hZ (hw _ (List.mem_of_getElem? (i := 34) rfl))) (hb hby d_textLen_40) ?_
                              refine G_lmul X0 hx (pc' := 44) rfl (hb hby d_textLen_43)  ?_
                              rw [show ((-10000000000000 : Int64) * (10 : Int64)) = (-100000000000000 : Int64) from by decide]
                              refine G_lstore X0 hx (pc' := 46) rfl (hb hby d_textLen_44) (L' := #[.val (.long v0), .second, .val (.long (-v0)), .second, .val (.int (14 : Int32)), .val (.long (-100000000000000 : Int64)), .second]) rfl ?_
                              refine G_goto X0 hx (pc' := 21) (hb hby d_textLen_46)  (by decide) (by decide) ?_
                              refine G_iload X0 hx (pc' := 23) rfl (hb hby d_textLen_21) rfl ?_
                              refine G_bipush X0 hx (pc' := 25) rfl (hb hby d_textLen_23) (z := (18 : Int32)) rfl ?_
                              refine G_icmpNo X0 hx (pc' := 28) rfl (hb hby d_textLen_25) (flt (by decide : ¬ ((18 : Int32) < (14 : Int32)))).2.2.1 ?_
                              refine G_lloadN X0 hx (pc' := 29) rfl (hb hby d_textLen_28) rfl ?_
                              refine G_lload X0 hx (pc' := 31) rfl (hb hby d_textLen_29) rfl ?_
                              refine G_lcmp X0 hx (pc' := 32) rfl (hb hby d_textLen_31)  ?_
                              by_cases hc32_33 : (-100000000000000 : Int64) < (-v0)
                              · refine G_ifYes X0 hx (pc' := 49) (hb hby d_textLen_32) ((if0 _ _).trans (tlt ((lw_gt _ _).2 hc32_33)).2.2.1) (by decide) (by decide) ?_
                                refine G_lloadN X0 hx (pc' := 50) rfl (hb hby d_textLen_49) rfl ?_
                                refine G_lconst X0 hx (pc' := 51) rfl (hb hby d_textLen_50) (z := (0 : Int64)) rfl ?_
                                refine G_lcmp X0 hx (pc' := 52) rfl (hb hby d_textLen_51)  ?_
                                refine G_ifYes X0 hx (pc' := 62) (hb hby d_textLen_52) ((if0 _ _).trans (flt (fun q => hc3_1 ((lw_lt _ _).1 q))).2.1) (by decide) (by decide) ?_
                                refine G_iload X0 hx (pc' := 64) rfl (hb hby d_textLen_62) rfl ?_
                                refine Go.fin X0 hlk (v := some (.int (14 : Int32))) (fun h => by rw [Bd.returns] at h; cases h) (by decide) (by decide) ?_ (fun fs hr => retOut X0 hx Bd.returns rfl (Or.inl ⟨rfl, Or.inl rfl, _, rfl⟩) (hb hby d_textLen_64) hr)
                                show Q_textLen Z v0 h0 n0 _ s₁.heap _
                                rw [e0]
                                exact ⟨congrArg (fun z => some (Value.int z)) (Eq.symm ((if_neg hc3_1).trans ((if_neg hc32_20).trans ((if_neg hc32_21).trans ((if_neg hc32_22).trans ((if_neg hc32_23).trans ((if_neg hc32_24).trans ((if_neg hc32_25).trans ((if_neg hc32_26).trans ((if_neg hc32_27).trans ((if_neg hc32_28).trans ((if_neg hc32_29).trans ((if_neg hc32_30).trans ((if_neg hc32_31).trans ((if_neg hc32_32).trans ((if_pos hc32_33).trans rfl)))))))))))))))), N0, rfl⟩
                              · refine G_ifNo X0 hx (pc' := 35) rfl (hb hby d_textLen_32) ((if0 _ _).trans (flt (fun q => hc32_33 ((lw_gt _ _).1 q))).2.2.1) ?_
                                refine G_iinc X0 hx (pc' := 38) rfl (hb hby d_textLen_35) rfl (z := (15 : Int32)) rfl (L' := #[.val (.long v0), .second, .val (.long (-v0)), .second, .val (.int (15 : Int32)), .val (.long (-100000000000000 : Int64)), .second]) rfl ?_
                                refine G_lload X0 hx (pc' := 40) rfl (hb hby d_textLen_38) rfl ?_
                                refine G_ldc2 X0 hx (pc' := 43) rfl hown (mvT hZ (hw _ (List.mem_of_getElem? (i := 34) rfl))) (hb hby d_textLen_40) ?_
                                refine G_lmul X0 hx (pc' := 44) rfl (hb hby d_textLen_43)  ?_
                                rw [show ((-100000000000000 : Int64) * (10 : Int64)) = (-1000000000000000 : Int64) from by decide]
                                refine G_lstore X0 hx (pc' := 46) rfl (hb hby d_textLen_44) (L' := #[.val (.long v0), .second, .val (.long (-v0)), .second, .val (.int (15 : Int32)), .val (.long (-1000000000000000 : Int64)), .second]) rfl ?_
                                refine G_goto X0 hx (pc' := 21) (hb hby d_textLen_46)  (by decide) (by decide) ?_
                                refine G_iload X0 hx (pc' := 23) rfl (hb hby d_textLen_21) rfl ?_
                                refine G_bipush X0 hx (pc' := 25) rfl (hb hby d_textLen_23) (z := (18 : Int32)) rfl ?_
                                refine G_icmpNo X0 hx (pc' := 28) rfl (hb hby d_textLen_25) (flt (by decide : ¬ ((18 : Int32) < (15 : Int32)))).2.2.1 ?_
                                refine G_lloadN X0 hx (pc' := 29) rfl (hb hby d_textLen_28) rfl ?_
                                refine G_lload X0 hx (pc' := 31) rfl (hb hby d_textLen_29) rfl ?_
                                refine G_lcmp X0 hx (pc' := 32) rfl (hb hby d_textLen_31)  ?_
                                by_cases hc32_34 : (-1000000000000000 : Int64) < (-v0)
                                · refine G_ifYes X0 hx (pc' := 49) (hb hby d_textLen_32) ((if0 _ _).trans (tlt ((lw_gt _ _).2 hc32_34)).2.2.1) (by decide) (by decide) ?_
                                  refine G_lloadN X0 hx (pc' := 50) rfl (hb hby d_textLen_49) rfl ?_
                                  refine G_lconst X0 hx (pc' := 51) rfl (hb hby d_textLen_50) (z := (0 : Int64)) rfl ?_
                                  refine G_lcmp X0 hx (pc' := 52) rfl (hb hby d_textLen_51)  ?_
                                  refine G_ifYes X0 hx (pc' := 62) (hb hby d_textLen_52) ((if0 _ _).trans (flt (fun q => hc3_1 ((lw_lt _ _).1 q))).2.1) (by decide) (by decide) ?_
                                  refine G_iload X0 hx (pc' := 64) rfl (hb hby d_textLen_62) rfl ?_
                                  refine Go.fin X0 hlk (v := some (.int (15 : Int32))) (fun h => by rw [Bd.returns] at h; cases h) (by decide) (by decide) ?_ (fun fs hr => retOut X0 hx Bd.returns rfl (Or.inl ⟨rfl, Or.inl rfl, _, rfl⟩) (hb hby d_textLen_64) hr)
                                  show Q_textLen Z v0 h0 n0 _ s₁.heap _
                                  rw [e0]
                                  exact ⟨congrArg (fun z => some (Value.int z)) (Eq.symm ((if_neg hc3_1).trans ((if_neg hc32_20).trans ((if_neg hc32_21).trans ((if_neg hc32_22).trans ((if_neg hc32_23).trans ((if_neg hc32_24).trans ((if_neg hc32_25).trans ((if_neg hc32_26).trans ((if_neg hc32_27).trans ((if_neg hc32_28).trans ((if_neg hc32_29).trans ((if_neg hc32_30).trans ((if_neg hc32_31).trans ((if_neg hc32_32).trans ((if_neg hc32_33).trans ((if_pos hc32_34).trans rfl))))))))))))))))), N0, rfl⟩
                                · refine G_ifNo X0 hx (pc' := 35) rfl (hb hby d_textLen_32) ((if0 _ _).trans (flt (fun q => hc32_34 ((lw_gt _ _).1 q))).2.2.1) ?_
                                  refine G_iinc X0 hx (pc' := 38) rfl (hb hby d_textLen_35) rfl (z := (16 : Int32)) rfl (L' := #[.val (.long v0), .second, .val (.long (-v0)), .second, .val (.int (16 : Int32)), .val (.long (-1000000000000000 : Int64)), .second]) rfl ?_
                                  refine G_lload X0 hx (pc' := 40) rfl (hb hby d_textLen_38) rfl ?_
                                  refine G_ldc2 X0 hx (pc' := 43) rfl hown (mvT hZ (hw _ (List.mem_of_getElem? (i := 34) rfl))) (hb hby d_textLen_40) ?_
                                  refine G_lmul X0 hx (pc' := 44) rfl (hb hby d_textLen_43)  ?_
                                  rw [show ((-1000000000000000 : Int64) * (10 : Int64)) = (-10000000000000000 : Int64) from by decide]
                                  refine G_lstore X0 hx (pc' := 46) rfl (hb hby d_textLen_44) (L' := #[.val (.long v0), .second, .val (.long (-v0)), .second, .val (.int (16 : Int32)), .val (.long (-10000000000000000 : Int64)), .second]) rfl ?_
                                  refine G_goto X0 hx (pc' := 21) (hb hby d_textLen_46)  (by decide) (by decide) ?_
                                  refine G_iload X0 hx (pc' := 23) rfl (hb hby d_textLen_21) rfl ?_
                                  refine G_bipush X0 hx (pc' := 25) rfl (hb hby d_textLen_23) (z := (18 : Int32)) rfl ?_
                                  refine G_icmpNo X0 hx (pc' := 28) rfl (hb hby d_textLen_25) (flt (by decide : ¬ ((18 : Int32) < (16 : Int32)))).2.2.1 ?_
                                  refine G_lloadN X0 hx (pc' := 29) rfl (hb hby d_textLen_28) rfl ?_
                                  refine G_lload X0 hx (pc' := 31) rfl (hb hby d_textLen_29) rfl ?_
                                  refine G_lcmp X0 hx (pc' := 32) rfl (hb hby d_textLen_31)  ?_
                                  by_cases hc32_35 : (-10000000000000000 : Int64) < (-v0)
                                  · refine G_ifYes X0 hx (pc' := 49) (hb hby d_textLen_32) ((if0 _ _).trans (tlt ((lw_gt _ _).2 hc32_35)).2.2.1) (by decide) (by decide) ?_
                                    refine G_lloadN X0 hx (pc' := 50) rfl (hb hby d_textLen_49) rfl ?_
                                    refine G_lconst X0 hx (pc' := 51) rfl (hb hby d_textLen_50) (z := (0 : Int64)) rfl ?_
                                    refine G_lcmp X0 hx (pc' := 52) rfl (hb hby d_textLen_51)  ?_
                                    refine G_ifYes X0 hx (pc' := 62) (hb hby d_textLen_52) ((if0 _ _).trans (flt (fun q => hc3_1 ((lw_lt _ _).1 q))).2.1) (by decide) (by decide) ?_
                                    refine G_iload X0 hx (pc' := 64) rfl (hb hby d_textLen_62) rfl ?_
                                    refine Go.fin X0 hlk (v := some (.int (16 : Int32))) (fun h => by rw [Bd.returns] at h; cases h) (by decide) (by decide) ?_ (fun fs hr => retOut X0 hx Bd.returns rfl (Or.inl ⟨rfl, Or.inl rfl, _, rfl⟩) (hb hby d_textLen_64) hr)
                                    show Q_textLen Z v0 h0 n0 _ s₁.heap _
                                    rw [e0]
                                    exact ⟨congrArg (fun z => some (Value.int z)) (Eq.symm ((if_neg hc3_1).trans ((if_neg hc32_20).trans ((if_neg hc32_21).trans ((if_neg hc32_22).trans ((if_neg hc32_23).trans ((if_neg hc32_24).trans ((if_neg hc32_25).trans ((if_neg hc32_26).trans ((if_neg hc32_27).trans ((if_neg hc32_28).trans ((if_neg hc32_29).trans ((if_neg hc32_30).trans ((if_neg hc32_31).trans ((if_neg hc32_32).trans ((if_neg hc32_33).trans ((if_neg hc32_34).trans ((if_pos hc32_35).trans rfl)))))))))))))))))), N0, rfl⟩
                                  · refine G_ifNo X0 hx (pc' := 35) rfl (hb hby d_textLen_32) ((if0 _ _).trans (flt (fun q => hc32_35 ((lw_gt _ _).1 q))).2.2.1) ?_
                                    refine G_iinc X0 hx (pc' := 38) rfl (hb hby d_textLen_35) rfl (z := (17 : Int32)) rfl (L' := #[.val (.long v0), .second, .val (.long (-v0)), .second, .val (.int (17 : Int32)), .val (.long (-10000000000000000 : Int64)), .second]) rfl ?_
                                    refine G_lload X0 hx (pc' := 40) rfl (hb hby d_textLen_38) rfl ?_
                                    refine G_ldc2 X0 hx (pc' := 43) rfl hown (mvT hZ (hw _ (List.mem_of_getElem? (i := 34) rfl))) (hb hby d_textLen_40) ?_
                                    refine G_lmul X0 hx (pc' := 44) rfl (hb hby d_textLen_43)  ?_
                                    rw [show ((-10000000000000000 : Int64) * (10 : Int64)) = (-100000000000000000 : Int64) from by decide]
                                    refine G_lstore X0 hx (pc' := 46) rfl (hb hby d_textLen_44) (L' := #[.val (.long v0), .second, .val (.long (-v0)), .second, .val (.int (17 : Int32)), .val (.long (-100000000000000000 : Int64)), .second]) rfl ?_
                                    refine G_goto X0 hx (pc' := 21) (hb hby d_textLen_46)  (by decide) (by decide) ?_
                                    refine G_iload X0 hx (pc' := 23) rfl (hb hby d_textLen_21) rfl ?_
                                    refine G_bipush X0 hx (pc' := 25) rfl (hb hby d_textLen_23) (z := (18 : Int32)) rfl ?_
                                    refine G_icmpNo X0 hx (pc' := 28) rfl (hb hby d_textLen_25) (flt (by decide : ¬ ((18 : Int32) < (17 : Int32)))).2.2.1 ?_
                                    refine G_lloadN X0 hx (pc' := 29) rfl (hb hby d_textLen_28) rfl ?_
                                    refine G_lload X0 hx (pc' := 31) rfl (hb hby d_textLen_29) rfl ?_
                                    refine G_lcmp X0 hx (pc' := 32) rfl (hb hby d_textLen_31)  ?_
                                    by_cases hc32_36 : (-100000000000000000 : Int64) < (-v0)
                                    · refine G_ifYes X0 hx (pc' := 49) (hb hby d_textLen_32) ((if0 _ _).trans (tlt ((lw_gt _ _).2 hc32_36)).2.2.1) (by decide) (by decide) ?_
                                      refine G_lloadN X0 hx (pc' := 50) rfl (hb hby d_textLen_49) rfl ?_
                                      refine G_lconst X0 hx (pc' := 51) rfl (hb hby d_textLen_50) (z := (0 : Int64)) rfl ?_
                                      refine G_lcmp X0 hx (pc' := 52) rfl (hb hby d_textLen_51)  ?_
                                      refine G_ifYes X0 hx (pc' := 62) (hb hby d_textLen_52) ((if0 _ _).trans (flt (fun q => hc3_1 ((lw_lt _ _).1 q))).2.1) (by decide) (by decide) ?_
                                      refine G_iload X0 hx (pc' := 64) rfl (hb hby d_textLen_62) rfl ?_
                                      refine Go.fin X0 hlk (v := some (.int (17 : Int32))) (fun h => by rw [Bd.returns] at h; cases h) (by decide) (by decide) ?_ (fun fs hr => retOut X0 hx Bd.returns rfl (Or.inl ⟨rfl, Or.inl rfl, _, rfl⟩) (hb hby d_textLen_64) hr)
                                      show Q_textLen Z v0 h0 n0 _ s₁.heap _
                                      rw [e0]
                                      exact ⟨congrArg (fun z => some (Value.int z)) (Eq.symm ((if_neg hc3_1).trans ((if_neg hc32_20).trans ((if_neg hc32_21).trans ((if_neg hc32_22).trans ((if_neg hc32_23).trans ((if_neg hc32_24).trans ((if_neg hc32_25).trans ((if_neg hc32_26).trans ((if_neg hc32_27).trans ((if_neg hc32_28).trans ((if_neg hc32_29).trans ((if_neg hc32_30).trans ((if_neg hc32_31).trans ((if_neg hc32_32).trans ((if_neg hc32_33).trans ((if_neg hc32_34).trans ((if_neg hc32_35).trans ((if_pos hc32_36).trans rfl))))))))))))))))))), N0, rfl⟩
                                    · refine G_ifNo X0 hx (pc' := 35) rfl (hb hby d_textLen_32) ((if0 _ _).trans (flt (fun q => hc32_36 ((lw_gt _ _).1 q))).2.2.1) ?_
                                      refine G_iinc X0 hx (pc' := 38) rfl (hb hby d_textLen_35) rfl (z := (18 : Int32)) rfl (L' := #[.val (.long v0), .second, .val (.long (-v0)), .second, .val (.int (18 : Int32)), .val (.long (-100000000000000000 : Int64)), .second]) rfl ?_
                                      refine G_lload X0 hx (pc' := 40) rfl (hb hby d_textLen_38) rfl ?_
                                      refine G_ldc2 X0 hx (pc' := 43) rfl hown (mvT hZ (hw _ (List.mem_of_getElem? (i := 34) rfl))) (hb hby d_textLen_40) ?_
                                      refine G_lmul X0 hx (pc' := 44) rfl (hb hby d_textLen_43)  ?_
                                      rw [show ((-100000000000000000 : Int64) * (10 : Int64)) = (-1000000000000000000 : Int64) from by decide]
                                      refine G_lstore X0 hx (pc' := 46) rfl (hb hby d_textLen_44) (L' := #[.val (.long v0), .second, .val (.long (-v0)), .second, .val (.int (18 : Int32)), .val (.long (-1000000000000000000 : Int64)), .second]) rfl ?_
                                      refine G_goto X0 hx (pc' := 21) (hb hby d_textLen_46)  (by decide) (by decide) ?_
                                      refine G_iload X0 hx (pc' := 23) rfl (hb hby d_textLen_21) rfl ?_
                                      refine G_bipush X0 hx (pc' := 25) rfl (hb hby d_textLen_23) (z := (18 : Int32)) rfl ?_
                                      refine G_icmpNo X0 hx (pc' := 28) rfl (hb hby d_textLen_25) (flt (by decide : ¬ ((18 : Int32) < (18 : Int32)))).2.2.1 ?_
                                      refine G_lloadN X0 hx (pc' := 29) rfl (hb hby d_textLen_28) rfl ?_
                                      refine G_lload X0 hx (pc' := 31) rfl (hb hby d_textLen_29) rfl ?_
                                      refine G_lcmp X0 hx (pc' := 32) rfl (hb hby d_textLen_31)  ?_
                                      by_cases hc32_37 : (-1000000000000000000 : Int64) < (-v0)
                                      · refine G_ifYes X0 hx (pc' := 49) (hb hby d_textLen_32) ((if0 _ _).trans (tlt ((lw_gt _ _).2 hc32_37)).2.2.1) (by decide) (by decide) ?_
                                        refine G_lloadN X0 hx (pc' := 50) rfl (hb hby d_textLen_49) rfl ?_
                                        refine G_lconst X0 hx (pc' := 51) rfl (hb hby d_textLen_50) (z := (0 : Int64)) rfl ?_
                                        refine G_lcmp X0 hx (pc' := 52) rfl (hb hby d_textLen_51)  ?_
                                        refine G_ifYes X0 hx (pc' := 62) (hb hby d_textLen_52) ((if0 _ _).trans (flt (fun q => hc3_1 ((lw_lt _ _).1 q))).2.1) (by decide) (by decide) ?_
                                        refine G_iload X0 hx (pc' := 64) rfl (hb hby d_textLen_62) rfl ?_
                                        refine Go.fin X0 hlk (v := some (.int (18 : Int32))) (fun h => by rw [Bd.returns] at h; cases h) (by decide) (by decide) ?_ (fun fs hr => retOut X0 hx Bd.returns rfl (Or.inl ⟨rfl, Or.inl rfl, _, rfl⟩) (hb hby d_textLen_64) hr)
                                        show Q_textLen Z v0 h0 n0 _ s₁.heap _
                                        rw [e0]
                                        exact ⟨congrArg (fun z => some (Value.int z)) (Eq.symm ((if_neg hc3_1).trans ((if_neg hc32_20).trans ((if_neg hc32_21).trans ((if_neg hc32_22).trans ((if_neg hc32_23).trans ((if_neg hc32_24).trans ((if_neg hc32_25).trans ((if_neg hc32_26).trans ((if_neg hc32_27).trans ((if_neg hc32_28).trans ((if_neg hc32_29).trans ((if_neg hc32_30).trans ((if_neg hc32_31).trans ((if_neg hc32_32).trans ((if_neg hc32_33).trans ((if_neg hc32_34).trans ((if_neg hc32_35).trans ((if_neg hc32_36).trans ((if_pos hc32_37).trans rfl)))))))))))))))))))), N0, rfl⟩
                                      · refine G_ifNo X0 hx (pc' := 35) rfl (hb hby d_textLen_32) ((if0 _ _).trans (flt (fun q => hc32_37 ((lw_gt _ _).1 q))).2.2.1) ?_
                                        refine G_iinc X0 hx (pc' := 38) rfl (hb hby d_textLen_35) rfl (z := (19 : Int32)) rfl (L' := #[.val (.long v0), .second, .val (.long (-v0)), .second, .val (.int (19 : Int32)), .val (.long (-1000000000000000000 : Int64)), .second]) rfl ?_
                                        refine G_lload X0 hx (pc' := 40) rfl (hb hby d_textLen_38) rfl ?_
                                        refine G_ldc2 X0 hx (pc' := 43) rfl hown (mvT hZ (hw _ (List.mem_of_getElem? (i := 34) rfl))) (hb hby d_textLen_40) ?_
                                        refine G_lmul X0 hx (pc' := 44) rfl (hb hby d_textLen_43)  ?_
                                        rw [show ((-1000000000000000000 : Int64) * (10 : Int64)) = (8446744073709551616 : Int64) from by decide]
                                        refine G_lstore X0 hx (pc' := 46) rfl (hb hby d_textLen_44) (L' := #[.val (.long v0), .second, .val (.long (-v0)), .second, .val (.int (19 : Int32)), .val (.long (8446744073709551616 : Int64)), .second]) rfl ?_
                                        refine G_goto X0 hx (pc' := 21) (hb hby d_textLen_46)  (by decide) (by decide) ?_
                                        refine G_iload X0 hx (pc' := 23) rfl (hb hby d_textLen_21) rfl ?_
                                        refine G_bipush X0 hx (pc' := 25) rfl (hb hby d_textLen_23) (z := (18 : Int32)) rfl ?_
                                        refine G_icmpYes X0 hx (pc' := 49) (hb hby d_textLen_25) (tlt (by decide : (18 : Int32) < (19 : Int32))).2.2.1 (by decide) (by decide) ?_
                                        refine G_lloadN X0 hx (pc' := 50) rfl (hb hby d_textLen_49) rfl ?_
                                        refine G_lconst X0 hx (pc' := 51) rfl (hb hby d_textLen_50) (z := (0 : Int64)) rfl ?_
                                        refine G_lcmp X0 hx (pc' := 52) rfl (hb hby d_textLen_51)  ?_
                                        refine G_ifYes X0 hx (pc' := 62) (hb hby d_textLen_52) ((if0 _ _).trans (flt (fun q => hc3_1 ((lw_lt _ _).1 q))).2.1) (by decide) (by decide) ?_
                                        refine G_iload X0 hx (pc' := 64) rfl (hb hby d_textLen_62) rfl ?_
                                        refine Go.fin X0 hlk (v := some (.int (19 : Int32))) (fun h => by rw [Bd.returns] at h; cases h) (by decide) (by decide) ?_ (fun fs hr => retOut X0 hx Bd.returns rfl (Or.inl ⟨rfl, Or.inl rfl, _, rfl⟩) (hb hby d_textLen_64) hr)
                                        show Q_textLen Z v0 h0 n0 _ s₁.heap _
                                        rw [e0]
                                        exact ⟨congrArg (fun z => some (Value.int z)) (Eq.symm ((if_neg hc3_1).trans ((if_neg hc32_20).trans ((if_neg hc32_21).trans ((if_neg hc32_22).trans ((if_neg hc32_23).trans ((if_neg hc32_24).trans ((if_neg hc32_25).trans ((if_neg hc32_26).trans ((if_neg hc32_27).trans ((if_neg hc32_28).trans ((if_neg hc32_29).trans ((if_neg hc32_30).trans ((if_neg hc32_31).trans ((if_neg hc32_32).trans ((if_neg hc32_33).trans ((if_neg hc32_34).trans ((if_neg hc32_35).trans ((if_neg hc32_36).trans ((if_neg hc32_37).trans rfl)))))))))))))))))))), N0, rfl⟩
theorem own_a1 : (10 : Int64).toInt = 10 := by decide
theorem own_bb1 : (-10 : Int64).toInt = -10 := by decide
theorem own_e1 {z : Int} : (-10 < z) = (-z < 10) := propext ⟨fun h => by omega, fun h => by omega⟩
theorem own_g1 {z : Int} : (-10 < -z) = (z < 10) := propext ⟨fun h => by omega, fun h => by omega⟩
theorem own_a2 : (100 : Int64).toInt = 100 := by decide
theorem own_bb2 : (-100 : Int64).toInt = -100 := by decide
theorem own_e2 {z : Int} : (-100 < z) = (-z < 100) := propext ⟨fun h => by omega, fun h => by omega⟩
theorem own_g2 {z : Int} : (-100 < -z) = (z < 100) := propext ⟨fun h => by omega, fun h => by omega⟩
theorem own_a3 : (1000 : Int64).toInt = 1000 := by decide
theorem own_bb3 : (-1000 : Int64).toInt = -1000 := by decide
theorem own_e3 {z : Int} : (-1000 < z) = (-z < 1000) := propext ⟨fun h => by omega, fun h => by omega⟩
theorem own_g3 {z : Int} : (-1000 < -z) = (z < 1000) := propext ⟨fun h => by omega, fun h => by omega⟩
theorem own_a4 : (10000 : Int64).toInt = 10000 := by decide
theorem own_bb4 : (-10000 : Int64).toInt = -10000 := by decide
theorem own_e4 {z : Int} : (-10000 < z) = (-z < 10000) := propext ⟨fun h => by omega, fun h => by omega⟩
theorem own_g4 {z : Int} : (-10000 < -z) = (z < 10000) := propext ⟨fun h => by omega, fun h => by omega⟩
theorem own_a5 : (100000 : Int64).toInt = 100000 := by decide
theorem own_bb5 : (-100000 : Int64).toInt = -100000 := by decide
theorem own_e5 {z : Int} : (-100000 < z) = (-z < 100000) := propext ⟨fun h => by omega, fun h => by omega⟩
theorem own_g5 {z : Int} : (-100000 < -z) = (z < 100000) := propext ⟨fun h => by omega, fun h => by omega⟩
theorem own_a6 : (1000000 : Int64).toInt = 1000000 := by decide
theorem own_bb6 : (-1000000 : Int64).toInt = -1000000 := by decide
theorem own_e6 {z : Int} : (-1000000 < z) = (-z < 1000000) := propext ⟨fun h => by omega, fun h => by omega⟩
theorem own_g6 {z : Int} : (-1000000 < -z) = (z < 1000000) := propext ⟨fun h => by omega, fun h => by omega⟩
theorem own_a7 : (10000000 : Int64).toInt = 10000000 := by decide
theorem own_bb7 : (-10000000 : Int64).toInt = -10000000 := by decide
theorem own_e7 {z : Int} : (-10000000 < z) = (-z < 10000000) := propext ⟨fun h => by omega, fun h => by omega⟩
theorem own_g7 {z : Int} : (-10000000 < -z) = (z < 10000000) := propext ⟨fun h => by omega, fun h => by omega⟩
theorem own_a8 : (100000000 : Int64).toInt = 100000000 := by decide
theorem own_bb8 : (-100000000 : Int64).toInt = -100000000 := by decide
theorem own_e8 {z : Int} : (-100000000 < z) = (-z < 100000000) := propext ⟨fun h => by omega, fun h => by omega⟩
theorem own_g8 {z : Int} : (-100000000 < -z) = (z < 100000000) := propext ⟨fun h => by omega, fun h => by omega⟩
theorem own_a9 : (1000000000 : Int64).toInt = 1000000000 := by decide
theorem own_bb9 : (-1000000000 : Int64).toInt = -1000000000 := by decide
theorem own_e9 {z : Int} : (-1000000000 < z) = (-z < 1000000000) := propext ⟨fun h => by omega, fun h => by omega⟩
theorem own_g9 {z : Int} : (-1000000000 < -z) = (z < 1000000000) := propext ⟨fun h => by omega, fun h => by omega⟩
theorem own_a10 : (10000000000 : Int64).toInt = 10000000000 := by decide
theorem own_bb10 : (-10000000000 : Int64).toInt = -10000000000 := by decide
theorem own_e10 {z : Int} : (-10000000000 < z) = (-z < 10000000000) := propext ⟨fun h => by omega, fun h => by omega⟩
theorem own_g10 {z : Int} : (-10000000000 < -z) = (z < 10000000000) := propext ⟨fun h => by omega, fun h => by omega⟩
theorem own_a11 : (100000000000 : Int64).toInt = 100000000000 := by decide
theorem own_bb11 : (-100000000000 : Int64).toInt = -100000000000 := by decide
theorem own_e11 {z : Int} : (-100000000000 < z) = (-z < 100000000000) := propext ⟨fun h => by omega, fun h => by omega⟩
theorem own_g11 {z : Int} : (-100000000000 < -z) = (z < 100000000000) := propext ⟨fun h => by omega, fun h => by omega⟩
theorem own_a12 : (1000000000000 : Int64).toInt = 1000000000000 := by decide
theorem own_bb12 : (-1000000000000 : Int64).toInt = -1000000000000 := by decide
theorem own_e12 {z : Int} : (-1000000000000 < z) = (-z < 1000000000000) := propext ⟨fun h => by omega, fun h => by omega⟩
theorem own_g12 {z : Int} : (-1000000000000 < -z) = (z < 1000000000000) := propext ⟨fun h => by omega, fun h => by omega⟩
theorem own_a13 : (10000000000000 : Int64).toInt = 10000000000000 := by decide
theorem own_bb13 : (-10000000000000 : Int64).toInt = -10000000000000 := by decide
theorem own_e13 {z : Int} : (-10000000000000 < z) = (-z < 10000000000000) := propext ⟨fun h => by omega, fun h => by omega⟩
theorem own_g13 {z : Int} : (-10000000000000 < -z) = (z < 10000000000000) := propext ⟨fun h => by omega, fun h => by omega⟩
theorem own_a14 : (100000000000000 : Int64).toInt = 100000000000000 := by decide
theorem own_bb14 : (-100000000000000 : Int64).toInt = -100000000000000 := by decide
theorem own_e14 {z : Int} : (-100000000000000 < z) = (-z < 100000000000000) := propext ⟨fun h => by omega, fun h => by omega⟩
theorem own_g14 {z : Int} : (-100000000000000 < -z) = (z < 100000000000000) := propext ⟨fun h => by omega, fun h => by omega⟩
theorem own_a15 : (1000000000000000 : Int64).toInt = 1000000000000000 := by decide
theorem own_bb15 : (-1000000000000000 : Int64).toInt = -1000000000000000 := by decide
theorem own_e15 {z : Int} : (-1000000000000000 < z) = (-z < 1000000000000000) := propext ⟨fun h => by omega, fun h => by omega⟩
theorem own_g15 {z : Int} : (-1000000000000000 < -z) = (z < 1000000000000000) := propext ⟨fun h => by omega, fun h => by omega⟩
theorem own_a16 : (10000000000000000 : Int64).toInt = 10000000000000000 := by decide
theorem own_bb16 : (-10000000000000000 : Int64).toInt = -10000000000000000 := by decide
theorem own_e16 {z : Int} : (-10000000000000000 < z) = (-z < 10000000000000000) := propext ⟨fun h => by omega, fun h => by omega⟩
theorem own_g16 {z : Int} : (-10000000000000000 < -z) = (z < 10000000000000000) := propext ⟨fun h => by omega, fun h => by omega⟩
theorem own_a17 : (100000000000000000 : Int64).toInt = 100000000000000000 := by decide
theorem own_bb17 : (-100000000000000000 : Int64).toInt = -100000000000000000 := by decide
theorem own_e17 {z : Int} : (-100000000000000000 < z) = (-z < 100000000000000000) := propext ⟨fun h => by omega, fun h => by omega⟩
theorem own_g17 {z : Int} : (-100000000000000000 < -z) = (z < 100000000000000000) := propext ⟨fun h => by omega, fun h => by omega⟩
theorem own_a18 : (1000000000000000000 : Int64).toInt = 1000000000000000000 := by decide
theorem own_bb18 : (-1000000000000000000 : Int64).toInt = -1000000000000000000 := by decide
theorem own_e18 {z : Int} : (-1000000000000000000 < z) = (-z < 1000000000000000000) := propext ⟨fun h => by omega, fun h => by omega⟩
theorem own_g18 {z : Int} : (-1000000000000000000 < -z) = (z < 1000000000000000000) := propext ⟨fun h => by omega, fun h => by omega⟩
theorem own_main (w : Int64) : f_textLen w = if w = (-9223372036854775808 : Int64) then 20 else if w < (0 : Int64) then (f_digits (f_abs w)) + (1 : Int32) else (f_digits (f_abs w)) + (0 : Int32) := by
  by_cases hm : w = (-9223372036854775808 : Int64)
  · subst hm; decide +kernel
  · rw [if_neg hm]
    have r := rng64 w
    have hm2 : w.toInt ≠ -9223372036854775808 := fun z => hm (Int64.toInt_inj.mp (z.trans (by decide)))
    have ng : (-w).toInt = -w.toInt := by
      have k := c_lneg w
      have r2 := rng64 (-w)
      omega
    clear r hm2 hm
    unfold f_textLen f_digits f_abs
    by_cases hs : w < 0
    · simp only [if_pos hs]
      simp only [Int64.lt_iff_toInt_lt, ng, own_a1, own_bb1, own_a2, own_bb2, own_a3, own_bb3, own_a4, own_bb4, own_a5, own_bb5, own_a6, own_bb6, own_a7, own_bb7, own_a8, own_bb8, own_a9, own_bb9, own_a10, own_bb10, own_a11, own_bb11, own_a12, own_bb12, own_a13, own_bb13, own_a14, own_bb14, own_a15, own_bb15, own_a16, own_bb16, own_a17, own_bb17, own_a18, own_bb18]
      clear ng hs
      generalize w.toInt = z
      simp only [own_e1, own_e2, own_e3, own_e4, own_e5, own_e6, own_e7, own_e8, own_e9, own_e10, own_e11, own_e12, own_e13, own_e14, own_e15, own_e16, own_e17, own_e18]
      by_cases h1 : -z < 10
      · rw [if_pos h1, if_pos h1]; rfl
      rw [if_neg h1, if_neg h1]
      by_cases h2 : -z < 100
      · rw [if_pos h2, if_pos h2]; rfl
      rw [if_neg h2, if_neg h2]
      by_cases h3 : -z < 1000
      · rw [if_pos h3, if_pos h3]; rfl
      rw [if_neg h3, if_neg h3]
      by_cases h4 : -z < 10000
      · rw [if_pos h4, if_pos h4]; rfl
      rw [if_neg h4, if_neg h4]
      by_cases h5 : -z < 100000
      · rw [if_pos h5, if_pos h5]; rfl
      rw [if_neg h5, if_neg h5]
      by_cases h6 : -z < 1000000
      · rw [if_pos h6, if_pos h6]; rfl
      rw [if_neg h6, if_neg h6]
      by_cases h7 : -z < 10000000
      · rw [if_pos h7, if_pos h7]; rfl
      rw [if_neg h7, if_neg h7]
      by_cases h8 : -z < 100000000
      · rw [if_pos h8, if_pos h8]; rfl
      rw [if_neg h8, if_neg h8]
      by_cases h9 : -z < 1000000000
      · rw [if_pos h9, if_pos h9]; rfl
      rw [if_neg h9, if_neg h9]
      by_cases h10 : -z < 10000000000
      · rw [if_pos h10, if_pos h10]; rfl
      rw [if_neg h10, if_neg h10]
      by_cases h11 : -z < 100000000000
      · rw [if_pos h11, if_pos h11]; rfl
      rw [if_neg h11, if_neg h11]
      by_cases h12 : -z < 1000000000000
      · rw [if_pos h12, if_pos h12]; rfl
      rw [if_neg h12, if_neg h12]
      by_cases h13 : -z < 10000000000000
      · rw [if_pos h13, if_pos h13]; rfl
      rw [if_neg h13, if_neg h13]
      by_cases h14 : -z < 100000000000000
      · rw [if_pos h14, if_pos h14]; rfl
      rw [if_neg h14, if_neg h14]
      by_cases h15 : -z < 1000000000000000
      · rw [if_pos h15, if_pos h15]; rfl
      rw [if_neg h15, if_neg h15]
      by_cases h16 : -z < 10000000000000000
      · rw [if_pos h16, if_pos h16]; rfl
      rw [if_neg h16, if_neg h16]
      by_cases h17 : -z < 100000000000000000
      · rw [if_pos h17, if_pos h17]; rfl
      rw [if_neg h17, if_neg h17]
      by_cases h18 : -z < 1000000000000000000
      · rw [if_pos h18, if_pos h18]; rfl
      rw [if_neg h18, if_neg h18]
      rfl
    · simp only [if_neg hs]
      simp only [Int64.lt_iff_toInt_lt, ng, own_a1, own_bb1, own_a2, own_bb2, own_a3, own_bb3, own_a4, own_bb4, own_a5, own_bb5, own_a6, own_bb6, own_a7, own_bb7, own_a8, own_bb8, own_a9, own_bb9, own_a10, own_bb10, own_a11, own_bb11, own_a12, own_bb12, own_a13, own_bb13, own_a14, own_bb14, own_a15, own_bb15, own_a16, own_bb16, own_a17, own_bb17, own_a18, own_bb18]
      clear ng hs
      generalize w.toInt = z
      simp only [own_g1, own_g2, own_g3, own_g4, own_g5, own_g6, own_g7, own_g8, own_g9, own_g10, own_g11, own_g12, own_g13, own_g14, own_g15, own_g16, own_g17, own_g18]
      exact (Int32.add_zero _).symm
theorem own_t1 {w : Int64} (h : w = (-9223372036854775808 : Int64)) : f_textLen w = (20 : Int32) := by rw [own_main, if_pos h]
theorem own_t2 {w : Int64} (h : ¬ w = (-9223372036854775808 : Int64)) (h2 : w < (0 : Int64)) : f_textLen w = f_digits (f_abs w) + (1 : Int32) := by rw [own_main, if_neg h, if_pos h2]
theorem own_t3 {w : Int64} (h : ¬ w = (-9223372036854775808 : Int64)) (h2 : ¬ w < (0 : Int64)) : f_textLen w = f_digits (f_abs w) + (0 : Int32) := by rw [own_main, if_neg h, if_neg h2]
theorem pd_0 : parseMethodDescriptor "(J)I" = some ⟨[.long], some .int⟩ := by decide +kernel
theorem pd_1 : parseMethodDescriptor "(J)J" = some ⟨[.long], some .long⟩ := by decide +kernel
theorem ef_law (m : MethodId) (v0 : Int64) (v1 : Int32) (v2 : Int32) : entryFrame m #[(.long v0), (.int v1), (.int v2)] maxLocals = mkF m 0 #[.val (.long v0), .second, .val (.int v1), .val (.int v2), .unset, .unset, .unset, .unset, .unset, .unset] [] := by first | (simp [entryFrame, mkF, argsToLocals, Value.category, maxLocals]; done) | rfl
def Q_law (Z : State) (v0 : Int64) (v1 : Int32) (v2 : Int32) (h0 : Heap) (n0 : Nat) (v : Option Value) (h : Heap) (L : List Loc) : Prop := v = some (.int (1 : Int32)) ∧ Fr n0 L
set_option maxRecDepth 65536 in
set_option maxHeartbeats 40000000 in
theorem rm_law (l : Launch) (Z : State) (a0 : Array Value) (hw : ∀ d ∈ tables_1, d.before a0 Z = true) (ws : List Jvm.Cond) (v0 : Int64) (v1 : Int32) (v2 : Int32) (h0 : Heap) (n0 : Nat) (Z0 : n0 ≤ h0.size) :
    MetFree l x (head1 (Jvm.Cond.code x code maxLocals ret :: ws) room_1) (fun a U => a = #[(.long v0), (.int v1), (.int v2)] ∧ Z.Warmed39 U.vm ∧ U.heap = h0) (fun _ _ _ _ _ => True) (fun _ U o U' => ∃ v L, o = .returned v ∧ Q_law Z v0 v1 v2 h0 n0 v U'.heap L ∧ FrameEnd U o U' L room_1.cells room_1.slots) := by
  refine MetFree.of_bodySF (plainFor_of_name (by first | (simp [plainName, overriddenIn]; done) | decide +kernel)) hisR ?_
  intro p e s m args below meth c s₁ Bd hml0 hP hK
  obtain ⟨rfl, hZ, hh⟩ := hP
  have hx := Bd.exec
  have hby := Bd.bytes
  have hml : c.maxLocals = 10 := hml0
  have hown : s.vm.findClass "com/example/colonwise/colonwise/model/BencodeIntegerTextLengthPinLaw" = some m.cls := findClass_of_methodNamed Bd.named
  have hnm := (name_of_methodNamed Bd.named Bd.method).1
  have hlk : meth.locks = false := Bd.notSynchronized
  have X0 : Stand p l e room_1 s m #[(.long v0), (.int v1), (.int v2)] below meth c s₁ [] 0 0 := Stand.of_body Bd
  have e0 : s₁.heap = h0 := by rw [← hh, Bd.state]; rfl
  have N0 := Fr.nil n0
  refine Go.enter (Q := Q_law Z v0 v1 v2 h0 n0) (C := room_1.cells) (N := room_1.slots) (ef_law m v0 v1 v2) ?_
  show Go p e below s _ _ _ s₁ (mkF m 0 #[.val (.long v0), .second, .val (.int v1), .val (.int v2), .unset, .unset, .unset, .unset, .unset, .unset] [])
  refine G_bipush X0 hx (pc' := 2) rfl (hb hby at_0) (z := (19 : Int32)) rfl ?_
  obtain ⟨T1, h1, X1, e1, E1, B1, A1, st1⟩ := newAJ X0 hx hZ (hw _ (List.mem_of_getElem? (i := 0) rfl)) e0 (g := (mkF m 2 #[.val (.long v0), .second, .val (.int v1), .val (.int v2), .unset, .unset, .unset, .unset, .unset, .unset] [(.int (19 : Int32))])) rfl (hb hby at_2) rfl (by decide) (cap := 19) (by decide) (by decide) (by decide) (by decide) (ad := "[J") (by decide)
  obtain ⟨b1, q1⟩ : ∃ z, z = h0.size := ⟨_, rfl⟩
  rw [← q1] at A1 B1 st1
  refine Go.st st1 ?_
  have g_b1 : n0 ≤ b1 := Nat.le_trans Z0 (Nat.le_of_eq q1.symm)
  have sz_b1 : h0.size ≤ b1 := Nat.le_trans (Nat.le_refl _) (Nat.le_of_eq q1.symm)
  have A_b1 : AJ Z h1 b1 [(0 : Int64), (0 : Int64), (0 : Int64), (0 : Int64), (0 : Int64), (0 : Int64), (0 : Int64), (0 : Int64), (0 : Int64), (0 : Int64), (0 : Int64), (0 : Int64), (0 : Int64), (0 : Int64), (0 : Int64), (0 : Int64), (0 : Int64), (0 : Int64), (0 : Int64)] := A1
  have K_1 : Keep h0 h1 [] := (Keep.refl h0 []).ext E1
  have Z_1 : n0 ≤ h1.size := Nat.le_trans Z0 K_1.1
  clear E1 st1 A1
  show Go p e below s _ _ _ T1 (mkF m 4 #[.val (.long v0), .second, .val (.int v1), .val (.int v2), .unset, .unset, .unset, .unset, .unset, .unset] [(.ref b1)])
  refine G_dup X1 hx (pc' := 5) rfl (hb hby at_4) rfl ?_
  refine G_iconst X1 hx (pc' := 6) rfl (hb hby at_5) (z := (0 : Int32)) rfl ?_
  refine G_lconst X1 hx (pc' := 7) rfl (hb hby at_6) (z := (1 : Int64)) rfl ?_
  obtain ⟨T2, h2, X2, e2, W2, A2, st2⟩ := stAJL X1 hx hZ e1 A_b1 (j := (0 : Int32)) (by decide) (jn := 0) (by decide) (show 0 < 19 from by decide) (g := (mkF m 7 #[.val (.long v0), .second, .val (.int v1), .val (.int v2), .unset, .unset, .unset, .unset, .unset, .unset] [(.long (1 : Int64)), (.int (0 : Int32)), (.ref b1), (.ref b1)])) rfl rfl (hb hby at_7)
  refine Go.st st2 ?_
  have E_b1_2 := B1.wr W2
  have A_b1_2 : AJ Z h2 b1 [(1 : Int64), (0 : Int64), (0 : Int64), (0 : Int64), (0 : Int64), (0 : Int64), (0 : Int64), (0 : Int64), (0 : Int64), (0 : Int64), (0 : Int64), (0 : Int64), (0 : Int64), (0 : Int64), (0 : Int64), (0 : Int64), (0 : Int64), (0 : Int64), (0 : Int64)] := A2
  have K_2 : Keep h0 h2 [] := K_1.wr W2 (Or.inr sz_b1)
  have Z_2 : n0 ≤ h2.size := Nat.le_trans Z0 K_2.1
  have N2 := Fr.snoc X2 N0 g_b1
  clear B1 A_b1 W2 st2 A2
  obtain ⟨G2, Y2, M2⟩ : ∃ L, Stand p l e room_1 s m #[(.long v0), (.int v1), (.int v2)] below meth c T2 L 1 19 ∧ Fr n0 L := ⟨_, X2, N2⟩
  clear X2 N2
  show Go p e below s _ _ _ T2 (mkF m 8 #[.val (.long v0), .second, .val (.int v1), .val (.int v2), .unset, .unset, .unset, .unset, .unset, .unset] [(.ref b1)])
  refine G_dup Y2 hx (pc' := 9) rfl (hb hby at_8) rfl ?_
  refine G_iconst Y2 hx (pc' := 10) rfl (hb hby at_9) (z := (1 : Int32)) rfl ?_
  refine G_ldc2 Y2 hx (pc' := 13) rfl hown (mvT hZ (hw _ (List.mem_of_getElem? (i := 1) rfl))) (hb hby at_10) ?_
  obtain ⟨T3, h3, X3, e3, W3, A3, st3⟩ := stAJL Y2 hx hZ e2 A_b1_2 (j := (1 : Int32)) (by decide) (jn := 1) (by decide) (show 1 < 19 from by decide) (g := (mkF m 13 #[.val (.long v0), .second, .val (.int v1), .val (.int v2), .unset, .unset, .unset, .unset, .unset, .unset] [(.long (10 : Int64)), (.int (1 : Int32)), (.ref b1), (.ref b1)])) rfl rfl (hb hby at_13)
  refine Go.st st3 ?_
  have E_b1_3 := E_b1_2.wr W3
  have A_b1_3 : AJ Z h3 b1 [(1 : Int64), (10 : Int64), (0 : Int64), (0 : Int64), (0 : Int64), (0 : Int64), (0 : Int64), (0 : Int64), (0 : Int64), (0 : Int64), (0 : Int64), (0 : Int64), (0 : Int64), (0 : Int64), (0 : Int64), (0 : Int64), (0 : Int64), (0 : Int64), (0 : Int64)] := A3
  have K_3 : Keep h0 h3 [] := K_2.wr W3 (Or.inr sz_b1)
  have Z_3 : n0 ≤ h3.size := Nat.le_trans Z0 K_3.1
  have N3 := Fr.snoc X3 M2 g_b1
  clear E_b1_2 A_b1_2 W3 st3 A3
  obtain ⟨G3, Y3, M3⟩ : ∃ L, Stand p l e room_1 s m #[(.long v0), (.int v1), (.int v2)] below meth c T3 L 1 19 ∧ Fr n0 L := ⟨_, X3, N3⟩
  clear X3 N3
  show Go p e below s _ _ _ T3 (mkF m 14 #[.val (.long v0), .second, .val (.int v1), .val (.int v2), .unset, .unset, .unset, .unset, .unset, .unset] [(.ref b1)])
  refine G_dup Y3 hx (pc' := 15) rfl (hb hby at_14) rfl ?_
  refine G_iconst Y3 hx (pc' := 16) rfl (hb hby at_15) (z := (2 : Int32)) rfl ?_
  refine G_ldc2 Y3 hx (pc' := 19) rfl hown (mvT hZ (hw _ (List.mem_of_getElem? (i := 2) rfl))) (hb hby at_16) ?_
  obtain ⟨T4, h4, X4, e4, W4, A4, st4⟩ := stAJL Y3 hx hZ e3 A_b1_3 (j := (2 : Int32)) (by decide) (jn := 2) (by decide) (show 2 < 19 from by decide) (g := (mkF m 19 #[.val (.long v0), .second, .val (.int v1), .val (.int v2), .unset, .unset, .unset, .unset, .unset, .unset] [(.long (100 : Int64)), (.int (2 : Int32)), (.ref b1), (.ref b1)])) rfl rfl (hb hby at_19)
  refine Go.st st4 ?_
  have E_b1_4 := E_b1_3.wr W4
  have A_b1_4 : AJ Z h4 b1 [(1 : Int64), (10 : Int64), (100 : Int64), (0 : Int64), (0 : Int64), (0 : Int64), (0 : Int64), (0 : Int64), (0 : Int64), (0 : Int64), (0 : Int64), (0 : Int64), (0 : Int64), (0 : Int64), (0 : Int64), (0 : Int64), (0 : Int64), (0 : Int64), (0 : Int64)] := A4
  have K_4 : Keep h0 h4 [] := K_3.wr W4 (Or.inr sz_b1)
  have Z_4 : n0 ≤ h4.size := Nat.le_trans Z0 K_4.1
  have N4 := Fr.snoc X4 M3 g_b1
  clear E_b1_3 A_b1_3 W4 st4 A4
  obtain ⟨G4, Y4, M4⟩ : ∃ L, Stand p l e room_1 s m #[(.long v0), (.int v1), (.int v2)] below meth c T4 L 1 19 ∧ Fr n0 L := ⟨_, X4, N4⟩
  clear X4 N4
  show Go p e below s _ _ _ T4 (mkF m 20 #[.val (.long v0), .second, .val (.int v1), .val (.int v2), .unset, .unset, .unset, .unset, .unset, .unset] [(.ref b1)])
  refine G_dup Y4 hx (pc' := 21) rfl (hb hby at_20) rfl ?_
  refine G_iconst Y4 hx (pc' := 22) rfl (hb hby at_21) (z := (3 : Int32)) rfl ?_
  refine G_ldc2 Y4 hx (pc' := 25) rfl hown (mvT hZ (hw _ (List.mem_of_getElem? (i := 3) rfl))) (hb hby at_22) ?_
  obtain ⟨T5, h5, X5, e5, W5, A5, st5⟩ := stAJL Y4 hx hZ e4 A_b1_4 (j := (3 : Int32)) (by decide) (jn := 3) (by decide) (show 3 < 19 from by decide) (g := (mkF m 25 #[.val (.long v0), .second, .val (.int v1), .val (.int v2), .unset, .unset, .unset, .unset, .unset, .unset] [(.long (1000 : Int64)), (.int (3 : Int32)), (.ref b1), (.ref b1)])) rfl rfl (hb hby at_25)
  refine Go.st st5 ?_
  have E_b1_5 := E_b1_4.wr W5
  have A_b1_5 : AJ Z h5 b1 [(1 : Int64), (10 : Int64), (100 : Int64), (1000 : Int64), (0 : Int64), (0 : Int64), (0 : Int64), (0 : Int64), (0 : Int64), (0 : Int64), (0 : Int64), (0 : Int64), (0 : Int64), (0 : Int64), (0 : Int64), (0 : Int64), (0 : Int64), (0 : Int64), (0 : Int64)] := A5
  have K_5 : Keep h0 h5 [] := K_4.wr W5 (Or.inr sz_b1)
  have Z_5 : n0 ≤ h5.size := Nat.le_trans Z0 K_5.1
  have N5 := Fr.snoc X5 M4 g_b1
  clear E_b1_4 A_b1_4 W5 st5 A5
  obtain ⟨G5, Y5, M5⟩ : ∃ L, Stand p l e room_1 s m #[(.long v0), (.int v1), (.int v2)] below meth c T5 L 1 19 ∧ Fr n0 L := ⟨_, X5, N5⟩
  clear X5 N5
  show Go p e below s _ _ _ T5 (mkF m 26 #[.val (.long v0), .second, .val (.int v1), .val (.int v2), .unset, .unset, .unset, .unset, .unset, .unset] [(.ref b1)])
  refine G_dup Y5 hx (pc' := 27) rfl (hb hby at_26) rfl ?_
  refine G_iconst Y5 hx (pc' := 28) rfl (hb hby at_27) (z := (4 : Int32)) rfl ?_
  refine G_ldc2 Y5 hx (pc' := 31) rfl hown (mvT hZ (hw _ (List.mem_of_getElem? (i := 4) rfl))) (hb hby at_28) ?_
  obtain ⟨T6, h6, X6, e6, W6, A6, st6⟩ := stAJL Y5 hx hZ e5 A_b1_5 (j := (4 : Int32)) (by decide) (jn := 4) (by decide) (show 4 < 19 from by decide) (g := (mkF m 31 #[.val (.long v0), .second, .val (.int v1), .val (.int v2), .unset, .unset, .unset, .unset, .unset, .unset] [(.long (10000 : Int64)), (.int (4 : Int32)), (.ref b1), (.ref b1)])) rfl rfl (hb hby at_31)
  refine Go.st st6 ?_
  have E_b1_6 := E_b1_5.wr W6
  have A_b1_6 : AJ Z h6 b1 [(1 : Int64), (10 : Int64), (100 : Int64), (1000 : Int64), (10000 : Int64), (0 : Int64), (0 : Int64), (0 : Int64), (0 : Int64), (0 : Int64), (0 : Int64), (0 : Int64), (0 : Int64), (0 : Int64), (0 : Int64), (0 : Int64), (0 : Int64), (0 : Int64), (0 : Int64)] := A6
  have K_6 : Keep h0 h6 [] := K_5.wr W6 (Or.inr sz_b1)
  have Z_6 : n0 ≤ h6.size := Nat.le_trans Z0 K_6.1
  have N6 := Fr.snoc X6 M5 g_b1
  clear E_b1_5 A_b1_5 W6 st6 A6
  obtain ⟨G6, Y6, M6⟩ : ∃ L, Stand p l e room_1 s m #[(.long v0), (.int v1), (.int v2)] below meth c T6 L 1 19 ∧ Fr n0 L := ⟨_, X6, N6⟩
  clear X6 N6
  show Go p e below s _ _ _ T6 (mkF m 32 #[.val (.long v0), .second, .val (.int v1), .val (.int v2), .unset, .unset, .unset, .unset, .unset, .unset] [(.ref b1)])
  refine G_dup Y6 hx (pc' := 33) rfl (hb hby at_32) rfl ?_
  refine G_iconst Y6 hx (pc' := 34) rfl (hb hby at_33) (z := (5 : Int32)) rfl ?_
  refine G_ldc2 Y6 hx (pc' := 37) rfl hown (mvT hZ (hw _ (List.mem_of_getElem? (i := 5) rfl))) (hb hby at_34) ?_
  obtain ⟨T7, h7, X7, e7, W7, A7, st7⟩ := stAJL Y6 hx hZ e6 A_b1_6 (j := (5 : Int32)) (by decide) (jn := 5) (by decide) (show 5 < 19 from by decide) (g := (mkF m 37 #[.val (.long v0), .second, .val (.int v1), .val (.int v2), .unset, .unset, .unset, .unset, .unset, .unset] [(.long (100000 : Int64)), (.int (5 : Int32)), (.ref b1), (.ref b1)])) rfl rfl (hb hby at_37)
  refine Go.st st7 ?_
  have E_b1_7 := E_b1_6.wr W7
  have A_b1_7 : AJ Z h7 b1 [(1 : Int64), (10 : Int64), (100 : Int64), (1000 : Int64), (10000 : Int64), (100000 : Int64), (0 : Int64), (0 : Int64), (0 : Int64), (0 : Int64), (0 : Int64), (0 : Int64), (0 : Int64), (0 : Int64), (0 : Int64), (0 : Int64), (0 : Int64), (0 : Int64), (0 : Int64)] := A7
  have K_7 : Keep h0 h7 [] := K_6.wr W7 (Or.inr sz_b1)
  have Z_7 : n0 ≤ h7.size := Nat.le_trans Z0 K_7.1
  have N7 := Fr.snoc X7 M6 g_b1
  clear E_b1_6 A_b1_6 W7 st7 A7
  obtain ⟨G7, Y7, M7⟩ : ∃ L, Stand p l e room_1 s m #[(.long v0), (.int v1), (.int v2)] below meth c T7 L 1 19 ∧ Fr n0 L := ⟨_, X7, N7⟩
  clear X7 N7
  show Go p e below s _ _ _ T7 (mkF m 38 #[.val (.long v0), .second, .val (.int v1), .val (.int v2), .unset, .unset, .unset, .unset, .unset, .unset] [(.ref b1)])
  refine G_dup Y7 hx (pc' := 39) rfl (hb hby at_38) rfl ?_
  refine G_bipush Y7 hx (pc' := 41) rfl (hb hby at_39) (z := (6 : Int32)) rfl ?_
  refine G_ldc2 Y7 hx (pc' := 44) rfl hown (mvT hZ (hw _ (List.mem_of_getElem? (i := 6) rfl))) (hb hby at_41) ?_
  obtain ⟨T8, h8, X8, e8, W8, A8, st8⟩ := stAJL Y7 hx hZ e7 A_b1_7 (j := (6 : Int32)) (by decide) (jn := 6) (by decide) (show 6 < 19 from by decide) (g := (mkF m 44 #[.val (.long v0), .second, .val (.int v1), .val (.int v2), .unset, .unset, .unset, .unset, .unset, .unset] [(.long (1000000 : Int64)), (.int (6 : Int32)), (.ref b1), (.ref b1)])) rfl rfl (hb hby at_44)
  refine Go.st st8 ?_
  have E_b1_8 := E_b1_7.wr W8
  have A_b1_8 : AJ Z h8 b1 [(1 : Int64), (10 : Int64), (100 : Int64), (1000 : Int64), (10000 : Int64), (100000 : Int64), (1000000 : Int64), (0 : Int64), (0 : Int64), (0 : Int64), (0 : Int64), (0 : Int64), (0 : Int64), (0 : Int64), (0 : Int64), (0 : Int64), (0 : Int64), (0 : Int64), (0 : Int64)] := A8
  have K_8 : Keep h0 h8 [] := K_7.wr W8 (Or.inr sz_b1)
  have Z_8 : n0 ≤ h8.size := Nat.le_trans Z0 K_8.1
  have N8 := Fr.snoc X8 M7 g_b1
  clear E_b1_7 A_b1_7 W8 st8 A8
  obtain ⟨G8, Y8, M8⟩ : ∃ L, Stand p l e room_1 s m #[(.long v0), (.int v1), (.int v2)] below meth c T8 L 1 19 ∧ Fr n0 L := ⟨_, X8, N8⟩
  clear X8 N8
  show Go p e below s _ _ _ T8 (mkF m 45 #[.val (.long v0), .second, .val (.int v1), .val (.int v2), .unset, .unset, .unset, .unset, .unset, .unset] [(.ref b1)])
  refine G_dup Y8 hx (pc' := 46) rfl (hb hby at_45) rfl ?_
  refine G_bipush Y8 hx (pc' := 48) rfl (hb hby at_46) (z := (7 : Int32)) rfl ?_
  refine G_ldc2 Y8 hx (pc' := 51) rfl hown (mvT hZ (hw _ (List.mem_of_getElem? (i := 7) rfl))) (hb hby at_48) ?_
  obtain ⟨T9, h9, X9, e9, W9, A9, st9⟩ := stAJL Y8 hx hZ e8 A_b1_8 (j := (7 : Int32)) (by decide) (jn := 7) (by decide) (show 7 < 19 from by decide) (g := (mkF m 51 #[.val (.long v0), .second, .val (.int v1), .val (.int v2), .unset, .unset, .unset, .unset, .unset, .unset] [(.long (10000000 : Int64)), (.int (7 : Int32)), (.ref b1), (.ref b1)])) rfl rfl (hb hby at_51)
  refine Go.st st9 ?_
  have E_b1_9 := E_b1_8.wr W9
  have A_b1_9 : AJ Z h9 b1 [(1 : Int64), (10 : Int64), (100 : Int64), (1000 : Int64), (10000 : Int64), (100000 : Int64), (1000000 : Int64), (10000000 : Int64), (0 : Int64), (0 : Int64), (0 : Int64), (0 : Int64), (0 : Int64), (0 : Int64), (0 : Int64), (0 : Int64), (0 : Int64), (0 : Int64), (0 : Int64)] := A9
  have K_9 : Keep h0 h9 [] := K_8.wr W9 (Or.inr sz_b1)
  have Z_9 : n0 ≤ h9.size := Nat.le_trans Z0 K_9.1
  have N9 := Fr.snoc X9 M8 g_b1
  clear E_b1_8 A_b1_8 W9 st9 A9
  obtain ⟨G9, Y9, M9⟩ : ∃ L, Stand p l e room_1 s m #[(.long v0), (.int v1), (.int v2)] below meth c T9 L 1 19 ∧ Fr n0 L := ⟨_, X9, N9⟩
  clear X9 N9
  show Go p e below s _ _ _ T9 (mkF m 52 #[.val (.long v0), .second, .val (.int v1), .val (.int v2), .unset, .unset, .unset, .unset, .unset, .unset] [(.ref b1)])
  refine G_dup Y9 hx (pc' := 53) rfl (hb hby at_52) rfl ?_
  refine G_bipush Y9 hx (pc' := 55) rfl (hb hby at_53) (z := (8 : Int32)) rfl ?_
  refine G_ldc2 Y9 hx (pc' := 58) rfl hown (mvT hZ (hw _ (List.mem_of_getElem? (i := 8) rfl))) (hb hby at_55) ?_
  obtain ⟨T10, h10, X10, e10, W10, A10, st10⟩ := stAJL Y9 hx hZ e9 A_b1_9 (j := (8 : Int32)) (by decide) (jn := 8) (by decide) (show 8 < 19 from by decide) (g := (mkF m 58 #[.val (.long v0), .second, .val (.int v1), .val (.int v2), .unset, .unset, .unset, .unset, .unset, .unset] [(.long (100000000 : Int64)), (.int (8 : Int32)), (.ref b1), (.ref b1)])) rfl rfl (hb hby at_58)
  refine Go.st st10 ?_
  have E_b1_10 := E_b1_9.wr W10
  have A_b1_10 : AJ Z h10 b1 [(1 : Int64), (10 : Int64), (100 : Int64), (1000 : Int64), (10000 : Int64), (100000 : Int64), (1000000 : Int64), (10000000 : Int64), (100000000 : Int64), (0 : Int64), (0 : Int64), (0 : Int64), (0 : Int64), (0 : Int64), (0 : Int64), (0 : Int64), (0 : Int64), (0 : Int64), (0 : Int64)] := A10
  have K_10 : Keep h0 h10 [] := K_9.wr W10 (Or.inr sz_b1)
  have Z_10 : n0 ≤ h10.size := Nat.le_trans Z0 K_10.1
  have N10 := Fr.snoc X10 M9 g_b1
  clear E_b1_9 A_b1_9 W10 st10 A10
  obtain ⟨G10, Y10, M10⟩ : ∃ L, Stand p l e room_1 s m #[(.long v0), (.int v1), (.int v2)] below meth c T10 L 1 19 ∧ Fr n0 L := ⟨_, X10, N10⟩
  clear X10 N10
  show Go p e below s _ _ _ T10 (mkF m 59 #[.val (.long v0), .second, .val (.int v1), .val (.int v2), .unset, .unset, .unset, .unset, .unset, .unset] [(.ref b1)])
  refine G_dup Y10 hx (pc' := 60) rfl (hb hby at_59) rfl ?_
  refine G_bipush Y10 hx (pc' := 62) rfl (hb hby at_60) (z := (9 : Int32)) rfl ?_
  refine G_ldc2 Y10 hx (pc' := 65) rfl hown (mvT hZ (hw _ (List.mem_of_getElem? (i := 9) rfl))) (hb hby at_62) ?_
  obtain ⟨T11, h11, X11, e11, W11, A11, st11⟩ := stAJL Y10 hx hZ e10 A_b1_10 (j := (9 : Int32)) (by decide) (jn := 9) (by decide) (show 9 < 19 from by decide) (g := (mkF m 65 #[.val (.long v0), .second, .val (.int v1), .val (.int v2), .unset, .unset, .unset, .unset, .unset, .unset] [(.long (1000000000 : Int64)), (.int (9 : Int32)), (.ref b1), (.ref b1)])) rfl rfl (hb hby at_65)
  refine Go.st st11 ?_
  have E_b1_11 := E_b1_10.wr W11
  have A_b1_11 : AJ Z h11 b1 [(1 : Int64), (10 : Int64), (100 : Int64), (1000 : Int64), (10000 : Int64), (100000 : Int64), (1000000 : Int64), (10000000 : Int64), (100000000 : Int64), (1000000000 : Int64), (0 : Int64), (0 : Int64), (0 : Int64), (0 : Int64), (0 : Int64), (0 : Int64), (0 : Int64), (0 : Int64), (0 : Int64)] := A11
  have K_11 : Keep h0 h11 [] := K_10.wr W11 (Or.inr sz_b1)
  have Z_11 : n0 ≤ h11.size := Nat.le_trans Z0 K_11.1
  have N11 := Fr.snoc X11 M10 g_b1
  clear E_b1_10 A_b1_10 W11 st11 A11
  obtain ⟨G11, Y11, M11⟩ : ∃ L, Stand p l e room_1 s m #[(.long v0), (.int v1), (.int v2)] below meth c T11 L 1 19 ∧ Fr n0 L := ⟨_, X11, N11⟩
  clear X11 N11
  show Go p e below s _ _ _ T11 (mkF m 66 #[.val (.long v0), .second, .val (.int v1), .val (.int v2), .unset, .unset, .unset, .unset, .unset, .unset] [(.ref b1)])
  refine G_dup Y11 hx (pc' := 67) rfl (hb hby at_66) rfl ?_
  refine G_bipush Y11 hx (pc' := 69) rfl (hb hby at_67) (z := (10 : Int32)) rfl ?_
  refine G_ldc2 Y11 hx (pc' := 72) rfl hown (mvT hZ (hw _ (List.mem_of_getElem? (i := 10) rfl))) (hb hby at_69) ?_
  obtain ⟨T12, h12, X12, e12, W12, A12, st12⟩ := stAJL Y11 hx hZ e11 A_b1_11 (j := (10 : Int32)) (by decide) (jn := 10) (by decide) (show 10 < 19 from by decide) (g := (mkF m 72 #[.val (.long v0), .second, .val (.int v1), .val (.int v2), .unset, .unset, .unset, .unset, .unset, .unset] [(.long (10000000000 : Int64)), (.int (10 : Int32)), (.ref b1), (.ref b1)])) rfl rfl (hb hby at_72)
  refine Go.st st12 ?_
  have E_b1_12 := E_b1_11.wr W12
  have A_b1_12 : AJ Z h12 b1 [(1 : Int64), (10 : Int64), (100 : Int64), (1000 : Int64), (10000 : Int64), (100000 : Int64), (1000000 : Int64), (10000000 : Int64), (100000000 : Int64), (1000000000 : Int64), (10000000000 : Int64), (0 : Int64), (0 : Int64), (0 : Int64), (0 : Int64), (0 : Int64), (0 : Int64), (0 : Int64), (0 : Int64)] := A12
  have K_12 : Keep h0 h12 [] := K_11.wr W12 (Or.inr sz_b1)
  have Z_12 : n0 ≤ h12.size := Nat.le_trans Z0 K_12.1
  have N12 := Fr.snoc X12 M11 g_b1
  clear E_b1_11 A_b1_11 W12 st12 A12
  obtain ⟨G12, Y12, M12⟩ : ∃ L, Stand p l e room_1 s m #[(.long v0), (.int v1), (.int v2)] below meth c T12 L 1 19 ∧ Fr n0 L := ⟨_, X12, N12⟩
  clear X12 N12
  show Go p e below s _ _ _ T12 (mkF m 73 #[.val (.long v0), .second, .val (.int v1), .val (.int v2), .unset, .unset, .unset, .unset, .unset, .unset] [(.ref b1)])
  refine G_dup Y12 hx (pc' := 74) rfl (hb hby at_73) rfl ?_
  refine G_bipush Y12 hx (pc' := 76) rfl (hb hby at_74) (z := (11 : Int32)) rfl ?_
  refine G_ldc2 Y12 hx (pc' := 79) rfl hown (mvT hZ (hw _ (List.mem_of_getElem? (i := 11) rfl))) (hb hby at_76) ?_
  obtain ⟨T13, h13, X13, e13, W13, A13, st13⟩ := stAJL Y12 hx hZ e12 A_b1_12 (j := (11 : Int32)) (by decide) (jn := 11) (by decide) (show 11 < 19 from by decide) (g := (mkF m 79 #[.val (.long v0), .second, .val (.int v1), .val (.int v2), .unset, .unset, .unset, .unset, .unset, .unset] [(.long (100000000000 : Int64)), (.int (11 : Int32)), (.ref b1), (.ref b1)])) rfl rfl (hb hby at_79)
  refine Go.st st13 ?_
  have E_b1_13 := E_b1_12.wr W13
  have A_b1_13 : AJ Z h13 b1 [(1 : Int64), (10 : Int64), (100 : Int64), (1000 : Int64), (10000 : Int64), (100000 : Int64), (1000000 : Int64), (10000000 : Int64), (100000000 : Int64), (1000000000 : Int64), (10000000000 : Int64), (100000000000 : Int64), (0 : Int64), (0 : Int64), (0 : Int64), (0 : Int64), (0 : Int64), (0 : Int64), (0 : Int64)] := A13
  have K_13 : Keep h0 h13 [] := K_12.wr W13 (Or.inr sz_b1)
  have Z_13 : n0 ≤ h13.size := Nat.le_trans Z0 K_13.1
  have N13 := Fr.snoc X13 M12 g_b1
  clear E_b1_12 A_b1_12 W13 st13 A13
  obtain ⟨G13, Y13, M13⟩ : ∃ L, Stand p l e room_1 s m #[(.long v0), (.int v1), (.int v2)] below meth c T13 L 1 19 ∧ Fr n0 L := ⟨_, X13, N13⟩
  clear X13 N13
  show Go p e below s _ _ _ T13 (mkF m 80 #[.val (.long v0), .second, .val (.int v1), .val (.int v2), .unset, .unset, .unset, .unset, .unset, .unset] [(.ref b1)])
  refine G_dup Y13 hx (pc' := 81) rfl (hb hby at_80) rfl ?_
  refine G_bipush Y13 hx (pc' := 83) rfl (hb hby at_81) (z := (12 : Int32)) rfl ?_
  refine G_ldc2 Y13 hx (pc' := 86) rfl hown (mvT hZ (hw _ (List.mem_of_getElem? (i := 12) rfl))) (hb hby at_83) ?_
  obtain ⟨T14, h14, X14, e14, W14, A14, st14⟩ := stAJL Y13 hx hZ e13 A_b1_13 (j := (12 : Int32)) (by decide) (jn := 12) (by decide) (show 12 < 19 from by decide) (g := (mkF m 86 #[.val (.long v0), .second, .val (.int v1), .val (.int v2), .unset, .unset, .unset, .unset, .unset, .unset] [(.long (1000000000000 : Int64)), (.int (12 : Int32)), (.ref b1), (.ref b1)])) rfl rfl (hb hby at_86)
  refine Go.st st14 ?_
  have E_b1_14 := E_b1_13.wr W14
  have A_b1_14 : AJ Z h14 b1 [(1 : Int64), (10 : Int64), (100 : Int64), (1000 : Int64), (10000 : Int64), (100000 : Int64), (1000000 : Int64), (10000000 : Int64), (100000000 : Int64), (1000000000 : Int64), (10000000000 : Int64), (100000000000 : Int64), (1000000000000 : Int64), (0 : Int64), (0 : Int64), (0 : Int64), (0 : Int64), (0 : Int64), (0 : Int64)] := A14
  have K_14 : Keep h0 h14 [] := K_13.wr W14 (Or.inr sz_b1)
  have Z_14 : n0 ≤ h14.size := Nat.le_trans Z0 K_14.1
  have N14 := Fr.snoc X14 M13 g_b1
  clear E_b1_13 A_b1_13 W14 st14 A14
  obtain ⟨G14, Y14, M14⟩ : ∃ L, Stand p l e room_1 s m #[(.long v0), (.int v1), (.int v2)] below meth c T14 L 1 19 ∧ Fr n0 L := ⟨_, X14, N14⟩
  clear X14 N14
  show Go p e below s _ _ _ T14 (mkF m 87 #[.val (.long v0), .second, .val (.int v1), .val (.int v2), .unset, .unset, .unset, .unset, .unset, .unset] [(.ref b1)])
  refine G_dup Y14 hx (pc' := 88) rfl (hb hby at_87) rfl ?_
  refine G_bipush Y14 hx (pc' := 90) rfl (hb hby at_88) (z := (13 : Int32)) rfl ?_
  refine G_ldc2 Y14 hx (pc' := 93) rfl hown (mvT hZ (hw _ (List.mem_of_getElem? (i := 13) rfl))) (hb hby at_90) ?_
  obtain ⟨T15, h15, X15, e15, W15, A15, st15⟩ := stAJL Y14 hx hZ e14 A_b1_14 (j := (13 : Int32)) (by decide) (jn := 13) (by decide) (show 13 < 19 from by decide) (g := (mkF m 93 #[.val (.long v0), .second, .val (.int v1), .val (.int v2), .unset, .unset, .unset, .unset, .unset, .unset] [(.long (10000000000000 : Int64)), (.int (13 : Int32)), (.ref b1), (.ref b1)])) rfl rfl (hb hby at_93)
  refine Go.st st15 ?_
  have E_b1_15 := E_b1_14.wr W15
  have A_b1_15 : AJ Z h15 b1 [(1 : Int64), (10 : Int64), (100 : Int64), (1000 : Int64), (10000 : Int64), (100000 : Int64), (1000000 : Int64), (10000000 : Int64), (100000000 : Int64), (1000000000 : Int64), (10000000000 : Int64), (100000000000 : Int64), (1000000000000 : Int64), (10000000000000 : Int64), (0 : Int64), (0 : Int64), (0 : Int64), (0 : Int64), (0 : Int64)] := A15
  have K_15 : Keep h0 h15 [] := K_14.wr W15 (Or.inr sz_b1)
  have Z_15 : n0 ≤ h15.size := Nat.le_trans Z0 K_15.1
  have N15 := Fr.snoc X15 M14 g_b1
  clear E_b1_14 A_b1_14 W15 st15 A15
  obtain ⟨G15, Y15, M15⟩ : ∃ L, Stand p l e room_1 s m #[(.long v0), (.int v1), (.int v2)] below meth c T15 L 1 19 ∧ Fr n0 L := ⟨_, X15, N15⟩
  clear X15 N15
  show Go p e below s _ _ _ T15 (mkF m 94 #[.val (.long v0), .second, .val (.int v1), .val (.int v2), .unset, .unset, .unset, .unset, .unset, .unset] [(.ref b1)])
  refine G_dup Y15 hx (pc' := 95) rfl (hb hby at_94) rfl ?_
  refine G_bipush Y15 hx (pc' := 97) rfl (hb hby at_95) (z := (14 : Int32)) rfl ?_
  refine G_ldc2 Y15 hx (pc' := 100) rfl hown (mvT hZ (hw _ (List.mem_of_getElem? (i := 14) rfl))) (hb hby at_97) ?_
  obtain ⟨T16, h16, X16, e16, W16, A16, st16⟩ := stAJL Y15 hx hZ e15 A_b1_15 (j := (14 : Int32)) (by decide) (jn := 14) (by decide) (show 14 < 19 from by decide) (g := (mkF m 100 #[.val (.long v0), .second, .val (.int v1), .val (.int v2), .unset, .unset, .unset, .unset, .unset, .unset] [(.long (100000000000000 : Int64)), (.int (14 : Int32)), (.ref b1), (.ref b1)])) rfl rfl (hb hby at_100)
  refine Go.st st16 ?_
  have E_b1_16 := E_b1_15.wr W16
  have A_b1_16 : AJ Z h16 b1 [(1 : Int64), (10 : Int64), (100 : Int64), (1000 : Int64), (10000 : Int64), (100000 : Int64), (1000000 : Int64), (10000000 : Int64), (100000000 : Int64), (1000000000 : Int64), (10000000000 : Int64), (100000000000 : Int64), (1000000000000 : Int64), (10000000000000 : Int64), (100000000000000 : Int64), (0 : Int64), (0 : Int64), (0 : Int64), (0 : Int64)] := A16
  have K_16 : Keep h0 h16 [] := K_15.wr W16 (Or.inr sz_b1)
  have Z_16 : n0 ≤ h16.size := Nat.le_trans Z0 K_16.1
  have N16 := Fr.snoc X16 M15 g_b1
  clear E_b1_15 A_b1_15 W16 st16 A16
  obtain ⟨G16, Y16, M16⟩ : ∃ L, Stand p l e room_1 s m #[(.long v0), (.int v1), (.int v2)] below meth c T16 L 1 19 ∧ Fr n0 L := ⟨_, X16, N16⟩
  clear X16 N16
  show Go p e below s _ _ _ T16 (mkF m 101 #[.val (.long v0), .second, .val (.int v1), .val (.int v2), .unset, .unset, .unset, .unset, .unset, .unset] [(.ref b1)])
  refine G_dup Y16 hx (pc' := 102) rfl (hb hby at_101) rfl ?_
  refine G_bipush Y16 hx (pc' := 104) rfl (hb hby at_102) (z := (15 : Int32)) rfl ?_
  refine G_ldc2 Y16 hx (pc' := 107) rfl hown (mvT hZ (hw _ (List.mem_of_getElem? (i := 15) rfl))) (hb hby at_104) ?_
  obtain ⟨T17, h17, X17, e17, W17, A17, st17⟩ := stAJL Y16 hx hZ e16 A_b1_16 (j := (15 : Int32)) (by decide) (jn := 15) (by decide) (show 15 < 19 from by decide) (g := (mkF m 107 #[.val (.long v0), .second, .val (.int v1), .val (.int v2), .unset, .unset, .unset, .unset, .unset, .unset] [(.long (1000000000000000 : Int64)), (.int (15 : Int32)), (.ref b1), (.ref b1)])) rfl rfl (hb hby at_107)
  refine Go.st st17 ?_
  have E_b1_17 := E_b1_16.wr W17
  have A_b1_17 : AJ Z h17 b1 [(1 : Int64), (10 : Int64), (100 : Int64), (1000 : Int64), (10000 : Int64), (100000 : Int64), (1000000 : Int64), (10000000 : Int64), (100000000 : Int64), (1000000000 : Int64), (10000000000 : Int64), (100000000000 : Int64), (1000000000000 : Int64), (10000000000000 : Int64), (100000000000000 : Int64), (1000000000000000 : Int64), (0 : Int64), (0 : Int64), (0 : Int64)] := A17
  have K_17 : Keep h0 h17 [] := K_16.wr W17 (Or.inr sz_b1)
  have Z_17 : n0 ≤ h17.size := Nat.le_trans Z0 K_17.1
  have N17 := Fr.snoc X17 M16 g_b1
  clear E_b1_16 A_b1_16 W17 st17 A17
  obtain ⟨G17, Y17, M17⟩ : ∃ L, Stand p l e room_1 s m #[(.long v0), (.int v1), (.int v2)] below meth c T17 L 1 19 ∧ Fr n0 L := ⟨_, X17, N17⟩
  clear X17 N17
  show Go p e below s _ _ _ T17 (mkF m 108 #[.val (.long v0), .second, .val (.int v1), .val (.int v2), .unset, .unset, .unset, .unset, .unset, .unset] [(.ref b1)])
  refine G_dup Y17 hx (pc' := 109) rfl (hb hby at_108) rfl ?_
  refine G_bipush Y17 hx (pc' := 111) rfl (hb hby at_109) (z := (16 : Int32)) rfl ?_
  refine G_ldc2 Y17 hx (pc' := 114) rfl hown (mvT hZ (hw _ (List.mem_of_getElem? (i := 16) rfl))) (hb hby at_111) ?_
  obtain ⟨T18, h18, X18, e18, W18, A18, st18⟩ := stAJL Y17 hx hZ e17 A_b1_17 (j := (16 : Int32)) (by decide) (jn := 16) (by decide) (show 16 < 19 from by decide) (g := (mkF m 114 #[.val (.long v0), .second, .val (.int v1), .val (.int v2), .unset, .unset, .unset, .unset, .unset, .unset] [(.long (10000000000000000 : Int64)), (.int (16 : Int32)), (.ref b1), (.ref b1)])) rfl rfl (hb hby at_114)
  refine Go.st st18 ?_
  have E_b1_18 := E_b1_17.wr W18
  have A_b1_18 : AJ Z h18 b1 [(1 : Int64), (10 : Int64), (100 : Int64), (1000 : Int64), (10000 : Int64), (100000 : Int64), (1000000 : Int64), (10000000 : Int64), (100000000 : Int64), (1000000000 : Int64), (10000000000 : Int64), (100000000000 : Int64), (1000000000000 : Int64), (10000000000000 : Int64), (100000000000000 : Int64), (1000000000000000 : Int64), (10000000000000000 : Int64), (0 : Int64), (0 : Int64)] := A18
  have K_18 : Keep h0 h18 [] := K_17.wr W18 (Or.inr sz_b1)
  have Z_18 : n0 ≤ h18.size := Nat.le_trans Z0 K_18.1
  have N18 := Fr.snoc X18 M17 g_b1
  clear E_b1_17 A_b1_17 W18 st18 A18
  obtain ⟨G18, Y18, M18⟩ : ∃ L, Stand p l e room_1 s m #[(.long v0), (.int v1), (.int v2)] below meth c T18 L 1 19 ∧ Fr n0 L := ⟨_, X18, N18⟩
  clear X18 N18
  show Go p e below s _ _ _ T18 (mkF m 115 #[.val (.long v0), .second, .val (.int v1), .val (.int v2), .unset, .unset, .unset, .unset, .unset, .unset] [(.ref b1)])
  refine G_dup Y18 hx (pc' := 116) rfl (hb hby at_115) rfl ?_
  refine G_bipush Y18 hx (pc' := 118) rfl (hb hby at_116) (z := (17 : Int32)) rfl ?_
  refine G_ldc2 Y18 hx (pc' := 121) rfl hown (mvT hZ (hw _ (List.mem_of_getElem? (i := 17) rfl))) (hb hby at_118) ?_
  obtain ⟨T19, h19, X19, e19, W19, A19, st19⟩ := stAJL Y18 hx hZ e18 A_b1_18 (j := (17 : Int32)) (by decide) (jn := 17) (by decide) (show 17 < 19 from by decide) (g := (mkF m 121 #[.val (.long v0), .second, .val (.int v1), .val (.int v2), .unset, .unset, .unset, .unset, .unset, .unset] [(.long (100000000000000000 : Int64)), (.int (17 : Int32)), (.ref b1), (.ref b1)])) rfl rfl (hb hby at_121)
  refine Go.st st19 ?_
  have E_b1_19 := E_b1_18.wr W19
  have A_b1_19 : AJ Z h19 b1 [(1 : Int64), (10 : Int64), (100 : Int64), (1000 : Int64), (10000 : Int64), (100000 : Int64), (1000000 : Int64), (10000000 : Int64), (100000000 : Int64), (1000000000 : Int64), (10000000000 : Int64), (100000000000 : Int64), (1000000000000 : Int64), (10000000000000 : Int64), (100000000000000 : Int64), (1000000000000000 : Int64), (10000000000000000 : Int64), (100000000000000000 : Int64), (0 : Int64)] := A19
  have K_19 : Keep h0 h19 [] := K_18.wr W19 (Or.inr sz_b1)
  have Z_19 : n0 ≤ h19.size := Nat.le_trans Z0 K_19.1
  have N19 := Fr.snoc X19 M18 g_b1
  clear E_b1_18 A_b1_18 W19 st19 A19
  obtain ⟨G19, Y19, M19⟩ : ∃ L, Stand p l e room_1 s m #[(.long v0), (.int v1), (.int v2)] below meth c T19 L 1 19 ∧ Fr n0 L := ⟨_, X19, N19⟩
  clear X19 N19
  show Go p e below s _ _ _ T19 (mkF m 122 #[.val (.long v0), .second, .val (.int v1), .val (.int v2), .unset, .unset, .unset, .unset, .unset, .unset] [(.ref b1)])
  refine G_dup Y19 hx (pc' := 123) rfl (hb hby at_122) rfl ?_
  refine G_bipush Y19 hx (pc' := 125) rfl (hb hby at_123) (z := (18 : Int32)) rfl ?_
  refine G_ldc2 Y19 hx (pc' := 128) rfl hown (mvT hZ (hw _ (List.mem_of_getElem? (i := 18) rfl))) (hb hby at_125) ?_
  obtain ⟨T20, h20, X20, e20, W20, A20, st20⟩ := stAJL Y19 hx hZ e19 A_b1_19 (j := (18 : Int32)) (by decide) (jn := 18) (by decide) (show 18 < 19 from by decide) (g := (mkF m 128 #[.val (.long v0), .second, .val (.int v1), .val (.int v2), .unset, .unset, .unset, .unset, .unset, .unset] [(.long (1000000000000000000 : Int64)), (.int (18 : Int32)), (.ref b1), (.ref b1)])) rfl rfl (hb hby at_128)
  refine Go.st st20 ?_
  have E_b1_20 := E_b1_19.wr W20
  have A_b1_20 : AJ Z h20 b1 [(1 : Int64), (10 : Int64), (100 : Int64), (1000 : Int64), (10000 : Int64), (100000 : Int64), (1000000 : Int64), (10000000 : Int64), (100000000 : Int64), (1000000000 : Int64), (10000000000 : Int64), (100000000000 : Int64), (1000000000000 : Int64), (10000000000000 : Int64), (100000000000000 : Int64), (1000000000000000 : Int64), (10000000000000000 : Int64), (100000000000000000 : Int64), (1000000000000000000 : Int64)] := A20
  have K_20 : Keep h0 h20 [] := K_19.wr W20 (Or.inr sz_b1)
  have Z_20 : n0 ≤ h20.size := Nat.le_trans Z0 K_20.1
  have N20 := Fr.snoc X20 M19 g_b1
  clear E_b1_19 A_b1_19 W20 st20 A20
  obtain ⟨G20, Y20, M20⟩ : ∃ L, Stand p l e room_1 s m #[(.long v0), (.int v1), (.int v2)] below meth c T20 L 1 19 ∧ Fr n0 L := ⟨_, X20, N20⟩
  clear X20 N20
  show Go p e below s _ _ _ T20 (mkF m 129 #[.val (.long v0), .second, .val (.int v1), .val (.int v2), .unset, .unset, .unset, .unset, .unset, .unset] [(.ref b1)])
  refine G_astore Y20 hx (pc' := 131) rfl (hb hby at_129) rfl (L' := #[.val (.long v0), .second, .val (.int v1), .val (.int v2), .val (.ref b1), .unset, .unset, .unset, .unset, .unset]) rfl ?_
  have Apow : AJ Z h20 b1 own_pows := A_b1_20
  refine G_iloadN Y20 hx (pc' := 132) rfl (hb hby at_131) rfl ?_
  refine G_ldc Y20 hx (pc' := 134) rfl hown (mvT hZ (hw _ (List.mem_of_getElem? (i := 19) rfl))) (hb hby at_132) ?_
  refine G_iand Y20 hx (pc' := 135) rfl (hb hby at_134)  ?_
  refine G_bipush Y20 hx (pc' := 137) rfl (hb hby at_135) (z := (19 : Int32)) rfl ?_
  refine G_irem Y20 hx (pc' := 138) rfl (hb hby at_137) (by decide) ?_
  refine G_istore Y20 hx (pc' := 140) rfl (hb hby at_138) (L' := #[.val (.long v0), .second, .val (.int v1), .val (.int v2), .val (.ref b1), .val (.int ((v1 &&& (2147483647 : Int32)) % (19 : Int32))), .unset, .unset, .unset, .unset]) rfl ?_
  obtain ⟨d, h_d, hA, hB⟩ : ∃ d : Int32, ((v1 &&& (2147483647 : Int32)) % (19 : Int32)) = d ∧ 0 ≤ d.toInt ∧ d.toInt < 19 := ⟨_, rfl, (own_mod _).1, (own_mod _).2⟩
  rw [h_d]
  refine G_iloadN Y20 hx (pc' := 141) rfl (hb hby at_140) rfl ?_
  refine G_bipush Y20 hx (pc' := 143) rfl (hb hby at_141) (z := (7 : Int32)) rfl ?_
  refine G_iand Y20 hx (pc' := 144) rfl (hb hby at_143)  ?_
  refine G_istore Y20 hx (pc' := 146) rfl (hb hby at_144) (L' := #[.val (.long v0), .second, .val (.int v1), .val (.int v2), .val (.ref b1), .val (.int d), .val (.int (v2 &&& (7 : Int32))), .unset, .unset, .unset]) rfl ?_
  refine G_iload Y20 hx (pc' := 148) rfl (hb hby at_146) rfl ?_
  by_cases hc148_1 : (v2 &&& (7 : Int32)) = (0 : Int32)
  · refine G_ifNo Y20 hx (pc' := 151) rfl (hb hby at_148) ((if0 _ _).trans (teq hc148_1).2) ?_
    refine G_lloadN Y20 hx (pc' := 152) rfl (hb hby at_151) rfl ?_
    refine G_lstore Y20 hx (pc' := 154) rfl (hb hby at_152) (L' := #[.val (.long v0), .second, .val (.int v1), .val (.int v2), .val (.ref b1), .val (.int d), .val (.int (v2 &&& (7 : Int32))), .val (.long v0), .second, .unset]) rfl ?_
    refine G_goto Y20 hx (pc' := 280) (hb hby at_154)  (by decide) (by decide) ?_
    refine G_lload Y20 hx (pc' := 282) rfl (hb hby at_280) rfl ?_
    refine G_ldc2 Y20 hx (pc' := 285) rfl hown (mvT hZ (hw _ (List.mem_of_getElem? (i := 20) rfl))) (hb hby at_282) ?_
    refine G_lcmp Y20 hx (pc' := 286) rfl (hb hby at_285)  ?_
    by_cases hc286_2 : v0 = (-9223372036854775808 : Int64)
    · refine G_ifNo Y20 hx (pc' := 289) rfl (hb hby at_286) ((if0 _ _).trans (teq ((lw_eq _ _).2 hc286_2)).2) ?_
      refine G_bipush Y20 hx (pc' := 291) rfl (hb hby at_289) (z := (20 : Int32)) rfl ?_
      refine G_istore Y20 hx (pc' := 293) rfl (hb hby at_291) (L' := #[.val (.long v0), .second, .val (.int v1), .val (.int v2), .val (.ref b1), .val (.int d), .val (.int (v2 &&& (7 : Int32))), .val (.long v0), .second, .val (.int (20 : Int32))]) rfl ?_
      refine G_goto Y20 hx (pc' := 319) (hb hby at_293)  (by decide) (by decide) ?_
      refine G_lload Y20 hx (pc' := 321) rfl (hb hby at_319) rfl ?_
      obtain ⟨_, _, ⟨T21, L21, k21, n21⟩, -, X21, ⟨Lc21, hQ21, l21, y21, z21⟩, st21⟩ := Jvm.LawKit.callS Y20 hx (y := (⟨"com/example/colonwise/colonwise/model/BencodeInteger", "textLength", "(J)I"⟩ : MethodName)) hown (mvT hZ (hw _ (List.mem_of_getElem? (i := 29) rfl))) (mvT hZ (hw _ (List.mem_of_getElem? (i := 30) rfl))) (mvT hZ (hw _ (List.mem_of_getElem? (i := 31) rfl))) (mvT hZ (hw _ (List.mem_of_getElem? (i := 32) rfl))) (by decide) (backOf (W := 0) (rm_textLen l Z a0 hw [] v0 h20 n0 Z_20 ) hZ (hw _ (List.mem_of_getElem? (i := 32) rfl)) (hw _ (List.mem_of_getElem? (i := 31) rfl)) (by decide) (by decide)) (g := (mkF m 321 #[.val (.long v0), .second, .val (.int v1), .val (.int v2), .val (.ref b1), .val (.int d), .val (.int (v2 &&& (7 : Int32))), .val (.long v0), .second, .val (.int (20 : Int32))] [(.long v0)])) rfl (by rw [hml]; rfl) (argsL := [(.long v0)]) (rest := []) (lenOf pd_0 rfl) rfl (by show 2 * 0 + _ ≤ _; exact Nat.le_of_eq rfl) (hb hby at_321) (fun _ _ => ⟨rfl, e20, (by decide : 1 + 0 ≤ _), (by decide : 19 + 0 ≤ _)⟩)
      dsimp only [Pt.U, Pt.locs, Pt.cells, Pt.slots] at X21 l21 y21 z21 st21 hQ21
      rw [l21, y21, z21] at X21
      clear l21 y21 z21
      obtain ⟨rfl, N21q, e21⟩ := hQ21
      have N21 := Fr.app M20 N21q
      refine Go.st st21 ?_
      obtain ⟨G21, Y21, M21⟩ : ∃ L, Stand p l e room_1 s m #[(.long v0), (.int v1), (.int v2)] below meth c T21 L 1 19 ∧ Fr n0 L := ⟨_, X21, N21⟩
      clear X21 N21
      show Go p e below s _ _ _ T21 (mkF m 324 #[.val (.long v0), .second, .val (.int v1), .val (.int v2), .val (.ref b1), .val (.int d), .val (.int (v2 &&& (7 : Int32))), .val (.long v0), .second, .val (.int (20 : Int32))] [(.int (f_textLen v0))])
      refine G_iload Y21 hx (pc' := 326) rfl (hb hby at_324) rfl ?_
      refine G_icmpNo Y21 hx (pc' := 329) rfl (hb hby at_326) (teq (own_t1 hc286_2 : (f_textLen v0) = (20 : Int32))).2 ?_
      refine G_iconst Y21 hx (pc' := 330) rfl (hb hby at_329) (z := (1 : Int32)) rfl ?_
      refine G_goto Y21 hx (pc' := 334) (hb hby at_330)  (by decide) (by decide) ?_
      refine Go.fin Y21 hlk (v := some (.int (1 : Int32))) (fun h => by rw [Bd.returns] at h; cases h) (by decide) (by decide) ?_ (fun fs hr => retN Y21 hx (t := .boolean) Bd.returns (by simp) (hb hby at_334) hr)
      show Q_law Z v0 v1 v2 h0 n0 _ T21.heap _
      rw [e21]
      exact ⟨rfl, M21⟩
    · refine G_ifYes Y20 hx (pc' := 296) (hb hby at_286) ((if0 _ _).trans (feq (fun q => hc286_2 ((lw_eq _ _).1 q))).2) (by decide) (by decide) ?_
      refine G_lload Y20 hx (pc' := 298) rfl (hb hby at_296) rfl ?_
      obtain ⟨_, _, ⟨T22, L22, k22, n22⟩, -, X22, ⟨Lc22, hQ22, l22, y22, z22⟩, st22⟩ := Jvm.LawKit.callS Y20 hx (y := (⟨"java/lang/Math", "abs", "(J)J"⟩ : MethodName)) hown (mvT hZ (hw _ (List.mem_of_getElem? (i := 21) rfl))) (mvT hZ (hw _ (List.mem_of_getElem? (i := 22) rfl))) (mvT hZ (hw _ (List.mem_of_getElem? (i := 23) rfl))) (mvT hZ (hw _ (List.mem_of_getElem? (i := 24) rfl))) (by decide) (backOf (W := 0) (rm_abs l Z a0 hw [] v0 h20 n0 Z_20 ) hZ (hw _ (List.mem_of_getElem? (i := 24) rfl)) (hw _ (List.mem_of_getElem? (i := 23) rfl)) (by decide) (by decide)) (g := (mkF m 298 #[.val (.long v0), .second, .val (.int v1), .val (.int v2), .val (.ref b1), .val (.int d), .val (.int (v2 &&& (7 : Int32))), .val (.long v0), .second, .unset] [(.long v0)])) rfl (by rw [hml]; rfl) (argsL := [(.long v0)]) (rest := []) (lenOf pd_1 rfl) rfl (by show 2 * 0 + _ ≤ _; exact Nat.le_of_eq rfl) (hb hby at_298) (fun _ _ => ⟨rfl, e20, (by decide : 1 + 0 ≤ _), (by decide : 19 + 0 ≤ _)⟩)
      dsimp only [Pt.U, Pt.locs, Pt.cells, Pt.slots] at X22 l22 y22 z22 st22 hQ22
      rw [l22, y22, z22] at X22
      clear l22 y22 z22
      obtain ⟨rfl, N22q, e22⟩ := hQ22
      have N22 := Fr.app M20 N22q
      refine Go.st st22 ?_
      obtain ⟨G22, Y22, M22⟩ : ∃ L, Stand p l e room_1 s m #[(.long v0), (.int v1), (.int v2)] below meth c T22 L 1 19 ∧ Fr n0 L := ⟨_, X22, N22⟩
      clear X22 N22
      show Go p e below s _ _ _ T22 (mkF m 301 #[.val (.long v0), .second, .val (.int v1), .val (.int v2), .val (.ref b1), .val (.int d), .val (.int (v2 &&& (7 : Int32))), .val (.long v0), .second, .unset] [(.long (f_abs v0))])
      obtain ⟨_, _, ⟨T23, L23, k23, n23⟩, -, X23, ⟨Lc23, hQ23, l23, y23, z23⟩, st23⟩ := Jvm.LawKit.callS Y22 hx (y := (⟨"com/example/colonwise/colonwise/model/BencodeIntegerTextLengthPinLaw", "digits", "(J)I"⟩ : MethodName)) hown (mvT hZ (hw _ (List.mem_of_getElem? (i := 25) rfl))) (mvT hZ (hw _ (List.mem_of_getElem? (i := 26) rfl))) (mvT hZ (hw _ (List.mem_of_getElem? (i := 27) rfl))) (mvT hZ (hw _ (List.mem_of_getElem? (i := 28) rfl))) (by decide) (backOf (W := 0) (rm_digits l Z a0 hw [] (f_abs v0) h20 n0 Z_20 ) hZ (hw _ (List.mem_of_getElem? (i := 28) rfl)) (hw _ (List.mem_of_getElem? (i := 27) rfl)) (by decide) (by decide)) (g := (mkF m 301 #[.val (.long v0), .second, .val (.int v1), .val (.int v2), .val (.ref b1), .val (.int d), .val (.int (v2 &&& (7 : Int32))), .val (.long v0), .second, .unset] [(.long (f_abs v0))])) rfl (by rw [hml]; rfl) (argsL := [(.long (f_abs v0))]) (rest := []) (lenOf pd_0 rfl) rfl (by show 2 * 0 + _ ≤ _; exact Nat.le_of_eq rfl) (hb hby at_301) (fun _ _ => ⟨rfl, e22, (by decide : 1 + 0 ≤ _), (by decide : 19 + 0 ≤ _)⟩)
      dsimp only [Pt.U, Pt.locs, Pt.cells, Pt.slots] at X23 l23 y23 z23 st23 hQ23
      rw [l23, y23, z23] at X23
      clear l23 y23 z23
      obtain ⟨rfl, N23q, e23⟩ := hQ23
      have N23 := Fr.app M22 N23q
      refine Go.st st23 ?_
      obtain ⟨G23, Y23, M23⟩ : ∃ L, Stand p l e room_1 s m #[(.long v0), (.int v1), (.int v2)] below meth c T23 L 1 19 ∧ Fr n0 L := ⟨_, X23, N23⟩
      clear X23 N23
      show Go p e below s _ _ _ T23 (mkF m 304 #[.val (.long v0), .second, .val (.int v1), .val (.int v2), .val (.ref b1), .val (.int d), .val (.int (v2 &&& (7 : Int32))), .val (.long v0), .second, .unset] [(.int (f_digits (f_abs v0)))])
      refine G_lload Y23 hx (pc' := 306) rfl (hb hby at_304) rfl ?_
      refine G_lconst Y23 hx (pc' := 307) rfl (hb hby at_306) (z := (0 : Int64)) rfl ?_
      refine G_lcmp Y23 hx (pc' := 308) rfl (hb hby at_307)  ?_
      by_cases hc308_3 : v0 < (0 : Int64)
      · refine G_ifNo Y23 hx (pc' := 311) rfl (hb hby at_308) ((if0 _ _).trans (tlt ((lw_lt _ _).2 hc308_3)).2.1) ?_
        refine G_iconst Y23 hx (pc' := 312) rfl (hb hby at_311) (z := (1 : Int32)) rfl ?_
        refine G_goto Y23 hx (pc' := 316) (hb hby at_312)  (by decide) (by decide) ?_
        refine G_iadd Y23 hx (pc' := 317) rfl (hb hby at_316)  ?_
        refine G_istore Y23 hx (pc' := 319) rfl (hb hby at_317) (L' := #[.val (.long v0), .second, .val (.int v1), .val (.int v2), .val (.ref b1), .val (.int d), .val (.int (v2 &&& (7 : Int32))), .val (.long v0), .second, .val (.int ((f_digits (f_abs v0)) + (1 : Int32)))]) rfl ?_
        refine G_lload Y23 hx (pc' := 321) rfl (hb hby at_319) rfl ?_
        obtain ⟨_, _, ⟨T24, L24, k24, n24⟩, -, X24, ⟨Lc24, hQ24, l24, y24, z24⟩, st24⟩ := Jvm.LawKit.callS Y23 hx (y := (⟨"com/example/colonwise/colonwise/model/BencodeInteger", "textLength", "(J)I"⟩ : MethodName)) hown (mvT hZ (hw _ (List.mem_of_getElem? (i := 29) rfl))) (mvT hZ (hw _ (List.mem_of_getElem? (i := 30) rfl))) (mvT hZ (hw _ (List.mem_of_getElem? (i := 31) rfl))) (mvT hZ (hw _ (List.mem_of_getElem? (i := 32) rfl))) (by decide) (backOf (W := 0) (rm_textLen l Z a0 hw [] v0 h20 n0 Z_20 ) hZ (hw _ (List.mem_of_getElem? (i := 32) rfl)) (hw _ (List.mem_of_getElem? (i := 31) rfl)) (by decide) (by decide)) (g := (mkF m 321 #[.val (.long v0), .second, .val (.int v1), .val (.int v2), .val (.ref b1), .val (.int d), .val (.int (v2 &&& (7 : Int32))), .val (.long v0), .second, .val (.int ((f_digits (f_abs v0)) + (1 : Int32)))] [(.long v0)])) rfl (by rw [hml]; rfl) (argsL := [(.long v0)]) (rest := []) (lenOf pd_0 rfl) rfl (by show 2 * 0 + _ ≤ _; exact Nat.le_of_eq rfl) (hb hby at_321) (fun _ _ => ⟨rfl, e23, (by decide : 1 + 0 ≤ _), (by decide : 19 + 0 ≤ _)⟩)
        dsimp only [Pt.U, Pt.locs, Pt.cells, Pt.slots] at X24 l24 y24 z24 st24 hQ24
        rw [l24, y24, z24] at X24
        clear l24 y24 z24
        obtain ⟨rfl, N24q, e24⟩ := hQ24
        have N24 := Fr.app M23 N24q
        refine Go.st st24 ?_
        obtain ⟨G24, Y24, M24⟩ : ∃ L, Stand p l e room_1 s m #[(.long v0), (.int v1), (.int v2)] below meth c T24 L 1 19 ∧ Fr n0 L := ⟨_, X24, N24⟩
        clear X24 N24
        show Go p e below s _ _ _ T24 (mkF m 324 #[.val (.long v0), .second, .val (.int v1), .val (.int v2), .val (.ref b1), .val (.int d), .val (.int (v2 &&& (7 : Int32))), .val (.long v0), .second, .val (.int ((f_digits (f_abs v0)) + (1 : Int32)))] [(.int (f_textLen v0))])
        refine G_iload Y24 hx (pc' := 326) rfl (hb hby at_324) rfl ?_
        refine G_icmpNo Y24 hx (pc' := 329) rfl (hb hby at_326) (teq (own_t2 hc286_2 hc308_3 : (f_textLen v0) = ((f_digits (f_abs v0)) + (1 : Int32)))).2 ?_
        refine G_iconst Y24 hx (pc' := 330) rfl (hb hby at_329) (z := (1 : Int32)) rfl ?_
        refine G_goto Y24 hx (pc' := 334) (hb hby at_330)  (by decide) (by decide) ?_
        refine Go.fin Y24 hlk (v := some (.int (1 : Int32))) (fun h => by rw [Bd.returns] at h; cases h) (by decide) (by decide) ?_ (fun fs hr => retN Y24 hx (t := .boolean) Bd.returns (by simp) (hb hby at_334) hr)
        show Q_law Z v0 v1 v2 h0 n0 _ T24.heap _
        rw [e24]
        exact ⟨rfl, M24⟩
      · refine G_ifYes Y23 hx (pc' := 315) (hb hby at_308) ((if0 _ _).trans (flt (fun q => hc308_3 ((lw_lt _ _).1 q))).2.1) (by decide) (by decide) ?_
        refine G_iconst Y23 hx (pc' := 316) rfl (hb hby at_315) (z := (0 : Int32)) rfl ?_
        refine G_iadd Y23 hx (pc' := 317) rfl (hb hby at_316)  ?_
        refine G_istore Y23 hx (pc' := 319) rfl (hb hby at_317) (L' := #[.val (.long v0), .second, .val (.int v1), .val (.int v2), .val (.ref b1), .val (.int d), .val (.int (v2 &&& (7 : Int32))), .val (.long v0), .second, .val (.int ((f_digits (f_abs v0)) + (0 : Int32)))]) rfl ?_
        refine G_lload Y23 hx (pc' := 321) rfl (hb hby at_319) rfl ?_
        obtain ⟨_, _, ⟨T25, L25, k25, n25⟩, -, X25, ⟨Lc25, hQ25, l25, y25, z25⟩, st25⟩ := Jvm.LawKit.callS Y23 hx (y := (⟨"com/example/colonwise/colonwise/model/BencodeInteger", "textLength", "(J)I"⟩ : MethodName)) hown (mvT hZ (hw _ (List.mem_of_getElem? (i := 29) rfl))) (mvT hZ (hw _ (List.mem_of_getElem? (i := 30) rfl))) (mvT hZ (hw _ (List.mem_of_getElem? (i := 31) rfl))) (mvT hZ (hw _ (List.mem_of_getElem? (i := 32) rfl))) (by decide) (backOf (W := 0) (rm_textLen l Z a0 hw [] v0 h20 n0 Z_20 ) hZ (hw _ (List.mem_of_getElem? (i := 32) rfl)) (hw _ (List.mem_of_getElem? (i := 31) rfl)) (by decide) (by decide)) (g := (mkF m 321 #[.val (.long v0), .second, .val (.int v1), .val (.int v2), .val (.ref b1), .val (.int d), .val (.int (v2 &&& (7 : Int32))), .val (.long v0), .second, .val (.int ((f_digits (f_abs v0)) + (0 : Int32)))] [(.long v0)])) rfl (by rw [hml]; rfl) (argsL := [(.long v0)]) (rest := []) (lenOf pd_0 rfl) rfl (by show 2 * 0 + _ ≤ _; exact Nat.le_of_eq rfl) (hb hby at_321) (fun _ _ => ⟨rfl, e23, (by decide : 1 + 0 ≤ _), (by decide : 19 + 0 ≤ _)⟩)
        dsimp only [Pt.U, Pt.locs, Pt.cells, Pt.slots] at X25 l25 y25 z25 st25 hQ25
        rw [l25, y25, z25] at X25
        clear l25 y25 z25
        obtain ⟨rfl, N25q, e25⟩ := hQ25
        have N25 := Fr.app M23 N25q
        refine Go.st st25 ?_
        obtain ⟨G25, Y25, M25⟩ : ∃ L, Stand p l e room_1 s m #[(.long v0), (.int v1), (.int v2)] below meth c T25 L 1 19 ∧ Fr n0 L := ⟨_, X25, N25⟩
        clear X25 N25
        show Go p e below s _ _ _ T25 (mkF m 324 #[.val (.long v0), .second, .val (.int v1), .val (.int v2), .val (.ref b1), .val (.int d), .val (.int (v2 &&& (7 : Int32))), .val (.long v0), .second, .val (.int ((f_digits (f_abs v0)) + (0 : Int32)))] [(.int (f_textLen v0))])
        refine G_iload Y25 hx (pc' := 326) rfl (hb hby at_324) rfl ?_
        refine G_icmpNo Y25 hx (pc' := 329) rfl (hb hby at_326) (teq (own_t3 hc286_2 hc308_3 : (f_textLen v0) = ((f_digits (f_abs v0)) + (0 : Int32)))).2 ?_
        refine G_iconst Y25 hx (pc' := 330) rfl (hb hby at_329) (z := (1 : Int32)) rfl ?_
        refine G_goto Y25 hx (pc' := 334) (hb hby at_330)  (by decide) (by decide) ?_
        refine Go.fin Y25 hlk (v := some (.int (1 : Int32))) (fun h => by rw [Bd.returns] at h; cases h) (by decide) (by decide) ?_ (fun fs hr => retN Y25 hx (t := .boolean) Bd.returns (by simp) (hb hby at_334) hr)
        show Q_law Z v0 v1 v2 h0 n0 _ T25.heap _
        rw [e25]
        exact ⟨rfl, M25⟩
  · refine G_ifYes Y20 hx (pc' := 157) (hb hby at_148) ((if0 _ _).trans (feq hc148_1).2) (by decide) (by decide) ?_
    refine G_iload Y20 hx (pc' := 159) rfl (hb hby at_157) rfl ?_
    refine G_iconst Y20 hx (pc' := 160) rfl (hb hby at_159) (z := (1 : Int32)) rfl ?_
    by_cases hc160_4 : (v2 &&& (7 : Int32)) = (1 : Int32)
    · refine G_icmpNo Y20 hx (pc' := 163) rfl (hb hby at_160) (teq hc160_4).2 ?_
      refine G_lloadN Y20 hx (pc' := 164) rfl (hb hby at_163) rfl ?_
      refine G_aload Y20 hx (pc' := 166) rfl (hb hby at_164) rfl rfl ?_
      refine G_iload Y20 hx (pc' := 168) rfl (hb hby at_166) rfl ?_
      refine Go.st (ldAJ Y20 hx hZ e20 Apow (j := d) (own_i1 hA) (own_i2 hA hB) (g := (mkF m 168 #[.val (.long v0), .second, .val (.int v1), .val (.int v2), .val (.ref b1), .val (.int d), .val (.int (v2 &&& (7 : Int32))), .unset, .unset, .unset] [(.int d), (.ref b1), (.long v0)])) rfl rfl (hb hby at_168)) ?_
      show Go p e below s _ _ _ T20 (mkF m 169 #[.val (.long v0), .second, .val (.int v1), .val (.int v2), .val (.ref b1), .val (.int d), .val (.int (v2 &&& (7 : Int32))), .unset, .unset, .unset] [(.long (own_pows.getD d.toNatClampNeg 0)), (.long v0)])
      refine G_lrem Y20 hx (pc' := 170) rfl (hb hby at_169) (own_nz hA hB) ?_
      refine G_lstore Y20 hx (pc' := 172) rfl (hb hby at_170) (L' := #[.val (.long v0), .second, .val (.int v1), .val (.int v2), .val (.ref b1), .val (.int d), .val (.int (v2 &&& (7 : Int32))), .val (.long (v0 % (own_pows.getD d.toNatClampNeg 0))), .second, .unset]) rfl ?_
      refine G_goto Y20 hx (pc' := 280) (hb hby at_172)  (by decide) (by decide) ?_
      obtain ⟨w, h_w⟩ : ∃ w : Int64, (v0 % (own_pows.getD d.toNatClampNeg 0)) = w := ⟨_, rfl⟩
      rw [h_w]
      refine G_lload Y20 hx (pc' := 282) rfl (hb hby at_280) rfl ?_
      refine G_ldc2 Y20 hx (pc' := 285) rfl hown (mvT hZ (hw _ (List.mem_of_getElem? (i := 20) rfl))) (hb hby at_282) ?_
      refine G_lcmp Y20 hx (pc' := 286) rfl (hb hby at_285)  ?_
      by_cases hc286_5 : w = (-9223372036854775808 : Int64)
      · refine G_ifNo Y20 hx (pc' := 289) rfl (hb hby at_286) ((if0 _ _).trans (teq ((lw_eq _ _).2 hc286_5)).2) ?_
        refine G_bipush Y20 hx (pc' := 291) rfl (hb hby at_289) (z := (20 : Int32)) rfl ?_
        refine G_istore Y20 hx (pc' := 293) rfl (hb hby at_291) (L' := #[.val (.long v0), .second, .val (.int v1), .val (.int v2), .val (.ref b1), .val (.int d), .val (.int (v2 &&& (7 : Int32))), .val (.long w), .second, .val (.int (20 : Int32))]) rfl ?_
        refine G_goto Y20 hx (pc' := 319) (hb hby at_293)  (by decide) (by decide) ?_
        refine G_lload Y20 hx (pc' := 321) rfl (hb hby at_319) rfl ?_
        obtain ⟨_, _, ⟨T26, L26, k26, n26⟩, -, X26, ⟨Lc26, hQ26, l26, y26, z26⟩, st26⟩ := Jvm.LawKit.callS Y20 hx (y := (⟨"com/example/colonwise/colonwise/model/BencodeInteger", "textLength", "(J)I"⟩ : MethodName)) hown (mvT hZ (hw _ (List.mem_of_getElem? (i := 29) rfl))) (mvT hZ (hw _ (List.mem_of_getElem? (i := 30) rfl))) (mvT hZ (hw _ (List.mem_of_getElem? (i := 31) rfl))) (mvT hZ (hw _ (List.mem_of_getElem? (i := 32) rfl))) (by decide) (backOf (W := 0) (rm_textLen l Z a0 hw [] w h20 n0 Z_20 ) hZ (hw _ (List.mem_of_getElem? (i := 32) rfl)) (hw _ (List.mem_of_getElem? (i := 31) rfl)) (by decide) (by decide)) (g := (mkF m 321 #[.val (.long v0), .second, .val (.int v1), .val (.int v2), .val (.ref b1), .val (.int d), .val (.int (v2 &&& (7 : Int32))), .val (.long w), .second, .val (.int (20 : Int32))] [(.long w)])) rfl (by rw [hml]; rfl) (argsL := [(.long w)]) (rest := []) (lenOf pd_0 rfl) rfl (by show 2 * 0 + _ ≤ _; exact Nat.le_of_eq rfl) (hb hby at_321) (fun _ _ => ⟨rfl, e20, (by decide : 1 + 0 ≤ _), (by decide : 19 + 0 ≤ _)⟩)
        dsimp only [Pt.U, Pt.locs, Pt.cells, Pt.slots] at X26 l26 y26 z26 st26 hQ26
        rw [l26, y26, z26] at X26
        clear l26 y26 z26
        obtain ⟨rfl, N26q, e26⟩ := hQ26
        have N26 := Fr.app M20 N26q
        refine Go.st st26 ?_
        obtain ⟨G26, Y26, M26⟩ : ∃ L, Stand p l e room_1 s m #[(.long v0), (.int v1), (.int v2)] below meth c T26 L 1 19 ∧ Fr n0 L := ⟨_, X26, N26⟩
        clear X26 N26
        show Go p e below s _ _ _ T26 (mkF m 324 #[.val (.long v0), .second, .val (.int v1), .val (.int v2), .val (.ref b1), .val (.int d), .val (.int (v2 &&& (7 : Int32))), .val (.long w), .second, .val (.int (20 : Int32))] [(.int (f_textLen w))])
        refine G_iload Y26 hx (pc' := 326) rfl (hb hby at_324) rfl ?_
        refine G_icmpNo Y26 hx (pc' := 329) rfl (hb hby at_326) (teq (own_t1 hc286_5 : (f_textLen w) = (20 : Int32))).2 ?_
        refine G_iconst Y26 hx (pc' := 330) rfl (hb hby at_329) (z := (1 : Int32)) rfl ?_
        refine G_goto Y26 hx (pc' := 334) (hb hby at_330)  (by decide) (by decide) ?_
        refine Go.fin Y26 hlk (v := some (.int (1 : Int32))) (fun h => by rw [Bd.returns] at h; cases h) (by decide) (by decide) ?_ (fun fs hr => retN Y26 hx (t := .boolean) Bd.returns (by simp) (hb hby at_334) hr)
        show Q_law Z v0 v1 v2 h0 n0 _ T26.heap _
        rw [e26]
        exact ⟨rfl, M26⟩
      · refine G_ifYes Y20 hx (pc' := 296) (hb hby at_286) ((if0 _ _).trans (feq (fun q => hc286_5 ((lw_eq _ _).1 q))).2) (by decide) (by decide) ?_
        refine G_lload Y20 hx (pc' := 298) rfl (hb hby at_296) rfl ?_
        obtain ⟨_, _, ⟨T27, L27, k27, n27⟩, -, X27, ⟨Lc27, hQ27, l27, y27, z27⟩, st27⟩ := Jvm.LawKit.callS Y20 hx (y := (⟨"java/lang/Math", "abs", "(J)J"⟩ : MethodName)) hown (mvT hZ (hw _ (List.mem_of_getElem? (i := 21) rfl))) (mvT hZ (hw _ (List.mem_of_getElem? (i := 22) rfl))) (mvT hZ (hw _ (List.mem_of_getElem? (i := 23) rfl))) (mvT hZ (hw _ (List.mem_of_getElem? (i := 24) rfl))) (by decide) (backOf (W := 0) (rm_abs l Z a0 hw [] w h20 n0 Z_20 ) hZ (hw _ (List.mem_of_getElem? (i := 24) rfl)) (hw _ (List.mem_of_getElem? (i := 23) rfl)) (by decide) (by decide)) (g := (mkF m 298 #[.val (.long v0), .second, .val (.int v1), .val (.int v2), .val (.ref b1), .val (.int d), .val (.int (v2 &&& (7 : Int32))), .val (.long w), .second, .unset] [(.long w)])) rfl (by rw [hml]; rfl) (argsL := [(.long w)]) (rest := []) (lenOf pd_1 rfl) rfl (by show 2 * 0 + _ ≤ _; exact Nat.le_of_eq rfl) (hb hby at_298) (fun _ _ => ⟨rfl, e20, (by decide : 1 + 0 ≤ _), (by decide : 19 + 0 ≤ _)⟩)
        dsimp only [Pt.U, Pt.locs, Pt.cells, Pt.slots] at X27 l27 y27 z27 st27 hQ27
        rw [l27, y27, z27] at X27
        clear l27 y27 z27
        obtain ⟨rfl, N27q, e27⟩ := hQ27
        have N27 := Fr.app M20 N27q
        refine Go.st st27 ?_
        obtain ⟨G27, Y27, M27⟩ : ∃ L, Stand p l e room_1 s m #[(.long v0), (.int v1), (.int v2)] below meth c T27 L 1 19 ∧ Fr n0 L := ⟨_, X27, N27⟩
        clear X27 N27
        show Go p e below s _ _ _ T27 (mkF m 301 #[.val (.long v0), .second, .val (.int v1), .val (.int v2), .val (.ref b1), .val (.int d), .val (.int (v2 &&& (7 : Int32))), .val (.long w), .second, .unset] [(.long (f_abs w))])
        obtain ⟨_, _, ⟨T28, L28, k28, n28⟩, -, X28, ⟨Lc28, hQ28, l28, y28, z28⟩, st28⟩ := Jvm.LawKit.callS Y27 hx (y := (⟨"com/example/colonwise/colonwise/model/BencodeIntegerTextLengthPinLaw", "digits", "(J)I"⟩ : MethodName)) hown (mvT hZ (hw _ (List.mem_of_getElem? (i := 25) rfl))) (mvT hZ (hw _ (List.mem_of_getElem? (i := 26) rfl))) (mvT hZ (hw _ (List.mem_of_getElem? (i := 27) rfl))) (mvT hZ (hw _ (List.mem_of_getElem? (i := 28) rfl))) (by decide) (backOf (W := 0) (rm_digits l Z a0 hw [] (f_abs w) h20 n0 Z_20 ) hZ (hw _ (List.mem_of_getElem? (i := 28) rfl)) (hw _ (List.mem_of_getElem? (i := 27) rfl)) (by decide) (by decide)) (g := (mkF m 301 #[.val (.long v0), .second, .val (.int v1), .val (.int v2), .val (.ref b1), .val (.int d), .val (.int (v2 &&& (7 : Int32))), .val (.long w), .second, .unset] [(.long (f_abs w))])) rfl (by rw [hml]; rfl) (argsL := [(.long (f_abs w))]) (rest := []) (lenOf pd_0 rfl) rfl (by show 2 * 0 + _ ≤ _; exact Nat.le_of_eq rfl) (hb hby at_301) (fun _ _ => ⟨rfl, e27, (by decide : 1 + 0 ≤ _), (by decide : 19 + 0 ≤ _)⟩)
        dsimp only [Pt.U, Pt.locs, Pt.cells, Pt.slots] at X28 l28 y28 z28 st28 hQ28
        rw [l28, y28, z28] at X28
        clear l28 y28 z28
        obtain ⟨rfl, N28q, e28⟩ := hQ28
        have N28 := Fr.app M27 N28q
        refine Go.st st28 ?_
        obtain ⟨G28, Y28, M28⟩ : ∃ L, Stand p l e room_1 s m #[(.long v0), (.int v1), (.int v2)] below meth c T28 L 1 19 ∧ Fr n0 L := ⟨_, X28, N28⟩
        clear X28 N28
        show Go p e below s _ _ _ T28 (mkF m 304 #[.val (.long v0), .second, .val (.int v1), .val (.int v2), .val (.ref b1), .val (.int d), .val (.int (v2 &&& (7 : Int32))), .val (.long w), .second, .unset] [(.int (f_digits (f_abs w)))])
        refine G_lload Y28 hx (pc' := 306) rfl (hb hby at_304) rfl ?_
        refine G_lconst Y28 hx (pc' := 307) rfl (hb hby at_306) (z := (0 : Int64)) rfl ?_
        refine G_lcmp Y28 hx (pc' := 308) rfl (hb hby at_307)  ?_
        by_cases hc308_6 : w < (0 : Int64)
        · refine G_ifNo Y28 hx (pc' := 311) rfl (hb hby at_308) ((if0 _ _).trans (tlt ((lw_lt _ _).2 hc308_6)).2.1) ?_
          refine G_iconst Y28 hx (pc' := 312) rfl (hb hby at_311) (z := (1 : Int32)) rfl ?_
          refine G_goto Y28 hx (pc' := 316) (hb hby at_312)  (by decide) (by decide) ?_
          refine G_iadd Y28 hx (pc' := 317) rfl (hb hby at_316)  ?_
          refine G_istore Y28 hx (pc' := 319) rfl (hb hby at_317) (L' := #[.val (.long v0), .second, .val (.int v1), .val (.int v2), .val (.ref b1), .val (.int d), .val (.int (v2 &&& (7 : Int32))), .val (.long w), .second, .val (.int ((f_digits (f_abs w)) + (1 : Int32)))]) rfl ?_
          refine G_lload Y28 hx (pc' := 321) rfl (hb hby at_319) rfl ?_
          obtain ⟨_, _, ⟨T29, L29, k29, n29⟩, -, X29, ⟨Lc29, hQ29, l29, y29, z29⟩, st29⟩ := Jvm.LawKit.callS Y28 hx (y := (⟨"com/example/colonwise/colonwise/model/BencodeInteger", "textLength", "(J)I"⟩ : MethodName)) hown (mvT hZ (hw _ (List.mem_of_getElem? (i := 29) rfl))) (mvT hZ (hw _ (List.mem_of_getElem? (i := 30) rfl))) (mvT hZ (hw _ (List.mem_of_getElem? (i := 31) rfl))) (mvT hZ (hw _ (List.mem_of_getElem? (i := 32) rfl))) (by decide) (backOf (W := 0) (rm_textLen l Z a0 hw [] w h20 n0 Z_20 ) hZ (hw _ (List.mem_of_getElem? (i := 32) rfl)) (hw _ (List.mem_of_getElem? (i := 31) rfl)) (by decide) (by decide)) (g := (mkF m 321 #[.val (.long v0), .second, .val (.int v1), .val (.int v2), .val (.ref b1), .val (.int d), .val (.int (v2 &&& (7 : Int32))), .val (.long w), .second, .val (.int ((f_digits (f_abs w)) + (1 : Int32)))] [(.long w)])) rfl (by rw [hml]; rfl) (argsL := [(.long w)]) (rest := []) (lenOf pd_0 rfl) rfl (by show 2 * 0 + _ ≤ _; exact Nat.le_of_eq rfl) (hb hby at_321) (fun _ _ => ⟨rfl, e28, (by decide : 1 + 0 ≤ _), (by decide : 19 + 0 ≤ _)⟩)
          dsimp only [Pt.U, Pt.locs, Pt.cells, Pt.slots] at X29 l29 y29 z29 st29 hQ29
          rw [l29, y29, z29] at X29
          clear l29 y29 z29
          obtain ⟨rfl, N29q, e29⟩ := hQ29
          have N29 := Fr.app M28 N29q
          refine Go.st st29 ?_
          obtain ⟨G29, Y29, M29⟩ : ∃ L, Stand p l e room_1 s m #[(.long v0), (.int v1), (.int v2)] below meth c T29 L 1 19 ∧ Fr n0 L := ⟨_, X29, N29⟩
          clear X29 N29
          show Go p e below s _ _ _ T29 (mkF m 324 #[.val (.long v0), .second, .val (.int v1), .val (.int v2), .val (.ref b1), .val (.int d), .val (.int (v2 &&& (7 : Int32))), .val (.long w), .second, .val (.int ((f_digits (f_abs w)) + (1 : Int32)))] [(.int (f_textLen w))])
          refine G_iload Y29 hx (pc' := 326) rfl (hb hby at_324) rfl ?_
          refine G_icmpNo Y29 hx (pc' := 329) rfl (hb hby at_326) (teq (own_t2 hc286_5 hc308_6 : (f_textLen w) = ((f_digits (f_abs w)) + (1 : Int32)))).2 ?_
          refine G_iconst Y29 hx (pc' := 330) rfl (hb hby at_329) (z := (1 : Int32)) rfl ?_
          refine G_goto Y29 hx (pc' := 334) (hb hby at_330)  (by decide) (by decide) ?_
          refine Go.fin Y29 hlk (v := some (.int (1 : Int32))) (fun h => by rw [Bd.returns] at h; cases h) (by decide) (by decide) ?_ (fun fs hr => retN Y29 hx (t := .boolean) Bd.returns (by simp) (hb hby at_334) hr)
          show Q_law Z v0 v1 v2 h0 n0 _ T29.heap _
          rw [e29]
          exact ⟨rfl, M29⟩
        · refine G_ifYes Y28 hx (pc' := 315) (hb hby at_308) ((if0 _ _).trans (flt (fun q => hc308_6 ((lw_lt _ _).1 q))).2.1) (by decide) (by decide) ?_
          refine G_iconst Y28 hx (pc' := 316) rfl (hb hby at_315) (z := (0 : Int32)) rfl ?_
          refine G_iadd Y28 hx (pc' := 317) rfl (hb hby at_316)  ?_
          refine G_istore Y28 hx (pc' := 319) rfl (hb hby at_317) (L' := #[.val (.long v0), .second, .val (.int v1), .val (.int v2), .val (.ref b1), .val (.int d), .val (.int (v2 &&& (7 : Int32))), .val (.long w), .second, .val (.int ((f_digits (f_abs w)) + (0 : Int32)))]) rfl ?_
          refine G_lload Y28 hx (pc' := 321) rfl (hb hby at_319) rfl ?_
          obtain ⟨_, _, ⟨T30, L30, k30, n30⟩, -, X30, ⟨Lc30, hQ30, l30, y30, z30⟩, st30⟩ := Jvm.LawKit.callS Y28 hx (y := (⟨"com/example/colonwise/colonwise/model/BencodeInteger", "textLength", "(J)I"⟩ : MethodName)) hown (mvT hZ (hw _ (List.mem_of_getElem? (i := 29) rfl))) (mvT hZ (hw _ (List.mem_of_getElem? (i := 30) rfl))) (mvT hZ (hw _ (List.mem_of_getElem? (i := 31) rfl))) (mvT hZ (hw _ (List.mem_of_getElem? (i := 32) rfl))) (by decide) (backOf (W := 0) (rm_textLen l Z a0 hw [] w h20 n0 Z_20 ) hZ (hw _ (List.mem_of_getElem? (i := 32) rfl)) (hw _ (List.mem_of_getElem? (i := 31) rfl)) (by decide) (by decide)) (g := (mkF m 321 #[.val (.long v0), .second, .val (.int v1), .val (.int v2), .val (.ref b1), .val (.int d), .val (.int (v2 &&& (7 : Int32))), .val (.long w), .second, .val (.int ((f_digits (f_abs w)) + (0 : Int32)))] [(.long w)])) rfl (by rw [hml]; rfl) (argsL := [(.long w)]) (rest := []) (lenOf pd_0 rfl) rfl (by show 2 * 0 + _ ≤ _; exact Nat.le_of_eq rfl) (hb hby at_321) (fun _ _ => ⟨rfl, e28, (by decide : 1 + 0 ≤ _), (by decide : 19 + 0 ≤ _)⟩)
          dsimp only [Pt.U, Pt.locs, Pt.cells, Pt.slots] at X30 l30 y30 z30 st30 hQ30
          rw [l30, y30, z30] at X30
          clear l30 y30 z30
          obtain ⟨rfl, N30q, e30⟩ := hQ30
          have N30 := Fr.app M28 N30q
          refine Go.st st30 ?_
          obtain ⟨G30, Y30, M30⟩ : ∃ L, Stand p l e room_1 s m #[(.long v0), (.int v1), (.int v2)] below meth c T30 L 1 19 ∧ Fr n0 L := ⟨_, X30, N30⟩
          clear X30 N30
          show Go p e below s _ _ _ T30 (mkF m 324 #[.val (.long v0), .second, .val (.int v1), .val (.int v2), .val (.ref b1), .val (.int d), .val (.int (v2 &&& (7 : Int32))), .val (.long w), .second, .val (.int ((f_digits (f_abs w)) + (0 : Int32)))] [(.int (f_textLen w))])
          refine G_iload Y30 hx (pc' := 326) rfl (hb hby at_324) rfl ?_
          refine G_icmpNo Y30 hx (pc' := 329) rfl (hb hby at_326) (teq (own_t3 hc286_5 hc308_6 : (f_textLen w) = ((f_digits (f_abs w)) + (0 : Int32)))).2 ?_
          refine G_iconst Y30 hx (pc' := 330) rfl (hb hby at_329) (z := (1 : Int32)) rfl ?_
          refine G_goto Y30 hx (pc' := 334) (hb hby at_330)  (by decide) (by decide) ?_
          refine Go.fin Y30 hlk (v := some (.int (1 : Int32))) (fun h => by rw [Bd.returns] at h; cases h) (by decide) (by decide) ?_ (fun fs hr => retN Y30 hx (t := .boolean) Bd.returns (by simp) (hb hby at_334) hr)
          show Q_law Z v0 v1 v2 h0 n0 _ T30.heap _
          rw [e30]
          exact ⟨rfl, M30⟩
    · refine G_icmpYes Y20 hx (pc' := 175) (hb hby at_160) (feq hc160_4).2 (by decide) (by decide) ?_
      refine G_iload Y20 hx (pc' := 177) rfl (hb hby at_175) rfl ?_
      refine G_iconst Y20 hx (pc' := 178) rfl (hb hby at_177) (z := (2 : Int32)) rfl ?_
      by_cases hc178_7 : (v2 &&& (7 : Int32)) = (2 : Int32)
      · refine G_icmpNo Y20 hx (pc' := 181) rfl (hb hby at_178) (teq hc178_7).2 ?_
        refine G_aload Y20 hx (pc' := 183) rfl (hb hby at_181) rfl rfl ?_
        refine G_iload Y20 hx (pc' := 185) rfl (hb hby at_183) rfl ?_
        refine Go.st (ldAJ Y20 hx hZ e20 Apow (j := d) (own_i1 hA) (own_i2 hA hB) (g := (mkF m 185 #[.val (.long v0), .second, .val (.int v1), .val (.int v2), .val (.ref b1), .val (.int d), .val (.int (v2 &&& (7 : Int32))), .unset, .unset, .unset] [(.int d), (.ref b1)])) rfl rfl (hb hby at_185)) ?_
        show Go p e below s _ _ _ T20 (mkF m 186 #[.val (.long v0), .second, .val (.int v1), .val (.int v2), .val (.ref b1), .val (.int d), .val (.int (v2 &&& (7 : Int32))), .unset, .unset, .unset] [(.long (own_pows.getD d.toNatClampNeg 0))])
        refine G_lstore Y20 hx (pc' := 188) rfl (hb hby at_186) (L' := #[.val (.long v0), .second, .val (.int v1), .val (.int v2), .val (.ref b1), .val (.int d), .val (.int (v2 &&& (7 : Int32))), .val (.long (own_pows.getD d.toNatClampNeg 0)), .second, .unset]) rfl ?_
        refine G_goto Y20 hx (pc' := 280) (hb hby at_188)  (by decide) (by decide) ?_
        obtain ⟨w, h_w⟩ : ∃ w : Int64, (own_pows.getD d.toNatClampNeg 0) = w := ⟨_, rfl⟩
        rw [h_w]
        refine G_lload Y20 hx (pc' := 282) rfl (hb hby at_280) rfl ?_
        refine G_ldc2 Y20 hx (pc' := 285) rfl hown (mvT hZ (hw _ (List.mem_of_getElem? (i := 20) rfl))) (hb hby at_282) ?_
        refine G_lcmp Y20 hx (pc' := 286) rfl (hb hby at_285)  ?_
        by_cases hc286_8 : w = (-9223372036854775808 : Int64)
        · refine G_ifNo Y20 hx (pc' := 289) rfl (hb hby at_286) ((if0 _ _).trans (teq ((lw_eq _ _).2 hc286_8)).2) ?_
          refine G_bipush Y20 hx (pc' := 291) rfl (hb hby at_289) (z := (20 : Int32)) rfl ?_
          refine G_istore Y20 hx (pc' := 293) rfl (hb hby at_291) (L' := #[.val (.long v0), .second, .val (.int v1), .val (.int v2), .val (.ref b1), .val (.int d), .val (.int (v2 &&& (7 : Int32))), .val (.long w), .second, .val (.int (20 : Int32))]) rfl ?_
          refine G_goto Y20 hx (pc' := 319) (hb hby at_293)  (by decide) (by decide) ?_
          refine G_lload Y20 hx (pc' := 321) rfl (hb hby at_319) rfl ?_
          obtain ⟨_, _, ⟨T31, L31, k31, n31⟩, -, X31, ⟨Lc31, hQ31, l31, y31, z31⟩, st31⟩ := Jvm.LawKit.callS Y20 hx (y := (⟨"com/example/colonwise/colonwise/model/BencodeInteger", "textLength", "(J)I"⟩ : MethodName)) hown (mvT hZ (hw _ (List.mem_of_getElem? (i := 29) rfl))) (mvT hZ (hw _ (List.mem_of_getElem? (i := 30) rfl))) (mvT hZ (hw _ (List.mem_of_getElem? (i := 31) rfl))) (mvT hZ (hw _ (List.mem_of_getElem? (i := 32) rfl))) (by decide) (backOf (W := 0) (rm_textLen l Z a0 hw [] w h20 n0 Z_20 ) hZ (hw _ (List.mem_of_getElem? (i := 32) rfl)) (hw _ (List.mem_of_getElem? (i := 31) rfl)) (by decide) (by decide)) (g := (mkF m 321 #[.val (.long v0), .second, .val (.int v1), .val (.int v2), .val (.ref b1), .val (.int d), .val (.int (v2 &&& (7 : Int32))), .val (.long w), .second, .val (.int (20 : Int32))] [(.long w)])) rfl (by rw [hml]; rfl) (argsL := [(.long w)]) (rest := []) (lenOf pd_0 rfl) rfl (by show 2 * 0 + _ ≤ _; exact Nat.le_of_eq rfl) (hb hby at_321) (fun _ _ => ⟨rfl, e20, (by decide : 1 + 0 ≤ _), (by decide : 19 + 0 ≤ _)⟩)
          dsimp only [Pt.U, Pt.locs, Pt.cells, Pt.slots] at X31 l31 y31 z31 st31 hQ31
          rw [l31, y31, z31] at X31
          clear l31 y31 z31
          obtain ⟨rfl, N31q, e31⟩ := hQ31
          have N31 := Fr.app M20 N31q
          refine Go.st st31 ?_
          obtain ⟨G31, Y31, M31⟩ : ∃ L, Stand p l e room_1 s m #[(.long v0), (.int v1), (.int v2)] below meth c T31 L 1 19 ∧ Fr n0 L := ⟨_, X31, N31⟩
          clear X31 N31
          show Go p e below s _ _ _ T31 (mkF m 324 #[.val (.long v0), .second, .val (.int v1), .val (.int v2), .val (.ref b1), .val (.int d), .val (.int (v2 &&& (7 : Int32))), .val (.long w), .second, .val (.int (20 : Int32))] [(.int (f_textLen w))])
          refine G_iload Y31 hx (pc' := 326) rfl (hb hby at_324) rfl ?_
          refine G_icmpNo Y31 hx (pc' := 329) rfl (hb hby at_326) (teq (own_t1 hc286_8 : (f_textLen w) = (20 : Int32))).2 ?_
          refine G_iconst Y31 hx (pc' := 330) rfl (hb hby at_329) (z := (1 : Int32)) rfl ?_
          refine G_goto Y31 hx (pc' := 334) (hb hby at_330)  (by decide) (by decide) ?_
          refine Go.fin Y31 hlk (v := some (.int (1 : Int32))) (fun h => by rw [Bd.returns] at h; cases h) (by decide) (by decide) ?_ (fun fs hr => retN Y31 hx (t := .boolean) Bd.returns (by simp) (hb hby at_334) hr)
          show Q_law Z v0 v1 v2 h0 n0 _ T31.heap _
          rw [e31]
          exact ⟨rfl, M31⟩
        · refine G_ifYes Y20 hx (pc' := 296) (hb hby at_286) ((if0 _ _).trans (feq (fun q => hc286_8 ((lw_eq _ _).1 q))).2) (by decide) (by decide) ?_
          refine G_lload Y20 hx (pc' := 298) rfl (hb hby at_296) rfl ?_
          obtain ⟨_, _, ⟨T32, L32, k32, n32⟩, -, X32, ⟨Lc32, hQ32, l32, y32, z32⟩, st32⟩ := Jvm.LawKit.callS Y20 hx (y := (⟨"java/lang/Math", "abs", "(J)J"⟩ : MethodName)) hown (mvT hZ (hw _ (List.mem_of_getElem? (i := 21) rfl))) (mvT hZ (hw _ (List.mem_of_getElem? (i := 22) rfl))) (mvT hZ (hw _ (List.mem_of_getElem? (i := 23) rfl))) (mvT hZ (hw _ (List.mem_of_getElem? (i := 24) rfl))) (by decide) (backOf (W := 0) (rm_abs l Z a0 hw [] w h20 n0 Z_20 ) hZ (hw _ (List.mem_of_getElem? (i := 24) rfl)) (hw _ (List.mem_of_getElem? (i := 23) rfl)) (by decide) (by decide)) (g := (mkF m 298 #[.val (.long v0), .second, .val (.int v1), .val (.int v2), .val (.ref b1), .val (.int d), .val (.int (v2 &&& (7 : Int32))), .val (.long w), .second, .unset] [(.long w)])) rfl (by rw [hml]; rfl) (argsL := [(.long w)]) (rest := []) (lenOf pd_1 rfl) rfl (by show 2 * 0 + _ ≤ _; exact Nat.le_of_eq rfl) (hb hby at_298) (fun _ _ => ⟨rfl, e20, (by decide : 1 + 0 ≤ _), (by decide : 19 + 0 ≤ _)⟩)
          dsimp only [Pt.U, Pt.locs, Pt.cells, Pt.slots] at X32 l32 y32 z32 st32 hQ32
          rw [l32, y32, z32] at X32
          clear l32 y32 z32
          obtain ⟨rfl, N32q, e32⟩ := hQ32
          have N32 := Fr.app M20 N32q
          refine Go.st st32 ?_
          obtain ⟨G32, Y32, M32⟩ : ∃ L, Stand p l e room_1 s m #[(.long v0), (.int v1), (.int v2)] below meth c T32 L 1 19 ∧ Fr n0 L := ⟨_, X32, N32⟩
          clear X32 N32
          show Go p e below s _ _ _ T32 (mkF m 301 #[.val (.long v0), .second, .val (.int v1), .val (.int v2), .val (.ref b1), .val (.int d), .val (.int (v2 &&& (7 : Int32))), .val (.long w), .second, .unset] [(.long (f_abs w))])
          obtain ⟨_, _, ⟨T33, L33, k33, n33⟩, -, X33, ⟨Lc33, hQ33, l33, y33, z33⟩, st33⟩ := Jvm.LawKit.callS Y32 hx (y := (⟨"com/example/colonwise/colonwise/model/BencodeIntegerTextLengthPinLaw", "digits", "(J)I"⟩ : MethodName)) hown (mvT hZ (hw _ (List.mem_of_getElem? (i := 25) rfl))) (mvT hZ (hw _ (List.mem_of_getElem? (i := 26) rfl))) (mvT hZ (hw _ (List.mem_of_getElem? (i := 27) rfl))) (mvT hZ (hw _ (List.mem_of_getElem? (i := 28) rfl))) (by decide) (backOf (W := 0) (rm_digits l Z a0 hw [] (f_abs w) h20 n0 Z_20 ) hZ (hw _ (List.mem_of_getElem? (i := 28) rfl)) (hw _ (List.mem_of_getElem? (i := 27) rfl)) (by decide) (by decide)) (g := (mkF m 301 #[.val (.long v0), .second, .val (.int v1), .val (.int v2), .val (.ref b1), .val (.int d), .val (.int (v2 &&& (7 : Int32))), .val (.long w), .second, .unset] [(.long (f_abs w))])) rfl (by rw [hml]; rfl) (argsL := [(.long (f_abs w))]) (rest := []) (lenOf pd_0 rfl) rfl (by show 2 * 0 + _ ≤ _; exact Nat.le_of_eq rfl) (hb hby at_301) (fun _ _ => ⟨rfl, e32, (by decide : 1 + 0 ≤ _), (by decide : 19 + 0 ≤ _)⟩)
          dsimp only [Pt.U, Pt.locs, Pt.cells, Pt.slots] at X33 l33 y33 z33 st33 hQ33
          rw [l33, y33, z33] at X33
          clear l33 y33 z33
          obtain ⟨rfl, N33q, e33⟩ := hQ33
          have N33 := Fr.app M32 N33q
          refine Go.st st33 ?_
          obtain ⟨G33, Y33, M33⟩ : ∃ L, Stand p l e room_1 s m #[(.long v0), (.int v1), (.int v2)] below meth c T33 L 1 19 ∧ Fr n0 L := ⟨_, X33, N33⟩
          clear X33 N33
          show Go p e below s _ _ _ T33 (mkF m 304 #[.val (.long v0), .second, .val (.int v1), .val (.int v2), .val (.ref b1), .val (.int d), .val (.int (v2 &&& (7 : Int32))), .val (.long w), .second, .unset] [(.int (f_digits (f_abs w)))])
          refine G_lload Y33 hx (pc' := 306) rfl (hb hby at_304) rfl ?_
          refine G_lconst Y33 hx (pc' := 307) rfl (hb hby at_306) (z := (0 : Int64)) rfl ?_
          refine G_lcmp Y33 hx (pc' := 308) rfl (hb hby at_307)  ?_
          by_cases hc308_9 : w < (0 : Int64)
          · refine G_ifNo Y33 hx (pc' := 311) rfl (hb hby at_308) ((if0 _ _).trans (tlt ((lw_lt _ _).2 hc308_9)).2.1) ?_
            refine G_iconst Y33 hx (pc' := 312) rfl (hb hby at_311) (z := (1 : Int32)) rfl ?_
            refine G_goto Y33 hx (pc' := 316) (hb hby at_312)  (by decide) (by decide) ?_
            refine G_iadd Y33 hx (pc' := 317) rfl (hb hby at_316)  ?_
            refine G_istore Y33 hx (pc' := 319) rfl (hb hby at_317) (L' := #[.val (.long v0), .second, .val (.int v1), .val (.int v2), .val (.ref b1), .val (.int d), .val (.int (v2 &&& (7 : Int32))), .val (.long w), .second, .val (.int ((f_digits (f_abs w)) + (1 : Int32)))]) rfl ?_
            refine G_lload Y33 hx (pc' := 321) rfl (hb hby at_319) rfl ?_
            obtain ⟨_, _, ⟨T34, L34, k34, n34⟩, -, X34, ⟨Lc34, hQ34, l34, y34, z34⟩, st34⟩ := Jvm.LawKit.callS Y33 hx (y := (⟨"com/example/colonwise/colonwise/model/BencodeInteger", "textLength", "(J)I"⟩ : MethodName)) hown (mvT hZ (hw _ (List.mem_of_getElem? (i := 29) rfl))) (mvT hZ (hw _ (List.mem_of_getElem? (i := 30) rfl))) (mvT hZ (hw _ (List.mem_of_getElem? (i := 31) rfl))) (mvT hZ (hw _ (List.mem_of_getElem? (i := 32) rfl))) (by decide) (backOf (W := 0) (rm_textLen l Z a0 hw [] w h20 n0 Z_20 ) hZ (hw _ (List.mem_of_getElem? (i := 32) rfl)) (hw _ (List.mem_of_getElem? (i := 31) rfl)) (by decide) (by decide)) (g := (mkF m 321 #[.val (.long v0), .second, .val (.int v1), .val (.int v2), .val (.ref b1), .val (.int d), .val (.int (v2 &&& (7 : Int32))), .val (.long w), .second, .val (.int ((f_digits (f_abs w)) + (1 : Int32)))] [(.long w)])) rfl (by rw [hml]; rfl) (argsL := [(.long w)]) (rest := []) (lenOf pd_0 rfl) rfl (by show 2 * 0 + _ ≤ _; exact Nat.le_of_eq rfl) (hb hby at_321) (fun _ _ => ⟨rfl, e33, (by decide : 1 + 0 ≤ _), (by decide : 19 + 0 ≤ _)⟩)
            dsimp only [Pt.U, Pt.locs, Pt.cells, Pt.slots] at X34 l34 y34 z34 st34 hQ34
            rw [l34, y34, z34] at X34
            clear l34 y34 z34
            obtain ⟨rfl, N34q, e34⟩ := hQ34
            have N34 := Fr.app M33 N34q
            refine Go.st st34 ?_
            obtain ⟨G34, Y34, M34⟩ : ∃ L, Stand p l e room_1 s m #[(.long v0), (.int v1), (.int v2)] below meth c T34 L 1 19 ∧ Fr n0 L := ⟨_, X34, N34⟩
            clear X34 N34
            show Go p e below s _ _ _ T34 (mkF m 324 #[.val (.long v0), .second, .val (.int v1), .val (.int v2), .val (.ref b1), .val (.int d), .val (.int (v2 &&& (7 : Int32))), .val (.long w), .second, .val (.int ((f_digits (f_abs w)) + (1 : Int32)))] [(.int (f_textLen w))])
            refine G_iload Y34 hx (pc' := 326) rfl (hb hby at_324) rfl ?_
            refine G_icmpNo Y34 hx (pc' := 329) rfl (hb hby at_326) (teq (own_t2 hc286_8 hc308_9 : (f_textLen w) = ((f_digits (f_abs w)) + (1 : Int32)))).2 ?_
            refine G_iconst Y34 hx (pc' := 330) rfl (hb hby at_329) (z := (1 : Int32)) rfl ?_
            refine G_goto Y34 hx (pc' := 334) (hb hby at_330)  (by decide) (by decide) ?_
            refine Go.fin Y34 hlk (v := some (.int (1 : Int32))) (fun h => by rw [Bd.returns] at h; cases h) (by decide) (by decide) ?_ (fun fs hr => retN Y34 hx (t := .boolean) Bd.returns (by simp) (hb hby at_334) hr)
            show Q_law Z v0 v1 v2 h0 n0 _ T34.heap _
            rw [e34]
            exact ⟨rfl, M34⟩
          · refine G_ifYes Y33 hx (pc' := 315) (hb hby at_308) ((if0 _ _).trans (flt (fun q => hc308_9 ((lw_lt _ _).1 q))).2.1) (by decide) (by decide) ?_
            refine G_iconst Y33 hx (pc' := 316) rfl (hb hby at_315) (z := (0 : Int32)) rfl ?_
            refine G_iadd Y33 hx (pc' := 317) rfl (hb hby at_316)  ?_
            refine G_istore Y33 hx (pc' := 319) rfl (hb hby at_317) (L' := #[.val (.long v0), .second, .val (.int v1), .val (.int v2), .val (.ref b1), .val (.int d), .val (.int (v2 &&& (7 : Int32))), .val (.long w), .second, .val (.int ((f_digits (f_abs w)) + (0 : Int32)))]) rfl ?_
            refine G_lload Y33 hx (pc' := 321) rfl (hb hby at_319) rfl ?_
            obtain ⟨_, _, ⟨T35, L35, k35, n35⟩, -, X35, ⟨Lc35, hQ35, l35, y35, z35⟩, st35⟩ := Jvm.LawKit.callS Y33 hx (y := (⟨"com/example/colonwise/colonwise/model/BencodeInteger", "textLength", "(J)I"⟩ : MethodName)) hown (mvT hZ (hw _ (List.mem_of_getElem? (i := 29) rfl))) (mvT hZ (hw _ (List.mem_of_getElem? (i := 30) rfl))) (mvT hZ (hw _ (List.mem_of_getElem? (i := 31) rfl))) (mvT hZ (hw _ (List.mem_of_getElem? (i := 32) rfl))) (by decide) (backOf (W := 0) (rm_textLen l Z a0 hw [] w h20 n0 Z_20 ) hZ (hw _ (List.mem_of_getElem? (i := 32) rfl)) (hw _ (List.mem_of_getElem? (i := 31) rfl)) (by decide) (by decide)) (g := (mkF m 321 #[.val (.long v0), .second, .val (.int v1), .val (.int v2), .val (.ref b1), .val (.int d), .val (.int (v2 &&& (7 : Int32))), .val (.long w), .second, .val (.int ((f_digits (f_abs w)) + (0 : Int32)))] [(.long w)])) rfl (by rw [hml]; rfl) (argsL := [(.long w)]) (rest := []) (lenOf pd_0 rfl) rfl (by show 2 * 0 + _ ≤ _; exact Nat.le_of_eq rfl) (hb hby at_321) (fun _ _ => ⟨rfl, e33, (by decide : 1 + 0 ≤ _), (by decide : 19 + 0 ≤ _)⟩)
            dsimp only [Pt.U, Pt.locs, Pt.cells, Pt.slots] at X35 l35 y35 z35 st35 hQ35
            rw [l35, y35, z35] at X35
            clear l35 y35 z35
            obtain ⟨rfl, N35q, e35⟩ := hQ35
            have N35 := Fr.app M33 N35q
            refine Go.st st35 ?_
            obtain ⟨G35, Y35, M35⟩ : ∃ L, Stand p l e room_1 s m #[(.long v0), (.int v1), (.int v2)] below meth c T35 L 1 19 ∧ Fr n0 L := ⟨_, X35, N35⟩
            clear X35 N35
            show Go p e below s _ _ _ T35 (mkF m 324 #[.val (.long v0), .second, .val (.int v1), .val (.int v2), .val (.ref b1), .val (.int d), .val (.int (v2 &&& (7 : Int32))), .val (.long w), .second, .val (.int ((f_digits (f_abs w)) + (0 : Int32)))] [(.int (f_textLen w))])
            refine G_iload Y35 hx (pc' := 326) rfl (hb hby at_324) rfl ?_
            refine G_icmpNo Y35 hx (pc' := 329) rfl (hb hby at_326) (teq (own_t3 hc286_8 hc308_9 : (f_textLen w) = ((f_digits (f_abs w)) + (0 : Int32)))).2 ?_
            refine G_iconst Y35 hx (pc' := 330) rfl (hb hby at_329) (z := (1 : Int32)) rfl ?_
            refine G_goto Y35 hx (pc' := 334) (hb hby at_330)  (by decide) (by decide) ?_
            refine Go.fin Y35 hlk (v := some (.int (1 : Int32))) (fun h => by rw [Bd.returns] at h; cases h) (by decide) (by decide) ?_ (fun fs hr => retN Y35 hx (t := .boolean) Bd.returns (by simp) (hb hby at_334) hr)
            show Q_law Z v0 v1 v2 h0 n0 _ T35.heap _
            rw [e35]
            exact ⟨rfl, M35⟩
      · refine G_icmpYes Y20 hx (pc' := 191) (hb hby at_178) (feq hc178_7).2 (by decide) (by decide) ?_
        refine G_iload Y20 hx (pc' := 193) rfl (hb hby at_191) rfl ?_
        refine G_iconst Y20 hx (pc' := 194) rfl (hb hby at_193) (z := (3 : Int32)) rfl ?_
        by_cases hc194_10 : (v2 &&& (7 : Int32)) = (3 : Int32)
        · refine G_icmpNo Y20 hx (pc' := 197) rfl (hb hby at_194) (teq hc194_10).2 ?_
          refine G_aload Y20 hx (pc' := 199) rfl (hb hby at_197) rfl rfl ?_
          refine G_iload Y20 hx (pc' := 201) rfl (hb hby at_199) rfl ?_
          refine Go.st (ldAJ Y20 hx hZ e20 Apow (j := d) (own_i1 hA) (own_i2 hA hB) (g := (mkF m 201 #[.val (.long v0), .second, .val (.int v1), .val (.int v2), .val (.ref b1), .val (.int d), .val (.int (v2 &&& (7 : Int32))), .unset, .unset, .unset] [(.int d), (.ref b1)])) rfl rfl (hb hby at_201)) ?_
          show Go p e below s _ _ _ T20 (mkF m 202 #[.val (.long v0), .second, .val (.int v1), .val (.int v2), .val (.ref b1), .val (.int d), .val (.int (v2 &&& (7 : Int32))), .unset, .unset, .unset] [(.long (own_pows.getD d.toNatClampNeg 0))])
          refine G_lconst Y20 hx (pc' := 203) rfl (hb hby at_202) (z := (1 : Int64)) rfl ?_
          refine G_lsub Y20 hx (pc' := 204) rfl (hb hby at_203)  ?_
          refine G_lstore Y20 hx (pc' := 206) rfl (hb hby at_204) (L' := #[.val (.long v0), .second, .val (.int v1), .val (.int v2), .val (.ref b1), .val (.int d), .val (.int (v2 &&& (7 : Int32))), .val (.long ((own_pows.getD d.toNatClampNeg 0) - (1 : Int64))), .second, .unset]) rfl ?_
          refine G_goto Y20 hx (pc' := 280) (hb hby at_206)  (by decide) (by decide) ?_
          obtain ⟨w, h_w⟩ : ∃ w : Int64, ((own_pows.getD d.toNatClampNeg 0) - (1 : Int64)) = w := ⟨_, rfl⟩
          rw [h_w]
          refine G_lload Y20 hx (pc' := 282) rfl (hb hby at_280) rfl ?_
          refine G_ldc2 Y20 hx (pc' := 285) rfl hown (mvT hZ (hw _ (List.mem_of_getElem? (i := 20) rfl))) (hb hby at_282) ?_
          refine G_lcmp Y20 hx (pc' := 286) rfl (hb hby at_285)  ?_
          by_cases hc286_11 : w = (-9223372036854775808 : Int64)
          · refine G_ifNo Y20 hx (pc' := 289) rfl (hb hby at_286) ((if0 _ _).trans (teq ((lw_eq _ _).2 hc286_11)).2) ?_
            refine G_bipush Y20 hx (pc' := 291) rfl (hb hby at_289) (z := (20 : Int32)) rfl ?_
            refine G_istore Y20 hx (pc' := 293) rfl (hb hby at_291) (L' := #[.val (.long v0), .second, .val (.int v1), .val (.int v2), .val (.ref b1), .val (.int d), .val (.int (v2 &&& (7 : Int32))), .val (.long w), .second, .val (.int (20 : Int32))]) rfl ?_
            refine G_goto Y20 hx (pc' := 319) (hb hby at_293)  (by decide) (by decide) ?_
            refine G_lload Y20 hx (pc' := 321) rfl (hb hby at_319) rfl ?_
            obtain ⟨_, _, ⟨T36, L36, k36, n36⟩, -, X36, ⟨Lc36, hQ36, l36, y36, z36⟩, st36⟩ := Jvm.LawKit.callS Y20 hx (y := (⟨"com/example/colonwise/colonwise/model/BencodeInteger", "textLength", "(J)I"⟩ : MethodName)) hown (mvT hZ (hw _ (List.mem_of_getElem? (i := 29) rfl))) (mvT hZ (hw _ (List.mem_of_getElem? (i := 30) rfl))) (mvT hZ (hw _ (List.mem_of_getElem? (i := 31) rfl))) (mvT hZ (hw _ (List.mem_of_getElem? (i := 32) rfl))) (by decide) (backOf (W := 0) (rm_textLen l Z a0 hw [] w h20 n0 Z_20 ) hZ (hw _ (List.mem_of_getElem? (i := 32) rfl)) (hw _ (List.mem_of_getElem? (i := 31) rfl)) (by decide) (by decide)) (g := (mkF m 321 #[.val (.long v0), .second, .val (.int v1), .val (.int v2), .val (.ref b1), .val (.int d), .val (.int (v2 &&& (7 : Int32))), .val (.long w), .second, .val (.int (20 : Int32))] [(.long w)])) rfl (by rw [hml]; rfl) (argsL := [(.long w)]) (rest := []) (lenOf pd_0 rfl) rfl (by show 2 * 0 + _ ≤ _; exact Nat.le_of_eq rfl) (hb hby at_321) (fun _ _ => ⟨rfl, e20, (by decide : 1 + 0 ≤ _), (by decide : 19 + 0 ≤ _)⟩)
            dsimp only [Pt.U, Pt.locs, Pt.cells, Pt.slots] at X36 l36 y36 z36 st36 hQ36
            rw [l36, y36, z36] at X36
            clear l36 y36 z36
            obtain ⟨rfl, N36q, e36⟩ := hQ36
            have N36 := Fr.app M20 N36q
            refine Go.st st36 ?_
            obtain ⟨G36, Y36, M36⟩ : ∃ L, Stand p l e room_1 s m #[(.long v0), (.int v1), (.int v2)] below meth c T36 L 1 19 ∧ Fr n0 L := ⟨_, X36, N36⟩
            clear X36 N36
            show Go p e below s _ _ _ T36 (mkF m 324 #[.val (.long v0), .second, .val (.int v1), .val (.int v2), .val (.ref b1), .val (.int d), .val (.int (v2 &&& (7 : Int32))), .val (.long w), .second, .val (.int (20 : Int32))] [(.int (f_textLen w))])
            refine G_iload Y36 hx (pc' := 326) rfl (hb hby at_324) rfl ?_
            refine G_icmpNo Y36 hx (pc' := 329) rfl (hb hby at_326) (teq (own_t1 hc286_11 : (f_textLen w) = (20 : Int32))).2 ?_
            refine G_iconst Y36 hx (pc' := 330) rfl (hb hby at_329) (z := (1 : Int32)) rfl ?_
            refine G_goto Y36 hx (pc' := 334) (hb hby at_330)  (by decide) (by decide) ?_
            refine Go.fin Y36 hlk (v := some (.int (1 : Int32))) (fun h => by rw [Bd.returns] at h; cases h) (by decide) (by decide) ?_ (fun fs hr => retN Y36 hx (t := .boolean) Bd.returns (by simp) (hb hby at_334) hr)
            show Q_law Z v0 v1 v2 h0 n0 _ T36.heap _
            rw [e36]
            exact ⟨rfl, M36⟩
          · refine G_ifYes Y20 hx (pc' := 296) (hb hby at_286) ((if0 _ _).trans (feq (fun q => hc286_11 ((lw_eq _ _).1 q))).2) (by decide) (by decide) ?_
            refine G_lload Y20 hx (pc' := 298) rfl (hb hby at_296) rfl ?_
            obtain ⟨_, _, ⟨T37, L37, k37, n37⟩, -, X37, ⟨Lc37, hQ37, l37, y37, z37⟩, st37⟩ := Jvm.LawKit.callS Y20 hx (y := (⟨"java/lang/Math", "abs", "(J)J"⟩ : MethodName)) hown (mvT hZ (hw _ (List.mem_of_getElem? (i := 21) rfl))) (mvT hZ (hw _ (List.mem_of_getElem? (i := 22) rfl))) (mvT hZ (hw _ (List.mem_of_getElem? (i := 23) rfl))) (mvT hZ (hw _ (List.mem_of_getElem? (i := 24) rfl))) (by decide) (backOf (W := 0) (rm_abs l Z a0 hw [] w h20 n0 Z_20 ) hZ (hw _ (List.mem_of_getElem? (i := 24) rfl)) (hw _ (List.mem_of_getElem? (i := 23) rfl)) (by decide) (by decide)) (g := (mkF m 298 #[.val (.long v0), .second, .val (.int v1), .val (.int v2), .val (.ref b1), .val (.int d), .val (.int (v2 &&& (7 : Int32))), .val (.long w), .second, .unset] [(.long w)])) rfl (by rw [hml]; rfl) (argsL := [(.long w)]) (rest := []) (lenOf pd_1 rfl) rfl (by show 2 * 0 + _ ≤ _; exact Nat.le_of_eq rfl) (hb hby at_298) (fun _ _ => ⟨rfl, e20, (by decide : 1 + 0 ≤ _), (by decide : 19 + 0 ≤ _)⟩)
            dsimp only [Pt.U, Pt.locs, Pt.cells, Pt.slots] at X37 l37 y37 z37 st37 hQ37
            rw [l37, y37, z37] at X37
            clear l37 y37 z37
            obtain ⟨rfl, N37q, e37⟩ := hQ37
            have N37 := Fr.app M20 N37q
            refine Go.st st37 ?_
            obtain ⟨G37, Y37, M37⟩ : ∃ L, Stand p l e room_1 s m #[(.long v0), (.int v1), (.int v2)] below meth c T37 L 1 19 ∧ Fr n0 L := ⟨_, X37, N37⟩
            clear X37 N37
            show Go p e below s _ _ _ T37 (mkF m 301 #[.val (.long v0), .second, .val (.int v1), .val (.int v2), .val (.ref b1), .val (.int d), .val (.int (v2 &&& (7 : Int32))), .val (.long w), .second, .unset] [(.long (f_abs w))])
            obtain ⟨_, _, ⟨T38, L38, k38, n38⟩, -, X38, ⟨Lc38, hQ38, l38, y38, z38⟩, st38⟩ := Jvm.LawKit.callS Y37 hx (y := (⟨"com/example/colonwise/colonwise/model/BencodeIntegerTextLengthPinLaw", "digits", "(J)I"⟩ : MethodName)) hown (mvT hZ (hw _ (List.mem_of_getElem? (i := 25) rfl))) (mvT hZ (hw _ (List.mem_of_getElem? (i := 26) rfl))) (mvT hZ (hw _ (List.mem_of_getElem? (i := 27) rfl))) (mvT hZ (hw _ (List.mem_of_getElem? (i := 28) rfl))) (by decide) (backOf (W := 0) (rm_digits l Z a0 hw [] (f_abs w) h20 n0 Z_20 ) hZ (hw _ (List.mem_of_getElem? (i := 28) rfl)) (hw _ (List.mem_of_getElem? (i := 27) rfl)) (by decide) (by decide)) (g := (mkF m 301 #[.val (.long v0), .second, .val (.int v1), .val (.int v2), .val (.ref b1), .val (.int d), .val (.int (v2 &&& (7 : Int32))), .val (.long w), .second, .unset] [(.long (f_abs w))])) rfl (by rw [hml]; rfl) (argsL := [(.long (f_abs w))]) (rest := []) (lenOf pd_0 rfl) rfl (by show 2 * 0 + _ ≤ _; exact Nat.le_of_eq rfl) (hb hby at_301) (fun _ _ => ⟨rfl, e37, (by decide : 1 + 0 ≤ _), (by decide : 19 + 0 ≤ _)⟩)
            dsimp only [Pt.U, Pt.locs, Pt.cells, Pt.slots] at X38 l38 y38 z38 st38 hQ38
            rw [l38, y38, z38] at X38
            clear l38 y38 z38
            obtain ⟨rfl, N38q, e38⟩ := hQ38
            have N38 := Fr.app M37 N38q
            refine Go.st st38 ?_
            obtain ⟨G38, Y38, M38⟩ : ∃ L, Stand p l e room_1 s m #[(.long v0), (.int v1), (.int v2)] below meth c T38 L 1 19 ∧ Fr n0 L := ⟨_, X38, N38⟩
            clear X38 N38
            show Go p e below s _ _ _ T38 (mkF m 304 #[.val (.long v0), .second, .val (.int v1), .val (.int v2), .val (.ref b1), .val (.int d), .val (.int (v2 &&& (7 : Int32))), .val (.long w), .second, .unset] [(.int (f_digits (f_abs w)))])
            refine G_lload Y38 hx (pc' := 306) rfl (hb hby at_304) rfl ?_
            refine G_lconst Y38 hx (pc' := 307) rfl (hb hby at_306) (z := (0 : Int64)) rfl ?_
            refine G_lcmp Y38 hx (pc' := 308) rfl (hb hby at_307)  ?_
            by_cases hc308_12 : w < (0 : Int64)
            · refine G_ifNo Y38 hx (pc' := 311) rfl (hb hby at_308) ((if0 _ _).trans (tlt ((lw_lt _ _).2 hc308_12)).2.1) ?_
              refine G_iconst Y38 hx (pc' := 312) rfl (hb hby at_311) (z := (1 : Int32)) rfl ?_
              refine G_goto Y38 hx (pc' := 316) (hb hby at_312)  (by decide) (by decide) ?_
              refine G_iadd Y38 hx (pc' := 317) rfl (hb hby at_316)  ?_
              refine G_istore Y38 hx (pc' := 319) rfl (hb hby at_317) (L' := #[.val (.long v0), .second, .val (.int v1), .val (.int v2), .val (.ref b1), .val (.int d), .val (.int (v2 &&& (7 : Int32))), .val (.long w), .second, .val (.int ((f_digits (f_abs w)) + (1 : Int32)))]) rfl ?_
              refine G_lload Y38 hx (pc' := 321) rfl (hb hby at_319) rfl ?_
              obtain ⟨_, _, ⟨T39, L39, k39, n39⟩, -, X39, ⟨Lc39, hQ39, l39, y39, z39⟩, st39⟩ := Jvm.LawKit.callS Y38 hx (y := (⟨"com/example/colonwise/colonwise/model/BencodeInteger", "textLength", "(J)I"⟩ : MethodName)) hown (mvT hZ (hw _ (List.mem_of_getElem? (i := 29) rfl))) (mvT hZ (hw _ (List.mem_of_getElem? (i := 30) rfl))) (mvT hZ (hw _ (List.mem_of_getElem? (i := 31) rfl))) (mvT hZ (hw _ (List.mem_of_getElem? (i := 32) rfl))) (by decide) (backOf (W := 0) (rm_textLen l Z a0 hw [] w h20 n0 Z_20 ) hZ (hw _ (List.mem_of_getElem? (i := 32) rfl)) (hw _ (List.mem_of_getElem? (i := 31) rfl)) (by decide) (by decide)) (g := (mkF m 321 #[.val (.long v0), .second, .val (.int v1), .val (.int v2), .val (.ref b1), .val (.int d), .val (.int (v2 &&& (7 : Int32))), .val (.long w), .second, .val (.int ((f_digits (f_abs w)) + (1 : Int32)))] [(.long w)])) rfl (by rw [hml]; rfl) (argsL := [(.long w)]) (rest := []) (lenOf pd_0 rfl) rfl (by show 2 * 0 + _ ≤ _; exact Nat.le_of_eq rfl) (hb hby at_321) (fun _ _ => ⟨rfl, e38, (by decide : 1 + 0 ≤ _), (by decide : 19 + 0 ≤ _)⟩)
              dsimp only [Pt.U, Pt.locs, Pt.cells, Pt.slots] at X39 l39 y39 z39 st39 hQ39
              rw [l39, y39, z39] at X39
              clear l39 y39 z39
              obtain ⟨rfl, N39q, e39⟩ := hQ39
              have N39 := Fr.app M38 N39q
              refine Go.st st39 ?_
              obtain ⟨G39, Y39, M39⟩ : ∃ L, Stand p l e room_1 s m #[(.long v0), (.int v1), (.int v2)] below meth c T39 L 1 19 ∧ Fr n0 L := ⟨_, X39, N39⟩
              clear X39 N39
              show Go p e below s _ _ _ T39 (mkF m 324 #[.val (.long v0), .second, .val (.int v1), .val (.int v2), .val (.ref b1), .val (.int d), .val (.int (v2 &&& (7 : Int32))), .val (.long w), .second, .val (.int ((f_digits (f_abs w)) + (1 : Int32)))] [(.int (f_textLen w))])
              refine G_iload Y39 hx (pc' := 326) rfl (hb hby at_324) rfl ?_
              refine G_icmpNo Y39 hx (pc' := 329) rfl (hb hby at_326) (teq (own_t2 hc286_11 hc308_12 : (f_textLen w) = ((f_digits (f_abs w)) + (1 : Int32)))).2 ?_
              refine G_iconst Y39 hx (pc' := 330) rfl (hb hby at_329) (z := (1 : Int32)) rfl ?_
              refine G_goto Y39 hx (pc' := 334) (hb hby at_330)  (by decide) (by decide) ?_
              refine Go.fin Y39 hlk (v := some (.int (1 : Int32))) (fun h => by rw [Bd.returns] at h; cases h) (by decide) (by decide) ?_ (fun fs hr => retN Y39 hx (t := .boolean) Bd.returns (by simp) (hb hby at_334) hr)
              show Q_law Z v0 v1 v2 h0 n0 _ T39.heap _
              rw [e39]
              exact ⟨rfl, M39⟩
            · refine G_ifYes Y38 hx (pc' := 315) (hb hby at_308) ((if0 _ _).trans (flt (fun q => hc308_12 ((lw_lt _ _).1 q))).2.1) (by decide) (by decide) ?_
              refine G_iconst Y38 hx (pc' := 316) rfl (hb hby at_315) (z := (0 : Int32)) rfl ?_
              refine G_iadd Y38 hx (pc' := 317) rfl (hb hby at_316)  ?_
              refine G_istore Y38 hx (pc' := 319) rfl (hb hby at_317) (L' := #[.val (.long v0), .second, .val (.int v1), .val (.int v2), .val (.ref b1), .val (.int d), .val (.int (v2 &&& (7 : Int32))), .val (.long w), .second, .val (.int ((f_digits (f_abs w)) + (0 : Int32)))]) rfl ?_
              refine G_lload Y38 hx (pc' := 321) rfl (hb hby at_319) rfl ?_
              obtain ⟨_, _, ⟨T40, L40, k40, n40⟩, -, X40, ⟨Lc40, hQ40, l40, y40, z40⟩, st40⟩ := Jvm.LawKit.callS Y38 hx (y := (⟨"com/example/colonwise/colonwise/model/BencodeInteger", "textLength", "(J)I"⟩ : MethodName)) hown (mvT hZ (hw _ (List.mem_of_getElem? (i := 29) rfl))) (mvT hZ (hw _ (List.mem_of_getElem? (i := 30) rfl))) (mvT hZ (hw _ (List.mem_of_getElem? (i := 31) rfl))) (mvT hZ (hw _ (List.mem_of_getElem? (i := 32) rfl))) (by decide) (backOf (W := 0) (rm_textLen l Z a0 hw [] w h20 n0 Z_20 ) hZ (hw _ (List.mem_of_getElem? (i := 32) rfl)) (hw _ (List.mem_of_getElem? (i := 31) rfl)) (by decide) (by decide)) (g := (mkF m 321 #[.val (.long v0), .second, .val (.int v1), .val (.int v2), .val (.ref b1), .val (.int d), .val (.int (v2 &&& (7 : Int32))), .val (.long w), .second, .val (.int ((f_digits (f_abs w)) + (0 : Int32)))] [(.long w)])) rfl (by rw [hml]; rfl) (argsL := [(.long w)]) (rest := []) (lenOf pd_0 rfl) rfl (by show 2 * 0 + _ ≤ _; exact Nat.le_of_eq rfl) (hb hby at_321) (fun _ _ => ⟨rfl, e38, (by decide : 1 + 0 ≤ _), (by decide : 19 + 0 ≤ _)⟩)
              dsimp only [Pt.U, Pt.locs, Pt.cells, Pt.slots] at X40 l40 y40 z40 st40 hQ40
              rw [l40, y40, z40] at X40
              clear l40 y40 z40
              obtain ⟨rfl, N40q, e40⟩ := hQ40
              have N40 := Fr.app M38 N40q
              refine Go.st st40 ?_
              obtain ⟨G40, Y40, M40⟩ : ∃ L, Stand p l e room_1 s m #[(.long v0), (.int v1), (.int v2)] below meth c T40 L 1 19 ∧ Fr n0 L := ⟨_, X40, N40⟩
              clear X40 N40
              show Go p e below s _ _ _ T40 (mkF m 324 #[.val (.long v0), .second, .val (.int v1), .val (.int v2), .val (.ref b1), .val (.int d), .val (.int (v2 &&& (7 : Int32))), .val (.long w), .second, .val (.int ((f_digits (f_abs w)) + (0 : Int32)))] [(.int (f_textLen w))])
              refine G_iload Y40 hx (pc' := 326) rfl (hb hby at_324) rfl ?_
              refine G_icmpNo Y40 hx (pc' := 329) rfl (hb hby at_326) (teq (own_t3 hc286_11 hc308_12 : (f_textLen w) = ((f_digits (f_abs w)) + (0 : Int32)))).2 ?_
              refine G_iconst Y40 hx (pc' := 330) rfl (hb hby at_329) (z := (1 : Int32)) rfl ?_
              refine G_goto Y40 hx (pc' := 334) (hb hby at_330)  (by decide) (by decide) ?_
              refine Go.fin Y40 hlk (v := some (.int (1 : Int32))) (fun h => by rw [Bd.returns] at h; cases h) (by decide) (by decide) ?_ (fun fs hr => retN Y40 hx (t := .boolean) Bd.returns (by simp) (hb hby at_334) hr)
              show Q_law Z v0 v1 v2 h0 n0 _ T40.heap _
              rw [e40]
              exact ⟨rfl, M40⟩
        · refine G_icmpYes Y20 hx (pc' := 209) (hb hby at_194) (feq hc194_10).2 (by decide) (by decide) ?_
          refine G_iload Y20 hx (pc' := 211) rfl (hb hby at_209) rfl ?_
          refine G_iconst Y20 hx (pc' := 212) rfl (hb hby at_211) (z := (4 : Int32)) rfl ?_
          by_cases hc212_13 : (v2 &&& (7 : Int32)) = (4 : Int32)
          · refine G_icmpNo Y20 hx (pc' := 215) rfl (hb hby at_212) (teq hc212_13).2 ?_
            refine G_aload Y20 hx (pc' := 217) rfl (hb hby at_215) rfl rfl ?_
            refine G_iload Y20 hx (pc' := 219) rfl (hb hby at_217) rfl ?_
            refine Go.st (ldAJ Y20 hx hZ e20 Apow (j := d) (own_i1 hA) (own_i2 hA hB) (g := (mkF m 219 #[.val (.long v0), .second, .val (.int v1), .val (.int v2), .val (.ref b1), .val (.int d), .val (.int (v2 &&& (7 : Int32))), .unset, .unset, .unset] [(.int d), (.ref b1)])) rfl rfl (hb hby at_219)) ?_
            show Go p e below s _ _ _ T20 (mkF m 220 #[.val (.long v0), .second, .val (.int v1), .val (.int v2), .val (.ref b1), .val (.int d), .val (.int (v2 &&& (7 : Int32))), .unset, .unset, .unset] [(.long (own_pows.getD d.toNatClampNeg 0))])
            refine G_lneg Y20 hx (pc' := 221) rfl (hb hby at_220)  ?_
            refine G_lstore Y20 hx (pc' := 223) rfl (hb hby at_221) (L' := #[.val (.long v0), .second, .val (.int v1), .val (.int v2), .val (.ref b1), .val (.int d), .val (.int (v2 &&& (7 : Int32))), .val (.long (-(own_pows.getD d.toNatClampNeg 0))), .second, .unset]) rfl ?_
            refine G_goto Y20 hx (pc' := 280) (hb hby at_223)  (by decide) (by decide) ?_
            obtain ⟨w, h_w⟩ : ∃ w : Int64, (-(own_pows.getD d.toNatClampNeg 0)) = w := ⟨_, rfl⟩
            rw [h_w]
            refine G_lload Y20 hx (pc' := 282) rfl (hb hby at_280) rfl ?_
            refine G_ldc2 Y20 hx (pc' := 285) rfl hown (mvT hZ (hw _ (List.mem_of_getElem? (i := 20) rfl))) (hb hby at_282) ?_
            refine G_lcmp Y20 hx (pc' := 286) rfl (hb hby at_285)  ?_
            by_cases hc286_14 : w = (-9223372036854775808 : Int64)
            · refine G_ifNo Y20 hx (pc' := 289) rfl (hb hby at_286) ((if0 _ _).trans (teq ((lw_eq _ _).2 hc286_14)).2) ?_
              refine G_bipush Y20 hx (pc' := 291) rfl (hb hby at_289) (z := (20 : Int32)) rfl ?_
              refine G_istore Y20 hx (pc' := 293) rfl (hb hby at_291) (L' := #[.val (.long v0), .second, .val (.int v1), .val (.int v2), .val (.ref b1), .val (.int d), .val (.int (v2 &&& (7 : Int32))), .val (.long w), .second, .val (.int (20 : Int32))]) rfl ?_
              refine G_goto Y20 hx (pc' := 319) (hb hby at_293)  (by decide) (by decide) ?_
              refine G_lload Y20 hx (pc' := 321) rfl (hb hby at_319) rfl ?_
              obtain ⟨_, _, ⟨T41, L41, k41, n41⟩, -, X41, ⟨Lc41, hQ41, l41, y41, z41⟩, st41⟩ := Jvm.LawKit.callS Y20 hx (y := (⟨"com/example/colonwise/colonwise/model/BencodeInteger", "textLength", "(J)I"⟩ : MethodName)) hown (mvT hZ (hw _ (List.mem_of_getElem? (i := 29) rfl))) (mvT hZ (hw _ (List.mem_of_getElem? (i := 30) rfl))) (mvT hZ (hw _ (List.mem_of_getElem? (i := 31) rfl))) (mvT hZ (hw _ (List.mem_of_getElem? (i := 32) rfl))) (by decide) (backOf (W := 0) (rm_textLen l Z a0 hw [] w h20 n0 Z_20 ) hZ (hw _ (List.mem_of_getElem? (i := 32) rfl)) (hw _ (List.mem_of_getElem? (i := 31) rfl)) (by decide) (by decide)) (g := (mkF m 321 #[.val (.long v0), .second, .val (.int v1), .val (.int v2), .val (.ref b1), .val (.int d), .val (.int (v2 &&& (7 : Int32))), .val (.long w), .second, .val (.int (20 : Int32))] [(.long w)])) rfl (by rw [hml]; rfl) (argsL := [(.long w)]) (rest := []) (lenOf pd_0 rfl) rfl (by show 2 * 0 + _ ≤ _; exact Nat.le_of_eq rfl) (hb hby at_321) (fun _ _ => ⟨rfl, e20, (by decide : 1 + 0 ≤ _), (by decide : 19 + 0 ≤ _)⟩)
              dsimp only [Pt.U, Pt.locs, Pt.cells, Pt.slots] at X41 l41 y41 z41 st41 hQ41
              rw [l41, y41, z41] at X41
              clear l41 y41 z41
              obtain ⟨rfl, N41q, e41⟩ := hQ41
              have N41 := Fr.app M20 N41q
              refine Go.st st41 ?_
              obtain ⟨G41, Y41, M41⟩ : ∃ L, Stand p l e room_1 s m #[(.long v0), (.int v1), (.int v2)] below meth c T41 L 1 19 ∧ Fr n0 L := ⟨_, X41, N41⟩
              clear X41 N41
              show Go p e below s _ _ _ T41 (mkF m 324 #[.val (.long v0), .second, .val (.int v1), .val (.int v2), .val (.ref b1), .val (.int d), .val (.int (v2 &&& (7 : Int32))), .val (.long w), .second, .val (.int (20 : Int32))] [(.int (f_textLen w))])
              refine G_iload Y41 hx (pc' := 326) rfl (hb hby at_324) rfl ?_
              refine G_icmpNo Y41 hx (pc' := 329) rfl (hb hby at_326) (teq (own_t1 hc286_14 : (f_textLen w) = (20 : Int32))).2 ?_
              refine G_iconst Y41 hx (pc' := 330) rfl (hb hby at_329) (z := (1 : Int32)) rfl ?_
              refine G_goto Y41 hx (pc' := 334) (hb hby at_330)  (by decide) (by decide) ?_
              refine Go.fin Y41 hlk (v := some (.int (1 : Int32))) (fun h => by rw [Bd.returns] at h; cases h) (by decide) (by decide) ?_ (fun fs hr => retN Y41 hx (t := .boolean) Bd.returns (by simp) (hb hby at_334) hr)
              show Q_law Z v0 v1 v2 h0 n0 _ T41.heap _
              rw [e41]
              exact ⟨rfl, M41⟩
            · refine G_ifYes Y20 hx (pc' := 296) (hb hby at_286) ((if0 _ _).trans (feq (fun q => hc286_14 ((lw_eq _ _).1 q))).2) (by decide) (by decide) ?_
              refine G_lload Y20 hx (pc' := 298) rfl (hb hby at_296) rfl ?_
              obtain ⟨_, _, ⟨T42, L42, k42, n42⟩, -, X42, ⟨Lc42, hQ42, l42, y42, z42⟩, st42⟩ := Jvm.LawKit.callS Y20 hx (y := (⟨"java/lang/Math", "abs", "(J)J"⟩ : MethodName)) hown (mvT hZ (hw _ (List.mem_of_getElem? (i := 21) rfl))) (mvT hZ (hw _ (List.mem_of_getElem? (i := 22) rfl))) (mvT hZ (hw _ (List.mem_of_getElem? (i := 23) rfl))) (mvT hZ (hw _ (List.mem_of_getElem? (i := 24) rfl))) (by decide) (backOf (W := 0) (rm_abs l Z a0 hw [] w h20 n0 Z_20 ) hZ (hw _ (List.mem_of_getElem? (i := 24) rfl)) (hw _ (List.mem_of_getElem? (i := 23) rfl)) (by decide) (by decide)) (g := (mkF m 298 #[.val (.long v0), .second, .val (.int v1), .val (.int v2), .val (.ref b1), .val (.int d), .val (.int (v2 &&& (7 : Int32))), .val (.long w), .second, .unset] [(.long w)])) rfl (by rw [hml]; rfl) (argsL := [(.long w)]) (rest := []) (lenOf pd_1 rfl) rfl (by show 2 * 0 + _ ≤ _; exact Nat.le_of_eq rfl) (hb hby at_298) (fun _ _ => ⟨rfl, e20, (by decide : 1 + 0 ≤ _), (by decide : 19 + 0 ≤ _)⟩)
              dsimp only [Pt.U, Pt.locs, Pt.cells, Pt.slots] at X42 l42 y42 z42 st42 hQ42
              rw [l42, y42, z42] at X42
              clear l42 y42 z42
              obtain ⟨rfl, N42q, e42⟩ := hQ42
              have N42 := Fr.app M20 N42q
              refine Go.st st42 ?_
              obtain ⟨G42, Y42, M42⟩ : ∃ L, Stand p l e room_1 s m #[(.long v0), (.int v1), (.int v2)] below meth c T42 L 1 19 ∧ Fr n0 L := ⟨_, X42, N42⟩
              clear X42 N42
              show Go p e below s _ _ _ T42 (mkF m 301 #[.val (.long v0), .second, .val (.int v1), .val (.int v2), .val (.ref b1), .val (.int d), .val (.int (v2 &&& (7 : Int32))), .val (.long w), .second, .unset] [(.long (f_abs w))])
              obtain ⟨_, _, ⟨T43, L43, k43, n43⟩, -, X43, ⟨Lc43, hQ43, l43, y43, z43⟩, st43⟩ := Jvm.LawKit.callS Y42 hx (y := (⟨"com/example/colonwise/colonwise/model/BencodeIntegerTextLengthPinLaw", "digits", "(J)I"⟩ : MethodName)) hown (mvT hZ (hw _ (List.mem_of_getElem? (i := 25) rfl))) (mvT hZ (hw _ (List.mem_of_getElem? (i := 26) rfl))) (mvT hZ (hw _ (List.mem_of_getElem? (i := 27) rfl))) (mvT hZ (hw _ (List.mem_of_getElem? (i := 28) rfl))) (by decide) (backOf (W := 0) (rm_digits l Z a0 hw [] (f_abs w) h20 n0 Z_20 ) hZ (hw _ (List.mem_of_getElem? (i := 28) rfl)) (hw _ (List.mem_of_getElem? (i := 27) rfl)) (by decide) (by decide)) (g := (mkF m 301 #[.val (.long v0), .second, .val (.int v1), .val (.int v2), .val (.ref b1), .val (.int d), .val (.int (v2 &&& (7 : Int32))), .val (.long w), .second, .unset] [(.long (f_abs w))])) rfl (by rw [hml]; rfl) (argsL := [(.long (f_abs w))]) (rest := []) (lenOf pd_0 rfl) rfl (by show 2 * 0 + _ ≤ _; exact Nat.le_of_eq rfl) (hb hby at_301) (fun _ _ => ⟨rfl, e42, (by decide : 1 + 0 ≤ _), (by decide : 19 + 0 ≤ _)⟩)
              dsimp only [Pt.U, Pt.locs, Pt.cells, Pt.slots] at X43 l43 y43 z43 st43 hQ43
              rw [l43, y43, z43] at X43
              clear l43 y43 z43
              obtain ⟨rfl, N43q, e43⟩ := hQ43
              have N43 := Fr.app M42 N43q
              refine Go.st st43 ?_
              obtain ⟨G43, Y43, M43⟩ : ∃ L, Stand p l e room_1 s m #[(.long v0), (.int v1), (.int v2)] below meth c T43 L 1 19 ∧ Fr n0 L := ⟨_, X43, N43⟩
              clear X43 N43
              show Go p e below s _ _ _ T43 (mkF m 304 #[.val (.long v0), .second, .val (.int v1), .val (.int v2), .val (.ref b1), .val (.int d), .val (.int (v2 &&& (7 : Int32))), .val (.long w), .second, .unset] [(.int (f_digits (f_abs w)))])
              refine G_lload Y43 hx (pc' := 306) rfl (hb hby at_304) rfl ?_
              refine G_lconst Y43 hx (pc' := 307) rfl (hb hby at_306) (z := (0 : Int64)) rfl ?_
              refine G_lcmp Y43 hx (pc' := 308) rfl (hb hby at_307)  ?_
              by_cases hc308_15 : w < (0 : Int64)
              · refine G_ifNo Y43 hx (pc' := 311) rfl (hb hby at_308) ((if0 _ _).trans (tlt ((lw_lt _ _).2 hc308_15)).2.1) ?_
                refine G_iconst Y43 hx (pc' := 312) rfl (hb hby at_311) (z := (1 : Int32)) rfl ?_
                refine G_goto Y43 hx (pc' := 316) (hb hby at_312)  (by decide) (by decide) ?_
                refine G_iadd Y43 hx (pc' := 317) rfl (hb hby at_316)  ?_
                refine G_istore Y43 hx (pc' := 319) rfl (hb hby at_317) (L' := #[.val (.long v0), .second, .val (.int v1), .val (.int v2), .val (.ref b1), .val (.int d), .val (.int (v2 &&& (7 : Int32))), .val (.long w), .second, .val (.int ((f_digits (f_abs w)) + (1 : Int32)))]) rfl ?_
                refine G_lload Y43 hx (pc' := 321) rfl (hb hby at_319) rfl ?_
                obtain ⟨_, _, ⟨T44, L44, k44, n44⟩, -, X44, ⟨Lc44, hQ44, l44, y44, z44⟩, st44⟩ := Jvm.LawKit.callS Y43 hx (y := (⟨"com/example/colonwise/colonwise/model/BencodeInteger", "textLength", "(J)I"⟩ : MethodName)) hown (mvT hZ (hw _ (List.mem_of_getElem? (i := 29) rfl))) (mvT hZ (hw _ (List.mem_of_getElem? (i := 30) rfl))) (mvT hZ (hw _ (List.mem_of_getElem? (i := 31) rfl))) (mvT hZ (hw _ (List.mem_of_getElem? (i := 32) rfl))) (by decide) (backOf (W := 0) (rm_textLen l Z a0 hw [] w h20 n0 Z_20 ) hZ (hw _ (List.mem_of_getElem? (i := 32) rfl)) (hw _ (List.mem_of_getElem? (i := 31) rfl)) (by decide) (by decide)) (g := (mkF m 321 #[.val (.long v0), .second, .val (.int v1), .val (.int v2), .val (.ref b1), .val (.int d), .val (.int (v2 &&& (7 : Int32))), .val (.long w), .second, .val (.int ((f_digits (f_abs w)) + (1 : Int32)))] [(.long w)])) rfl (by rw [hml]; rfl) (argsL := [(.long w)]) (rest := []) (lenOf pd_0 rfl) rfl (by show 2 * 0 + _ ≤ _; exact Nat.le_of_eq rfl) (hb hby at_321) (fun _ _ => ⟨rfl, e43, (by decide : 1 + 0 ≤ _), (by decide : 19 + 0 ≤ _)⟩)
                dsimp only [Pt.U, Pt.locs, Pt.cells, Pt.slots] at X44 l44 y44 z44 st44 hQ44
                rw [l44, y44, z44] at X44
                clear l44 y44 z44
                obtain ⟨rfl, N44q, e44⟩ := hQ44
                have N44 := Fr.app M43 N44q
                refine Go.st st44 ?_
                obtain ⟨G44, Y44, M44⟩ : ∃ L, Stand p l e room_1 s m #[(.long v0), (.int v1), (.int v2)] below meth c T44 L 1 19 ∧ Fr n0 L := ⟨_, X44, N44⟩
                clear X44 N44
                show Go p e below s _ _ _ T44 (mkF m 324 #[.val (.long v0), .second, .val (.int v1), .val (.int v2), .val (.ref b1), .val (.int d), .val (.int (v2 &&& (7 : Int32))), .val (.long w), .second, .val (.int ((f_digits (f_abs w)) + (1 : Int32)))] [(.int (f_textLen w))])
                refine G_iload Y44 hx (pc' := 326) rfl (hb hby at_324) rfl ?_
                refine G_icmpNo Y44 hx (pc' := 329) rfl (hb hby at_326) (teq (own_t2 hc286_14 hc308_15 : (f_textLen w) = ((f_digits (f_abs w)) + (1 : Int32)))).2 ?_
                refine G_iconst Y44 hx (pc' := 330) rfl (hb hby at_329) (z := (1 : Int32)) rfl ?_
                refine G_goto Y44 hx (pc' := 334) (hb hby at_330)  (by decide) (by decide) ?_
                refine Go.fin Y44 hlk (v := some (.int (1 : Int32))) (fun h => by rw [Bd.returns] at h; cases h) (by decide) (by decide) ?_ (fun fs hr => retN Y44 hx (t := .boolean) Bd.returns (by simp) (hb hby at_334) hr)
                show Q_law Z v0 v1 v2 h0 n0 _ T44.heap _
                rw [e44]
                exact ⟨rfl, M44⟩
              · refine G_ifYes Y43 hx (pc' := 315) (hb hby at_308) ((if0 _ _).trans (flt (fun q => hc308_15 ((lw_lt _ _).1 q))).2.1) (by decide) (by decide) ?_
                refine G_iconst Y43 hx (pc' := 316) rfl (hb hby at_315) (z := (0 : Int32)) rfl ?_
                refine G_iadd Y43 hx (pc' := 317) rfl (hb hby at_316)  ?_
                refine G_istore Y43 hx (pc' := 319) rfl (hb hby at_317) (L' := #[.val (.long v0), .second, .val (.int v1), .val (.int v2), .val (.ref b1), .val (.int d), .val (.int (v2 &&& (7 : Int32))), .val (.long w), .second, .val (.int ((f_digits (f_abs w)) + (0 : Int32)))]) rfl ?_
                refine G_lload Y43 hx (pc' := 321) rfl (hb hby at_319) rfl ?_
                obtain ⟨_, _, ⟨T45, L45, k45, n45⟩, -, X45, ⟨Lc45, hQ45, l45, y45, z45⟩, st45⟩ := Jvm.LawKit.callS Y43 hx (y := (⟨"com/example/colonwise/colonwise/model/BencodeInteger", "textLength", "(J)I"⟩ : MethodName)) hown (mvT hZ (hw _ (List.mem_of_getElem? (i := 29) rfl))) (mvT hZ (hw _ (List.mem_of_getElem? (i := 30) rfl))) (mvT hZ (hw _ (List.mem_of_getElem? (i := 31) rfl))) (mvT hZ (hw _ (List.mem_of_getElem? (i := 32) rfl))) (by decide) (backOf (W := 0) (rm_textLen l Z a0 hw [] w h20 n0 Z_20 ) hZ (hw _ (List.mem_of_getElem? (i := 32) rfl)) (hw _ (List.mem_of_getElem? (i := 31) rfl)) (by decide) (by decide)) (g := (mkF m 321 #[.val (.long v0), .second, .val (.int v1), .val (.int v2), .val (.ref b1), .val (.int d), .val (.int (v2 &&& (7 : Int32))), .val (.long w), .second, .val (.int ((f_digits (f_abs w)) + (0 : Int32)))] [(.long w)])) rfl (by rw [hml]; rfl) (argsL := [(.long w)]) (rest := []) (lenOf pd_0 rfl) rfl (by show 2 * 0 + _ ≤ _; exact Nat.le_of_eq rfl) (hb hby at_321) (fun _ _ => ⟨rfl, e43, (by decide : 1 + 0 ≤ _), (by decide : 19 + 0 ≤ _)⟩)
                dsimp only [Pt.U, Pt.locs, Pt.cells, Pt.slots] at X45 l45 y45 z45 st45 hQ45
                rw [l45, y45, z45] at X45
                clear l45 y45 z45
                obtain ⟨rfl, N45q, e45⟩ := hQ45
                have N45 := Fr.app M43 N45q
                refine Go.st st45 ?_
                obtain ⟨G45, Y45, M45⟩ : ∃ L, Stand p l e room_1 s m #[(.long v0), (.int v1), (.int v2)] below meth c T45 L 1 19 ∧ Fr n0 L := ⟨_, X45, N45⟩
                clear X45 N45
                show Go p e below s _ _ _ T45 (mkF m 324 #[.val (.long v0), .second, .val (.int v1), .val (.int v2), .val (.ref b1), .val (.int d), .val (.int (v2 &&& (7 : Int32))), .val (.long w), .second, .val (.int ((f_digits (f_abs w)) + (0 : Int32)))] [(.int (f_textLen w))])
                refine G_iload Y45 hx (pc' := 326) rfl (hb hby at_324) rfl ?_
                refine G_icmpNo Y45 hx (pc' := 329) rfl (hb hby at_326) (teq (own_t3 hc286_14 hc308_15 : (f_textLen w) = ((f_digits (f_abs w)) + (0 : Int32)))).2 ?_
                refine G_iconst Y45 hx (pc' := 330) rfl (hb hby at_329) (z := (1 : Int32)) rfl ?_
                refine G_goto Y45 hx (pc' := 334) (hb hby at_330)  (by decide) (by decide) ?_
                refine Go.fin Y45 hlk (v := some (.int (1 : Int32))) (fun h => by rw [Bd.returns] at h; cases h) (by decide) (by decide) ?_ (fun fs hr => retN Y45 hx (t := .boolean) Bd.returns (by simp) (hb hby at_334) hr)
                show Q_law Z v0 v1 v2 h0 n0 _ T45.heap _
                rw [e45]
                exact ⟨rfl, M45⟩
          · refine G_icmpYes Y20 hx (pc' := 226) (hb hby at_212) (feq hc212_13).2 (by decide) (by decide) ?_
            refine G_iload Y20 hx (pc' := 228) rfl (hb hby at_226) rfl ?_
            refine G_iconst Y20 hx (pc' := 229) rfl (hb hby at_228) (z := (5 : Int32)) rfl ?_
            by_cases hc229_16 : (v2 &&& (7 : Int32)) = (5 : Int32)
            · refine G_icmpNo Y20 hx (pc' := 232) rfl (hb hby at_229) (teq hc229_16).2 ?_
              refine G_lconst Y20 hx (pc' := 233) rfl (hb hby at_232) (z := (1 : Int64)) rfl ?_
              refine G_aload Y20 hx (pc' := 235) rfl (hb hby at_233) rfl rfl ?_
              refine G_iload Y20 hx (pc' := 237) rfl (hb hby at_235) rfl ?_
              refine Go.st (ldAJ Y20 hx hZ e20 Apow (j := d) (own_i1 hA) (own_i2 hA hB) (g := (mkF m 237 #[.val (.long v0), .second, .val (.int v1), .val (.int v2), .val (.ref b1), .val (.int d), .val (.int (v2 &&& (7 : Int32))), .unset, .unset, .unset] [(.int d), (.ref b1), (.long (1 : Int64))])) rfl rfl (hb hby at_237)) ?_
              show Go p e below s _ _ _ T20 (mkF m 238 #[.val (.long v0), .second, .val (.int v1), .val (.int v2), .val (.ref b1), .val (.int d), .val (.int (v2 &&& (7 : Int32))), .unset, .unset, .unset] [(.long (own_pows.getD d.toNatClampNeg 0)), (.long (1 : Int64))])
              refine G_lsub Y20 hx (pc' := 239) rfl (hb hby at_238)  ?_
              refine G_lstore Y20 hx (pc' := 241) rfl (hb hby at_239) (L' := #[.val (.long v0), .second, .val (.int v1), .val (.int v2), .val (.ref b1), .val (.int d), .val (.int (v2 &&& (7 : Int32))), .val (.long ((1 : Int64) - (own_pows.getD d.toNatClampNeg 0))), .second, .unset]) rfl ?_
              refine G_goto Y20 hx (pc' := 280) (hb hby at_241)  (by decide) (by decide) ?_
              obtain ⟨w, h_w⟩ : ∃ w : Int64, ((1 : Int64) - (own_pows.getD d.toNatClampNeg 0)) = w := ⟨_, rfl⟩
              rw [h_w]
              refine G_lload Y20 hx (pc' := 282) rfl (hb hby at_280) rfl ?_
              refine G_ldc2 Y20 hx (pc' := 285) rfl hown (mvT hZ (hw _ (List.mem_of_getElem? (i := 20) rfl))) (hb hby at_282) ?_
              refine G_lcmp Y20 hx (pc' := 286) rfl (hb hby at_285)  ?_
              by_cases hc286_17 : w = (-9223372036854775808 : Int64)
              · refine G_ifNo Y20 hx (pc' := 289) rfl (hb hby at_286) ((if0 _ _).trans (teq ((lw_eq _ _).2 hc286_17)).2) ?_
                refine G_bipush Y20 hx (pc' := 291) rfl (hb hby at_289) (z := (20 : Int32)) rfl ?_
                refine G_istore Y20 hx (pc' := 293) rfl (hb hby at_291) (L' := #[.val (.long v0), .second, .val (.int v1), .val (.int v2), .val (.ref b1), .val (.int d), .val (.int (v2 &&& (7 : Int32))), .val (.long w), .second, .val (.int (20 : Int32))]) rfl ?_
                refine G_goto Y20 hx (pc' := 319) (hb hby at_293)  (by decide) (by decide) ?_
                refine G_lload Y20 hx (pc' := 321) rfl (hb hby at_319) rfl ?_
                obtain ⟨_, _, ⟨T46, L46, k46, n46⟩, -, X46, ⟨Lc46, hQ46, l46, y46, z46⟩, st46⟩ := Jvm.LawKit.callS Y20 hx (y := (⟨"com/example/colonwise/colonwise/model/BencodeInteger", "textLength", "(J)I"⟩ : MethodName)) hown (mvT hZ (hw _ (List.mem_of_getElem? (i := 29) rfl))) (mvT hZ (hw _ (List.mem_of_getElem? (i := 30) rfl))) (mvT hZ (hw _ (List.mem_of_getElem? (i := 31) rfl))) (mvT hZ (hw _ (List.mem_of_getElem? (i := 32) rfl))) (by decide) (backOf (W := 0) (rm_textLen l Z a0 hw [] w h20 n0 Z_20 ) hZ (hw _ (List.mem_of_getElem? (i := 32) rfl)) (hw _ (List.mem_of_getElem? (i := 31) rfl)) (by decide) (by decide)) (g := (mkF m 321 #[.val (.long v0), .second, .val (.int v1), .val (.int v2), .val (.ref b1), .val (.int d), .val (.int (v2 &&& (7 : Int32))), .val (.long w), .second, .val (.int (20 : Int32))] [(.long w)])) rfl (by rw [hml]; rfl) (argsL := [(.long w)]) (rest := []) (lenOf pd_0 rfl) rfl (by show 2 * 0 + _ ≤ _; exact Nat.le_of_eq rfl) (hb hby at_321) (fun _ _ => ⟨rfl, e20, (by decide : 1 + 0 ≤ _), (by decide : 19 + 0 ≤ _)⟩)
                dsimp only [Pt.U, Pt.locs, Pt.cells, Pt.slots] at X46 l46 y46 z46 st46 hQ46
                rw [l46, y46, z46] at X46
                clear l46 y46 z46
                obtain ⟨rfl, N46q, e46⟩ := hQ46
                have N46 := Fr.app M20 N46q
                refine Go.st st46 ?_
                obtain ⟨G46, Y46, M46⟩ : ∃ L, Stand p l e room_1 s m #[(.long v0), (.int v1), (.int v2)] below meth c T46 L 1 19 ∧ Fr n0 L := ⟨_, X46, N46⟩
                clear X46 N46
                show Go p e below s _ _ _ T46 (mkF m 324 #[.val (.long v0), .second, .val (.int v1), .val (.int v2), .val (.ref b1), .val (.int d), .val (.int (v2 &&& (7 : Int32))), .val (.long w), .second, .val (.int (20 : Int32))] [(.int (f_textLen w))])
                refine G_iload Y46 hx (pc' := 326) rfl (hb hby at_324) rfl ?_
                refine G_icmpNo Y46 hx (pc' := 329) rfl (hb hby at_326) (teq (own_t1 hc286_17 : (f_textLen w) = (20 : Int32))).2 ?_
                refine G_iconst Y46 hx (pc' := 330) rfl (hb hby at_329) (z := (1 : Int32)) rfl ?_
                refine G_goto Y46 hx (pc' := 334) (hb hby at_330)  (by decide) (by decide) ?_
                refine Go.fin Y46 hlk (v := some (.int (1 : Int32))) (fun h => by rw [Bd.returns] at h; cases h) (by decide) (by decide) ?_ (fun fs hr => retN Y46 hx (t := .boolean) Bd.returns (by simp) (hb hby at_334) hr)
                show Q_law Z v0 v1 v2 h0 n0 _ T46.heap _
                rw [e46]
                exact ⟨rfl, M46⟩
              · refine G_ifYes Y20 hx (pc' := 296) (hb hby at_286) ((if0 _ _).trans (feq (fun q => hc286_17 ((lw_eq _ _).1 q))).2) (by decide) (by decide) ?_
                refine G_lload Y20 hx (pc' := 298) rfl (hb hby at_296) rfl ?_
                obtain ⟨_, _, ⟨T47, L47, k47, n47⟩, -, X47, ⟨Lc47, hQ47, l47, y47, z47⟩, st47⟩ := Jvm.LawKit.callS Y20 hx (y := (⟨"java/lang/Math", "abs", "(J)J"⟩ : MethodName)) hown (mvT hZ (hw _ (List.mem_of_getElem? (i := 21) rfl))) (mvT hZ (hw _ (List.mem_of_getElem? (i := 22) rfl))) (mvT hZ (hw _ (List.mem_of_getElem? (i := 23) rfl))) (mvT hZ (hw _ (List.mem_of_getElem? (i := 24) rfl))) (by decide) (backOf (W := 0) (rm_abs l Z a0 hw [] w h20 n0 Z_20 ) hZ (hw _ (List.mem_of_getElem? (i := 24) rfl)) (hw _ (List.mem_of_getElem? (i := 23) rfl)) (by decide) (by decide)) (g := (mkF m 298 #[.val (.long v0), .second, .val (.int v1), .val (.int v2), .val (.ref b1), .val (.int d), .val (.int (v2 &&& (7 : Int32))), .val (.long w), .second, .unset] [(.long w)])) rfl (by rw [hml]; rfl) (argsL := [(.long w)]) (rest := []) (lenOf pd_1 rfl) rfl (by show 2 * 0 + _ ≤ _; exact Nat.le_of_eq rfl) (hb hby at_298) (fun _ _ => ⟨rfl, e20, (by decide : 1 + 0 ≤ _), (by decide : 19 + 0 ≤ _)⟩)
                dsimp only [Pt.U, Pt.locs, Pt.cells, Pt.slots] at X47 l47 y47 z47 st47 hQ47
                rw [l47, y47, z47] at X47
                clear l47 y47 z47
                obtain ⟨rfl, N47q, e47⟩ := hQ47
                have N47 := Fr.app M20 N47q
                refine Go.st st47 ?_
                obtain ⟨G47, Y47, M47⟩ : ∃ L, Stand p l e room_1 s m #[(.long v0), (.int v1), (.int v2)] below meth c T47 L 1 19 ∧ Fr n0 L := ⟨_, X47, N47⟩
                clear X47 N47
                show Go p e below s _ _ _ T47 (mkF m 301 #[.val (.long v0), .second, .val (.int v1), .val (.int v2), .val (.ref b1), .val (.int d), .val (.int (v2 &&& (7 : Int32))), .val (.long w), .second, .unset] [(.long (f_abs w))])
                obtain ⟨_, _, ⟨T48, L48, k48, n48⟩, -, X48, ⟨Lc48, hQ48, l48, y48, z48⟩, st48⟩ := Jvm.LawKit.callS Y47 hx (y := (⟨"com/example/colonwise/colonwise/model/BencodeIntegerTextLengthPinLaw", "digits", "(J)I"⟩ : MethodName)) hown (mvT hZ (hw _ (List.mem_of_getElem? (i := 25) rfl))) (mvT hZ (hw _ (List.mem_of_getElem? (i := 26) rfl))) (mvT hZ (hw _ (List.mem_of_getElem? (i := 27) rfl))) (mvT hZ (hw _ (List.mem_of_getElem? (i := 28) rfl))) (by decide) (backOf (W := 0) (rm_digits l Z a0 hw [] (f_abs w) h20 n0 Z_20 ) hZ (hw _ (List.mem_of_getElem? (i := 28) rfl)) (hw _ (List.mem_of_getElem? (i := 27) rfl)) (by decide) (by decide)) (g := (mkF m 301 #[.val (.long v0), .second, .val (.int v1), .val (.int v2), .val (.ref b1), .val (.int d), .val (.int (v2 &&& (7 : Int32))), .val (.long w), .second, .unset] [(.long (f_abs w))])) rfl (by rw [hml]; rfl) (argsL := [(.long (f_abs w))]) (rest := []) (lenOf pd_0 rfl) rfl (by show 2 * 0 + _ ≤ _; exact Nat.le_of_eq rfl) (hb hby at_301) (fun _ _ => ⟨rfl, e47, (by decide : 1 + 0 ≤ _), (by decide : 19 + 0 ≤ _)⟩)
                dsimp only [Pt.U, Pt.locs, Pt.cells, Pt.slots] at X48 l48 y48 z48 st48 hQ48
                rw [l48, y48, z48] at X48
                clear l48 y48 z48
                obtain ⟨rfl, N48q, e48⟩ := hQ48
                have N48 := Fr.app M47 N48q
                refine Go.st st48 ?_
                obtain ⟨G48, Y48, M48⟩ : ∃ L, Stand p l e room_1 s m #[(.long v0), (.int v1), (.int v2)] below meth c T48 L 1 19 ∧ Fr n0 L := ⟨_, X48, N48⟩
                clear X48 N48
                show Go p e below s _ _ _ T48 (mkF m 304 #[.val (.long v0), .second, .val (.int v1), .val (.int v2), .val (.ref b1), .val (.int d), .val (.int (v2 &&& (7 : Int32))), .val (.long w), .second, .unset] [(.int (f_digits (f_abs w)))])
                refine G_lload Y48 hx (pc' := 306) rfl (hb hby at_304) rfl ?_
                refine G_lconst Y48 hx (pc' := 307) rfl (hb hby at_306) (z := (0 : Int64)) rfl ?_
                refine G_lcmp Y48 hx (pc' := 308) rfl (hb hby at_307)  ?_
                by_cases hc308_18 : w < (0 : Int64)
                · refine G_ifNo Y48 hx (pc' := 311) rfl (hb hby at_308) ((if0 _ _).trans (tlt ((lw_lt _ _).2 hc308_18)).2.1) ?_
                  refine G_iconst Y48 hx (pc' := 312) rfl (hb hby at_311) (z := (1 : Int32)) rfl ?_
                  refine G_goto Y48 hx (pc' := 316) (hb hby at_312)  (by decide) (by decide) ?_
                  refine G_iadd Y48 hx (pc' := 317) rfl (hb hby at_316)  ?_
                  refine G_istore Y48 hx (pc' := 319) rfl (hb hby at_317) (L' := #[.val (.long v0), .second, .val (.int v1), .val (.int v2), .val (.ref b1), .val (.int d), .val (.int (v2 &&& (7 : Int32))), .val (.long w), .second, .val (.int ((f_digits (f_abs w)) + (1 : Int32)))]) rfl ?_
                  refine G_lload Y48 hx (pc' := 321) rfl (hb hby at_319) rfl ?_
                  obtain ⟨_, _, ⟨T49, L49, k49, n49⟩, -, X49, ⟨Lc49, hQ49, l49, y49, z49⟩, st49⟩ := Jvm.LawKit.callS Y48 hx (y := (⟨"com/example/colonwise/colonwise/model/BencodeInteger", "textLength", "(J)I"⟩ : MethodName)) hown (mvT hZ (hw _ (List.mem_of_getElem? (i := 29) rfl))) (mvT hZ (hw _ (List.mem_of_getElem? (i := 30) rfl))) (mvT hZ (hw _ (List.mem_of_getElem? (i := 31) rfl))) (mvT hZ (hw _ (List.mem_of_getElem? (i := 32) rfl))) (by decide) (backOf (W := 0) (rm_textLen l Z a0 hw [] w h20 n0 Z_20 ) hZ (hw _ (List.mem_of_getElem? (i := 32) rfl)) (hw _ (List.mem_of_getElem? (i := 31) rfl)) (by decide) (by decide)) (g := (mkF m 321 #[.val (.long v0), .second, .val (.int v1), .val (.int v2), .val (.ref b1), .val (.int d), .val (.int (v2 &&& (7 : Int32))), .val (.long w), .second, .val (.int ((f_digits (f_abs w)) + (1 : Int32)))] [(.long w)])) rfl (by rw [hml]; rfl) (argsL := [(.long w)]) (rest := []) (lenOf pd_0 rfl) rfl (by show 2 * 0 + _ ≤ _; exact Nat.le_of_eq rfl) (hb hby at_321) (fun _ _ => ⟨rfl, e48, (by decide : 1 + 0 ≤ _), (by decide : 19 + 0 ≤ _)⟩)
                  dsimp only [Pt.U, Pt.locs, Pt.cells, Pt.slots] at X49 l49 y49 z49 st49 hQ49
                  rw [l49, y49, z49] at X49
                  clear l49 y49 z49
                  obtain ⟨rfl, N49q, e49⟩ := hQ49
                  have N49 := Fr.app M48 N49q
                  refine Go.st st49 ?_
                  obtain ⟨G49, Y49, M49⟩ : ∃ L, Stand p l e room_1 s m #[(.long v0), (.int v1), (.int v2)] below meth c T49 L 1 19 ∧ Fr n0 L := ⟨_, X49, N49⟩
                  clear X49 N49
                  show Go p e below s _ _ _ T49 (mkF m 324 #[.val (.long v0), .second, .val (.int v1), .val (.int v2), .val (.ref b1), .val (.int d), .val (.int (v2 &&& (7 : Int32))), .val (.long w), .second, .val (.int ((f_digits (f_abs w)) + (1 : Int32)))] [(.int (f_textLen w))])
                  refine G_iload Y49 hx (pc' := 326) rfl (hb hby at_324) rfl ?_
                  refine G_icmpNo Y49 hx (pc' := 329) rfl (hb hby at_326) (teq (own_t2 hc286_17 hc308_18 : (f_textLen w) = ((f_digits (f_abs w)) + (1 : Int32)))).2 ?_
                  refine G_iconst Y49 hx (pc' := 330) rfl (hb hby at_329) (z := (1 : Int32)) rfl ?_
                  refine G_goto Y49 hx (pc' := 334) (hb hby at_330)  (by decide) (by decide) ?_
                  refine Go.fin Y49 hlk (v := some (.int (1 : Int32))) (fun h => by rw [Bd.returns] at h; cases h) (by decide) (by decide) ?_ (fun fs hr => retN Y49 hx (t := .boolean) Bd.returns (by simp) (hb hby at_334) hr)
                  show Q_law Z v0 v1 v2 h0 n0 _ T49.heap _
                  rw [e49]
                  exact ⟨rfl, M49⟩
                · refine G_ifYes Y48 hx (pc' := 315) (hb hby at_308) ((if0 _ _).trans (flt (fun q => hc308_18 ((lw_lt _ _).1 q))).2.1) (by decide) (by decide) ?_
                  refine G_iconst Y48 hx (pc' := 316) rfl (hb hby at_315) (z := (0 : Int32)) rfl ?_
                  refine G_iadd Y48 hx (pc' := 317) rfl (hb hby at_316)  ?_
                  refine G_istore Y48 hx (pc' := 319) rfl (hb hby at_317) (L' := #[.val (.long v0), .second, .val (.int v1), .val (.int v2), .val (.ref b1), .val (.int d), .val (.int (v2 &&& (7 : Int32))), .val (.long w), .second, .val (.int ((f_digits (f_abs w)) + (0 : Int32)))]) rfl ?_
                  refine G_lload Y48 hx (pc' := 321) rfl (hb hby at_319) rfl ?_
                  obtain ⟨_, _, ⟨T50, L50, k50, n50⟩, -, X50, ⟨Lc50, hQ50, l50, y50, z50⟩, st50⟩ := Jvm.LawKit.callS Y48 hx (y := (⟨"com/example/colonwise/colonwise/model/BencodeInteger", "textLength", "(J)I"⟩ : MethodName)) hown (mvT hZ (hw _ (List.mem_of_getElem? (i := 29) rfl))) (mvT hZ (hw _ (List.mem_of_getElem? (i := 30) rfl))) (mvT hZ (hw _ (List.mem_of_getElem? (i := 31) rfl))) (mvT hZ (hw _ (List.mem_of_getElem? (i := 32) rfl))) (by decide) (backOf (W := 0) (rm_textLen l Z a0 hw [] w h20 n0 Z_20 ) hZ (hw _ (List.mem_of_getElem? (i := 32) rfl)) (hw _ (List.mem_of_getElem? (i := 31) rfl)) (by decide) (by decide)) (g := (mkF m 321 #[.val (.long v0), .second, .val (.int v1), .val (.int v2), .val (.ref b1), .val (.int d), .val (.int (v2 &&& (7 : Int32))), .val (.long w), .second, .val (.int ((f_digits (f_abs w)) + (0 : Int32)))] [(.long w)])) rfl (by rw [hml]; rfl) (argsL := [(.long w)]) (rest := []) (lenOf pd_0 rfl) rfl (by show 2 * 0 + _ ≤ _; exact Nat.le_of_eq rfl) (hb hby at_321) (fun _ _ => ⟨rfl, e48, (by decide : 1 + 0 ≤ _), (by decide : 19 + 0 ≤ _)⟩)
                  dsimp only [Pt.U, Pt.locs, Pt.cells, Pt.slots] at X50 l50 y50 z50 st50 hQ50
                  rw [l50, y50, z50] at X50
                  clear l50 y50 z50
                  obtain ⟨rfl, N50q, e50⟩ := hQ50
                  have N50 := Fr.app M48 N50q
                  refine Go.st st50 ?_
                  obtain ⟨G50, Y50, M50⟩ : ∃ L, Stand p l e room_1 s m #[(.long v0), (.int v1), (.int v2)] below meth c T50 L 1 19 ∧ Fr n0 L := ⟨_, X50, N50⟩
                  clear X50 N50
                  show Go p e below s _ _ _ T50 (mkF m 324 #[.val (.long v0), .second, .val (.int v1), .val (.int v2), .val (.ref b1), .val (.int d), .val (.int (v2 &&& (7 : Int32))), .val (.long w), .second, .val (.int ((f_digits (f_abs w)) + (0 : Int32)))] [(.int (f_textLen w))])
                  refine G_iload Y50 hx (pc' := 326) rfl (hb hby at_324) rfl ?_
                  refine G_icmpNo Y50 hx (pc' := 329) rfl (hb hby at_326) (teq (own_t3 hc286_17 hc308_18 : (f_textLen w) = ((f_digits (f_abs w)) + (0 : Int32)))).2 ?_
                  refine G_iconst Y50 hx (pc' := 330) rfl (hb hby at_329) (z := (1 : Int32)) rfl ?_
                  refine G_goto Y50 hx (pc' := 334) (hb hby at_330)  (by decide) (by decide) ?_
                  refine Go.fin Y50 hlk (v := some (.int (1 : Int32))) (fun h => by rw [Bd.returns] at h; cases h) (by decide) (by decide) ?_ (fun fs hr => retN Y50 hx (t := .boolean) Bd.returns (by simp) (hb hby at_334) hr)
                  show Q_law Z v0 v1 v2 h0 n0 _ T50.heap _
                  rw [e50]
                  exact ⟨rfl, M50⟩
            · refine G_icmpYes Y20 hx (pc' := 244) (hb hby at_229) (feq hc229_16).2 (by decide) (by decide) ?_
              refine G_iload Y20 hx (pc' := 246) rfl (hb hby at_244) rfl ?_
              refine G_bipush Y20 hx (pc' := 248) rfl (hb hby at_246) (z := (6 : Int32)) rfl ?_
              by_cases hc248_19 : (v2 &&& (7 : Int32)) = (6 : Int32)
              · refine G_icmpNo Y20 hx (pc' := 251) rfl (hb hby at_248) (teq hc248_19).2 ?_
                refine G_lloadN Y20 hx (pc' := 252) rfl (hb hby at_251) rfl ?_
                refine G_lconst Y20 hx (pc' := 253) rfl (hb hby at_252) (z := (0 : Int64)) rfl ?_
                refine G_lcmp Y20 hx (pc' := 254) rfl (hb hby at_253)  ?_
                by_cases hc254_20 : v0 < (0 : Int64)
                · refine G_ifNo Y20 hx (pc' := 257) rfl (hb hby at_254) ((if0 _ _).trans (tlt ((lw_lt _ _).2 hc254_20)).2.1) ?_
                  refine G_ldc2 Y20 hx (pc' := 260) rfl hown (mvT hZ (hw _ (List.mem_of_getElem? (i := 20) rfl))) (hb hby at_257) ?_
                  refine G_goto Y20 hx (pc' := 266) (hb hby at_260)  (by decide) (by decide) ?_
                  refine G_lstore Y20 hx (pc' := 268) rfl (hb hby at_266) (L' := #[.val (.long v0), .second, .val (.int v1), .val (.int v2), .val (.ref b1), .val (.int d), .val (.int (v2 &&& (7 : Int32))), .val (.long (-9223372036854775808 : Int64)), .second, .unset]) rfl ?_
                  refine G_goto Y20 hx (pc' := 280) (hb hby at_268)  (by decide) (by decide) ?_
                  refine G_lload Y20 hx (pc' := 282) rfl (hb hby at_280) rfl ?_
                  refine G_ldc2 Y20 hx (pc' := 285) rfl hown (mvT hZ (hw _ (List.mem_of_getElem? (i := 20) rfl))) (hb hby at_282) ?_
                  refine G_lcmp Y20 hx (pc' := 286) rfl (hb hby at_285)  ?_
                  refine G_ifNo Y20 hx (pc' := 289) rfl (hb hby at_286) ((if0 _ _).trans (teq ((lw_eq _ _).2 (by decide : (-9223372036854775808 : Int64) = (-9223372036854775808 : Int64)))).2) ?_
                  refine G_bipush Y20 hx (pc' := 291) rfl (hb hby at_289) (z := (20 : Int32)) rfl ?_
                  refine G_istore Y20 hx (pc' := 293) rfl (hb hby at_291) (L' := #[.val (.long v0), .second, .val (.int v1), .val (.int v2), .val (.ref b1), .val (.int d), .val (.int (v2 &&& (7 : Int32))), .val (.long (-9223372036854775808 : Int64)), .second, .val (.int (20 : Int32))]) rfl ?_
                  refine G_goto Y20 hx (pc' := 319) (hb hby at_293)  (by decide) (by decide) ?_
                  refine G_lload Y20 hx (pc' := 321) rfl (hb hby at_319) rfl ?_
                  obtain ⟨_, _, ⟨T51, L51, k51, n51⟩, -, X51, ⟨Lc51, hQ51, l51, y51, z51⟩, st51⟩ := Jvm.LawKit.callS Y20 hx (y := (⟨"com/example/colonwise/colonwise/model/BencodeInteger", "textLength", "(J)I"⟩ : MethodName)) hown (mvT hZ (hw _ (List.mem_of_getElem? (i := 29) rfl))) (mvT hZ (hw _ (List.mem_of_getElem? (i := 30) rfl))) (mvT hZ (hw _ (List.mem_of_getElem? (i := 31) rfl))) (mvT hZ (hw _ (List.mem_of_getElem? (i := 32) rfl))) (by decide) (backOf (W := 0) (rm_textLen l Z a0 hw [] (-9223372036854775808 : Int64) h20 n0 Z_20 ) hZ (hw _ (List.mem_of_getElem? (i := 32) rfl)) (hw _ (List.mem_of_getElem? (i := 31) rfl)) (by decide) (by decide)) (g := (mkF m 321 #[.val (.long v0), .second, .val (.int v1), .val (.int v2), .val (.ref b1), .val (.int d), .val (.int (v2 &&& (7 : Int32))), .val (.long (-9223372036854775808 : Int64)), .second, .val (.int (20 : Int32))] [(.long (-9223372036854775808 : Int64))])) rfl (by rw [hml]; rfl) (argsL := [(.long (-9223372036854775808 : Int64))]) (rest := []) (lenOf pd_0 rfl) rfl (by show 2 * 0 + _ ≤ _; exact Nat.le_of_eq rfl) (hb hby at_321) (fun _ _ => ⟨rfl, e20, (by decide : 1 + 0 ≤ _), (by decide : 19 + 0 ≤ _)⟩)
                  dsimp only [Pt.U, Pt.locs, Pt.cells, Pt.slots] at X51 l51 y51 z51 st51 hQ51
                  rw [l51, y51, z51] at X51
                  clear l51 y51 z51
                  obtain ⟨rfl, N51q, e51⟩ := hQ51
                  have N51 := Fr.app M20 N51q
                  refine Go.st st51 ?_
                  obtain ⟨G51, Y51, M51⟩ : ∃ L, Stand p l e room_1 s m #[(.long v0), (.int v1), (.int v2)] below meth c T51 L 1 19 ∧ Fr n0 L := ⟨_, X51, N51⟩
                  clear X51 N51
                  show Go p e below s _ _ _ T51 (mkF m 324 #[.val (.long v0), .second, .val (.int v1), .val (.int v2), .val (.ref b1), .val (.int d), .val (.int (v2 &&& (7 : Int32))), .val (.long (-9223372036854775808 : Int64)), .second, .val (.int (20 : Int32))] [(.int (f_textLen (-9223372036854775808 : Int64)))])
                  refine G_iload Y51 hx (pc' := 326) rfl (hb hby at_324) rfl ?_
                  refine G_icmpNo Y51 hx (pc' := 329) rfl (hb hby at_326) (teq (by decide +kernel : (f_textLen (-9223372036854775808 : Int64)) = (20 : Int32))).2 ?_
                  refine G_iconst Y51 hx (pc' := 330) rfl (hb hby at_329) (z := (1 : Int32)) rfl ?_
                  refine G_goto Y51 hx (pc' := 334) (hb hby at_330)  (by decide) (by decide) ?_
                  refine Go.fin Y51 hlk (v := some (.int (1 : Int32))) (fun h => by rw [Bd.returns] at h; cases h) (by decide) (by decide) ?_ (fun fs hr => retN Y51 hx (t := .boolean) Bd.returns (by simp) (hb hby at_334) hr)
                  show Q_law Z v0 v1 v2 h0 n0 _ T51.heap _
                  rw [e51]
                  exact ⟨rfl, M51⟩
                · refine G_ifYes Y20 hx (pc' := 263) (hb hby at_254) ((if0 _ _).trans (flt (fun q => hc254_20 ((lw_lt _ _).1 q))).2.1) (by decide) (by decide) ?_
                  refine G_ldc2 Y20 hx (pc' := 266) rfl hown (mvT hZ (hw _ (List.mem_of_getElem? (i := 35) rfl))) (hb hby at_263) ?_
                  refine G_lstore Y20 hx (pc' := 268) rfl (hb hby at_266) (L' := #[.val (.long v0), .second, .val (.int v1), .val (.int v2), .val (.ref b1), .val (.int d), .val (.int (v2 &&& (7 : Int32))), .val (.long (9223372036854775807 : Int64)), .second, .unset]) rfl ?_
                  refine G_goto Y20 hx (pc' := 280) (hb hby at_268)  (by decide) (by decide) ?_
                  refine G_lload Y20 hx (pc' := 282) rfl (hb hby at_280) rfl ?_
                  refine G_ldc2 Y20 hx (pc' := 285) rfl hown (mvT hZ (hw _ (List.mem_of_getElem? (i := 20) rfl))) (hb hby at_282) ?_
                  refine G_lcmp Y20 hx (pc' := 286) rfl (hb hby at_285)  ?_
                  refine G_ifYes Y20 hx (pc' := 296) (hb hby at_286) ((if0 _ _).trans (feq (fun q => (by decide : ¬ ((9223372036854775807 : Int64) = (-9223372036854775808 : Int64))) ((lw_eq _ _).1 q))).2) (by decide) (by decide) ?_
                  refine G_lload Y20 hx (pc' := 298) rfl (hb hby at_296) rfl ?_
                  obtain ⟨_, _, ⟨T52, L52, k52, n52⟩, -, X52, ⟨Lc52, hQ52, l52, y52, z52⟩, st52⟩ := Jvm.LawKit.callS Y20 hx (y := (⟨"java/lang/Math", "abs", "(J)J"⟩ : MethodName)) hown (mvT hZ (hw _ (List.mem_of_getElem? (i := 21) rfl))) (mvT hZ (hw _ (List.mem_of_getElem? (i := 22) rfl))) (mvT hZ (hw _ (List.mem_of_getElem? (i := 23) rfl))) (mvT hZ (hw _ (List.mem_of_getElem? (i := 24) rfl))) (by decide) (backOf (W := 0) (rm_abs l Z a0 hw [] (9223372036854775807 : Int64) h20 n0 Z_20 ) hZ (hw _ (List.mem_of_getElem? (i := 24) rfl)) (hw _ (List.mem_of_getElem? (i := 23) rfl)) (by decide) (by decide)) (g := (mkF m 298 #[.val (.long v0), .second, .val (.int v1), .val (.int v2), .val (.ref b1), .val (.int d), .val (.int (v2 &&& (7 : Int32))), .val (.long (9223372036854775807 : Int64)), .second, .unset] [(.long (9223372036854775807 : Int64))])) rfl (by rw [hml]; rfl) (argsL := [(.long (9223372036854775807 : Int64))]) (rest := []) (lenOf pd_1 rfl) rfl (by show 2 * 0 + _ ≤ _; exact Nat.le_of_eq rfl) (hb hby at_298) (fun _ _ => ⟨rfl, e20, (by decide : 1 + 0 ≤ _), (by decide : 19 + 0 ≤ _)⟩)
                  dsimp only [Pt.U, Pt.locs, Pt.cells, Pt.slots] at X52 l52 y52 z52 st52 hQ52
                  rw [l52, y52, z52] at X52
                  clear l52 y52 z52
                  obtain ⟨rfl, N52q, e52⟩ := hQ52
                  have N52 := Fr.app M20 N52q
                  refine Go.st st52 ?_
                  obtain ⟨G52, Y52, M52⟩ : ∃ L, Stand p l e room_1 s m #[(.long v0), (.int v1), (.int v2)] below meth c T52 L 1 19 ∧ Fr n0 L := ⟨_, X52, N52⟩
                  clear X52 N52
                  show Go p e below s _ _ _ T52 (mkF m 301 #[.val (.long v0), .second, .val (.int v1), .val (.int v2), .val (.ref b1), .val (.int d), .val (.int (v2 &&& (7 : Int32))), .val (.long (9223372036854775807 : Int64)), .second, .unset] [(.long (f_abs (9223372036854775807 : Int64)))])
                  obtain ⟨_, _, ⟨T53, L53, k53, n53⟩, -, X53, ⟨Lc53, hQ53, l53, y53, z53⟩, st53⟩ := Jvm.LawKit.callS Y52 hx (y := (⟨"com/example/colonwise/colonwise/model/BencodeIntegerTextLengthPinLaw", "digits", "(J)I"⟩ : MethodName)) hown (mvT hZ (hw _ (List.mem_of_getElem? (i := 25) rfl))) (mvT hZ (hw _ (List.mem_of_getElem? (i := 26) rfl))) (mvT hZ (hw _ (List.mem_of_getElem? (i := 27) rfl))) (mvT hZ (hw _ (List.mem_of_getElem? (i := 28) rfl))) (by decide) (backOf (W := 0) (rm_digits l Z a0 hw [] (f_abs (9223372036854775807 : Int64)) h20 n0 Z_20 ) hZ (hw _ (List.mem_of_getElem? (i := 28) rfl)) (hw _ (List.mem_of_getElem? (i := 27) rfl)) (by decide) (by decide)) (g := (mkF m 301 #[.val (.long v0), .second, .val (.int v1), .val (.int v2), .val (.ref b1), .val (.int d), .val (.int (v2 &&& (7 : Int32))), .val (.long (9223372036854775807 : Int64)), .second, .unset] [(.long (f_abs (9223372036854775807 : Int64)))])) rfl (by rw [hml]; rfl) (argsL := [(.long (f_abs (9223372036854775807 : Int64)))]) (rest := []) (lenOf pd_0 rfl) rfl (by show 2 * 0 + _ ≤ _; exact Nat.le_of_eq rfl) (hb hby at_301) (fun _ _ => ⟨rfl, e52, (by decide : 1 + 0 ≤ _), (by decide : 19 + 0 ≤ _)⟩)
                  dsimp only [Pt.U, Pt.locs, Pt.cells, Pt.slots] at X53 l53 y53 z53 st53 hQ53
                  rw [l53, y53, z53] at X53
                  clear l53 y53 z53
                  obtain ⟨rfl, N53q, e53⟩ := hQ53
                  have N53 := Fr.app M52 N53q
                  refine Go.st st53 ?_
                  obtain ⟨G53, Y53, M53⟩ : ∃ L, Stand p l e room_1 s m #[(.long v0), (.int v1), (.int v2)] below meth c T53 L 1 19 ∧ Fr n0 L := ⟨_, X53, N53⟩
                  clear X53 N53
                  show Go p e below s _ _ _ T53 (mkF m 304 #[.val (.long v0), .second, .val (.int v1), .val (.int v2), .val (.ref b1), .val (.int d), .val (.int (v2 &&& (7 : Int32))), .val (.long (9223372036854775807 : Int64)), .second, .unset] [(.int (f_digits (f_abs (9223372036854775807 : Int64))))])
                  refine G_lload Y53 hx (pc' := 306) rfl (hb hby at_304) rfl ?_
                  refine G_lconst Y53 hx (pc' := 307) rfl (hb hby at_306) (z := (0 : Int64)) rfl ?_
                  refine G_lcmp Y53 hx (pc' := 308) rfl (hb hby at_307)  ?_
                  refine G_ifYes Y53 hx (pc' := 315) (hb hby at_308) ((if0 _ _).trans (flt (fun q => (by decide : ¬ ((9223372036854775807 : Int64) < (0 : Int64))) ((lw_lt _ _).1 q))).2.1) (by decide) (by decide) ?_
                  refine G_iconst Y53 hx (pc' := 316) rfl (hb hby at_315) (z := (0 : Int32)) rfl ?_
                  refine G_iadd Y53 hx (pc' := 317) rfl (hb hby at_316)  ?_
                  refine G_istore Y53 hx (pc' := 319) rfl (hb hby at_317) (L' := #[.val (.long v0), .second, .val (.int v1), .val (.int v2), .val (.ref b1), .val (.int d), .val (.int (v2 &&& (7 : Int32))), .val (.long (9223372036854775807 : Int64)), .second, .val (.int ((f_digits (f_abs (9223372036854775807 : Int64))) + (0 : Int32)))]) rfl ?_
                  refine G_lload Y53 hx (pc' := 321) rfl (hb hby at_319) rfl ?_
                  obtain ⟨_, _, ⟨T54, L54, k54, n54⟩, -, X54, ⟨Lc54, hQ54, l54, y54, z54⟩, st54⟩ := Jvm.LawKit.callS Y53 hx (y := (⟨"com/example/colonwise/colonwise/model/BencodeInteger", "textLength", "(J)I"⟩ : MethodName)) hown (mvT hZ (hw _ (List.mem_of_getElem? (i := 29) rfl))) (mvT hZ (hw _ (List.mem_of_getElem? (i := 30) rfl))) (mvT hZ (hw _ (List.mem_of_getElem? (i := 31) rfl))) (mvT hZ (hw _ (List.mem_of_getElem? (i := 32) rfl))) (by decide) (backOf (W := 0) (rm_textLen l Z a0 hw [] (9223372036854775807 : Int64) h20 n0 Z_20 ) hZ (hw _ (List.mem_of_getElem? (i := 32) rfl)) (hw _ (List.mem_of_getElem? (i := 31) rfl)) (by decide) (by decide)) (g := (mkF m 321 #[.val (.long v0), .second, .val (.int v1), .val (.int v2), .val (.ref b1), .val (.int d), .val (.int (v2 &&& (7 : Int32))), .val (.long (9223372036854775807 : Int64)), .second, .val (.int ((f_digits (f_abs (9223372036854775807 : Int64))) + (0 : Int32)))] [(.long (9223372036854775807 : Int64))])) rfl (by rw [hml]; rfl) (argsL := [(.long (9223372036854775807 : Int64))]) (rest := []) (lenOf pd_0 rfl) rfl (by show 2 * 0 + _ ≤ _; exact Nat.le_of_eq rfl) (hb hby at_321) (fun _ _ => ⟨rfl, e53, (by decide : 1 + 0 ≤ _), (by decide : 19 + 0 ≤ _)⟩)
                  dsimp only [Pt.U, Pt.locs, Pt.cells, Pt.slots] at X54 l54 y54 z54 st54 hQ54
                  rw [l54, y54, z54] at X54
                  clear l54 y54 z54
                  obtain ⟨rfl, N54q, e54⟩ := hQ54
                  have N54 := Fr.app M53 N54q
                  refine Go.st st54 ?_
                  obtain ⟨G54, Y54, M54⟩ : ∃ L, Stand p l e room_1 s m #[(.long v0), (.int v1), (.int v2)] below meth c T54 L 1 19 ∧ Fr n0 L := ⟨_, X54, N54⟩
                  clear X54 N54
                  show Go p e below s _ _ _ T54 (mkF m 324 #[.val (.long v0), .second, .val (.int v1), .val (.int v2), .val (.ref b1), .val (.int d), .val (.int (v2 &&& (7 : Int32))), .val (.long (9223372036854775807 : Int64)), .second, .val (.int ((f_digits (f_abs (9223372036854775807 : Int64))) + (0 : Int32)))] [(.int (f_textLen (9223372036854775807 : Int64)))])
                  refine G_iload Y54 hx (pc' := 326) rfl (hb hby at_324) rfl ?_
                  refine G_icmpNo Y54 hx (pc' := 329) rfl (hb hby at_326) (teq (by decide +kernel : (f_textLen (9223372036854775807 : Int64)) = ((f_digits (f_abs (9223372036854775807 : Int64))) + (0 : Int32)))).2 ?_
                  refine G_iconst Y54 hx (pc' := 330) rfl (hb hby at_329) (z := (1 : Int32)) rfl ?_
                  refine G_goto Y54 hx (pc' := 334) (hb hby at_330)  (by decide) (by decide) ?_
                  refine Go.fin Y54 hlk (v := some (.int (1 : Int32))) (fun h => by rw [Bd.returns] at h; cases h) (by decide) (by decide) ?_ (fun fs hr => retN Y54 hx (t := .boolean) Bd.returns (by simp) (hb hby at_334) hr)
                  show Q_law Z v0 v1 v2 h0 n0 _ T54.heap _
                  rw [e54]
                  exact ⟨rfl, M54⟩
              · refine G_icmpYes Y20 hx (pc' := 271) (hb hby at_248) (feq hc248_19).2 (by decide) (by decide) ?_
                refine G_lloadN Y20 hx (pc' := 272) rfl (hb hby at_271) rfl ?_
                refine G_aload Y20 hx (pc' := 274) rfl (hb hby at_272) rfl rfl ?_
                refine G_iload Y20 hx (pc' := 276) rfl (hb hby at_274) rfl ?_
                refine Go.st (ldAJ Y20 hx hZ e20 Apow (j := d) (own_i1 hA) (own_i2 hA hB) (g := (mkF m 276 #[.val (.long v0), .second, .val (.int v1), .val (.int v2), .val (.ref b1), .val (.int d), .val (.int (v2 &&& (7 : Int32))), .unset, .unset, .unset] [(.int d), (.ref b1), (.long v0)])) rfl rfl (hb hby at_276)) ?_
                show Go p e below s _ _ _ T20 (mkF m 277 #[.val (.long v0), .second, .val (.int v1), .val (.int v2), .val (.ref b1), .val (.int d), .val (.int (v2 &&& (7 : Int32))), .unset, .unset, .unset] [(.long (own_pows.getD d.toNatClampNeg 0)), (.long v0)])
                refine G_ldiv Y20 hx (pc' := 278) rfl (hb hby at_277) (own_nz hA hB) ?_
                refine G_lstore Y20 hx (pc' := 280) rfl (hb hby at_278) (L' := #[.val (.long v0), .second, .val (.int v1), .val (.int v2), .val (.ref b1), .val (.int d), .val (.int (v2 &&& (7 : Int32))), .val (.long (v0 / (own_pows.getD d.toNatClampNeg 0))), .second, .unset]) rfl ?_
                obtain ⟨w, h_w⟩ : ∃ w : Int64, (v0 / (own_pows.getD d.toNatClampNeg 0)) = w := ⟨_, rfl⟩
                rw [h_w]
                refine G_lload Y20 hx (pc' := 282) rfl (hb hby at_280) rfl ?_
                refine G_ldc2 Y20 hx (pc' := 285) rfl hown (mvT hZ (hw _ (List.mem_of_getElem? (i := 20) rfl))) (hb hby at_282) ?_
                refine G_lcmp Y20 hx (pc' := 286) rfl (hb hby at_285)  ?_
                by_cases hc286_21 : w = (-9223372036854775808 : Int64)
                · refine G_ifNo Y20 hx (pc' := 289) rfl (hb hby at_286) ((if0 _ _).trans (teq ((lw_eq _ _).2 hc286_21)).2) ?_
                  refine G_bipush Y20 hx (pc' := 291) rfl (hb hby at_289) (z := (20 : Int32)) rfl ?_
                  refine G_istore Y20 hx (pc' := 293) rfl (hb hby at_291) (L' := #[.val (.long v0), .second, .val (.int v1), .val (.int v2), .val (.ref b1), .val (.int d), .val (.int (v2 &&& (7 : Int32))), .val (.long w), .second, .val (.int (20 : Int32))]) rfl ?_
                  refine G_goto Y20 hx (pc' := 319) (hb hby at_293)  (by decide) (by decide) ?_
                  refine G_lload Y20 hx (pc' := 321) rfl (hb hby at_319) rfl ?_
                  obtain ⟨_, _, ⟨T55, L55, k55, n55⟩, -, X55, ⟨Lc55, hQ55, l55, y55, z55⟩, st55⟩ := Jvm.LawKit.callS Y20 hx (y := (⟨"com/example/colonwise/colonwise/model/BencodeInteger", "textLength", "(J)I"⟩ : MethodName)) hown (mvT hZ (hw _ (List.mem_of_getElem? (i := 29) rfl))) (mvT hZ (hw _ (List.mem_of_getElem? (i := 30) rfl))) (mvT hZ (hw _ (List.mem_of_getElem? (i := 31) rfl))) (mvT hZ (hw _ (List.mem_of_getElem? (i := 32) rfl))) (by decide) (backOf (W := 0) (rm_textLen l Z a0 hw [] w h20 n0 Z_20 ) hZ (hw _ (List.mem_of_getElem? (i := 32) rfl)) (hw _ (List.mem_of_getElem? (i := 31) rfl)) (by decide) (by decide)) (g := (mkF m 321 #[.val (.long v0), .second, .val (.int v1), .val (.int v2), .val (.ref b1), .val (.int d), .val (.int (v2 &&& (7 : Int32))), .val (.long w), .second, .val (.int (20 : Int32))] [(.long w)])) rfl (by rw [hml]; rfl) (argsL := [(.long w)]) (rest := []) (lenOf pd_0 rfl) rfl (by show 2 * 0 + _ ≤ _; exact Nat.le_of_eq rfl) (hb hby at_321) (fun _ _ => ⟨rfl, e20, (by decide : 1 + 0 ≤ _), (by decide : 19 + 0 ≤ _)⟩)
                  dsimp only [Pt.U, Pt.locs, Pt.cells, Pt.slots] at X55 l55 y55 z55 st55 hQ55
                  rw [l55, y55, z55] at X55
                  clear l55 y55 z55
                  obtain ⟨rfl, N55q, e55⟩ := hQ55
                  have N55 := Fr.app M20 N55q
                  refine Go.st st55 ?_
                  obtain ⟨G55, Y55, M55⟩ : ∃ L, Stand p l e room_1 s m #[(.long v0), (.int v1), (.int v2)] below meth c T55 L 1 19 ∧ Fr n0 L := ⟨_, X55, N55⟩
                  clear X55 N55
                  show Go p e below s _ _ _ T55 (mkF m 324 #[.val (.long v0), .second, .val (.int v1), .val (.int v2), .val (.ref b1), .val (.int d), .val (.int (v2 &&& (7 : Int32))), .val (.long w), .second, .val (.int (20 : Int32))] [(.int (f_textLen w))])
                  refine G_iload Y55 hx (pc' := 326) rfl (hb hby at_324) rfl ?_
                  refine G_icmpNo Y55 hx (pc' := 329) rfl (hb hby at_326) (teq (own_t1 hc286_21 : (f_textLen w) = (20 : Int32))).2 ?_
                  refine G_iconst Y55 hx (pc' := 330) rfl (hb hby at_329) (z := (1 : Int32)) rfl ?_
                  refine G_goto Y55 hx (pc' := 334) (hb hby at_330)  (by decide) (by decide) ?_
                  refine Go.fin Y55 hlk (v := some (.int (1 : Int32))) (fun h => by rw [Bd.returns] at h; cases h) (by decide) (by decide) ?_ (fun fs hr => retN Y55 hx (t := .boolean) Bd.returns (by simp) (hb hby at_334) hr)
                  show Q_law Z v0 v1 v2 h0 n0 _ T55.heap _
                  rw [e55]
                  exact ⟨rfl, M55⟩
                · refine G_ifYes Y20 hx (pc' := 296) (hb hby at_286) ((if0 _ _).trans (feq (fun q => hc286_21 ((lw_eq _ _).1 q))).2) (by decide) (by decide) ?_
                  refine G_lload Y20 hx (pc' := 298) rfl (hb hby at_296) rfl ?_
                  obtain ⟨_, _, ⟨T56, L56, k56, n56⟩, -, X56, ⟨Lc56, hQ56, l56, y56, z56⟩, st56⟩ := Jvm.LawKit.callS Y20 hx (y := (⟨"java/lang/Math", "abs", "(J)J"⟩ : MethodName)) hown (mvT hZ (hw _ (List.mem_of_getElem? (i := 21) rfl))) (mvT hZ (hw _ (List.mem_of_getElem? (i := 22) rfl))) (mvT hZ (hw _ (List.mem_of_getElem? (i := 23) rfl))) (mvT hZ (hw _ (List.mem_of_getElem? (i := 24) rfl))) (by decide) (backOf (W := 0) (rm_abs l Z a0 hw [] w h20 n0 Z_20 ) hZ (hw _ (List.mem_of_getElem? (i := 24) rfl)) (hw _ (List.mem_of_getElem? (i := 23) rfl)) (by decide) (by decide)) (g := (mkF m 298 #[.val (.long v0), .second, .val (.int v1), .val (.int v2), .val (.ref b1), .val (.int d), .val (.int (v2 &&& (7 : Int32))), .val (.long w), .second, .unset] [(.long w)])) rfl (by rw [hml]; rfl) (argsL := [(.long w)]) (rest := []) (lenOf pd_1 rfl) rfl (by show 2 * 0 + _ ≤ _; exact Nat.le_of_eq rfl) (hb hby at_298) (fun _ _ => ⟨rfl, e20, (by decide : 1 + 0 ≤ _), (by decide : 19 + 0 ≤ _)⟩)
                  dsimp only [Pt.U, Pt.locs, Pt.cells, Pt.slots] at X56 l56 y56 z56 st56 hQ56
                  rw [l56, y56, z56] at X56
                  clear l56 y56 z56
                  obtain ⟨rfl, N56q, e56⟩ := hQ56
                  have N56 := Fr.app M20 N56q
                  refine Go.st st56 ?_
                  obtain ⟨G56, Y56, M56⟩ : ∃ L, Stand p l e room_1 s m #[(.long v0), (.int v1), (.int v2)] below meth c T56 L 1 19 ∧ Fr n0 L := ⟨_, X56, N56⟩
                  clear X56 N56
                  show Go p e below s _ _ _ T56 (mkF m 301 #[.val (.long v0), .second, .val (.int v1), .val (.int v2), .val (.ref b1), .val (.int d), .val (.int (v2 &&& (7 : Int32))), .val (.long w), .second, .unset] [(.long (f_abs w))])
                  obtain ⟨_, _, ⟨T57, L57, k57, n57⟩, -, X57, ⟨Lc57, hQ57, l57, y57, z57⟩, st57⟩ := Jvm.LawKit.callS Y56 hx (y := (⟨"com/example/colonwise/colonwise/model/BencodeIntegerTextLengthPinLaw", "digits", "(J)I"⟩ : MethodName)) hown (mvT hZ (hw _ (List.mem_of_getElem? (i := 25) rfl))) (mvT hZ (hw _ (List.mem_of_getElem? (i := 26) rfl))) (mvT hZ (hw _ (List.mem_of_getElem? (i := 27) rfl))) (mvT hZ (hw _ (List.mem_of_getElem? (i := 28) rfl))) (by decide) (backOf (W := 0) (rm_digits l Z a0 hw [] (f_abs w) h20 n0 Z_20 ) hZ (hw _ (List.mem_of_getElem? (i := 28) rfl)) (hw _ (List.mem_of_getElem? (i := 27) rfl)) (by decide) (by decide)) (g := (mkF m 301 #[.val (.long v0), .second, .val (.int v1), .val (.int v2), .val (.ref b1), .val (.int d), .val (.int (v2 &&& (7 : Int32))), .val (.long w), .second, .unset] [(.long (f_abs w))])) rfl (by rw [hml]; rfl) (argsL := [(.long (f_abs w))]) (rest := []) (lenOf pd_0 rfl) rfl (by show 2 * 0 + _ ≤ _; exact Nat.le_of_eq rfl) (hb hby at_301) (fun _ _ => ⟨rfl, e56, (by decide : 1 + 0 ≤ _), (by decide : 19 + 0 ≤ _)⟩)
                  dsimp only [Pt.U, Pt.locs, Pt.cells, Pt.slots] at X57 l57 y57 z57 st57 hQ57
                  rw [l57, y57, z57] at X57
                  clear l57 y57 z57
                  obtain ⟨rfl, N57q, e57⟩ := hQ57
                  have N57 := Fr.app M56 N57q
                  refine Go.st st57 ?_
                  obtain ⟨G57, Y57, M57⟩ : ∃ L, Stand p l e room_1 s m #[(.long v0), (.int v1), (.int v2)] below meth c T57 L 1 19 ∧ Fr n0 L := ⟨_, X57, N57⟩
                  clear X57 N57
                  show Go p e below s _ _ _ T57 (mkF m 304 #[.val (.long v0), .second, .val (.int v1), .val (.int v2), .val (.ref b1), .val (.int d), .val (.int (v2 &&& (7 : Int32))), .val (.long w), .second, .unset] [(.int (f_digits (f_abs w)))])
                  refine G_lload Y57 hx (pc' := 306) rfl (hb hby at_304) rfl ?_
                  refine G_lconst Y57 hx (pc' := 307) rfl (hb hby at_306) (z := (0 : Int64)) rfl ?_
                  refine G_lcmp Y57 hx (pc' := 308) rfl (hb hby at_307)  ?_
                  by_cases hc308_22 : w < (0 : Int64)
                  · refine G_ifNo Y57 hx (pc' := 311) rfl (hb hby at_308) ((if0 _ _).trans (tlt ((lw_lt _ _).2 hc308_22)).2.1) ?_
                    refine G_iconst Y57 hx (pc' := 312) rfl (hb hby at_311) (z := (1 : Int32)) rfl ?_
                    refine G_goto Y57 hx (pc' := 316) (hb hby at_312)  (by decide) (by decide) ?_
                    refine G_iadd Y57 hx (pc' := 317) rfl (hb hby at_316)  ?_
                    refine G_istore Y57 hx (pc' := 319) rfl (hb hby at_317) (L' := #[.val (.long v0), .second, .val (.int v1), .val (.int v2), .val (.ref b1), .val (.int d), .val (.int (v2 &&& (7 : Int32))), .val (.long w), .second, .val (.int ((f_digits (f_abs w)) + (1 : Int32)))]) rfl ?_
                    refine G_lload Y57 hx (pc' := 321) rfl (hb hby at_319) rfl ?_
                    obtain ⟨_, _, ⟨T58, L58, k58, n58⟩, -, X58, ⟨Lc58, hQ58, l58, y58, z58⟩, st58⟩ := Jvm.LawKit.callS Y57 hx (y := (⟨"com/example/colonwise/colonwise/model/BencodeInteger", "textLength", "(J)I"⟩ : MethodName)) hown (mvT hZ (hw _ (List.mem_of_getElem? (i := 29) rfl))) (mvT hZ (hw _ (List.mem_of_getElem? (i := 30) rfl))) (mvT hZ (hw _ (List.mem_of_getElem? (i := 31) rfl))) (mvT hZ (hw _ (List.mem_of_getElem? (i := 32) rfl))) (by decide) (backOf (W := 0) (rm_textLen l Z a0 hw [] w h20 n0 Z_20 ) hZ (hw _ (List.mem_of_getElem? (i := 32) rfl)) (hw _ (List.mem_of_getElem? (i := 31) rfl)) (by decide) (by decide)) (g := (mkF m 321 #[.val (.long v0), .second, .val (.int v1), .val (.int v2), .val (.ref b1), .val (.int d), .val (.int (v2 &&& (7 : Int32))), .val (.long w), .second, .val (.int ((f_digits (f_abs w)) + (1 : Int32)))] [(.long w)])) rfl (by rw [hml]; rfl) (argsL := [(.long w)]) (rest := []) (lenOf pd_0 rfl) rfl (by show 2 * 0 + _ ≤ _; exact Nat.le_of_eq rfl) (hb hby at_321) (fun _ _ => ⟨rfl, e57, (by decide : 1 + 0 ≤ _), (by decide : 19 + 0 ≤ _)⟩)
                    dsimp only [Pt.U, Pt.locs, Pt.cells, Pt.slots] at X58 l58 y58 z58 st58 hQ58
                    rw [l58, y58, z58] at X58
                    clear l58 y58 z58
                    obtain ⟨rfl, N58q, e58⟩ := hQ58
                    have N58 := Fr.app M57 N58q
                    refine Go.st st58 ?_
                    obtain ⟨G58, Y58, M58⟩ : ∃ L, Stand p l e room_1 s m #[(.long v0), (.int v1), (.int v2)] below meth c T58 L 1 19 ∧ Fr n0 L := ⟨_, X58, N58⟩
                    clear X58 N58
                    show Go p e below s _ _ _ T58 (mkF m 324 #[.val (.long v0), .second, .val (.int v1), .val (.int v2), .val (.ref b1), .val (.int d), .val (.int (v2 &&& (7 : Int32))), .val (.long w), .second, .val (.int ((f_digits (f_abs w)) + (1 : Int32)))] [(.int (f_textLen w))])
                    refine G_iload Y58 hx (pc' := 326) rfl (hb hby at_324) rfl ?_
                    refine G_icmpNo Y58 hx (pc' := 329) rfl (hb hby at_326) (teq (own_t2 hc286_21 hc308_22 : (f_textLen w) = ((f_digits (f_abs w)) + (1 : Int32)))).2 ?_
                    refine G_iconst Y58 hx (pc' := 330) rfl (hb hby at_329) (z := (1 : Int32)) rfl ?_
                    refine G_goto Y58 hx (pc' := 334) (hb hby at_330)  (by decide) (by decide) ?_
                    refine Go.fin Y58 hlk (v := some (.int (1 : Int32))) (fun h => by rw [Bd.returns] at h; cases h) (by decide) (by decide) ?_ (fun fs hr => retN Y58 hx (t := .boolean) Bd.returns (by simp) (hb hby at_334) hr)
                    show Q_law Z v0 v1 v2 h0 n0 _ T58.heap _
                    rw [e58]
                    exact ⟨rfl, M58⟩
                  · refine G_ifYes Y57 hx (pc' := 315) (hb hby at_308) ((if0 _ _).trans (flt (fun q => hc308_22 ((lw_lt _ _).1 q))).2.1) (by decide) (by decide) ?_
                    refine G_iconst Y57 hx (pc' := 316) rfl (hb hby at_315) (z := (0 : Int32)) rfl ?_
                    refine G_iadd Y57 hx (pc' := 317) rfl (hb hby at_316)  ?_
                    refine G_istore Y57 hx (pc' := 319) rfl (hb hby at_317) (L' := #[.val (.long v0), .second, .val (.int v1), .val (.int v2), .val (.ref b1), .val (.int d), .val (.int (v2 &&& (7 : Int32))), .val (.long w), .second, .val (.int ((f_digits (f_abs w)) + (0 : Int32)))]) rfl ?_
                    refine G_lload Y57 hx (pc' := 321) rfl (hb hby at_319) rfl ?_
                    obtain ⟨_, _, ⟨T59, L59, k59, n59⟩, -, X59, ⟨Lc59, hQ59, l59, y59, z59⟩, st59⟩ := Jvm.LawKit.callS Y57 hx (y := (⟨"com/example/colonwise/colonwise/model/BencodeInteger", "textLength", "(J)I"⟩ : MethodName)) hown (mvT hZ (hw _ (List.mem_of_getElem? (i := 29) rfl))) (mvT hZ (hw _ (List.mem_of_getElem? (i := 30) rfl))) (mvT hZ (hw _ (List.mem_of_getElem? (i := 31) rfl))) (mvT hZ (hw _ (List.mem_of_getElem? (i := 32) rfl))) (by decide) (backOf (W := 0) (rm_textLen l Z a0 hw [] w h20 n0 Z_20 ) hZ (hw _ (List.mem_of_getElem? (i := 32) rfl)) (hw _ (List.mem_of_getElem? (i := 31) rfl)) (by decide) (by decide)) (g := (mkF m 321 #[.val (.long v0), .second, .val (.int v1), .val (.int v2), .val (.ref b1), .val (.int d), .val (.int (v2 &&& (7 : Int32))), .val (.long w), .second, .val (.int ((f_digits (f_abs w)) + (0 : Int32)))] [(.long w)])) rfl (by rw [hml]; rfl) (argsL := [(.long w)]) (rest := []) (lenOf pd_0 rfl) rfl (by show 2 * 0 + _ ≤ _; exact Nat.le_of_eq rfl) (hb hby at_321) (fun _ _ => ⟨rfl, e57, (by decide : 1 + 0 ≤ _), (by decide : 19 + 0 ≤ _)⟩)
                    dsimp only [Pt.U, Pt.locs, Pt.cells, Pt.slots] at X59 l59 y59 z59 st59 hQ59
                    rw [l59, y59, z59] at X59
                    clear l59 y59 z59
                    obtain ⟨rfl, N59q, e59⟩ := hQ59
                    have N59 := Fr.app M57 N59q
                    refine Go.st st59 ?_
                    obtain ⟨G59, Y59, M59⟩ : ∃ L, Stand p l e room_1 s m #[(.long v0), (.int v1), (.int v2)] below meth c T59 L 1 19 ∧ Fr n0 L := ⟨_, X59, N59⟩
                    clear X59 N59
                    show Go p e below s _ _ _ T59 (mkF m 324 #[.val (.long v0), .second, .val (.int v1), .val (.int v2), .val (.ref b1), .val (.int d), .val (.int (v2 &&& (7 : Int32))), .val (.long w), .second, .val (.int ((f_digits (f_abs w)) + (0 : Int32)))] [(.int (f_textLen w))])
                    refine G_iload Y59 hx (pc' := 326) rfl (hb hby at_324) rfl ?_
                    refine G_icmpNo Y59 hx (pc' := 329) rfl (hb hby at_326) (teq (own_t3 hc286_21 hc308_22 : (f_textLen w) = ((f_digits (f_abs w)) + (0 : Int32)))).2 ?_
                    refine G_iconst Y59 hx (pc' := 330) rfl (hb hby at_329) (z := (1 : Int32)) rfl ?_
                    refine G_goto Y59 hx (pc' := 334) (hb hby at_330)  (by decide) (by decide) ?_
                    refine Go.fin Y59 hlk (v := some (.int (1 : Int32))) (fun h => by rw [Bd.returns] at h; cases h) (by decide) (by decide) ?_ (fun fs hr => retN Y59 hx (t := .boolean) Bd.returns (by simp) (hb hby at_334) hr)
                    show Q_law Z v0 v1 v2 h0 n0 _ T59.heap _
                    rw [e59]
                    exact ⟨rfl, M59⟩
set_option maxRecDepth 65536 in
set_option maxHeartbeats 40000000 in
theorem comes_1 {Post : Tables → Env → Array Value → State → Outcome → State → Prop} (hpost : ∀ tb e args s v u, (limb_1_1.after args s (.returned v) u = true ∧ limb_1_2.after args s (.returned v) u = true ∧ True) → FrameEnd s (.returned v) u (Jvm.fieldLocs frame_1_writes args s ++ Jvm.arrayLocs frame_1_arrays args s ++ Jvm.staticLocs frame_1_statics s) 16 128 → Post tb e args s (.returned v) u) :
    ArmFor flags0 classFile x code maxLocals ret World_1 tables_1 room_1 Calls_1 rest_1 Pre_1 Post := by
  intro l hfl _ _ p e ha hc hk s m args below hf hA hF happ hP
  obtain ⟨hcalls, hrest, hpre⟩ := hP
  obtain ⟨-, -, -, hnamed, -, -, -, hat⟩ := (Spec.applies_iff hf).mp happ
  obtain ⟨hg, hn⟩ := and_e (Cond.before_iff.mp (show (Jvm.Cond.and given_1 narrow_1).before args s = true from hpre))
  obtain ⟨hcnt, hg0⟩ := and_e hg
  obtain ⟨ha0, hg1⟩ := and_e hg0
  obtain ⟨ha1, hg2⟩ := and_e hg1
  have ha2 := hg2
  obtain ⟨w0, w1, w2, rfl⟩ : ∃ w0 w1 w2 : Value, args = #[w0, w1, w2] := by
    have hs : args.size = 3 := by simpa [Cond.value, given_1] using hcnt
    obtain ⟨L⟩ := args
    match L, hs with
    | [w0, w1, w2], _ => exact ⟨w0, w1, w2, rfl⟩
  have hw := fun d (hd : d ∈ tables_1) => atoms_spec (ws := Jvm.Cond.code x code maxLocals ret :: tables_1) hat d (List.mem_cons_of_mem _ hd)
  have hfit : Fit s := fun {y c} hc i hi => by
    obtain ⟨ha, rfl⟩ := Array.getElem?_eq_some_iff.mp hc
    have q := List.all_eq_true.mp ((Array.all_eq_true_iff_forall_mem.mp hF) _ (Array.getElem_mem ha)) i (List.mem_range.mpr hi)
    simpa [Array.getElem?_eq_getElem hi] using q
  obtain ⟨i0, ei0⟩ := isL_v ha0
  obtain rfl : w0 = (.long i0) := Option.some.inj ei0
  obtain ⟨i1, ei1⟩ := is_v ha1
  obtain rfl : w1 = (.int i1) := Option.some.inj ei1
  obtain ⟨i2, ei2⟩ := is_v ha2
  obtain rfl : w2 = (.int i2) := Option.some.inj ei2
  obtain ⟨n, o, h1, h2, h3, v, L, rfl, ⟨hv, N⟩, hq⟩ := rm_law l s _ hw tables_1 i0 i1 i2  s.heap s.heap.size (Nat.le_refl _)  p e ha hc hk s m _ below hf ((Spec.applies_iff_loose hf).mp happ).1 ⟨rfl, State.Warmed39.refl s, rfl⟩ trivial
  subst hv
  refine ⟨n, _, h1, h2, h3, hpost _ _ _ _ _ _ ⟨Cond.after_iff.mpr rfl, Cond.after_iff.mpr (eq_i res_at (Term.int_eval (1)) rfl), trivial⟩ ⟨hq.1, hq.2.1, (hq.2.2.sift fun y hy => Or.inr (N y hy)).mono (by decide) (by decide)⟩⟩
theorem main_1_1 : Claimed_1_1 := comes_1 fun _ _ _ _ _ _ h hF => ⟨h.1, hF⟩
theorem main_1_2 : Claimed_1_2 := comes_1 fun _ _ _ _ _ _ h hF => ⟨h.2.1, hF⟩
end Jvm.Pilot.@@N@@
namespace Jvm.Pilot.@@N@@
open Jvm Jvm.ClassFile Sem Op Lib Jvm.Free Jvm.Stand Jvm.Pilot.@@N@@.Jvm.D
/-! MADE BY PROGRAM (witnessworld.py) out of the Statement's table words and the real class files: 13 classes; the members and pool entries that the words name. The judged class is class 1, her method 2. -/
namespace start1
open Jvm.ClassFile
def u (s : String) : CpInfo := .utf8 (stringToUtf16 s)
/-- a pool by its gaps: so many unusable entries, then the entry; so many at the end -/
def gap : Nat → List CpInfo → List CpInfo
  | 0, r => r
  | n + 1, r => .unusable :: gap n r
def poolList (es : List (Nat × CpInfo)) (last : Nat) : List CpInfo := es.foldr (fun e r => gap e.1 (e.2 :: r)) (gap last [])
def pool (es : List (Nat × CpInfo)) (last : Nat) : Array CpInfo := ⟨poolList es last⟩
def fileOf (pool : Array CpInfo) (this : Nat) (attrs : Array Attribute := #[]) (ms : Array MethodInfo := #[]) (fl : Nat := 33) (sup : Nat := 0) (ifs : Array Nat := #[]) (fds : Array FieldInfo := #[]) : ClassFile where
  minorVersion := 0
  majorVersion := 65
  constantPool := pool
  accessFlags := fl
  thisClass := this
  superClass := sup
  interfaces := ifs
  fields := fds
  methods := ms
  attributes := attrs
def plain (name : String) (sup : Option ClassId) : Class where
  name := name
  kind := .ordinary
  loader := none
  accessFlags := 33
  super := sup
  interfaces := #[]
  cf := none
  fields := #[]
  methods := #[]
  instanceTypes := #[]
  staticTypes := #[]
  resolved := #[]
  callSites := []
  init := .initialized
  statics := none
  mirror := none

def pool0 : Array CpInfo := pool [(5, u "<init>"), (0, u "()V"), (1, .class_ 10), (1, u "java/lang/Object")] 113

def k0m0 : Method := { name := "<init>", desc := "()V", sig := { parameters := [], returnType := none }, accessFlags := 1, code := none }
/-- java/lang/Object -/
def k0 : Class := { plain "java/lang/Object" none with
  accessFlags := 33
  interfaces := #[]
  cf := some (fileOf pool0 8 #[] #[{ accessFlags := 1, nameIndex := 5, descriptorIndex := 6, attributes := #[] }] 33 0 #[] #[])
  fields := #[]
  methods := #[k0m0]
  instanceTypes := #[]
  staticTypes := #[]
  resolved := Array.replicate 124 none
  statics := none }

def pool1 : Array CpInfo := pool [(2, .class_ 4), (1, u "java/lang/Object"), (0, u "<init>"), (0, u "()V"), (0, .long 10), (1, .long 100), (1, .long 1000), (1, .long 10000), (1, .long 100000), (1, .long 1000000), (1, .long 10000000), (1, .long 100000000), (1, .long 1000000000), (1, .long 10000000000), (1, .long 100000000000), (1, .long 1000000000000), (1, .long 10000000000000), (1, .long 100000000000000), (1, .long 1000000000000000), (1, .long 10000000000000000), (1, .long 100000000000000000), (1, .long 1000000000000000000), (1, .integer 2147483647), (2, .long 9223372036854775808), (1, .long 9223372036854775807), (1, .methodref 51 52), (0, .class_ 53), (0, .nameAndType 54 55), (0, u "java/lang/Math"), (0, u "abs"), (0, u "(J)J"), (0, .methodref 57 58), (0, .class_ 59), (0, .nameAndType 60 61), (0, u "com/example/colonwise/colonwise/model/BencodeIntegerTextLengthPinLaw"), (0, u "digits"), (0, u "(J)I"), (0, .methodref 63 64), (0, .class_ 65), (0, .nameAndType 66 61), (0, u "com/example/colonwise/colonwise/model/BencodeInteger"), (0, u "textLength"), (3, u "law"), (0, u "(JII)Z")] 4

def k1m0 : Method := { name := "<init>", desc := "()V", sig := { parameters := [], returnType := none }, accessFlags := 2, code := none }
def k1c1 : Code := { maxStack := 4, maxLocals := 2, code := method_2_code, exceptionTable := #[], attributes := #[] }
def k1m1 : Method := { name := "digits", desc := "(J)I", sig := { parameters := [.long], returnType := some .int }, accessFlags := 10, code := some k1c1 }
def k1c2 : Code := { maxStack := 5, maxLocals := 10, code := code, exceptionTable := #[], attributes := #[] }
def k1m2 : Method := { name := "law", desc := "(JII)Z", sig := { parameters := [.long, .int, .int], returnType := some .boolean }, accessFlags := 9, code := some k1c2 }
/-- com/example/colonwise/colonwise/model/BencodeIntegerTextLengthPinLaw -/
def k1 : Class := { plain "com/example/colonwise/colonwise/model/BencodeIntegerTextLengthPinLaw" (some 0) with
  accessFlags := 49
  interfaces := #[]
  cf := some (fileOf pool1 57 #[] #[{ accessFlags := 2, nameIndex := 5, descriptorIndex := 6, attributes := #[] }, { accessFlags := 10, nameIndex := 60, descriptorIndex := 61, attributes := #[] }, { accessFlags := 9, nameIndex := 70, descriptorIndex := 71, attributes := #[] }] 49 2 #[] #[])
  fields := #[]
  methods := #[k1m0, k1m1, k1m2]
  instanceTypes := #[]
  staticTypes := #[]
  resolved := Array.replicate 76 none
  statics := none }

def pool2 : Array CpInfo := pool [(1, .class_ 2), (0, u "java/lang/Math"), (1, .class_ 6), (1, u "java/lang/Object"), (0, u "<init>"), (0, u "()V"), (89, .class_ 100), (1, u "java/lang/Math$RandomNumberGeneratorHolder"), (23, u "abs"), (0, u "(J)J"), (46, u "negativeZeroFloatBits"), (0, u "J"), (2, u "negativeZeroDoubleBits"), (68, u "$assertionsDisabled"), (0, u "Z"), (91, u "twoToTheDoubleScaleDown"), (0, u "D"), (4, u "twoToTheDoubleScaleUp"), (9, u "E"), (3, u "PI"), (2, u "TAU"), (2, u "DEGREES_TO_RADIANS"), (0, u "RADIANS_TO_DEGREES")] 94

def k2m0 : Method := { name := "<init>", desc := "()V", sig := { parameters := [], returnType := none }, accessFlags := 2, code := none }
def k2c1 : Code := { maxStack := 4, maxLocals := 2, code := jdk_29_method_61_code, exceptionTable := #[], attributes := #[] }
def k2m1 : Method := { name := "abs", desc := "(J)J", sig := { parameters := [.long], returnType := some .long }, accessFlags := 9, code := some k2c1 }
/-- java/lang/Math -/
def k2 : Class := { plain "java/lang/Math" (some 0) with
  accessFlags := 49
  interfaces := #[]
  cf := some (fileOf pool2 1 #[.nestMembers #[98]] #[{ accessFlags := 2, nameIndex := 7, descriptorIndex := 8, attributes := #[] }, { accessFlags := 9, nameIndex := 124, descriptorIndex := 125, attributes := #[] }] 49 4 #[] #[{ accessFlags := 25, nameIndex := 354, descriptorIndex := 339, attributes := #[] }, { accessFlags := 25, nameIndex := 358, descriptorIndex := 339, attributes := #[] }, { accessFlags := 25, nameIndex := 361, descriptorIndex := 339, attributes := #[] }, { accessFlags := 26, nameIndex := 364, descriptorIndex := 339, attributes := #[] }, { accessFlags := 26, nameIndex := 365, descriptorIndex := 339, attributes := #[] }, { accessFlags := 26, nameIndex := 172, descriptorIndex := 173, attributes := #[] }, { accessFlags := 26, nameIndex := 176, descriptorIndex := 173, attributes := #[] }, { accessFlags := 8, nameIndex := 344, descriptorIndex := 339, attributes := #[] }, { accessFlags := 8, nameIndex := 338, descriptorIndex := 339, attributes := #[] }, { accessFlags := 4120, nameIndex := 245, descriptorIndex := 246, attributes := #[] }])
  fields := #[{ name := "E", type := .double, accessFlags := 25, slot := 0, constantValue := 0 }, { name := "PI", type := .double, accessFlags := 25, slot := 1, constantValue := 0 }, { name := "TAU", type := .double, accessFlags := 25, slot := 2, constantValue := 0 }, { name := "DEGREES_TO_RADIANS", type := .double, accessFlags := 26, slot := 3, constantValue := 0 }, { name := "RADIANS_TO_DEGREES", type := .double, accessFlags := 26, slot := 4, constantValue := 0 }, { name := "negativeZeroFloatBits", type := .long, accessFlags := 26, slot := 5, constantValue := 0 }, { name := "negativeZeroDoubleBits", type := .long, accessFlags := 26, slot := 6, constantValue := 0 }, { name := "twoToTheDoubleScaleUp", type := .double, accessFlags := 8, slot := 7, constantValue := 0 }, { name := "twoToTheDoubleScaleDown", type := .double, accessFlags := 8, slot := 8, constantValue := 0 }, { name := "$assertionsDisabled", type := .boolean, accessFlags := 4120, slot := 9, constantValue := 0 }]
  methods := #[k2m0, k2m1]
  instanceTypes := #[]
  staticTypes := #[.double, .double, .double, .double, .double, .long, .long, .double, .double, .boolean]
  resolved := Array.replicate 460 none
  statics := none }

def pool3 : Array CpInfo := pool [(1, .class_ 2), (0, u "com/example/colonwise/colonwise/model/BencodeValue"), (0, .class_ 4), (0, u "java/lang/Object")] 13

/-- com/example/colonwise/colonwise/model/BencodeValue -/
def k3 : Class := { plain "com/example/colonwise/colonwise/model/BencodeValue" (some 0) with
  accessFlags := 1537
  interfaces := #[]
  cf := some (fileOf pool3 1 #[] #[] 1537 3 #[] #[])
  fields := #[]
  methods := #[]
  instanceTypes := #[]
  staticTypes := #[]
  resolved := Array.replicate 18 none
  statics := none }

def pool4 : Array CpInfo := pool [(2, .class_ 4), (1, u "java/lang/Object"), (3, .class_ 10), (1, u "com/example/colonwise/colonwise/model/BencodeInteger"), (0, u "small"), (0, u "J"), (2, u "wide"), (0, u "Z"), (2, u "big"), (0, u "Ljava/math/BigInteger;"), (2, u "decimal"), (0, u "Ljava/lang/String;"), (5, u "LONG_MIN"), (8, u "LONG_MAX"), (57, u "textLength"), (0, u "(J)I"), (2, .long 18446744073709551606), (1, .long 10), (73, .class_ 178), (0, u "com/example/colonwise/colonwise/model/BencodeValue"), (0, u "LONG_DIGITS"), (0, u "I")] 33

def k4c0 : Code := { maxStack := 4, maxLocals := 7, code := prog_28_method_10_code, exceptionTable := #[], attributes := #[] }
def k4m0 : Method := { name := "textLength", desc := "(J)I", sig := { parameters := [.long], returnType := some .int }, accessFlags := 8, code := some k4c0 }
/-- com/example/colonwise/colonwise/model/BencodeInteger -/
def k4 : Class := { plain "com/example/colonwise/colonwise/model/BencodeInteger" (some 0) with
  accessFlags := 49
  interfaces := #[3]
  cf := some (fileOf pool4 8 #[] #[{ accessFlags := 8, nameIndex := 97, descriptorIndex := 98, attributes := #[] }] 49 2 #[177] #[{ accessFlags := 26, nameIndex := 30, descriptorIndex := 20, attributes := #[] }, { accessFlags := 26, nameIndex := 39, descriptorIndex := 20, attributes := #[] }, { accessFlags := 26, nameIndex := 179, descriptorIndex := 180, attributes := #[] }, { accessFlags := 18, nameIndex := 11, descriptorIndex := 12, attributes := #[] }, { accessFlags := 18, nameIndex := 15, descriptorIndex := 16, attributes := #[] }, { accessFlags := 2, nameIndex := 19, descriptorIndex := 20, attributes := #[] }, { accessFlags := 2, nameIndex := 23, descriptorIndex := 24, attributes := #[] }])
  fields := #[{ name := "LONG_MIN", type := (.object "java/math/BigInteger"), accessFlags := 26, slot := 0, constantValue := 0 }, { name := "LONG_MAX", type := (.object "java/math/BigInteger"), accessFlags := 26, slot := 1, constantValue := 0 }, { name := "LONG_DIGITS", type := .int, accessFlags := 26, slot := 2, constantValue := 0 }, { name := "small", type := .long, accessFlags := 18, slot := 0, constantValue := 0 }, { name := "wide", type := .boolean, accessFlags := 18, slot := 1, constantValue := 0 }, { name := "big", type := (.object "java/math/BigInteger"), accessFlags := 2, slot := 2, constantValue := 0 }, { name := "decimal", type := (.object "java/lang/String"), accessFlags := 2, slot := 3, constantValue := 0 }]
  methods := #[k4m0]
  instanceTypes := #[.long, .boolean, (.object "java/math/BigInteger"), (.object "java/lang/String")]
  staticTypes := #[(.object "java/math/BigInteger"), (.object "java/math/BigInteger"), .int]
  resolved := Array.replicate 214 none
  statics := none }

def pool5 : Array CpInfo := pool [(1, u "java/lang/Cloneable"), (0, .class_ 1), (0, u "java/lang/Object"), (0, .class_ 3)] 3

/-- java/lang/Cloneable -/
def k5 : Class := { plain "java/lang/Cloneable" (some 0) with
  accessFlags := 1537
  interfaces := #[]
  cf := some (fileOf pool5 2 #[] #[] 1537 4 #[] #[])
  fields := #[]
  methods := #[]
  instanceTypes := #[]
  staticTypes := #[]
  resolved := Array.replicate 8 none
  statics := none }

def pool6 : Array CpInfo := pool [(1, u "java/io/Serializable"), (0, .class_ 1), (0, u "java/lang/Object"), (0, .class_ 3)] 3

/-- java/io/Serializable -/
def k6 : Class := { plain "java/io/Serializable" (some 0) with
  accessFlags := 1537
  interfaces := #[]
  cf := some (fileOf pool6 2 #[] #[] 1537 4 #[] #[])
  fields := #[]
  methods := #[]
  instanceTypes := #[]
  staticTypes := #[]
  resolved := Array.replicate 8 none
  statics := none }

/-- the primitive byte -/
def k7 : Class := { plain "byte" none with kind := .primitive 'B', accessFlags := 0x411 }
/-- [B -/
def k8 : Class := { plain "[B" (some 0) with kind := .array 7 .byte, interfaces := #[5, 6], accessFlags := 1041 }

/-- the primitive int -/
def k9 : Class := { plain "int" none with kind := .primitive 'I', accessFlags := 0x411 }
/-- [I -/
def k10 : Class := { plain "[I" (some 0) with kind := .array 9 .int, interfaces := #[5, 6], accessFlags := 1041 }

/-- the primitive long -/
def k11 : Class := { plain "long" none with kind := .primitive 'J', accessFlags := 0x411 }
/-- [J -/
def k12 : Class := { plain "[J" (some 0) with kind := .array 11 .long, interfaces := #[5, 6], accessFlags := 1041 }

def heap : Heap := #[]
def classes : Array Class := #[k0, k1, k2, k3, k4, k5, k6, k7, k8, k9, k10, k11, k12]
def interned : List (Array UInt16 × Addr) := []
def slotsUsed : Nat := 0
def theMethod : MethodId := ⟨1, 2⟩
def args0 : Array Value := #[.long 5, .int 7, .int 3]
def aboutOver (below : List Frame) : State where
  vm := { classes := classes, interned := interned.toArray }
  heap := heap
  slotsUsed := slotsUsed
  threads := #[{ frames := .invoking theMethod args0 :: below }]
def below0 : List Frame := [.native { method := ⟨0, 0⟩, args := #[] }]
def about1 : State := aboutOver below0
def p0 : Program := .bare "" "" ""
def e0 : Env := launch0.env 0 0 0
theorem w_frames : about1.frames = Frame.invoking theMethod args0 :: below0 := rfl
set_option maxRecDepth 65536 in
theorem w_args : argsFit about1.vm theMethod args0 = true := by decide +kernel
set_option maxRecDepth 65536 in
theorem w_heap : heapFits about1 = true := by decide +kernel
set_option maxRecDepth 65536 in
theorem w_runnable : about1.curStatus? = some .runnable := by decide +kernel
set_option maxRecDepth 65536 in
theorem w_alone : about1.alone = true := by decide +kernel
set_option maxRecDepth 65536 in
theorem w_named : about1.methodNamed? x = some theMethod := by decide +kernel
set_option maxRecDepth 65536 in
theorem w_hears : about1.hears theMethod below0 = true := by decide +kernel
set_option maxRecDepth 65536 in
theorem w_ripe : about1.ripe theMethod args0 below0 = true := by decide +kernel
theorem w_running : about1.status = .running := rfl
set_option maxRecDepth 65536 in
theorem w_room : about1.hasRoom e0.platform room_1 = true :=
  launch0.hasRoom_least _ room_1 (by decide +kernel) (by decide +kernel) (by decide +kernel) (by decide +kernel) (by decide +kernel) (by decide +kernel)
theorem allAtoms_all (ts : List Jvm.Cond) (a : Array Jvm.Value) (st : Jvm.State) : (allAtoms ts).before a st = ts.all (fun c => c.before a st) := by
  induction ts with
  | nil => rfl
  | cons c t ih =>
    show (Jvm.Cond.and c (allAtoms t)).before a st = _
    rw [Jvm.Cond.before_and, ih, List.all_cons]
def words1 : List Jvm.Cond := Jvm.Cond.code x code maxLocals ret :: tables_1
/-- a 'code' word, met by the world's own term for the bytes: nothing is compared byte by byte -/
theorem code_word {y : MethodName} {bytes : ByteArray} {mx : Nat} {rt : Option FieldType} {a : Array Value} {s : State} {m : MethodId} {meth : Method} {c : Code} (h1 : s.methodNamed? y = some m) (h2 : s.vm.method? m = some meth) (h3 : meth.code = some c) (h4 : c.code = bytes)
    (h5 : (c.maxLocals == mx && c.exceptionTable.isEmpty && decide (c.maxStack ≤ mostOperands) && decide (meth.sig.returnType = rt) && !meth.locks && decide (parseMethodDescriptor y.desc = some meth.sig)) = true) : (Jvm.Cond.code y bytes mx rt).before a s = true := by
  simp only [Bool.and_eq_true, beq_iff_eq, Bool.not_eq_true', decide_eq_true_eq] at h5
  obtain ⟨⟨⟨⟨⟨g1, g2⟩, g3⟩, g4⟩, g5⟩, g6⟩ := h5
  simp [Cond.before, Cond.holds, Cond.value, h1, h2, h3, h4, g1, g2, g3, g4, g5, g6]
def isCode : Jvm.Cond → Bool
  | .code _ _ _ _ => true
  | _ => false
theorem all_split {L : List Jvm.Cond} {P : Jvm.Cond → Bool} (h1 : L.all (fun c => isCode c || P c) = true) (h2 : ∀ c ∈ L.filter isCode, P c = true) : L.all P = true := by
  refine List.all_eq_true.mpr fun c hc => ?_
  have h := List.all_eq_true.mp h1 c hc
  rcases Bool.eq_false_or_eq_true (isCode c) with hi | hi
  · exact h2 c (List.mem_filter.mpr ⟨hc, hi⟩)
  · simpa [hi] using h
set_option maxRecDepth 65536 in
theorem w_c0 : (Jvm.Cond.code x code maxLocals ret).before args0 about1 = true := code_word (m := ⟨1, 2⟩) (meth := k1m2) (c := k1c2) (by decide +kernel) rfl rfl rfl (by decide +kernel)
set_option maxRecDepth 65536 in
theorem w_c1 : (Jvm.Cond.code ({ cls := "java/lang/Math", name := "abs", desc := "(J)J" } : Jvm.MethodName) jdk_29_method_61_code (2 : Nat) (Option.some Jvm.ClassFile.FieldType.long)).before args0 about1 = true := code_word (m := ⟨2, 1⟩) (meth := k2m1) (c := k2c1) (by decide +kernel) rfl rfl rfl (by decide +kernel)
set_option maxRecDepth 65536 in
theorem w_c2 : (Jvm.Cond.code ({ cls := "com/example/colonwise/colonwise/model/BencodeIntegerTextLengthPinLaw", name := "digits", desc := "(J)I" } : Jvm.MethodName) method_2_code (2 : Nat) (Option.some Jvm.ClassFile.FieldType.int)).before args0 about1 = true := code_word (m := ⟨1, 1⟩) (meth := k1m1) (c := k1c1) (by decide +kernel) rfl rfl rfl (by decide +kernel)
set_option maxRecDepth 65536 in
theorem w_c3 : (Jvm.Cond.code ({ cls := "com/example/colonwise/colonwise/model/BencodeInteger", name := "textLength", desc := "(J)I" } : Jvm.MethodName) prog_28_method_10_code (7 : Nat) (Option.some Jvm.ClassFile.FieldType.int)).before args0 about1 = true := code_word (m := ⟨4, 0⟩) (meth := k4m0) (c := k4c0) (by decide +kernel) rfl rfl rfl (by decide +kernel)
def codes1 : List Jvm.Cond := [Jvm.Cond.code x code maxLocals ret, Jvm.Cond.code ({ cls := "java/lang/Math", name := "abs", desc := "(J)J" } : Jvm.MethodName) jdk_29_method_61_code (2 : Nat) (Option.some Jvm.ClassFile.FieldType.long), Jvm.Cond.code ({ cls := "com/example/colonwise/colonwise/model/BencodeIntegerTextLengthPinLaw", name := "digits", desc := "(J)I" } : Jvm.MethodName) method_2_code (2 : Nat) (Option.some Jvm.ClassFile.FieldType.int), Jvm.Cond.code ({ cls := "com/example/colonwise/colonwise/model/BencodeInteger", name := "textLength", desc := "(J)I" } : Jvm.MethodName) prog_28_method_10_code (7 : Nat) (Option.some Jvm.ClassFile.FieldType.int)]
set_option maxRecDepth 65536 in
theorem codes_eq : words1.filter isCode = codes1 := rfl
theorem w_codes : ∀ c ∈ words1.filter isCode, c.before args0 about1 = true := by
  rw [codes_eq]
  intro c hc
  simp only [codes1, List.mem_cons, List.not_mem_nil, or_false] at hc
  rcases hc with rfl | rfl | rfl | rfl
  · exact w_c0
  · exact w_c1
  · exact w_c2
  · exact w_c3
set_option maxRecDepth 65536 in
theorem w_t1 : (words1.take 24).all (fun c => isCode c || c.before args0 about1) = true := by decide +kernel
set_option maxRecDepth 65536 in
theorem w_t2 : (words1.drop 24).all (fun c => isCode c || c.before args0 about1) = true := by decide +kernel
theorem w_tables : (allAtoms (Jvm.Cond.code x code maxLocals ret :: tables_1)).before args0 about1 = true := by
  rw [allAtoms_all]
  show words1.all (fun c => c.before args0 about1) = true
  refine all_split ?_ w_codes
  rw [← List.take_append_drop 24 words1, List.all_append, w_t1, w_t2]
  rfl
set_option maxRecDepth 65536 in
theorem w_case : (Jvm.Cond.and given_1 narrow_1).before args0 about1 = true := by decide +kernel
theorem w_applies : (headSpec (Jvm.Cond.code x code maxLocals ret :: tables_1) room_1).applies x e0.platform about1 = true :=
  (Spec.applies_iff w_frames).mpr ⟨w_running, w_runnable, w_alone, w_named, w_hears, w_ripe, w_room, w_tables⟩
theorem atStart : AtStart classFile x code maxLocals ret World_1 tables_1 room_1 Calls_1 rest_1 Pre_1 launch0 p0 e0 about1 theMethod args0 below0 :=
  ⟨lists_1, trivial, launch0.admits_env _ _ _, launch0.least_env, fairChoices_fair.cas, fairChoices_fair.clock, w_frames, w_args, w_heap, w_applies, trivial, trivial, w_case⟩
end start1
theorem witness_1 : WitnessClaimed_1 := ⟨start1.p0, start1.e0, start1.about1, start1.theMethod, start1.args0, start1.below0, start1.atStart⟩
end Jvm.Pilot.@@N@@
