import JvmDerived
import JvmDerived.Pilot.@@N@@Statement
import JvmDerived.Pilot.@@N@@Code
set_option linter.unusedVariables false
set_option linter.unusedSimpArgs false
namespace Jvm.Pilot.@@N@@
open Jvm Jvm.ClassFile Sem Op Lib Jvm.Free Jvm.Stand Jvm.LawKit Jvm.RoadKit Bundle Jvm.Pilot.@@N@@.Jvm.D
section Own
variable {p : Program} {l : Launch} {e : Env} {R : Room} {s : State} {m : MethodId} {args : Array Value} {below : List Frame} {meth : Method} {c : Code} {T T' : State} {locs : List Loc} {cells slots C N : Nat} {Q : Option Value → Heap → List Loc → Prop} {g g' : JFrame}
/-- from T with the frame g on top the invocation of s comes to its end: it returns, and Q holds of what it returns, of the heap and of the places written -/
def Go (p : Program) (e : Env) (below : List Frame) (s : State) (C N : Nat) (Q : Option Value → Heap → List Loc → Prop) (T : State) (g : JFrame) : Prop :=
  ∃ s₂ o, Steps p.tables e below (T.setTop g) s₂ ∧ s₂.status = .running ∧ Ended s₂ below o ∧ ∃ v L, o = .returned v ∧ Q v s₂.heap L ∧ FrameEnd s o s₂ L C N
theorem Go.st (h : ∀ t, Steps p.tables e below (T'.setTop g') t → Steps p.tables e below (T.setTop g) t) (k : Go p e below s C N Q T' g') : Go p e below s C N Q T g := by
  obtain ⟨s2, o, h1, h2⟩ := k
  exact ⟨s2, o, h _ h1, h2⟩
theorem Go.enter (q : g = g') (k : Go p e below s C N Q T g') : ∃ s₂ o, Steps p.tables e below (T.setTop g) s₂ ∧ s₂.status = .running ∧ Ended s₂ below o ∧ ∃ v L, o = .returned v ∧ Q v s₂.heap L ∧ FrameEnd s o s₂ L C N := by
  subst q; exact k
theorem Go.fin (X : Stand p l e R s m args below meth c T locs cells slots) (hlk : meth.locks = false) {v : Option Value} (hv : meth.sig.returnType = none → v = none) (hC : cells ≤ C) (hN : slots ≤ N) (hq : Q v T.heap locs)
    (hs : ∀ fs, (∀ (f : JFrame) (acts : List Action), f.method = m → f.locked = none → f.entered = [] → (doReturn e (T.setTop f) acts v).1 = T.setFrames fs) → Steps p.tables e below (T.setTop g) (T.setFrames fs)) : Go p e below s C N Q T g := by
  obtain ⟨fs, hr, hrun, hended, hW, hsame⟩ := X.leave hv hlk
  exact ⟨_, _, hs fs hr, hrun, hended, _, _, rfl, hq, ⟨_, rfl⟩, hW, hsame.mono hC hN⟩
end Own
theorem own_selp {s : State} {args : Array Value} {y : MethodName} {n : Nat} (wi : (Cond.instantiable y.cls n).before args s = true) (wp : (Cond.privateMethod y).before args s = true) (hinst : (Cond.instanceMethod y).before args s = true) (hy : y.cls ≠ "java/lang/invoke/MethodHandle" ∧ y.cls ≠ "java/lang/invoke/VarHandle") : (Cond.selects y.cls y y).before args s = true := by
  obtain ⟨c, k, h1, h2, -, h4, -⟩ := Cond.instantiable_spec wi
  exact Jvm.Stand.selects_self_of_private h1 h2 (by simp only [Bool.or_eq_false_iff] at h4; exact h4.1) (Cond.privateMethod_at wp) hinst hy

section OwnG
variable {p : Program} {l : Launch} {e : Env} {R : Room} {s : State} {m : MethodId} {args : Array Value} {below : List Frame} {meth : Method} {c : Code} {T : State} {locs : List Loc} {cells slots C N : Nat} {Q : Option Value → Heap → List Loc → Prop} {pc pc' : Nat} {L L' : Array Slot} {S : List Value}
theorem G_iloadN (X : Stand p l e R s m args below meth c T locs cells slots) (hx : p.tables.exec = Jvm.exec) {k : Fin 4} {v : Int32} (hp : pc + 1 = pc') (hd : decode c.code pc = .ok (.iload_n k, 1)) (hl : L[k.val]? = some (.val (.int v))) (h : Go p e below s C N Q T (mkF m pc' L (.int v :: S))) : Go p e below s C N Q T (mkF m pc L S) := by
  subst hp; exact Go.st (fun _ k => XS.iloadN X.here hx rfl hd hl k) h
theorem G_iload (X : Stand p l e R s m args below meth c T locs cells slots) (hx : p.tables.exec = Jvm.exec) {k : Nat} {v : Int32} (hp : pc + 2 = pc') (hd : decode c.code pc = .ok (.iload k, 2)) (hl : L[k]? = some (.val (.int v))) (h : Go p e below s C N Q T (mkF m pc' L (.int v :: S))) : Go p e below s C N Q T (mkF m pc L S) := by
  subst hp; exact Go.st (fun _ k => XS.iload X.here hx rfl hd hl k) h
theorem G_istoreN (X : Stand p l e R s m args below meth c T locs cells slots) (hx : p.tables.exec = Jvm.exec) {k : Fin 4} {v : Int32} (hp : pc + 1 = pc') (hd : decode c.code pc = .ok (.istore_n k, 1)) (hl : storeLocals L k.val (.int v) = some L') (h : Go p e below s C N Q T (mkF m pc' L' S)) : Go p e below s C N Q T (mkF m pc L (.int v :: S)) := by
  subst hp; exact Go.st (fun _ k => XS.istoreN X.here hx rfl hd rfl hl k) h
theorem G_istore (X : Stand p l e R s m args below meth c T locs cells slots) (hx : p.tables.exec = Jvm.exec) {k : Nat} {v : Int32} (hp : pc + 2 = pc') (hd : decode c.code pc = .ok (.istore k, 2)) (hl : storeLocals L k (.int v) = some L') (h : Go p e below s C N Q T (mkF m pc' L' S)) : Go p e below s C N Q T (mkF m pc L (.int v :: S)) := by
  subst hp; exact Go.st (fun _ k => XS.istore X.here hx rfl hd rfl hl k) h
theorem G_lloadN (X : Stand p l e R s m args below meth c T locs cells slots) (hx : p.tables.exec = Jvm.exec) {k : Fin 4} {v : Int64} (hp : pc + 1 = pc') (hd : decode c.code pc = .ok (.lload_n k, 1)) (hl : L[k.val]? = some (.val (.long v))) (h : Go p e below s C N Q T (mkF m pc' L (.long v :: S))) : Go p e below s C N Q T (mkF m pc L S) := by
  subst hp; exact Go.st (fun _ k => XS.lloadN X.here hx rfl hd hl k) h
theorem G_lload (X : Stand p l e R s m args below meth c T locs cells slots) (hx : p.tables.exec = Jvm.exec) {k : Nat} {v : Int64} (hp : pc + 2 = pc') (hd : decode c.code pc = .ok (.lload k, 2)) (hl : L[k]? = some (.val (.long v))) (h : Go p e below s C N Q T (mkF m pc' L (.long v :: S))) : Go p e below s C N Q T (mkF m pc L S) := by
  subst hp; exact Go.st (fun _ k => XS.lload X.here hx rfl hd hl k) h
theorem G_lstoreN (X : Stand p l e R s m args below meth c T locs cells slots) (hx : p.tables.exec = Jvm.exec) {k : Fin 4} {v : Int64} (hp : pc + 1 = pc') (hd : decode c.code pc = .ok (.lstore_n k, 1)) (hl : storeLocals L k.val (.long v) = some L') (h : Go p e below s C N Q T (mkF m pc' L' S)) : Go p e below s C N Q T (mkF m pc L (.long v :: S)) := by
  subst hp; exact Go.st (fun _ k => XS.lstoreN X.here hx rfl hd rfl hl k) h
theorem G_lstore (X : Stand p l e R s m args below meth c T locs cells slots) (hx : p.tables.exec = Jvm.exec) {k : Nat} {v : Int64} (hp : pc + 2 = pc') (hd : decode c.code pc = .ok (.lstore k, 2)) (hl : storeLocals L k (.long v) = some L') (h : Go p e below s C N Q T (mkF m pc' L' S)) : Go p e below s C N Q T (mkF m pc L (.long v :: S)) := by
  subst hp; exact Go.st (fun _ k => XS.lstore X.here hx rfl hd rfl hl k) h
theorem G_aloadN (X : Stand p l e R s m args below meth c T locs cells slots) (hx : p.tables.exec = Jvm.exec) {k : Fin 4} {v : Value} (hp : pc + 1 = pc') (hd : decode c.code pc = .ok (.aload_n k, 1)) (hl : L[k.val]? = some (.val v)) (hv : v.isRef = true) (h : Go p e below s C N Q T (mkF m pc' L (v :: S))) : Go p e below s C N Q T (mkF m pc L S) := by
  subst hp; exact Go.st (fun _ k => XS.aloadN X.here hx rfl hd hl hv k) h
theorem G_aload (X : Stand p l e R s m args below meth c T locs cells slots) (hx : p.tables.exec = Jvm.exec) {k : Nat} {v : Value} (hp : pc + 2 = pc') (hd : decode c.code pc = .ok (.aload k, 2)) (hl : L[k]? = some (.val v)) (hv : v.isRef = true) (h : Go p e below s C N Q T (mkF m pc' L (v :: S))) : Go p e below s C N Q T (mkF m pc L S) := by
  subst hp; exact Go.st (fun _ k => XS.aload X.here hx rfl hd hl hv k) h
theorem G_astoreN (X : Stand p l e R s m args below meth c T locs cells slots) (hx : p.tables.exec = Jvm.exec) {k : Fin 4} {v : Value} (hp : pc + 1 = pc') (hd : decode c.code pc = .ok (.astore_n k, 1)) (hv : v.isRef = true) (hl : storeLocals L k.val v = some L') (h : Go p e below s C N Q T (mkF m pc' L' S)) : Go p e below s C N Q T (mkF m pc L (v :: S)) := by
  subst hp; exact Go.st (fun _ k => XS.astoreN X.here hx rfl hd rfl hv hl k) h
theorem G_astore (X : Stand p l e R s m args below meth c T locs cells slots) (hx : p.tables.exec = Jvm.exec) {k : Nat} {v : Value} (hp : pc + 2 = pc') (hd : decode c.code pc = .ok (.astore k, 2)) (hv : v.isRef = true) (hl : storeLocals L k v = some L') (h : Go p e below s C N Q T (mkF m pc' L' S)) : Go p e below s C N Q T (mkF m pc L (v :: S)) := by
  subst hp; exact Go.st (fun _ k => XS.astore X.here hx rfl hd rfl hv hl k) h
theorem G_iconst (X : Stand p l e R s m args below meth c T locs cells slots) (hx : p.tables.exec = Jvm.exec) {i : Int} {z : Int32} (hp : pc + 1 = pc') (hd : decode c.code pc = .ok (.iconst i, 1)) (hz : Int32.ofInt i = z) (h : Go p e below s C N Q T (mkF m pc' L (.int z :: S))) : Go p e below s C N Q T (mkF m pc L S) := by
  subst hp; exact Go.st (fun _ k => XS.iconst X.here hx rfl hd (by rw [hz]; exact k)) h
theorem G_bipush (X : Stand p l e R s m args below meth c T locs cells slots) (hx : p.tables.exec = Jvm.exec) {i : Int} {z : Int32} (hp : pc + 2 = pc') (hd : decode c.code pc = .ok (.bipush i, 2)) (hz : (Int8.ofInt i).toInt32 = z) (h : Go p e below s C N Q T (mkF m pc' L (.int z :: S))) : Go p e below s C N Q T (mkF m pc L S) := by
  subst hp; exact Go.st (fun _ k => XS.bipush X.here hx rfl hd (by rw [hz]; exact k)) h
theorem G_sipush (X : Stand p l e R s m args below meth c T locs cells slots) (hx : p.tables.exec = Jvm.exec) {i : Int} {z : Int32} (hp : pc + 3 = pc') (hd : decode c.code pc = .ok (.sipush i, 3)) (hz : (Int16.ofInt i).toInt32 = z) (h : Go p e below s C N Q T (mkF m pc' L (.int z :: S))) : Go p e below s C N Q T (mkF m pc L S) := by
  subst hp; exact Go.st (fun _ k => XS.sipush X.here hx rfl hd (by rw [hz]; exact k)) h
theorem G_lconst (X : Stand p l e R s m args below meth c T locs cells slots) (hx : p.tables.exec = Jvm.exec) {i : Fin 2} {z : Int64} (hp : pc + 1 = pc') (hd : decode c.code pc = .ok (.lconst i, 1)) (hz : Int64.ofNat i = z) (h : Go p e below s C N Q T (mkF m pc' L (.long z :: S))) : Go p e below s C N Q T (mkF m pc L S) := by
  subst hp; exact Go.st (fun _ k => XS.lconst X.here hx rfl hd (by rw [hz]; exact k)) h
theorem G_aconstNull (X : Stand p l e R s m args below meth c T locs cells slots) (hx : p.tables.exec = Jvm.exec)  (hp : pc + 1 = pc') (hd : decode c.code pc = .ok (.aconst_null, 1))  (h : Go p e below s C N Q T (mkF m pc' L (.null :: S))) : Go p e below s C N Q T (mkF m pc L S) := by
  subst hp; exact Go.st (fun _ k => XS.aconstNull X.here hx rfl hd k) h
theorem G_iadd (X : Stand p l e R s m args below meth c T locs cells slots) (hx : p.tables.exec = Jvm.exec) {x y : Int32} (hp : pc + 1 = pc') (hd : decode c.code pc = .ok (.iadd, 1))  (h : Go p e below s C N Q T (mkF m pc' L (.int (x + y) :: S))) : Go p e below s C N Q T (mkF m pc L (.int y :: .int x :: S)) := by
  subst hp; exact Go.st (fun _ k => XS.iadd X.here hx rfl hd rfl k) h
theorem G_isub (X : Stand p l e R s m args below meth c T locs cells slots) (hx : p.tables.exec = Jvm.exec) {x y : Int32} (hp : pc + 1 = pc') (hd : decode c.code pc = .ok (.isub, 1))  (h : Go p e below s C N Q T (mkF m pc' L (.int (x - y) :: S))) : Go p e below s C N Q T (mkF m pc L (.int y :: .int x :: S)) := by
  subst hp; exact Go.st (fun _ k => XS.isub X.here hx rfl hd rfl k) h
theorem G_imul (X : Stand p l e R s m args below meth c T locs cells slots) (hx : p.tables.exec = Jvm.exec) {x y : Int32} (hp : pc + 1 = pc') (hd : decode c.code pc = .ok (.imul, 1))  (h : Go p e below s C N Q T (mkF m pc' L (.int (x * y) :: S))) : Go p e below s C N Q T (mkF m pc L (.int y :: .int x :: S)) := by
  subst hp; exact Go.st (fun _ k => XS.imul X.here hx rfl hd rfl k) h
theorem G_iand (X : Stand p l e R s m args below meth c T locs cells slots) (hx : p.tables.exec = Jvm.exec) {x y : Int32} (hp : pc + 1 = pc') (hd : decode c.code pc = .ok (.iand, 1))  (h : Go p e below s C N Q T (mkF m pc' L (.int (x &&& y) :: S))) : Go p e below s C N Q T (mkF m pc L (.int y :: .int x :: S)) := by
  subst hp; exact Go.st (fun _ k => XS.iand X.here hx rfl hd rfl k) h
theorem G_ior (X : Stand p l e R s m args below meth c T locs cells slots) (hx : p.tables.exec = Jvm.exec) {x y : Int32} (hp : pc + 1 = pc') (hd : decode c.code pc = .ok (.ior, 1))  (h : Go p e below s C N Q T (mkF m pc' L (.int (x ||| y) :: S))) : Go p e below s C N Q T (mkF m pc L (.int y :: .int x :: S)) := by
  subst hp; exact Go.st (fun _ k => XS.ior X.here hx rfl hd rfl k) h
theorem G_ixor (X : Stand p l e R s m args below meth c T locs cells slots) (hx : p.tables.exec = Jvm.exec) {x y : Int32} (hp : pc + 1 = pc') (hd : decode c.code pc = .ok (.ixor, 1))  (h : Go p e below s C N Q T (mkF m pc' L (.int (x ^^^ y) :: S))) : Go p e below s C N Q T (mkF m pc L (.int y :: .int x :: S)) := by
  subst hp; exact Go.st (fun _ k => XS.ixor X.here hx rfl hd rfl k) h
theorem G_ishl (X : Stand p l e R s m args below meth c T locs cells slots) (hx : p.tables.exec = Jvm.exec) {x y : Int32} (hp : pc + 1 = pc') (hd : decode c.code pc = .ok (.ishl, 1))  (h : Go p e below s C N Q T (mkF m pc' L (.int (x <<< (y &&& 31)) :: S))) : Go p e below s C N Q T (mkF m pc L (.int y :: .int x :: S)) := by
  subst hp; exact Go.st (fun _ k => XS.ishl X.here hx rfl hd rfl k) h
theorem G_ishr (X : Stand p l e R s m args below meth c T locs cells slots) (hx : p.tables.exec = Jvm.exec) {x y : Int32} (hp : pc + 1 = pc') (hd : decode c.code pc = .ok (.ishr, 1))  (h : Go p e below s C N Q T (mkF m pc' L (.int (x >>> (y &&& 31)) :: S))) : Go p e below s C N Q T (mkF m pc L (.int y :: .int x :: S)) := by
  subst hp; exact Go.st (fun _ k => XS.ishr X.here hx rfl hd rfl k) h
theorem G_iushr (X : Stand p l e R s m args below meth c T locs cells slots) (hx : p.tables.exec = Jvm.exec) {x y : Int32} (hp : pc + 1 = pc') (hd : decode c.code pc = .ok (.iushr, 1))  (h : Go p e below s C N Q T (mkF m pc' L (.int ((x.toUInt32 >>> (y &&& 31).toUInt32).toInt32) :: S))) : Go p e below s C N Q T (mkF m pc L (.int y :: .int x :: S)) := by
  subst hp; exact Go.st (fun _ k => XS.iushr X.here hx rfl hd rfl k) h
theorem G_ladd (X : Stand p l e R s m args below meth c T locs cells slots) (hx : p.tables.exec = Jvm.exec) {x y : Int64} (hp : pc + 1 = pc') (hd : decode c.code pc = .ok (.ladd, 1))  (h : Go p e below s C N Q T (mkF m pc' L (.long (x + y) :: S))) : Go p e below s C N Q T (mkF m pc L (.long y :: .long x :: S)) := by
  subst hp; exact Go.st (fun _ k => XS.ladd X.here hx rfl hd rfl k) h
theorem G_lsub (X : Stand p l e R s m args below meth c T locs cells slots) (hx : p.tables.exec = Jvm.exec) {x y : Int64} (hp : pc + 1 = pc') (hd : decode c.code pc = .ok (.lsub, 1))  (h : Go p e below s C N Q T (mkF m pc' L (.long (x - y) :: S))) : Go p e below s C N Q T (mkF m pc L (.long y :: .long x :: S)) := by
  subst hp; exact Go.st (fun _ k => XS.lsub X.here hx rfl hd rfl k) h
theorem G_lmul (X : Stand p l e R s m args below meth c T locs cells slots) (hx : p.tables.exec = Jvm.exec) {x y : Int64} (hp : pc + 1 = pc') (hd : decode c.code pc = .ok (.lmul, 1))  (h : Go p e below s C N Q T (mkF m pc' L (.long (x * y) :: S))) : Go p e below s C N Q T (mkF m pc L (.long y :: .long x :: S)) := by
  subst hp; exact Go.st (fun _ k => XS.lmul X.here hx rfl hd rfl k) h
theorem G_land (X : Stand p l e R s m args below meth c T locs cells slots) (hx : p.tables.exec = Jvm.exec) {x y : Int64} (hp : pc + 1 = pc') (hd : decode c.code pc = .ok (.land, 1))  (h : Go p e below s C N Q T (mkF m pc' L (.long (x &&& y) :: S))) : Go p e below s C N Q T (mkF m pc L (.long y :: .long x :: S)) := by
  subst hp; exact Go.st (fun _ k => XS.land X.here hx rfl hd rfl k) h
theorem G_lor (X : Stand p l e R s m args below meth c T locs cells slots) (hx : p.tables.exec = Jvm.exec) {x y : Int64} (hp : pc + 1 = pc') (hd : decode c.code pc = .ok (.lor, 1))  (h : Go p e below s C N Q T (mkF m pc' L (.long (x ||| y) :: S))) : Go p e below s C N Q T (mkF m pc L (.long y :: .long x :: S)) := by
  subst hp; exact Go.st (fun _ k => XS.lor X.here hx rfl hd rfl k) h
theorem G_lxor (X : Stand p l e R s m args below meth c T locs cells slots) (hx : p.tables.exec = Jvm.exec) {x y : Int64} (hp : pc + 1 = pc') (hd : decode c.code pc = .ok (.lxor, 1))  (h : Go p e below s C N Q T (mkF m pc' L (.long (x ^^^ y) :: S))) : Go p e below s C N Q T (mkF m pc L (.long y :: .long x :: S)) := by
  subst hp; exact Go.st (fun _ k => XS.lxor X.here hx rfl hd rfl k) h
theorem G_lshl (X : Stand p l e R s m args below meth c T locs cells slots) (hx : p.tables.exec = Jvm.exec) {x : Int64} {y : Int32} (hp : pc + 1 = pc') (hd : decode c.code pc = .ok (.lshl, 1))  (h : Go p e below s C N Q T (mkF m pc' L (.long (x <<< (y &&& 0x3f).toInt64) :: S))) : Go p e below s C N Q T (mkF m pc L (.int y :: .long x :: S)) := by
  subst hp; exact Go.st (fun _ k => XS.lshl X.here hx rfl hd rfl k) h
theorem G_lshr (X : Stand p l e R s m args below meth c T locs cells slots) (hx : p.tables.exec = Jvm.exec) {x : Int64} {y : Int32} (hp : pc + 1 = pc') (hd : decode c.code pc = .ok (.lshr, 1))  (h : Go p e below s C N Q T (mkF m pc' L (.long (x >>> (y &&& 0x3f).toInt64) :: S))) : Go p e below s C N Q T (mkF m pc L (.int y :: .long x :: S)) := by
  subst hp; exact Go.st (fun _ k => XS.lshr X.here hx rfl hd rfl k) h
theorem G_lushr (X : Stand p l e R s m args below meth c T locs cells slots) (hx : p.tables.exec = Jvm.exec) {x : Int64} {y : Int32} (hp : pc + 1 = pc') (hd : decode c.code pc = .ok (.lushr, 1))  (h : Go p e below s C N Q T (mkF m pc' L (.long ((x.toUInt64 >>> (y &&& 0x3f).toInt64.toUInt64).toInt64) :: S))) : Go p e below s C N Q T (mkF m pc L (.int y :: .long x :: S)) := by
  subst hp; exact Go.st (fun _ k => XS.lushr X.here hx rfl hd rfl k) h
theorem G_idiv (X : Stand p l e R s m args below meth c T locs cells slots) (hx : p.tables.exec = Jvm.exec) {x y : Int32} (hp : pc + 1 = pc') (hd : decode c.code pc = .ok (.idiv, 1)) (hy : y ≠ 0) (h : Go p e below s C N Q T (mkF m pc' L (.int (x / y) :: S))) : Go p e below s C N Q T (mkF m pc L (.int y :: .int x :: S)) := by
  subst hp; exact Go.st (fun _ k => XS.idiv X.here hx rfl hd rfl hy k) h
theorem G_irem (X : Stand p l e R s m args below meth c T locs cells slots) (hx : p.tables.exec = Jvm.exec) {x y : Int32} (hp : pc + 1 = pc') (hd : decode c.code pc = .ok (.irem, 1)) (hy : y ≠ 0) (h : Go p e below s C N Q T (mkF m pc' L (.int (x % y) :: S))) : Go p e below s C N Q T (mkF m pc L (.int y :: .int x :: S)) := by
  subst hp; exact Go.st (fun _ k => iremM X hx rfl hd rfl hy k) h
theorem G_ldiv (X : Stand p l e R s m args below meth c T locs cells slots) (hx : p.tables.exec = Jvm.exec) {x y : Int64} (hp : pc + 1 = pc') (hd : decode c.code pc = .ok (.ldiv, 1)) (hy : y ≠ 0) (h : Go p e below s C N Q T (mkF m pc' L (.long (x / y) :: S))) : Go p e below s C N Q T (mkF m pc L (.long y :: .long x :: S)) := by
  subst hp; exact Go.st (fun _ k => XS.ldiv X.here hx rfl hd rfl hy k) h
theorem G_lrem (X : Stand p l e R s m args below meth c T locs cells slots) (hx : p.tables.exec = Jvm.exec) {x y : Int64} (hp : pc + 1 = pc') (hd : decode c.code pc = .ok (.lrem, 1)) (hy : y ≠ 0) (h : Go p e below s C N Q T (mkF m pc' L (.long (x % y) :: S))) : Go p e below s C N Q T (mkF m pc L (.long y :: .long x :: S)) := by
  subst hp; exact Go.st (fun _ k => XS.lrem X.here hx rfl hd rfl hy (by rw [lrem_mod]; exact k)) h
theorem G_ineg (X : Stand p l e R s m args below meth c T locs cells slots) (hx : p.tables.exec = Jvm.exec) {x : Int32} (hp : pc + 1 = pc') (hd : decode c.code pc = .ok (.ineg, 1))  (h : Go p e below s C N Q T (mkF m pc' L (.int (-x) :: S))) : Go p e below s C N Q T (mkF m pc L (.int x :: S)) := by
  subst hp; exact Go.st (fun _ k => XS.ineg X.here hx rfl hd rfl k) h
theorem G_lneg (X : Stand p l e R s m args below meth c T locs cells slots) (hx : p.tables.exec = Jvm.exec) {x : Int64} (hp : pc + 1 = pc') (hd : decode c.code pc = .ok (.lneg, 1))  (h : Go p e below s C N Q T (mkF m pc' L (.long (-x) :: S))) : Go p e below s C N Q T (mkF m pc L (.long x :: S)) := by
  subst hp; exact Go.st (fun _ k => XS.lneg X.here hx rfl hd rfl k) h
theorem G_i2l (X : Stand p l e R s m args below meth c T locs cells slots) (hx : p.tables.exec = Jvm.exec) {x : Int32} (hp : pc + 1 = pc') (hd : decode c.code pc = .ok (.i2l, 1))  (h : Go p e below s C N Q T (mkF m pc' L (.long (x.toInt64) :: S))) : Go p e below s C N Q T (mkF m pc L (.int x :: S)) := by
  subst hp; exact Go.st (fun _ k => XS.i2l X.here hx rfl hd rfl k) h
theorem G_l2i (X : Stand p l e R s m args below meth c T locs cells slots) (hx : p.tables.exec = Jvm.exec) {x : Int64} (hp : pc + 1 = pc') (hd : decode c.code pc = .ok (.l2i, 1))  (h : Go p e below s C N Q T (mkF m pc' L (.int (x.toInt32) :: S))) : Go p e below s C N Q T (mkF m pc L (.long x :: S)) := by
  subst hp; exact Go.st (fun _ k => XS.l2i X.here hx rfl hd rfl k) h
theorem G_i2b (X : Stand p l e R s m args below meth c T locs cells slots) (hx : p.tables.exec = Jvm.exec) {x : Int32} (hp : pc + 1 = pc') (hd : decode c.code pc = .ok (.i2b, 1))  (h : Go p e below s C N Q T (mkF m pc' L (.int (x.toInt8.toInt32) :: S))) : Go p e below s C N Q T (mkF m pc L (.int x :: S)) := by
  subst hp; exact Go.st (fun _ k => XS.i2b X.here hx rfl hd rfl k) h
theorem G_i2s (X : Stand p l e R s m args below meth c T locs cells slots) (hx : p.tables.exec = Jvm.exec) {x : Int32} (hp : pc + 1 = pc') (hd : decode c.code pc = .ok (.i2s, 1))  (h : Go p e below s C N Q T (mkF m pc' L (.int (x.toInt16.toInt32) :: S))) : Go p e below s C N Q T (mkF m pc L (.int x :: S)) := by
  subst hp; exact Go.st (fun _ k => XS.i2s X.here hx rfl hd rfl k) h
theorem G_i2c (X : Stand p l e R s m args below meth c T locs cells slots) (hx : p.tables.exec = Jvm.exec) {x : Int32} (hp : pc + 1 = pc') (hd : decode c.code pc = .ok (.i2c, 1))  (h : Go p e below s C N Q T (mkF m pc' L (.int (x.toUInt32.toUInt16.toUInt32.toInt32) :: S))) : Go p e below s C N Q T (mkF m pc L (.int x :: S)) := by
  subst hp; exact Go.st (fun _ k => XS.i2c X.here hx rfl hd rfl k) h
theorem G_lcmp (X : Stand p l e R s m args below meth c T locs cells slots) (hx : p.tables.exec = Jvm.exec) {x y : Int64} (hp : pc + 1 = pc') (hd : decode c.code pc = .ok (.lcmp, 1))  (h : Go p e below s C N Q T (mkF m pc' L (.int (lcmpW x y) :: S))) : Go p e below s C N Q T (mkF m pc L (.long y :: .long x :: S)) := by
  subst hp; exact Go.st (fun _ k => XS.lcmp X.here hx rfl hd rfl k) h
theorem G_iinc (X : Stand p l e R s m args below meth c T locs cells slots) (hx : p.tables.exec = Jvm.exec) {k : Nat} {cst : Int} {x z : Int32} (hp : pc + 3 = pc') (hd : decode c.code pc = .ok (.iinc k cst, 3)) (hl : L[k]? = some (.val (.int x))) (hz : x + Int32.ofInt cst = z) (hl' : storeLocals L k (.int z) = some L') (h : Go p e below s C N Q T (mkF m pc' L' S)) : Go p e below s C N Q T (mkF m pc L S) := by
  subst hp; exact Go.st (fun _ k => XS.iinc X.here hx rfl hd hl (by rw [hz]; exact hl') k) h
theorem G_dup (X : Stand p l e R s m args below meth c T locs cells slots) (hx : p.tables.exec = Jvm.exec) {x : Value} (hp : pc + 1 = pc') (hd : decode c.code pc = .ok (.dup, 1)) (hc : x.category = 1) (h : Go p e below s C N Q T (mkF m pc' L (x :: x :: S))) : Go p e below s C N Q T (mkF m pc L (x :: S)) := by
  subst hp; exact Go.st (fun _ k => XS.dup X.here hx rfl hd rfl hc k) h
theorem G_pop (X : Stand p l e R s m args below meth c T locs cells slots) (hx : p.tables.exec = Jvm.exec) {x : Value} (hp : pc + 1 = pc') (hd : decode c.code pc = .ok (.pop, 1)) (hc : x.category = 1) (h : Go p e below s C N Q T (mkF m pc' L S)) : Go p e below s C N Q T (mkF m pc L (x :: S)) := by
  subst hp; exact Go.st (fun _ k => XS.pop X.here hx rfl hd rfl hc k) h
theorem G_dupX1 (X : Stand p l e R s m args below meth c T locs cells slots) (hx : p.tables.exec = Jvm.exec) {x y : Value} (hp : pc + 1 = pc') (hd : decode c.code pc = .ok (.dup_x1, 1)) (hc : x.category = 1) (hc' : y.category = 1) (h : Go p e below s C N Q T (mkF m pc' L (x :: y :: x :: S))) : Go p e below s C N Q T (mkF m pc L (x :: y :: S)) := by
  subst hp; exact Go.st (fun _ k => XS.dupX1 X.here hx rfl hd rfl hc hc' k) h
theorem G_goto (X : Stand p l e R s m args below meth c T locs cells slots) (hx : p.tables.exec = Jvm.exec)  {o : Int} (hd : decode c.code pc = .ok (.goto o, 3))  (ho : 0 ≤ (pc : Int) + o) (hp : ((pc : Int) + o).toNat = pc') (h : Go p e below s C N Q T (mkF m pc' L S)) : Go p e below s C N Q T (mkF m pc L S) :=
  Go.st (fun _ k => XS.goto X.here hx rfl rfl hd ho hp k) h
theorem G_ifYes (X : Stand p l e R s m args below meth c T locs cells slots) (hx : p.tables.exec = Jvm.exec) {cd : ClassFile.Cond} {x : Int32} {o : Int} (hd : decode c.code pc = .ok (.ifCond cd o, 3)) (hc : ifCond.holds cd x = true) (ho : 0 ≤ (pc : Int) + o) (hp : ((pc : Int) + o).toNat = pc') (h : Go p e below s C N Q T (mkF m pc' L S)) : Go p e below s C N Q T (mkF m pc L (.int x :: S)) :=
  Go.st (fun _ k => XS.ifYes X.here hx rfl rfl hd rfl hc ho hp k) h
theorem G_icmpYes (X : Stand p l e R s m args below meth c T locs cells slots) (hx : p.tables.exec = Jvm.exec) {cd : ClassFile.Cond} {x y : Int32} {o : Int} (hd : decode c.code pc = .ok (.if_icmp cd o, 3)) (hc : if_icmp.holds cd x y = true) (ho : 0 ≤ (pc : Int) + o) (hp : ((pc : Int) + o).toNat = pc') (h : Go p e below s C N Q T (mkF m pc' L S)) : Go p e below s C N Q T (mkF m pc L (.int y :: .int x :: S)) :=
  Go.st (fun _ k => XS.icmpYes X.here hx rfl rfl hd rfl hc ho hp k) h
theorem G_ifnullYes (X : Stand p l e R s m args below meth c T locs cells slots) (hx : p.tables.exec = Jvm.exec)  {o : Int} (hd : decode c.code pc = .ok (.ifnull o, 3))  (ho : 0 ≤ (pc : Int) + o) (hp : ((pc : Int) + o).toNat = pc') (h : Go p e below s C N Q T (mkF m pc' L S)) : Go p e below s C N Q T (mkF m pc L (.null :: S)) :=
  Go.st (fun _ k => XS.ifnullYes X.here hx rfl rfl hd rfl ho hp k) h
theorem G_ifnonnullYes (X : Stand p l e R s m args below meth c T locs cells slots) (hx : p.tables.exec = Jvm.exec) {b : Addr} {o : Int} (hd : decode c.code pc = .ok (.ifnonnull o, 3))  (ho : 0 ≤ (pc : Int) + o) (hp : ((pc : Int) + o).toNat = pc') (h : Go p e below s C N Q T (mkF m pc' L S)) : Go p e below s C N Q T (mkF m pc L (.ref b :: S)) :=
  Go.st (fun _ k => XS.ifnonnullYes X.here hx rfl rfl hd rfl ho hp k) h
theorem G_ifNo (X : Stand p l e R s m args below meth c T locs cells slots) (hx : p.tables.exec = Jvm.exec) {cd : ClassFile.Cond} {x : Int32} {o : Int} (hp : pc + 3 = pc') (hd : decode c.code pc = .ok (.ifCond cd o, 3)) (hc : ifCond.holds cd x = false) (h : Go p e below s C N Q T (mkF m pc' L S)) : Go p e below s C N Q T (mkF m pc L (.int x :: S)) := by
  subst hp; exact Go.st (fun _ k => XS.ifNo X.here hx rfl hd rfl hc k) h
theorem G_icmpNo (X : Stand p l e R s m args below meth c T locs cells slots) (hx : p.tables.exec = Jvm.exec) {cd : ClassFile.Cond} {x y : Int32} {o : Int} (hp : pc + 3 = pc') (hd : decode c.code pc = .ok (.if_icmp cd o, 3)) (hc : if_icmp.holds cd x y = false) (h : Go p e below s C N Q T (mkF m pc' L S)) : Go p e below s C N Q T (mkF m pc L (.int y :: .int x :: S)) := by
  subst hp; exact Go.st (fun _ k => XS.icmpNo X.here hx rfl hd rfl hc k) h
theorem G_ifnullNo (X : Stand p l e R s m args below meth c T locs cells slots) (hx : p.tables.exec = Jvm.exec) {b : Addr} {o : Int} (hp : pc + 3 = pc') (hd : decode c.code pc = .ok (.ifnull o, 3))  (h : Go p e below s C N Q T (mkF m pc' L S)) : Go p e below s C N Q T (mkF m pc L (.ref b :: S)) := by
  subst hp; exact Go.st (fun _ k => XS.ifnullNo X.here hx rfl hd rfl k) h
theorem G_ifnonnullNo (X : Stand p l e R s m args below meth c T locs cells slots) (hx : p.tables.exec = Jvm.exec) {o : Int} (hp : pc + 3 = pc') (hd : decode c.code pc = .ok (.ifnonnull o, 3))  (h : Go p e below s C N Q T (mkF m pc' L S)) : Go p e below s C N Q T (mkF m pc L (.null :: S)) := by
  subst hp; exact Go.st (fun _ k => XS.ifnonnullNo X.here hx rfl hd rfl k) h
theorem G_ldc (X : Stand p l e R s m args below meth c T locs cells slots) (hx : p.tables.exec = Jvm.exec) (hp : pc + 2 = pc') {own : String} {index : Nat} {v : Int32} (hown : s.vm.findClass own = some m.cls) (hw : (Cond.constant own index v).before args s = true) (hd : decode c.code pc = .ok (.ldc index, 2)) (h : Go p e below s C N Q T (mkF m pc' L (.int v :: S))) : Go p e below s C N Q T (mkF m pc L S) := by
  subst hp; exact Go.st (X.ldcInt hx hown hw (g := mkF m pc L S) rfl hd) h
theorem G_ldc2 (X : Stand p l e R s m args below meth c T locs cells slots) (hx : p.tables.exec = Jvm.exec) (hp : pc + 3 = pc') {own : String} {index : Nat} {v : Int64} (hown : s.vm.findClass own = some m.cls) (hw : (Cond.constantLong own index v).before args s = true) (hd : decode c.code pc = .ok (.ldc2_w index, 3)) (h : Go p e below s C N Q T (mkF m pc' L (.long v :: S))) : Go p e below s C N Q T (mkF m pc L S) := by
  subst hp; exact Go.st (X.ldc2Long hx hown hw (g := mkF m pc L S) rfl hd) h
end OwnG

section OwnArr
variable {p : Program} {l : Launch} {e : Env} {R : Room} {s : State} {m : MethodId} {args : Array Value} {below : List Frame} {meth : Method} {c : Code} {T T' : State} {locs : List Loc} {cells slots : Nat} {Z : State} {a0 : Array Value} {h h' : Heap} {a b : Addr} {ty : FieldType} {vs : List Value} {xs : List Int32} {ys : List Int64} {v : Value} {sl : Nat} {ws : List Addr}
/-- the array at a, of components ty, holds just these values -/
def AV (Z : State) (h : Heap) (a : Addr) (ty : FieldType) (vs : List Value) : Prop := ∃ c : Cell, Arr Z h a c ty ∧ c.slots = vs.toArray ∧ vs.length < 2147483648 ∧ ∀ v ∈ vs, fits ty v = true
def AI (Z : State) (h : Heap) (a : Addr) (ty : FieldType) (xs : List Int32) : Prop := AV Z h a ty (xs.map Value.int)
def AJ (Z : State) (h : Heap) (a : Addr) (ys : List Int64) : Prop := AV Z h a .long (ys.map Value.long)
theorem AV.lt (F : AV Z h a ty vs) : a < h.size := by obtain ⟨c, A, -⟩ := F; exact A.lt
theorem AV.ext (F : AV Z h a ty vs) (E : Ext h h') : AV Z h' a ty vs := by obtain ⟨c, A, r⟩ := F; exact ⟨c, A.ext E, r⟩
theorem AV.other (F : AV Z h b ty vs) (W : Wr h h' a sl v) (q : b ≠ a) : AV Z h' b ty vs := by obtain ⟨c, A, r⟩ := F; exact ⟨c, A.other W q, r⟩
theorem AV.keep (F : AV Z h a ty vs) (K : Keep h h' ws) (q : a ∉ ws) : AV Z h' a ty vs := by obtain ⟨c, A, r⟩ := F; exact ⟨c, ⟨K.2.1 a c A.1 q, A.2⟩, r⟩
theorem AI.lt (F : AI Z h a ty xs) : a < h.size := AV.lt F
theorem AI.ext (F : AI Z h a ty xs) (E : Ext h h') : AI Z h' a ty xs := AV.ext F E
theorem AI.other (F : AI Z h b ty xs) (W : Wr h h' a sl v) (q : b ≠ a) : AI Z h' b ty xs := AV.other F W q
theorem AI.keep (F : AI Z h a ty xs) (K : Keep h h' ws) (q : a ∉ ws) : AI Z h' a ty xs := AV.keep F K q
theorem AJ.lt (F : AJ Z h a ys) : a < h.size := AV.lt F
theorem AJ.ext (F : AJ Z h a ys) (E : Ext h h') : AJ Z h' a ys := AV.ext F E
theorem AJ.other (F : AJ Z h b ys) (W : Wr h h' a sl v) (q : b ≠ a) : AJ Z h' b ys := AV.other F W q
theorem AJ.keep (F : AJ Z h a ys) (K : Keep h h' ws) (q : a ∉ ws) : AJ Z h' a ys := AV.keep F K q
theorem own_in {j : Int32} {n : Nat} (h1 : ¬ j < 0) (h2 : j.toNatClampNeg < n) : ¬ (j < 0 ∨ n ≤ j.toNatClampNeg) := fun q => q.elim h1 (fun r => by omega)
theorem AV.new {k : ClassId} {n : Int32} (A : Arr Z h a (newA k ty n) ty) (q : ¬ n < 0) (hf : fits ty (defaultValue ty) = true) : AV Z h a ty (List.replicate n.toNatClampNeg (defaultValue ty)) := by
  refine ⟨_, A, by simp [newA], ?_, fun v hv => ?_⟩
  · rw [List.length_replicate]; exact (back32 q).2
  · rw [List.eq_of_mem_replicate hv]; exact hf
theorem AV.set {cl : Cell} {jn : Nat} (A : Arr Z h a cl ty) (e1 : cl.slots = vs.toArray) (e2 : vs.length < 2147483648) (e3 : ∀ v ∈ vs, fits ty v = true) (hv : fits ty v = true) (W : Wr h h' a jn v) : AV Z h' a ty (vs.set jn v) := by
  refine ⟨cl.setSlot jn v, A.same W, ?_, by rw [List.length_set]; exact e2, fun w hw => ?_⟩
  · simp [Cell.setSlot, e1]
  · rcases List.mem_or_eq_of_mem_set hw with q | q
    · exact e3 w q
    · rw [q]; exact hv
theorem newAI (X : Stand p l e R s m args below meth c T locs cells slots) (hx : p.tables.exec = Jvm.exec) (hZ : Z.Warmed39 s.vm) {aty : ArrayType} (w : (Cond.arrayClass (newarray.typeOf aty)).before a0 Z = true) (eT : T.heap = h) {g : JFrame} (hg : g.method = m) (hd : decode c.code g.pc = .ok (.newarray aty, 2)) {n : Int32} {rest : List Value} (hs : g.stack = .int n :: rest)
    (hn : ¬ n < 0) {ty : FieldType} (hty : newarray.typeOf aty = ty) (hdv : defaultValue ty = .int 0 ∧ fits ty (.int 0) = true) {cap : Nat} (hcap : n.toNatClampNeg ≤ cap) (hb : cap * 8 ≤ 536870912) (hc : cells + 1 ≤ R.cells) (hl : slots + cap ≤ R.slots) {ad : String} (had : "[" ++ (newarray.typeOf aty).toString = ad) :
    ∃ T' h', Stand p l e R s m args below meth c T' locs (cells + 1) (slots + cap) ∧ T'.heap = h' ∧ Ext h h' ∧ Exa Z h' h.size ad ∧ AI Z h' h.size ty (List.replicate n.toNatClampNeg 0) ∧
      ∀ target, Steps p.tables e below (T'.setTop { g with pc := g.pc + 2, stack := .ref h.size :: rest }) target → Steps p.tables e below (T.setTop g) target := by
  subst hty
  obtain ⟨T', h', cA, X', e', E', A', B', st⟩ := newPE X hx hZ w eT hg hd hs hn hcap hb hc hl had
  have V := AV.new A' hn (by rw [hdv.1]; exact hdv.2)
  refine ⟨T', h', X', e', E', B', ?_, st⟩
  unfold AI
  rw [List.map_replicate, ← hdv.1]
  exact V
theorem newAJ (X : Stand p l e R s m args below meth c T locs cells slots) (hx : p.tables.exec = Jvm.exec) (hZ : Z.Warmed39 s.vm) (w : (Cond.arrayClass .long).before a0 Z = true) (eT : T.heap = h) {g : JFrame} (hg : g.method = m) (hd : decode c.code g.pc = .ok (.newarray .long, 2)) {n : Int32} {rest : List Value} (hs : g.stack = .int n :: rest)
    (hn : ¬ n < 0) {cap : Nat} (hcap : n.toNatClampNeg ≤ cap) (hb : cap * 8 ≤ 536870912) (hc : cells + 1 ≤ R.cells) (hl : slots + cap ≤ R.slots) {ad : String} (had : "[" ++ (newarray.typeOf .long).toString = ad) :
    ∃ T' h', Stand p l e R s m args below meth c T' locs (cells + 1) (slots + cap) ∧ T'.heap = h' ∧ Ext h h' ∧ Exa Z h' h.size ad ∧ AJ Z h' h.size (List.replicate n.toNatClampNeg 0) ∧
      ∀ target, Steps p.tables e below (T'.setTop { g with pc := g.pc + 2, stack := .ref h.size :: rest }) target → Steps p.tables e below (T.setTop g) target := by
  obtain ⟨T', h', cA, X', e', E', A', B', st⟩ := newPE X hx hZ (aty := .long) w eT hg hd hs hn hcap hb hc hl had
  have V := AV.new A' hn rfl
  refine ⟨T', h', X', e', E', B', ?_, st⟩
  unfold AJ
  rw [List.map_replicate]
  exact V
theorem own_len {n : Nat} (h : n < 2147483648) : n.toInt32 = Int32.ofNat n := rfl
theorem lenAV (X : Stand p l e R s m args below meth c T locs cells slots) (hx : p.tables.exec = Jvm.exec) (hZ : Z.Warmed39 s.vm) (eT : T.heap = h) (A : AV Z h a ty vs) {g : JFrame} (hg : g.method = m) {rest : List Value} (hs : g.stack = .ref a :: rest) (hd : decode c.code g.pc = .ok (.arraylength, 1)) :
    ∀ target, Steps p.tables e below (T.setTop { g with pc := g.pc + 1, stack := .int (Int32.ofNat vs.length) :: rest }) target → Steps p.tables e below (T.setTop g) target := by
  obtain ⟨cl, A, e1, e2, e3⟩ := A
  intro target k
  have hl : cl.slots.size.toInt32 = Int32.ofNat vs.length := by rw [e1]; rfl
  refine X.arraylength hx (cell := cl) (by rw [eT]; exact A.1) (State.isArrayOf_alike hZ.alike A.2.1) hg hs hd _ ?_
  rw [hl]; exact k
theorem lenAI (X : Stand p l e R s m args below meth c T locs cells slots) (hx : p.tables.exec = Jvm.exec) (hZ : Z.Warmed39 s.vm) (eT : T.heap = h) (A : AI Z h a ty xs) {g : JFrame} (hg : g.method = m) {rest : List Value} (hs : g.stack = .ref a :: rest) (hd : decode c.code g.pc = .ok (.arraylength, 1)) :
    ∀ target, Steps p.tables e below (T.setTop { g with pc := g.pc + 1, stack := .int (Int32.ofNat xs.length) :: rest }) target → Steps p.tables e below (T.setTop g) target := by
  have k := lenAV X hx hZ eT A hg hs hd
  rw [List.length_map] at k; exact k
theorem lenAJ (X : Stand p l e R s m args below meth c T locs cells slots) (hx : p.tables.exec = Jvm.exec) (hZ : Z.Warmed39 s.vm) (eT : T.heap = h) (A : AJ Z h a ys) {g : JFrame} (hg : g.method = m) {rest : List Value} (hs : g.stack = .ref a :: rest) (hd : decode c.code g.pc = .ok (.arraylength, 1)) :
    ∀ target, Steps p.tables e below (T.setTop { g with pc := g.pc + 1, stack := .int (Int32.ofNat ys.length) :: rest }) target → Steps p.tables e below (T.setTop g) target := by
  have k := lenAV X hx hZ eT A hg hs hd
  rw [List.length_map] at k; exact k
theorem own_getI {jn : Nat} (h2 : jn < xs.length) : (xs.map Value.int).toArray[jn]? = some (.int (xs.getD jn 0)) := by
  simp [List.getD_eq_getElem?_getD, h2]
theorem own_getJ {jn : Nat} (h2 : jn < ys.length) : (ys.map Value.long).toArray[jn]? = some (.long (ys.getD jn 0)) := by
  simp [List.getD_eq_getElem?_getD, h2]
theorem ldAI (X : Stand p l e R s m args below meth c T locs cells slots) (hx : p.tables.exec = Jvm.exec) (hZ : Z.Warmed39 s.vm) (eT : T.heap = h) (A : AI Z h a .int xs) {j : Int32} (h1 : ¬ j < 0) (h2 : j.toNatClampNeg < xs.length) {g : JFrame} (hg : g.method = m) {rest : List Value} (hs : g.stack = .int j :: .ref a :: rest) (hd : decode c.code g.pc = .ok (.iaload, 1)) :
    ∀ target, Steps p.tables e below (T.setTop { g with pc := g.pc + 1, stack := .int (xs.getD j.toNatClampNeg 0) :: rest }) target → Steps p.tables e below (T.setTop g) target := by
  obtain ⟨cl, A, e1, e2, e3⟩ := A
  intro target k
  refine X.iaload hx (cell := cl) (by rw [eT]; exact A.1) (State.isArrayOf_alike hZ.alike A.2.1) A.2.2 (own_in h1 (by rw [e1]; simpa using h2)) (by rw [e1]; exact own_getI h2) hg hs hd _ k
theorem ldAB (X : Stand p l e R s m args below meth c T locs cells slots) (hx : p.tables.exec = Jvm.exec) (hZ : Z.Warmed39 s.vm) (eT : T.heap = h) (A : AI Z h a .byte xs) {j : Int32} (h1 : ¬ j < 0) (h2 : j.toNatClampNeg < xs.length) {g : JFrame} (hg : g.method = m) {rest : List Value} (hs : g.stack = .int j :: .ref a :: rest) (hd : decode c.code g.pc = .ok (.baload, 1)) :
    ∀ target, Steps p.tables e below (T.setTop { g with pc := g.pc + 1, stack := .int (xs.getD j.toNatClampNeg 0) :: rest }) target → Steps p.tables e below (T.setTop g) target := by
  obtain ⟨cl, A, e1, e2, e3⟩ := A
  intro target k
  refine X.baloadBytes hx (cell := cl) (by rw [eT]; exact A.1) (State.isArrayOf_alike hZ.alike A.2.1) A.2.2 (own_in h1 (by rw [e1]; simpa using h2)) (by rw [e1]; exact own_getI h2) hg hs hd _ k
theorem ldAJ (X : Stand p l e R s m args below meth c T locs cells slots) (hx : p.tables.exec = Jvm.exec) (hZ : Z.Warmed39 s.vm) (eT : T.heap = h) (A : AJ Z h a ys) {j : Int32} (h1 : ¬ j < 0) (h2 : j.toNatClampNeg < ys.length) {g : JFrame} (hg : g.method = m) {rest : List Value} (hs : g.stack = .int j :: .ref a :: rest) (hd : decode c.code g.pc = .ok (.laload, 1)) :
    ∀ target, Steps p.tables e below (T.setTop { g with pc := g.pc + 1, stack := .long (ys.getD j.toNatClampNeg 0) :: rest }) target → Steps p.tables e below (T.setTop g) target := by
  obtain ⟨cl, A, e1, e2, e3⟩ := A
  intro target k
  refine X.laload hx (cell := cl) (by rw [eT]; exact A.1) (State.isArrayOf_alike hZ.alike A.2.1) A.2.2 (own_in h1 (by rw [e1]; simpa using h2)) (by rw [e1]; exact own_getJ h2) hg hs hd _ k
theorem stAI (X : Stand p l e R s m args below meth c T locs cells slots) (hx : p.tables.exec = Jvm.exec) (hZ : Z.Warmed39 s.vm) (eT : T.heap = h) (A : AI Z h a .int xs) {j x : Int32} (h1 : ¬ j < 0) (h2 : j.toNatClampNeg < xs.length) {g : JFrame} (hg : g.method = m) {rest : List Value} (hs : g.stack = .int x :: .int j :: .ref a :: rest) (hd : decode c.code g.pc = .ok (.iastore, 1)) :
    ∃ T' h', Stand p l e R s m args below meth c T' (locs ++ [⟨a, j.toNatClampNeg⟩]) cells slots ∧ T'.heap = h' ∧ Wr h h' a j.toNatClampNeg (.int x) ∧ AI Z h' a .int (xs.set j.toNatClampNeg x) ∧ ∀ target, Steps p.tables e below (T'.setTop { g with pc := g.pc + 1, stack := rest }) target → Steps p.tables e below (T.setTop g) target := by
  obtain ⟨cl, A, e1, e2, e3⟩ := A
  obtain ⟨T', h', X', e', W', st⟩ := stI X hx hZ eT A (own_in h1 (by rw [e1]; simpa using h2)) hg hs hd
  refine ⟨T', h', X', e', W', ?_, st⟩
  unfold AI
  rw [List.map_set]
  exact AV.set A e1 e2 e3 rfl W'
theorem stAB (X : Stand p l e R s m args below meth c T locs cells slots) (hx : p.tables.exec = Jvm.exec) (hZ : Z.Warmed39 s.vm) (eT : T.heap = h) (A : AI Z h a .byte xs) {j x : Int32} (h1 : ¬ j < 0) (h2 : j.toNatClampNeg < xs.length) {g : JFrame} (hg : g.method = m) {rest : List Value} (hs : g.stack = .int x :: .int j :: .ref a :: rest) (hd : decode c.code g.pc = .ok (.bastore, 1)) :
    ∃ T' h', Stand p l e R s m args below meth c T' (locs ++ [⟨a, j.toNatClampNeg⟩]) cells slots ∧ T'.heap = h' ∧ Wr h h' a j.toNatClampNeg (.int (x.toInt8.toInt32)) ∧ AI Z h' a .byte (xs.set j.toNatClampNeg (x.toInt8.toInt32)) ∧ ∀ target, Steps p.tables e below (T'.setTop { g with pc := g.pc + 1, stack := rest }) target → Steps p.tables e below (T.setTop g) target := by
  obtain ⟨cl, A, e1, e2, e3⟩ := A
  obtain ⟨T', h', X', e', W', st⟩ := stB X hx hZ eT A (own_in h1 (by rw [e1]; simpa using h2)) hg hs hd
  refine ⟨T', h', X', e', W', ?_, st⟩
  unfold AI
  rw [List.map_set]
  exact AV.set A e1 e2 e3 (fits_nar_byte x) W'
theorem own_b2 (y : Int32) : (y.toInt8.toInt32).toInt8.toInt32 = y.toInt8.toInt32 := by simp
theorem stABn (X : Stand p l e R s m args below meth c T locs cells slots) (hx : p.tables.exec = Jvm.exec) (hZ : Z.Warmed39 s.vm) (eT : T.heap = h) (A : AI Z h a .byte xs) {j y : Int32} (h1 : ¬ j < 0) (h2 : j.toNatClampNeg < xs.length) {g : JFrame} (hg : g.method = m) {rest : List Value} (hs : g.stack = .int (y.toInt8.toInt32) :: .int j :: .ref a :: rest) (hd : decode c.code g.pc = .ok (.bastore, 1)) :
    ∃ T' h', Stand p l e R s m args below meth c T' (locs ++ [⟨a, j.toNatClampNeg⟩]) cells slots ∧ T'.heap = h' ∧ Wr h h' a j.toNatClampNeg (.int (y.toInt8.toInt32)) ∧ AI Z h' a .byte (xs.set j.toNatClampNeg (y.toInt8.toInt32)) ∧ ∀ target, Steps p.tables e below (T'.setTop { g with pc := g.pc + 1, stack := rest }) target → Steps p.tables e below (T.setTop g) target := by
  have k := stAB X hx hZ eT A h1 h2 hg hs hd
  rw [own_b2] at k
  exact k
theorem stAJ (X : Stand p l e R s m args below meth c T locs cells slots) (hx : p.tables.exec = Jvm.exec) (hZ : Z.Warmed39 s.vm) (eT : T.heap = h) (A : AJ Z h a ys) {j : Int32} {x : Int64} (h1 : ¬ j < 0) (h2 : j.toNatClampNeg < ys.length) {g : JFrame} (hg : g.method = m) {rest : List Value} (hs : g.stack = .long x :: .int j :: .ref a :: rest) (hd : decode c.code g.pc = .ok (.lastore, 1)) :
    ∃ T' h', Stand p l e R s m args below meth c T' (locs ++ [⟨a, j.toNatClampNeg⟩]) cells slots ∧ T'.heap = h' ∧ Wr h h' a j.toNatClampNeg (.long x) ∧ AJ Z h' a (ys.set j.toNatClampNeg x) ∧ ∀ target, Steps p.tables e below (T'.setTop { g with pc := g.pc + 1, stack := rest }) target → Steps p.tables e below (T.setTop g) target := by
  obtain ⟨cl, A, e1, e2, e3⟩ := A
  obtain ⟨T', h', X', e', W', st⟩ := stJ X hx hZ eT A (own_in h1 (by rw [e1]; simpa using h2)) hg hs hd
  refine ⟨T', h', X', e', W', ?_, st⟩
  unfold AJ
  rw [List.map_set]
  exact AV.set A e1 e2 e3 rfl W'
theorem ldAIL (X : Stand p l e R s m args below meth c T locs cells slots) (hx : p.tables.exec = Jvm.exec) (hZ : Z.Warmed39 s.vm) (eT : T.heap = h) (A : AI Z h a .int xs) {j : Int32} (h1 : ¬ j < 0) {jn : Nat} (hj : j.toNatClampNeg = jn) (h2 : jn < xs.length) {g : JFrame} (hg : g.method = m) {rest : List Value} (hs : g.stack = .int j :: .ref a :: rest) (hd : decode c.code g.pc = .ok (.iaload, 1)) :
    ∀ target, Steps p.tables e below (T.setTop { g with pc := g.pc + 1, stack := .int (xs.getD jn 0) :: rest }) target → Steps p.tables e below (T.setTop g) target := by
  subst hj; exact ldAI X hx hZ eT A h1 h2 hg hs hd
theorem ldABL (X : Stand p l e R s m args below meth c T locs cells slots) (hx : p.tables.exec = Jvm.exec) (hZ : Z.Warmed39 s.vm) (eT : T.heap = h) (A : AI Z h a .byte xs) {j : Int32} (h1 : ¬ j < 0) {jn : Nat} (hj : j.toNatClampNeg = jn) (h2 : jn < xs.length) {g : JFrame} (hg : g.method = m) {rest : List Value} (hs : g.stack = .int j :: .ref a :: rest) (hd : decode c.code g.pc = .ok (.baload, 1)) :
    ∀ target, Steps p.tables e below (T.setTop { g with pc := g.pc + 1, stack := .int (xs.getD jn 0) :: rest }) target → Steps p.tables e below (T.setTop g) target := by
  subst hj; exact ldAB X hx hZ eT A h1 h2 hg hs hd
theorem ldAJL (X : Stand p l e R s m args below meth c T locs cells slots) (hx : p.tables.exec = Jvm.exec) (hZ : Z.Warmed39 s.vm) (eT : T.heap = h) (A : AJ Z h a ys) {j : Int32} (h1 : ¬ j < 0) {jn : Nat} (hj : j.toNatClampNeg = jn) (h2 : jn < ys.length) {g : JFrame} (hg : g.method = m) {rest : List Value} (hs : g.stack = .int j :: .ref a :: rest) (hd : decode c.code g.pc = .ok (.laload, 1)) :
    ∀ target, Steps p.tables e below (T.setTop { g with pc := g.pc + 1, stack := .long (ys.getD jn 0) :: rest }) target → Steps p.tables e below (T.setTop g) target := by
  subst hj; exact ldAJ X hx hZ eT A h1 h2 hg hs hd
theorem stAIL (X : Stand p l e R s m args below meth c T locs cells slots) (hx : p.tables.exec = Jvm.exec) (hZ : Z.Warmed39 s.vm) (eT : T.heap = h) (A : AI Z h a .int xs) {j x : Int32} (h1 : ¬ j < 0) {jn : Nat} (hj : j.toNatClampNeg = jn) (h2 : jn < xs.length) {g : JFrame} (hg : g.method = m) {rest : List Value} (hs : g.stack = .int x :: .int j :: .ref a :: rest) (hd : decode c.code g.pc = .ok (.iastore, 1)) :
    ∃ T' h', Stand p l e R s m args below meth c T' (locs ++ [⟨a, j.toNatClampNeg⟩]) cells slots ∧ T'.heap = h' ∧ Wr h h' a j.toNatClampNeg (.int x) ∧ AI Z h' a .int (xs.set jn x) ∧ ∀ target, Steps p.tables e below (T'.setTop { g with pc := g.pc + 1, stack := rest }) target → Steps p.tables e below (T.setTop g) target := by
  subst hj; exact stAI X hx hZ eT A h1 h2 hg hs hd
theorem stABL (X : Stand p l e R s m args below meth c T locs cells slots) (hx : p.tables.exec = Jvm.exec) (hZ : Z.Warmed39 s.vm) (eT : T.heap = h) (A : AI Z h a .byte xs) {j x : Int32} (h1 : ¬ j < 0) {jn : Nat} (hj : j.toNatClampNeg = jn) (h2 : jn < xs.length) {g : JFrame} (hg : g.method = m) {rest : List Value} (hs : g.stack = .int x :: .int j :: .ref a :: rest) (hd : decode c.code g.pc = .ok (.bastore, 1)) :
    ∃ T' h', Stand p l e R s m args below meth c T' (locs ++ [⟨a, j.toNatClampNeg⟩]) cells slots ∧ T'.heap = h' ∧ Wr h h' a j.toNatClampNeg (.int (x.toInt8.toInt32)) ∧ AI Z h' a .byte (xs.set jn (x.toInt8.toInt32)) ∧ ∀ target, Steps p.tables e below (T'.setTop { g with pc := g.pc + 1, stack := rest }) target → Steps p.tables e below (T.setTop g) target := by
  subst hj; exact stAB X hx hZ eT A h1 h2 hg hs hd
theorem stABnL (X : Stand p l e R s m args below meth c T locs cells slots) (hx : p.tables.exec = Jvm.exec) (hZ : Z.Warmed39 s.vm) (eT : T.heap = h) (A : AI Z h a .byte xs) {j y : Int32} (h1 : ¬ j < 0) {jn : Nat} (hj : j.toNatClampNeg = jn) (h2 : jn < xs.length) {g : JFrame} (hg : g.method = m) {rest : List Value} (hs : g.stack = .int (y.toInt8.toInt32) :: .int j :: .ref a :: rest) (hd : decode c.code g.pc = .ok (.bastore, 1)) :
    ∃ T' h', Stand p l e R s m args below meth c T' (locs ++ [⟨a, j.toNatClampNeg⟩]) cells slots ∧ T'.heap = h' ∧ Wr h h' a j.toNatClampNeg (.int (y.toInt8.toInt32)) ∧ AI Z h' a .byte (xs.set jn (y.toInt8.toInt32)) ∧ ∀ target, Steps p.tables e below (T'.setTop { g with pc := g.pc + 1, stack := rest }) target → Steps p.tables e below (T.setTop g) target := by
  subst hj; exact stABn X hx hZ eT A h1 h2 hg hs hd
theorem stAJL (X : Stand p l e R s m args below meth c T locs cells slots) (hx : p.tables.exec = Jvm.exec) (hZ : Z.Warmed39 s.vm) (eT : T.heap = h) (A : AJ Z h a ys) {j : Int32} {x : Int64} (h1 : ¬ j < 0) {jn : Nat} (hj : j.toNatClampNeg = jn) (h2 : jn < ys.length) {g : JFrame} (hg : g.method = m) {rest : List Value} (hs : g.stack = .long x :: .int j :: .ref a :: rest) (hd : decode c.code g.pc = .ok (.lastore, 1)) :
    ∃ T' h', Stand p l e R s m args below meth c T' (locs ++ [⟨a, j.toNatClampNeg⟩]) cells slots ∧ T'.heap = h' ∧ Wr h h' a j.toNatClampNeg (.long x) ∧ AJ Z h' a (ys.set jn x) ∧ ∀ target, Steps p.tables e below (T'.setTop { g with pc := g.pc + 1, stack := rest }) target → Steps p.tables e below (T.setTop g) target := by
  subst hj; exact stAJ X hx hZ eT A h1 h2 hg hs hd
end OwnArr
section OwnClone
variable {p : Program} {l : Launch} {e : Env} {R : Room} {s : State} {m : MethodId} {args : Array Value} {below : List Frame} {meth : Method} {c : Code} {T T' : State} {locs : List Loc} {cells slots : Nat} {Z : State} {a0 : Array Value} {h h' : Heap} {a b : Addr} {ty : FieldType} {xs : List Int32}
theorem cloneAI (X : Stand p l e R s m args below meth c T locs cells slots) (hx : p.tables.exec = Jvm.exec) (hZ : Z.Warmed39 s.vm) {own ad : String} {index : Nat} (hown : s.vm.findClass own = some m.cls)
    (w1 : (Cond.methodLink own index ⟨ad, "clone", "()Ljava/lang/Object;"⟩).before a0 Z = true) (w2 : (Cond.sameMethod ad "java/lang/Object" "clone" "()Ljava/lang/Object;").before a0 Z = true) (w3 : (Cond.native ⟨"java/lang/Object", "clone", "()Ljava/lang/Object;"⟩).before a0 Z = true)
    (w4 : (Cond.instanceMethod ⟨"java/lang/Object", "clone", "()Ljava/lang/Object;"⟩).before a0 Z = true) (w5 : (Cond.selects ad ⟨ad, "clone", "()Ljava/lang/Object;"⟩ ⟨"java/lang/Object", "clone", "()Ljava/lang/Object;"⟩).before a0 Z = true) (w6 : (Cond.castable ad "java/lang/Cloneable").before a0 Z = true)
    (eT : T.heap = h) (A : AI Z h a ty xs) (E : Exa Z h a ad) {g : JFrame} (hg : g.method = m) (hsize : g.locals.size = c.maxLocals) {rest : List Value} (hst : g.stack = .ref a :: rest) (hd : decode c.code g.pc = .ok (.invokevirtual index, 3))
    (hf : 1 ≤ R.frames) {W cap : Nat} (hW : 2 * g.monitorRoom + (rest.map fun v => v.category).sum ≤ W) (hl : W + 14 ≤ R.locals) (hcap : xs.length ≤ cap) (hc : cells + 1 ≤ R.cells) (hsl : slots + cap ≤ R.slots) :
    ∃ T' h', Stand p l e R s m args below meth c T' locs (cells + 1) (slots + cap) ∧ T'.heap = h' ∧ Ext h h' ∧ Exa Z h' h.size ad ∧ AI Z h' h.size ty xs ∧
      ∀ target, Steps p.tables e below (T'.setTop { g with pc := g.pc + 3, stack := .ref h.size :: rest }) target → Steps p.tables e below (T.setTop g) target := by
  obtain ⟨cl, A, e1, e2, e3⟩ := A
  have FC : FitC Z cl := fitC_of A fun i hi v hv => by
    rw [e1] at hv
    exact e3 v (by simpa using Array.mem_of_getElem? hv)
  obtain ⟨T', h', X', e', ex, A', E', st⟩ := cloneA X hx hZ hown w1 w2 w3 w4 w5 w6 eT A E FC hg hsize hst hd hf hW hl (by rw [e1]; simpa using hcap) hc hsl
  exact ⟨T', h', X', e', ex, E', ⟨_, A', e1, e2, e3⟩, st⟩
end OwnClone

section OwnCopy
variable {p : Program} {l : Launch} {e : Env} {R : Room} {s : State} {m : MethodId} {args : Array Value} {below : List Frame} {meth : Method} {c : Code} {T T' : State} {locs : List Loc} {cells slots : Nat} {Z : State} {a0 : Array Value} {h h' : Heap} {a b : Addr} {ty : FieldType} {xs ys : List Int32}
theorem own_ofNat {n : Nat} (h : n < 2147483648) : (Int32.ofNat n).toNatClampNeg = n ∧ ¬ Int32.ofNat n < 0 := by
  have e : (Int32.ofNat n).toInt = n := Int32.toInt_ofNat_of_lt (by omega)
  refine ⟨by rw [Int32.toNatClampNeg, e]; rfl, ?_⟩
  rw [Int32.lt_iff_toInt_lt, e, show (0 : Int32).toInt = 0 from rfl]
  omega
theorem AI.arv (A : AI Z h a ty xs) : ∃ k, Arv Z h a k ty (Int32.ofNat xs.length) (xs.map Value.int) (.int 0) := by
  obtain ⟨c, A, e1, e2, e3⟩ := A
  rw [List.length_map] at e2
  obtain ⟨n1, n2⟩ := own_ofNat e2
  have sz : c.slots.size = xs.length := by rw [e1]; simp
  refine ⟨c.cls, c, A, rfl, by rw [n1, sz], n2, fun k hk => ?_, fun i hi => ?_⟩
  · rw [e1]
    rw [sz] at hk
    simp [List.getD_eq_getElem?_getD, hk]
  · rw [sz] at hi
    apply e3
    rw [List.getD_eq_getElem?_getD, List.getElem?_eq_getElem (by simpa using hi)]
    exact List.getElem_mem _
theorem AI.of_arv {k : ClassId} {n : Int32} {d : Value} (F : Arv Z h a k ty n (xs.map Value.int) d) (hl : xs.length = n.toNatClampNeg) : AI Z h a ty xs := by
  obtain ⟨c, A, -, S, q, H, G⟩ := F
  have sz : c.slots.size = xs.length := by rw [S, hl]
  refine ⟨c, A, ?_, by rw [List.length_map, hl]; exact (back32 q).2, fun v hv => ?_⟩
  · apply Array.ext_getElem?
    intro i
    by_cases hi : i < c.slots.size
    · rw [H i hi]
      rw [sz] at hi
      simp [List.getD_eq_getElem?_getD, hi]
    · rw [Array.getElem?_eq_none (by omega), Array.getElem?_eq_none (by simp; omega)]
  · obtain ⟨i, hi, rfl⟩ := List.mem_iff_getElem.mp hv
    have q2 := G i (by rw [sz]; simpa using hi)
    rw [List.getD_eq_getElem?_getD, List.getElem?_eq_getElem hi] at q2
    exact q2
theorem cpAI (X : Stand p l e R s m args below meth c T locs cells slots) (hx : p.tables.exec = Jvm.exec) (hZ : Z.Warmed39 s.vm) {own : String} {index : Nat} (hown : s.vm.findClass own = some m.cls)
    (w1 : (Cond.methodLink own index Jvm.Stand.acN).before a0 Z = true) (w2 : (Cond.native Jvm.Stand.acN).before a0 Z = true) (w3 : (Cond.static Jvm.Stand.acN).before a0 Z = true) (w4 : (Cond.initialized "java/lang/System").before a0 Z = true) (eT : T.heap = h)
    {sp dp nn : Int32} (A : AI Z h a ty xs) (B : AI Z h b ty ys) (hty : refKind ty = false)
    (h1 : ¬ sp < 0) (h2 : ¬ dp < 0) (h3 : ¬ nn < 0) (h4 : sp.toNatClampNeg + nn.toNatClampNeg ≤ xs.length) (h5 : dp.toNatClampNeg + nn.toNatClampNeg ≤ ys.length) {n0 : Nat} (N : Fr n0 locs) (ge : n0 ≤ b)
    {g : JFrame} (hg : g.method = m) (hsize : g.locals.size = c.maxLocals) {rest : List Value} (hs : g.stack = .int nn :: .int dp :: .ref b :: .int sp :: .ref a :: rest) (hd : decode c.code g.pc = .ok (.invokestatic index, 3))
    (hf : 1 ≤ R.frames) {W : Nat} (hW : 2 * g.monitorRoom + (rest.map fun v => v.category).sum ≤ W) (hlo : W + (nativeFrameWords "java/lang/System" "arraycopy" 5 + 11) ≤ R.locals) :
    ∃ T' h' L, Stand p l e R s m args below meth c T' L cells slots ∧ T'.heap = h' ∧ Fr n0 L ∧ Keep h h' [b] ∧ AI Z h' b ty (ys.take dp.toNatClampNeg ++ (xs.drop sp.toNatClampNeg).take nn.toNatClampNeg ++ ys.drop (dp.toNatClampNeg + nn.toNatClampNeg)) ∧
      ∀ target, Steps p.tables e below (T'.setTop { g with pc := g.pc + 3, stack := rest }) target → Steps p.tables e below (T.setTop g) target := by
  have lx : xs.length < 2147483648 := by obtain ⟨_, _, _, q, _⟩ := A; rwa [List.length_map] at q
  have ly : ys.length < 2147483648 := by obtain ⟨_, _, _, q, _⟩ := B; rwa [List.length_map] at q
  obtain ⟨k1, A1⟩ := A.arv
  obtain ⟨k2, B1⟩ := B.arv
  have hus : (((xs.drop sp.toNatClampNeg).take nn.toNatClampNeg).map Value.int) = (List.range nn.toNatClampNeg).map fun i => (xs.map Value.int).getD (sp.toNatClampNeg + i) (.int 0) := by
    apply List.ext_getElem?
    intro i
    by_cases hi : i < nn.toNatClampNeg
    · rw [List.getElem?_map, List.getElem?_take_of_lt hi, List.getElem?_drop, List.getElem?_map, List.getElem?_range hi]
      show _ = some ((xs.map Value.int).getD (sp.toNatClampNeg + i) (.int 0))
      rw [List.getD_eq_getElem?_getD, List.getElem?_map, List.getElem?_eq_getElem (by omega)]
      rfl
    · rw [List.getElem?_eq_none (by simp; omega), List.getElem?_eq_none (by simp; omega)]
  obtain ⟨T', h', L, X', e', N', K', B', st⟩ := cpA X hx hZ hown w1 w2 w3 w4 eT A1 B1 (Or.inl ⟨rfl, hty⟩) h1 h2 h3 (by rw [(own_ofNat lx).1]; exact h4) (by rw [(own_ofNat ly).1]; exact h5) hus (by simpa using h5) N ge hg hsize hs hd hf hW hlo
  refine ⟨T', h', L, X', e', N', K', ?_, st⟩
  have e : (ys.map Value.int).take dp.toNatClampNeg ++ ((xs.drop sp.toNatClampNeg).take nn.toNatClampNeg).map Value.int ++ (ys.map Value.int).drop (dp.toNatClampNeg + nn.toNatClampNeg) = (ys.take dp.toNatClampNeg ++ (xs.drop sp.toNatClampNeg).take nn.toNatClampNeg ++ ys.drop (dp.toNatClampNeg + nn.toNatClampNeg)).map Value.int := by simp
  rw [e] at B'
  refine AI.of_arv B' ?_
  rw [(own_ofNat ly).1]
  simp only [List.length_append, List.length_take, List.length_drop]
  omega
end OwnCopy

def own_sr (s : Int32) (x : Int64) : Int64 := ((x.toUInt64 >>> (s &&& 0x3f).toInt64.toUInt64).toInt64)
def own_U (x : Int64) : Int := x.toInt % 18446744073709551616
def own_sh : Nat → Int64 → Int64
  | 0, v => v
  | k + 1, v => own_sr 7 (own_sh k v)
def own_cb (r : Int64) : Int32 := ((((r &&& (127 : Int64)) ||| (128 : Int64)).toInt32).toInt8.toInt32)
def own_fb (r : Int64) : Int32 := ((r.toInt32).toInt8.toInt32)
def own_pre : Nat → Int64 → List Int32
  | 0, _ => []
  | k + 1, v => own_pre k v ++ [own_cb (own_sh k v)]
def own_n (v : Int64) : Nat := (if own_U v < 128 then 0 else (if own_U v < 16384 then 1 else (if own_U v < 2097152 then 2 else (if own_U v < 268435456 then 3 else (if own_U v < 34359738368 then 4 else (if own_U v < 4398046511104 then 5 else (if own_U v < 562949953421312 then 6 else (if own_U v < 72057594037927936 then 7 else (if own_U v < 9223372036854775808 then 8 else 9)))))))))
def own_enc (v : Int64) : List Int32 := own_pre (own_n v) v ++ [own_fb (own_sh (own_n v) v)]
theorem own_srI (s : Int32) (k : Nat) (hk : s.toBitVec.toNat % 64 = k) (h0 : 0 < k) (x : Int64) : (own_sr s x).toInt = own_U x / (2 ^ k : Nat) := c_lushr x s k hk h0
theorem own_U0 (x : Int64) : 0 ≤ own_U x ∧ own_U x < 18446744073709551616 := by unfold own_U; omega
theorem own_Unn {x : Int64} (h : 0 ≤ x.toInt) : own_U x = x.toInt := by
  have r := rng64 x
  unfold own_U; omega
theorem own_s7 (x : Int64) : own_U (own_sr 7 x) = own_U x / 128 := by
  have e := own_srI 7 7 (by decide) (by decide) x
  have u := own_U0 x
  have e2 : (own_sr 7 x).toInt = own_U x / 128 := e
  rw [own_Unn (by rw [e2]; omega), e2]
theorem own_shU (v : Int64) : ∀ k : Nat, own_U (own_sh k v) = own_U v / ((128 ^ k : Nat) : Int)
  | 0 => by simp [own_sh]
  | k + 1 => by
    show own_U (own_sr 7 (own_sh k v)) = _
    rw [own_s7, own_shU v k, Int.ediv_ediv_of_nonneg (by exact Int.natCast_nonneg _)]
    congr 1
theorem own_shE (v : Int64) (k : Nat) (s : Int32) (hs : s.toBitVec.toNat % 64 = 7 * (k + 1)) : own_sh (k + 1) v = own_sr s v := by
  apply Int64.toInt_inj.mp
  rw [own_srI s (7 * (k + 1)) hs (by omega)]
  show (own_sr 7 (own_sh k v)).toInt = _
  rw [own_srI 7 7 (by decide) (by decide), own_shU v k, Int.ediv_ediv_of_nonneg (by exact Int.natCast_nonneg _)]
  congr 1
  rw [← Int.natCast_mul, show (2 ^ 7 : Nat) = 128 from by decide, ← Nat.pow_succ, Nat.pow_mul, show (2 ^ 7 : Nat) = 128 from by decide]
theorem own_split (x : Int64) (h : x &&& (-128 : Int64) = 0) : x = x &&& (127 : Int64) := by
  have e : x &&& ((-128 : Int64) ||| (127 : Int64)) = (x &&& (-128 : Int64)) ||| (x &&& (127 : Int64)) := by
    apply Int64.toBitVec_inj.mp
    simp only [Int64.toBitVec_and, Int64.toBitVec_or]
    exact BitVec.and_or_distrib_left ..
  rw [h, show ((-128 : Int64) ||| (127 : Int64)) = (-1 : Int64) from by decide] at e
  simpa using e
theorem own_low (x : Int64) : (x &&& (-128 : Int64) = 0) ↔ own_U x < 128 := by
  have m := c_maskL x 127 7 (by decide) (by decide)
  constructor
  · intro h
    have e := own_split x h
    have r := rng64 x
    have q : x.toInt = x.toInt % 128 := by
      have := congrArg Int64.toInt e
      rw [m] at this
      exact this
    unfold own_U; omega
  · intro h
    have r := rng64 x
    have q : x.toInt = x.toInt % 128 := by unfold own_U at h; omega
    have e : x = x &&& (127 : Int64) := Int64.toInt_inj.mp (by rw [m]; exact q)
    rw [e, Int64.and_assoc, show ((127 : Int64) &&& (-128 : Int64)) = 0 from by decide]
    simp
theorem own_127 {x : Int64} (h : own_U x < 128) : x &&& (127 : Int64) = x := (own_split x ((own_low x).2 h)).symm
theorem own_preL (v : Int64) : ∀ k : Nat, (own_pre k v).length = k
  | 0 => rfl
  | k + 1 => by show (own_pre k v ++ [_]).length = _; rw [List.length_append, own_preL v k]; rfl
theorem own_encL (v : Int64) : (own_enc v).length = own_n v + 1 := by unfold own_enc; rw [List.length_append, own_preL]; rfl
theorem own_n9 (v : Int64) : own_n v ≤ 9 := by unfold own_n; repeat' split
                                               all_goals omega
theorem own_preG (v : Int64) : ∀ n i : Nat, i < n → (own_pre n v)[i]? = some (own_cb (own_sh i v))
  | 0, i, h => by omega
  | n + 1, i, h => by
    show (own_pre n v ++ [_])[i]? = _
    by_cases q : i < n
    · rw [List.getElem?_append_left (by rw [own_preL]; exact q)]; exact own_preG v n i q
    · have e : i = n := by omega
      subst e
      rw [List.getElem?_append_right (by rw [own_preL]; omega), own_preL, Nat.sub_self]; rfl
theorem own_encG (v : Int64) (i : Nat) (h : i < own_n v) : (own_enc v)[i]? = some (own_cb (own_sh i v)) := by
  unfold own_enc
  rw [List.getElem?_append_left (by rw [own_preL]; exact h)]; exact own_preG v _ i h
theorem own_encF (v : Int64) : (own_enc v)[own_n v]? = some (own_fb (own_sh (own_n v) v)) := by
  unfold own_enc
  rw [List.getElem?_append_right (by rw [own_preL]; omega), own_preL, Nat.sub_self]; rfl
theorem own_t0 (v : Int64) : (own_sh 0 v &&& (-128 : Int64) = 0) ↔ own_U v < 128 := by
  rw [own_low, own_shU v 0, show ((128 ^ 0 : Nat) : Int) = 1 from by decide]
  have u := own_U0 v
  omega
theorem own_n_0 {v : Int64} (h : own_U v < 128) : own_n v = 0 := by
  unfold own_n
  rw [if_pos h]
theorem own_t1 (v : Int64) : (own_sh 1 v &&& (-128 : Int64) = 0) ↔ own_U v < 16384 := by
  rw [own_low, own_shU v 1, show ((128 ^ 1 : Nat) : Int) = 128 from by decide]
  have u := own_U0 v
  omega
theorem own_n_1 {v : Int64} (hg : 128 ≤ own_U v) (h : own_U v < 16384) : own_n v = 1 := by
  unfold own_n
  rw [if_neg (by omega), if_pos h]
theorem own_t2 (v : Int64) : (own_sh 2 v &&& (-128 : Int64) = 0) ↔ own_U v < 2097152 := by
  rw [own_low, own_shU v 2, show ((128 ^ 2 : Nat) : Int) = 16384 from by decide]
  have u := own_U0 v
  omega
theorem own_n_2 {v : Int64} (hg : 16384 ≤ own_U v) (h : own_U v < 2097152) : own_n v = 2 := by
  unfold own_n
  rw [if_neg (by omega), if_neg (by omega), if_pos h]
theorem own_t3 (v : Int64) : (own_sh 3 v &&& (-128 : Int64) = 0) ↔ own_U v < 268435456 := by
  rw [own_low, own_shU v 3, show ((128 ^ 3 : Nat) : Int) = 2097152 from by decide]
  have u := own_U0 v
  omega
theorem own_n_3 {v : Int64} (hg : 2097152 ≤ own_U v) (h : own_U v < 268435456) : own_n v = 3 := by
  unfold own_n
  rw [if_neg (by omega), if_neg (by omega), if_neg (by omega), if_pos h]
theorem own_t4 (v : Int64) : (own_sh 4 v &&& (-128 : Int64) = 0) ↔ own_U v < 34359738368 := by
  rw [own_low, own_shU v 4, show ((128 ^ 4 : Nat) : Int) = 268435456 from by decide]
  have u := own_U0 v
  omega
theorem own_n_4 {v : Int64} (hg : 268435456 ≤ own_U v) (h : own_U v < 34359738368) : own_n v = 4 := by
  unfold own_n
  rw [if_neg (by omega), if_neg (by omega), if_neg (by omega), if_neg (by omega), if_pos h]
theorem own_t5 (v : Int64) : (own_sh 5 v &&& (-128 : Int64) = 0) ↔ own_U v < 4398046511104 := by
  rw [own_low, own_shU v 5, show ((128 ^ 5 : Nat) : Int) = 34359738368 from by decide]
  have u := own_U0 v
  omega
theorem own_n_5 {v : Int64} (hg : 34359738368 ≤ own_U v) (h : own_U v < 4398046511104) : own_n v = 5 := by
  unfold own_n
  rw [if_neg (by omega), if_neg (by omega), if_neg (by omega), if_neg (by omega), if_neg (by omega), if_pos h]
theorem own_t6 (v : Int64) : (own_sh 6 v &&& (-128 : Int64) = 0) ↔ own_U v < 562949953421312 := by
  rw [own_low, own_shU v 6, show ((128 ^ 6 : Nat) : Int) = 4398046511104 from by decide]
  have u := own_U0 v
  omega
theorem own_n_6 {v : Int64} (hg : 4398046511104 ≤ own_U v) (h : own_U v < 562949953421312) : own_n v = 6 := by
  unfold own_n
  rw [if_neg (by omega), if_neg (by omega), if_neg (by omega), if_neg (by omega), if_neg (by omega), if_neg (by omega), if_pos h]
theorem own_t7 (v : Int64) : (own_sh 7 v &&& (-128 : Int64) = 0) ↔ own_U v < 72057594037927936 := by
  rw [own_low, own_shU v 7, show ((128 ^ 7 : Nat) : Int) = 562949953421312 from by decide]
  have u := own_U0 v
  omega
theorem own_n_7 {v : Int64} (hg : 562949953421312 ≤ own_U v) (h : own_U v < 72057594037927936) : own_n v = 7 := by
  unfold own_n
  rw [if_neg (by omega), if_neg (by omega), if_neg (by omega), if_neg (by omega), if_neg (by omega), if_neg (by omega), if_neg (by omega), if_pos h]
theorem own_t8 (v : Int64) : (own_sh 8 v &&& (-128 : Int64) = 0) ↔ own_U v < 9223372036854775808 := by
  rw [own_low, own_shU v 8, show ((128 ^ 8 : Nat) : Int) = 72057594037927936 from by decide]
  have u := own_U0 v
  omega
theorem own_n_8 {v : Int64} (hg : 72057594037927936 ≤ own_U v) (h : own_U v < 9223372036854775808) : own_n v = 8 := by
  unfold own_n
  rw [if_neg (by omega), if_neg (by omega), if_neg (by omega), if_neg (by omega), if_neg (by omega), if_neg (by omega), if_neg (by omega), if_neg (by omega), if_pos h]
theorem own_t9 (v : Int64) : (own_sh 9 v &&& (-128 : Int64) = 0) ↔ own_U v < 1180591620717411303424 := by
  rw [own_low, own_shU v 9, show ((128 ^ 9 : Nat) : Int) = 9223372036854775808 from by decide]
  have u := own_U0 v
  omega
theorem own_n_9 {v : Int64} (hg : 9223372036854775808 ≤ own_U v) (h : own_U v < 1180591620717411303424) : own_n v = 9 := by
  unfold own_n
  rw [if_neg (by omega), if_neg (by omega), if_neg (by omega), if_neg (by omega), if_neg (by omega), if_neg (by omega), if_neg (by omega), if_neg (by omega), if_neg (by omega)]
theorem own_last (v : Int64) : own_sh 9 v &&& (-128 : Int64) = 0 := (own_t9 v).2 (by have u := own_U0 v; omega)
theorem own_nat {n : Nat} (h : n ≤ 64) : (Int32.ofNat n).toInt = n ∧ (Int32.ofNat n).toNatClampNeg = n ∧ ¬ Int32.ofNat n < 0 := by
  have e : (Int32.ofNat n).toInt = n := Int32.toInt_ofNat_of_lt (by omega)
  refine ⟨e, by rw [Int32.toNatClampNeg, e]; rfl, ?_⟩
  rw [Int32.lt_iff_toInt_lt, e, show (0 : Int32).toInt = 0 from rfl]; omega
theorem own_up (n : Nat) : Int32.ofNat n + (1 : Int32) = Int32.ofNat (n + 1) := (Int32.ofNat_add n 1).symm
theorem own_rm {xs rs : List Int32} (hl : xs.length + rs.length = 64) (hx : xs.length ≤ 10) : ¬ ((Int32.ofNat ((xs ++ rs)).length) - (Int32.ofNat xs.length)) < (10 : Int32) := by
  rw [List.length_append, hl, Int32.lt_iff_toInt_lt]
  have a := c_isub (Int32.ofNat 64) (Int32.ofNat xs.length)
  have r := rng32 (Int32.ofNat 64 - Int32.ofNat xs.length)
  rw [(own_nat (by omega : xs.length ≤ 64)).1, (own_nat (by omega : 64 ≤ 64)).1] at a
  rw [show (10 : Int32).toInt = 10 from by decide]
  omega
/-- one byte more behind the first ones -/
theorem own_put {ys zs : List Int32} {b : Int32} (h : ys.length ≤ 64) (hz : zs ≠ []) : (ys ++ zs).set (Int32.ofNat ys.length).toNatClampNeg b = (ys ++ [b]) ++ zs.drop 1 := by
  rw [(own_nat h).2.1, List.set_append_right _ _ (Nat.le_refl _), Nat.sub_self]
  cases zs with
  | nil => exact absurd rfl hz
  | cons a L => simp
theorem own_c1 {xs rs : List Int32} {v : Int64} {k : Nat} (hl : xs.length + rs.length = 64) (hx : xs.length ≤ 10) (hk : k ≤ 9) : ((xs ++ own_pre k v) ++ rs.drop k).set (Int32.ofNat (xs ++ own_pre k v).length).toNatClampNeg (own_cb (own_sh k v)) = (xs ++ own_pre (k + 1) v) ++ rs.drop (k + 1) := by
  rw [own_put (by rw [List.length_append, own_preL]; omega) (by intro q; have := congrArg List.length q; rw [List.length_drop] at this; simp at this; omega)]
  rw [List.drop_drop]
  show ((xs ++ own_pre k v) ++ [own_cb (own_sh k v)]) ++ _ = (xs ++ (own_pre k v ++ [own_cb (own_sh k v)])) ++ _
  rw [List.append_assoc xs]
theorem own_c2 {xs : List Int32} {v : Int64} {k : Nat} : Int32.ofNat (xs ++ own_pre k v).length + (1 : Int32) = Int32.ofNat (xs ++ own_pre (k + 1) v).length := by
  rw [own_up, List.length_append, List.length_append, own_preL, own_preL]; rfl
theorem own_c3 {xs rs : List Int32} {v : Int64} {k : Nat} (hl : xs.length + rs.length = 64) (hx : xs.length ≤ 10) (hk : k ≤ 9) (hn : own_n v = k) : ((xs ++ own_pre k v) ++ rs.drop k).set (Int32.ofNat (xs ++ own_pre k v).length).toNatClampNeg (own_fb (own_sh k v)) = (xs ++ own_enc v) ++ rs.drop (own_enc v).length := by
  rw [own_put (by rw [List.length_append, own_preL]; omega) (by intro q; have := congrArg List.length q; rw [List.length_drop] at this; simp at this; omega)]
  rw [List.drop_drop, own_encL, hn]
  unfold own_enc
  rw [hn, List.append_assoc xs]
theorem own_c4 {xs : List Int32} {v : Int64} {k : Nat} (hn : own_n v = k) : Int32.ofNat (xs ++ own_pre k v).length + (1 : Int32) = Int32.ofNat (xs ++ own_enc v).length := by
  rw [own_up, List.length_append, List.length_append, own_preL, own_encL, hn]; rfl
theorem own_i1 {xs : List Int32} {v : Int64} {k : Nat} (hx : xs.length ≤ 10) (hk : k ≤ 9) : ¬ Int32.ofNat (xs ++ own_pre k v).length < 0 := (own_nat (by rw [List.length_append, own_preL]; omega)).2.2
theorem own_i2 {xs rs : List Int32} {v : Int64} {k : Nat} (hl : xs.length + rs.length = 64) (hx : xs.length ≤ 10) (hk : k ≤ 9) : (Int32.ofNat (xs ++ own_pre k v).length).toNatClampNeg < ((xs ++ own_pre k v) ++ rs.drop k).length := by
  rw [(own_nat (by rw [List.length_append, own_preL]; omega)).2.1]
  simp only [List.length_append, own_preL, List.length_drop]; omega

theorem d_winit_0 : decode prog_35_method_1_code 0 = .ok (.aload_n 0, 1) := by decide +kernel
theorem d_winit_1 : decode prog_35_method_1_code 1 = .ok (.invokespecial 3, 3) := by decide +kernel
theorem d_winit_4 : decode prog_35_method_1_code 4 = .ok (.aload_n 0, 1) := by decide +kernel
theorem d_winit_5 : decode prog_35_method_1_code 5 = .ok (.bipush 64, 2) := by decide +kernel
theorem d_winit_7 : decode prog_35_method_1_code 7 = .ok (.newarray .byte, 2) := by decide +kernel
theorem d_winit_9 : decode prog_35_method_1_code 9 = .ok (.putfield 9, 3) := by decide +kernel
theorem d_winit_12 : decode prog_35_method_1_code 12 = .ok (.return_, 1) := by decide +kernel
theorem ef_winit (m : MethodId) (v0 : Addr) : entryFrame m #[(.ref v0)] 1 = mkF m 0 #[.val (.ref v0)] [] := by first | (simp [entryFrame, mkF, argsToLocals, Value.category]; done) | rfl
def Q_winit (Z : State) (v0 : Addr) (h0 : Heap) (n0 : Nat) (v : Option Value) (h : Heap) (L : List Loc) : Prop := ∃ b0 : Addr, v = none ∧ Fr n0 L ∧ Keep h0 h [v0] ∧ h0.size ≤ b0 ∧ Exa Z h v0 "com/example/muster/muster/Protobuf$Writer" ∧ Fld Z h v0 "com/example/muster/muster/Protobuf$Writer" "bytes" "[B" (.ref b0) ∧ Fld Z h v0 "com/example/muster/muster/Protobuf$Writer" "size" "I" (.int (0 : Int32)) ∧ Exa Z h b0 "[B" ∧ AI Z h b0 .byte (List.replicate 64 (0 : Int32))
set_option maxRecDepth 65536 in
set_option maxHeartbeats 40000000 in
theorem rm_winit (l : Launch) (Z : State) (a0 : Array Value) (hw : ∀ d ∈ tables_1, d.before a0 Z = true) (ws : List Jvm.Cond) (v0 : Addr) (h0 : Heap) (n0 : Nat) (Z0 : n0 ≤ h0.size) (f0_E_v0 : Exa Z h0 v0 "com/example/muster/muster/Protobuf$Writer") (f1_F_v0 : Fld Z h0 v0 "com/example/muster/muster/Protobuf$Writer" "bytes" "[B" .null) (f2_F_v0 : Fld Z h0 v0 "com/example/muster/muster/Protobuf$Writer" "size" "I" (.int (0 : Int32))) (g_v0 : n0 ≤ v0) :
    MetFree l (⟨"com/example/muster/muster/Protobuf$Writer", "<init>", "()V"⟩ : MethodName) (head1 (Jvm.Cond.code (⟨"com/example/muster/muster/Protobuf$Writer", "<init>", "()V"⟩ : MethodName) prog_35_method_1_code 1 none :: ws) ({ frames := 1, cells := 1, slots := 64, locals := 12 } : Room)) (fun a U => a = #[(.ref v0)] ∧ Z.Warmed39 U.vm ∧ U.heap = h0) (fun _ _ _ _ _ => True) (fun _ U o U' => ∃ v L, o = .returned v ∧ Q_winit Z v0 h0 n0 v U'.heap L ∧ FrameEnd U o U' L ({ frames := 1, cells := 1, slots := 64, locals := 12 } : Room).cells ({ frames := 1, cells := 1, slots := 64, locals := 12 } : Room).slots) := by
  refine MetFree.of_bodySF (plainFor_of_name (by first | (simp [plainName, overriddenIn]; done) | decide +kernel)) hisR ?_
  intro p e s m args below meth c s₁ Bd hml0 hP hK
  obtain ⟨rfl, hZ, hh⟩ := hP
  have hx := Bd.exec
  have hby := Bd.bytes
  have hml : c.maxLocals = 1 := hml0
  have hown : s.vm.findClass "com/example/muster/muster/Protobuf$Writer" = some m.cls := findClass_of_methodNamed Bd.named
  have hnm := (name_of_methodNamed Bd.named Bd.method).1
  have hlk : meth.locks = false := Bd.notSynchronized
  have X0 : Stand p l e ({ frames := 1, cells := 1, slots := 64, locals := 12 } : Room) s m #[(.ref v0)] below meth c s₁ [] 0 0 := Stand.of_body Bd
  have e0 : s₁.heap = h0 := by rw [← hh, Bd.state]; rfl
  have N0 := Fr.nil n0
  refine Go.enter (Q := Q_winit Z v0 h0 n0) (C := ({ frames := 1, cells := 1, slots := 64, locals := 12 } : Room).cells) (N := ({ frames := 1, cells := 1, slots := 64, locals := 12 } : Room).slots) (ef_winit m v0) ?_
  show Go p e below s _ _ _ s₁ (mkF m 0 #[.val (.ref v0)] [])
  refine G_aloadN X0 hx (pc' := 1) rfl (hb hby d_winit_0) rfl rfl ?_
  obtain ⟨T1, X1, e1, st1⟩ := initO X0 hx hZ hown (hw _ (List.mem_of_getElem? (i := 6) rfl)) (hw _ (List.mem_of_getElem? (i := 7) rfl)) (hw _ (List.mem_of_getElem? (i := 8) rfl)) e0 (g := (mkF m 1 #[.val (.ref v0)] [(.ref v0)])) rfl (by rw [hml]; rfl) rfl (hb hby d_winit_1) (by decide) (W := 0) (by show 2 * 0 + _ ≤ _; exact Nat.le_of_eq rfl) (by decide)
  refine Go.st st1 ?_
  show Go p e below s _ _ _ T1 (mkF m 4 #[.val (.ref v0)] [])
  refine G_aloadN X1 hx (pc' := 5) rfl (hb hby d_winit_4) rfl rfl ?_
  refine G_bipush X1 hx (pc' := 7) rfl (hb hby d_winit_5) (z := (64 : Int32)) rfl ?_
  obtain ⟨T2, h2, X2, e2, E2, B2, A2, st2⟩ := newAI X1 hx hZ (hw _ (List.mem_of_getElem? (i := 9) rfl)) e1 (g := (mkF m 7 #[.val (.ref v0)] [(.int (64 : Int32)), (.ref v0)])) rfl (hb hby d_winit_7) rfl (by decide) (ty := .byte) rfl ⟨rfl, rfl⟩ (cap := 64) (by decide) (by decide) (by decide) (by decide) (ad := "[B") (by decide)
  obtain ⟨b2, q2⟩ : ∃ z, z = h0.size := ⟨_, rfl⟩
  rw [← q2] at A2 B2 st2
  refine Go.st st2 ?_
  have ne_v0_b2 : v0 ≠ b2 := Nat.ne_of_lt (Nat.lt_of_lt_of_le f0_E_v0.lt (Nat.le_of_eq q2.symm))
  have g_b2 : n0 ≤ b2 := Nat.le_trans Z0 (Nat.le_of_eq q2.symm)
  have sz_b2 : h0.size ≤ b2 := Nat.le_trans (Nat.le_refl _) (Nat.le_of_eq q2.symm)
  have E_v0_2 := f0_E_v0.ext E2
  have F_v0_bytes_2 := f1_F_v0.ext E2
  have F_v0_size_2 := f2_F_v0.ext E2
  have A_b2 : AI Z h2 b2 .byte (List.replicate 64 (0 : Int32)) := by simpa using A2
  have K_2 : Keep h0 h2 [v0] := (Keep.refl h0 [v0]).ext E2
  have Z_2 : n0 ≤ h2.size := Nat.le_trans Z0 K_2.1
  clear f0_E_v0 f1_F_v0 f2_F_v0 E2 st2 A2
  show Go p e below s _ _ _ T2 (mkF m 9 #[.val (.ref v0)] [(.ref b2), (.ref v0)])
  obtain ⟨T3, h3, X3, e3, W3, st3⟩ := putF X2 hx hZ hown (host := "") (Or.inl (hw _ (List.mem_of_getElem? (i := 10) rfl))) Via.refl e2 F_v0_bytes_2 E_v0_2 (Or.inl (hw _ (List.mem_of_getElem? (i := 11) rfl))) (hw _ (List.mem_of_getElem? (i := 1) rfl)) (ty := (.array .byte)) (by decide) rfl rfl (g := (mkF m 9 #[.val (.ref v0)] [(.ref b2), (.ref v0)])) rfl rfl (hb hby d_winit_9)
  refine Go.st st3 ?_
  have F_v0_w3 := F_v0_bytes_2.same W3
  have E_v0_3 := E_v0_2.wr W3
  have F_v0_size_3 := F_v0_size_2.other W3 (Or.inr (slot_ne (Or.inl (hw _ (List.mem_of_getElem? (i := 18) rfl))) (Or.inl (hw _ (List.mem_of_getElem? (i := 11) rfl))) (by decide) (t := .int) (t' := (.array .byte)) (by decide) (by decide)))
  have E_b2_3 := B2.wr W3
  have A_b2_3 := A_b2.other W3 (Ne.symm ne_v0_b2)
  have K_3 : Keep h0 h3 [v0] := K_2.wr W3 (Or.inl (List.mem_of_getElem? (i := 0) rfl))
  have Z_3 : n0 ≤ h3.size := Nat.le_trans Z0 K_3.1
  have N3 := Fr.snoc X3 N0 g_v0
  clear E_v0_2 F_v0_bytes_2 F_v0_size_2 B2 A_b2 W3 st3
  obtain ⟨G3, Y3, M3⟩ : ∃ L, Stand p l e ({ frames := 1, cells := 1, slots := 64, locals := 12 } : Room) s m #[(.ref v0)] below meth c T3 L 1 64 ∧ Fr n0 L := ⟨_, X3, N3⟩
  clear X3 N3
  show Go p e below s _ _ _ T3 (mkF m 12 #[.val (.ref v0)] [])
  refine Go.fin Y3 hlk (v := none) (fun _ => rfl) (by decide) (by decide) ?_ (fun fs hr => Y3.returnOut hx Bd.returns (hb hby d_winit_12) hr)
  show Q_winit Z v0 h0 n0 _ T3.heap _
  rw [e3]
  exact ⟨b2, rfl, M3, K_3, sz_b2, E_v0_3, F_v0_w3, F_v0_size_3, E_b2_3, A_b2_3⟩
theorem d_wroom_0 : decode prog_35_method_11_code 0 = .ok (.aload_n 0, 1) := by decide +kernel
theorem d_wroom_1 : decode prog_35_method_11_code 1 = .ok (.getfield 9, 3) := by decide +kernel
theorem d_wroom_4 : decode prog_35_method_11_code 4 = .ok (.arraylength, 1) := by decide +kernel
theorem d_wroom_5 : decode prog_35_method_11_code 5 = .ok (.aload_n 0, 1) := by decide +kernel
theorem d_wroom_6 : decode prog_35_method_11_code 6 = .ok (.getfield 35, 3) := by decide +kernel
theorem d_wroom_9 : decode prog_35_method_11_code 9 = .ok (.isub, 1) := by decide +kernel
theorem d_wroom_10 : decode prog_35_method_11_code 10 = .ok (.iload_n 1, 1) := by decide +kernel
theorem d_wroom_11 : decode prog_35_method_11_code 11 = .ok (.if_icmp .ge 30, 3) := by decide +kernel
theorem d_wroom_41 : decode prog_35_method_11_code 41 = .ok (.return_, 1) := by decide +kernel
theorem ef_wroom (m : MethodId) (v0 : Addr) (v1 : Int32) : entryFrame m #[(.ref v0), (.int v1)] 2 = mkF m 0 #[.val (.ref v0), .val (.int v1)] [] := by first | (simp [entryFrame, mkF, argsToLocals, Value.category]; done) | rfl
def Q_wroom (Z : State) (v0 : Addr) (v1 : Int32) (dd : Addr) (sz : Int32) (bs : List Int32) (h0 : Heap) (n0 : Nat) (v : Option Value) (h : Heap) (L : List Loc) : Prop := v = none ∧ Fr n0 L ∧ h = h0
set_option maxRecDepth 65536 in
set_option maxHeartbeats 40000000 in
theorem rm_wroom (l : Launch) (Z : State) (a0 : Array Value) (hw : ∀ d ∈ tables_1, d.before a0 Z = true) (ws : List Jvm.Cond) (v0 : Addr) (v1 : Int32) (dd : Addr) (sz : Int32) (bs : List Int32) (h0 : Heap) (n0 : Nat) (Z0 : n0 ≤ h0.size) (f0_F_v0 : Fld Z h0 v0 "com/example/muster/muster/Protobuf$Writer" "bytes" "[B" (.ref dd)) (f1_F_v0 : Fld Z h0 v0 "com/example/muster/muster/Protobuf$Writer" "size" "I" (.int sz)) (f2_A_dd : AI Z h0 dd .byte bs) (hr_ : ¬ (((Int32.ofNat (bs).length) - sz) < v1)) :
    MetFree l (⟨"com/example/muster/muster/Protobuf$Writer", "room", "(I)V"⟩ : MethodName) (head1 (Jvm.Cond.code (⟨"com/example/muster/muster/Protobuf$Writer", "room", "(I)V"⟩ : MethodName) prog_35_method_11_code 2 none :: ws) ({ frames := 0, cells := 0, slots := 0, locals := 0 } : Room)) (fun a U => a = #[(.ref v0), (.int v1)] ∧ Z.Warmed39 U.vm ∧ U.heap = h0) (fun _ _ _ _ _ => True) (fun _ U o U' => ∃ v L, o = .returned v ∧ Q_wroom Z v0 v1 dd sz bs h0 n0 v U'.heap L ∧ FrameEnd U o U' L ({ frames := 0, cells := 0, slots := 0, locals := 0 } : Room).cells ({ frames := 0, cells := 0, slots := 0, locals := 0 } : Room).slots) := by
  refine MetFree.of_bodySF (plainFor_of_name (by first | (simp [plainName, overriddenIn]; done) | decide +kernel)) hisR ?_
  intro p e s m args below meth c s₁ Bd hml0 hP hK
  obtain ⟨rfl, hZ, hh⟩ := hP
  have hx := Bd.exec
  have hby := Bd.bytes
  have hml : c.maxLocals = 2 := hml0
  have hown : s.vm.findClass "com/example/muster/muster/Protobuf$Writer" = some m.cls := findClass_of_methodNamed Bd.named
  have hnm := (name_of_methodNamed Bd.named Bd.method).1
  have hlk : meth.locks = false := Bd.notSynchronized
  have X0 : Stand p l e ({ frames := 0, cells := 0, slots := 0, locals := 0 } : Room) s m #[(.ref v0), (.int v1)] below meth c s₁ [] 0 0 := Stand.of_body Bd
  have e0 : s₁.heap = h0 := by rw [← hh, Bd.state]; rfl
  have N0 := Fr.nil n0
  refine Go.enter (Q := Q_wroom Z v0 v1 dd sz bs h0 n0) (C := ({ frames := 0, cells := 0, slots := 0, locals := 0 } : Room).cells) (N := ({ frames := 0, cells := 0, slots := 0, locals := 0 } : Room).slots) (ef_wroom m v0 v1) ?_
  show Go p e below s _ _ _ s₁ (mkF m 0 #[.val (.ref v0), .val (.int v1)] [])
  refine G_aloadN X0 hx (pc' := 1) rfl (hb hby d_wroom_0) rfl rfl ?_
  obtain ⟨T4, X4, e4, st4⟩ := getF X0 hx hZ hown (host := "") (Or.inl (hw _ (List.mem_of_getElem? (i := 10) rfl))) Via.refl e0 f0_F_v0 (g := (mkF m 1 #[.val (.ref v0), .val (.int v1)] [(.ref v0)])) rfl rfl (hb hby d_wroom_1)
  refine Go.st st4 ?_
  show Go p e below s _ _ _ T4 (mkF m 4 #[.val (.ref v0), .val (.int v1)] [(.ref dd)])
  refine Go.st (lenAI X4 hx hZ e4 f2_A_dd (g := (mkF m 4 #[.val (.ref v0), .val (.int v1)] [(.ref dd)])) rfl rfl (hb hby d_wroom_4)) ?_
  show Go p e below s _ _ _ T4 (mkF m 5 #[.val (.ref v0), .val (.int v1)] [(.int (Int32.ofNat (bs).length))])
  refine G_aloadN X4 hx (pc' := 6) rfl (hb hby d_wroom_5) rfl rfl ?_
  obtain ⟨T5, X5, e5, st5⟩ := getF X4 hx hZ hown (host := "") (Or.inl (hw _ (List.mem_of_getElem? (i := 17) rfl))) Via.refl e4 f1_F_v0 (g := (mkF m 6 #[.val (.ref v0), .val (.int v1)] [(.ref v0), (.int (Int32.ofNat (bs).length))])) rfl rfl (hb hby d_wroom_6)
  refine Go.st st5 ?_
  show Go p e below s _ _ _ T5 (mkF m 9 #[.val (.ref v0), .val (.int v1)] [(.int sz), (.int (Int32.ofNat (bs).length))])
  refine G_isub X5 hx (pc' := 10) rfl (hb hby d_wroom_9)  ?_
  refine G_iloadN X5 hx (pc' := 11) rfl (hb hby d_wroom_10) rfl ?_
  refine G_icmpYes X5 hx (pc' := 41) (hb hby d_wroom_11) (flt (hr_ : ¬ (((Int32.ofNat (bs).length) - sz) < v1))).2.1 (by decide) (by decide) ?_
  refine Go.fin X5 hlk (v := none) (fun _ => rfl) (by decide) (by decide) ?_ (fun fs hr => X5.returnOut hx Bd.returns (hb hby d_wroom_41) hr)
  show Q_wroom Z v0 v1 dd sz bs h0 n0 _ T5.heap _
  rw [e5]
  exact ⟨rfl, N0, rfl⟩
theorem d_varint_0 : decode prog_35_method_10_code 0 = .ok (.aload_n 0, 1) := by decide +kernel
theorem d_varint_1 : decode prog_35_method_10_code 1 = .ok (.bipush 10, 2) := by decide +kernel
theorem d_varint_3 : decode prog_35_method_10_code 3 = .ok (.invokevirtual 25, 3) := by decide +kernel
theorem pd_0 : parseMethodDescriptor "(I)V" = some ⟨[.int], none⟩ := by decide +kernel
theorem d_varint_6 : decode prog_35_method_10_code 6 = .ok (.lload_n 1, 1) := by decide +kernel
theorem d_varint_7 : decode prog_35_method_10_code 7 = .ok (.lstore_n 3, 1) := by decide +kernel
theorem d_varint_8 : decode prog_35_method_10_code 8 = .ok (.lload_n 3, 1) := by decide +kernel
theorem d_varint_9 : decode prog_35_method_10_code 9 = .ok (.ldc2_w 67, 3) := by decide +kernel
theorem d_varint_12 : decode prog_35_method_10_code 12 = .ok (.land, 1) := by decide +kernel
theorem d_varint_13 : decode prog_35_method_10_code 13 = .ok (.lconst 0, 1) := by decide +kernel
theorem d_varint_14 : decode prog_35_method_10_code 14 = .ok (.lcmp, 1) := by decide +kernel
theorem d_varint_15 : decode prog_35_method_10_code 15 = .ok (.ifCond .eq 38, 3) := by decide +kernel
theorem d_varint_53 : decode prog_35_method_10_code 53 = .ok (.aload_n 0, 1) := by decide +kernel
theorem d_varint_54 : decode prog_35_method_10_code 54 = .ok (.getfield 9, 3) := by decide +kernel
theorem d_varint_57 : decode prog_35_method_10_code 57 = .ok (.aload_n 0, 1) := by decide +kernel
theorem d_varint_58 : decode prog_35_method_10_code 58 = .ok (.dup, 1) := by decide +kernel
theorem d_varint_59 : decode prog_35_method_10_code 59 = .ok (.getfield 35, 3) := by decide +kernel
theorem d_varint_62 : decode prog_35_method_10_code 62 = .ok (.dup_x1, 1) := by decide +kernel
theorem d_varint_63 : decode prog_35_method_10_code 63 = .ok (.iconst 1, 1) := by decide +kernel
theorem d_varint_64 : decode prog_35_method_10_code 64 = .ok (.iadd, 1) := by decide +kernel
theorem d_varint_65 : decode prog_35_method_10_code 65 = .ok (.putfield 35, 3) := by decide +kernel
theorem d_varint_68 : decode prog_35_method_10_code 68 = .ok (.lload_n 3, 1) := by decide +kernel
theorem d_varint_69 : decode prog_35_method_10_code 69 = .ok (.l2i, 1) := by decide +kernel
theorem d_varint_70 : decode prog_35_method_10_code 70 = .ok (.i2b, 1) := by decide +kernel
theorem d_varint_71 : decode prog_35_method_10_code 71 = .ok (.bastore, 1) := by decide +kernel
theorem d_varint_72 : decode prog_35_method_10_code 72 = .ok (.return_, 1) := by decide +kernel
theorem d_varint_18 : decode prog_35_method_10_code 18 = .ok (.aload_n 0, 1) := by decide +kernel
theorem d_varint_19 : decode prog_35_method_10_code 19 = .ok (.getfield 9, 3) := by decide +kernel
theorem d_varint_22 : decode prog_35_method_10_code 22 = .ok (.aload_n 0, 1) := by decide +kernel
theorem d_varint_23 : decode prog_35_method_10_code 23 = .ok (.dup, 1) := by decide +kernel
theorem d_varint_24 : decode prog_35_method_10_code 24 = .ok (.getfield 35, 3) := by decide +kernel
theorem d_varint_27 : decode prog_35_method_10_code 27 = .ok (.dup_x1, 1) := by decide +kernel
theorem d_varint_28 : decode prog_35_method_10_code 28 = .ok (.iconst 1, 1) := by decide +kernel
theorem d_varint_29 : decode prog_35_method_10_code 29 = .ok (.iadd, 1) := by decide +kernel
theorem d_varint_30 : decode prog_35_method_10_code 30 = .ok (.putfield 35, 3) := by decide +kernel
theorem d_varint_33 : decode prog_35_method_10_code 33 = .ok (.lload_n 3, 1) := by decide +kernel
theorem d_varint_34 : decode prog_35_method_10_code 34 = .ok (.ldc2_w 69, 3) := by decide +kernel
theorem d_varint_37 : decode prog_35_method_10_code 37 = .ok (.land, 1) := by decide +kernel
theorem d_varint_38 : decode prog_35_method_10_code 38 = .ok (.ldc2_w 71, 3) := by decide +kernel
theorem d_varint_41 : decode prog_35_method_10_code 41 = .ok (.lor, 1) := by decide +kernel
theorem d_varint_42 : decode prog_35_method_10_code 42 = .ok (.l2i, 1) := by decide +kernel
theorem d_varint_43 : decode prog_35_method_10_code 43 = .ok (.i2b, 1) := by decide +kernel
theorem d_varint_44 : decode prog_35_method_10_code 44 = .ok (.bastore, 1) := by decide +kernel
theorem d_varint_45 : decode prog_35_method_10_code 45 = .ok (.lload_n 3, 1) := by decide +kernel
theorem d_varint_46 : decode prog_35_method_10_code 46 = .ok (.bipush 7, 2) := by decide +kernel
theorem d_varint_48 : decode prog_35_method_10_code 48 = .ok (.lushr, 1) := by decide +kernel
theorem d_varint_49 : decode prog_35_method_10_code 49 = .ok (.lstore_n 3, 1) := by decide +kernel
theorem d_varint_50 : decode prog_35_method_10_code 50 = .ok (.goto (-42), 3) := by decide +kernel
theorem ef_varint (m : MethodId) (v0 : Addr) (v1 : Int64) : entryFrame m #[(.ref v0), (.long v1)] 5 = mkF m 0 #[.val (.ref v0), .val (.long v1), .second, .unset, .unset] [] := by first | (simp [entryFrame, mkF, argsToLocals, Value.category]; done) | rfl
def Q_varint (Z : State) (v0 : Addr) (v1 : Int64) (dd : Addr) (xs : List Int32) (rs : List Int32) (h0 : Heap) (n0 : Nat) (v : Option Value) (h : Heap) (L : List Loc) : Prop := v = none ∧ Fr n0 L ∧ Keep h0 h [v0, dd] ∧ Exa Z h v0 "com/example/muster/muster/Protobuf$Writer" ∧ Fld Z h v0 "com/example/muster/muster/Protobuf$Writer" "bytes" "[B" (.ref dd) ∧ Fld Z h v0 "com/example/muster/muster/Protobuf$Writer" "size" "I" (.int (Int32.ofNat (xs ++ own_enc v1).length)) ∧ AI Z h dd .byte ((xs ++ own_enc v1) ++ rs.drop (own_enc v1).length)
set_option maxRecDepth 65536 in
set_option maxHeartbeats 40000000 in
theorem rm_varint (l : Launch) (Z : State) (a0 : Array Value) (hw : ∀ d ∈ tables_1, d.before a0 Z = true) (ws : List Jvm.Cond) (v0 : Addr) (v1 : Int64) (dd : Addr) (xs : List Int32) (rs : List Int32) (h0 : Heap) (n0 : Nat) (Z0 : n0 ≤ h0.size) (f0_E_v0 : Exa Z h0 v0 "com/example/muster/muster/Protobuf$Writer") (f1_F_v0 : Fld Z h0 v0 "com/example/muster/muster/Protobuf$Writer" "bytes" "[B" (.ref dd)) (f2_F_v0 : Fld Z h0 v0 "com/example/muster/muster/Protobuf$Writer" "size" "I" (.int (Int32.ofNat xs.length))) (f3_A_dd : AI Z h0 dd .byte (xs ++ rs)) (g_v0 : n0 ≤ v0) (g_dd : n0 ≤ dd) (ne_v0_dd : v0 ≠ dd) (hl : xs.length + rs.length = 64) (hx_ : xs.length ≤ 10) :
    MetFree l (⟨"com/example/muster/muster/Protobuf$Writer", "varint", "(J)V"⟩ : MethodName) (head1 (Jvm.Cond.code (⟨"com/example/muster/muster/Protobuf$Writer", "varint", "(J)V"⟩ : MethodName) prog_35_method_10_code 5 none :: ws) ({ frames := 1, cells := 0, slots := 0, locals := 13 } : Room)) (fun a U => a = #[(.ref v0), (.long v1)] ∧ Z.Warmed39 U.vm ∧ U.heap = h0) (fun _ _ _ _ _ => True) (fun _ U o U' => ∃ v L, o = .returned v ∧ Q_varint Z v0 v1 dd xs rs h0 n0 v U'.heap L ∧ FrameEnd U o U' L ({ frames := 1, cells := 0, slots := 0, locals := 13 } : Room).cells ({ frames := 1, cells := 0, slots := 0, locals := 13 } : Room).slots) := by
  refine MetFree.of_bodySF (plainFor_of_name (by first | (simp [plainName, overriddenIn]; done) | decide +kernel)) hisR ?_
  intro p e s m args below meth c s₁ Bd hml0 hP hK
  obtain ⟨rfl, hZ, hh⟩ := hP
  have hx := Bd.exec
  have hby := Bd.bytes
  have hml : c.maxLocals = 5 := hml0
  have hown : s.vm.findClass "com/example/muster/muster/Protobuf$Writer" = some m.cls := findClass_of_methodNamed Bd.named
  have hnm := (name_of_methodNamed Bd.named Bd.method).1
  have hlk : meth.locks = false := Bd.notSynchronized
  have X0 : Stand p l e ({ frames := 1, cells := 0, slots := 0, locals := 13 } : Room) s m #[(.ref v0), (.long v1)] below meth c s₁ [] 0 0 := Stand.of_body Bd
  have e0 : s₁.heap = h0 := by rw [← hh, Bd.state]; rfl
  have N0 := Fr.nil n0
  refine Go.enter (Q := Q_varint Z v0 v1 dd xs rs h0 n0) (C := ({ frames := 1, cells := 0, slots := 0, locals := 13 } : Room).cells) (N := ({ frames := 1, cells := 0, slots := 0, locals := 13 } : Room).slots) (ef_varint m v0 v1) ?_
  show Go p e below s _ _ _ s₁ (mkF m 0 #[.val (.ref v0), .val (.long v1), .second, .unset, .unset] [])
  refine G_aloadN X0 hx (pc' := 1) rfl (hb hby d_varint_0) rfl rfl ?_
  refine G_bipush X0 hx (pc' := 3) rfl (hb hby d_varint_1) (z := (10 : Int32)) rfl ?_
  obtain ⟨cq6, q6, q6'⟩ := f0_E_v0.cell
  obtain ⟨_, _, ⟨T6, L6, k6, n6⟩, -, X6, ⟨Lc6, hQ6, l6, y6, z6⟩, st6⟩ := X0.privateBack hx (y := (⟨"com/example/muster/muster/Protobuf$Writer", "room", "(I)V"⟩ : MethodName)) hown (mvT hZ (hw _ (List.mem_of_getElem? (i := 44) rfl))) (mvT hZ (hw _ (List.mem_of_getElem? (i := 45) rfl))) (own_selp (mv hZ (hw _ (List.mem_of_getElem? (i := 1) rfl))) (mvP hZ (hw _ (List.mem_of_getElem? (i := 46) rfl))) (mvT hZ (hw _ (List.mem_of_getElem? (i := 45) rfl))) (by decide)) (Cond.privateMethod_at (mvP hZ (hw _ (List.mem_of_getElem? (i := 46) rfl)) (args := #[]))) (mvT hZ (hw _ (List.mem_of_getElem? (i := 47) rfl))) (by decide) (backOf (W := 0) (rm_wroom l Z a0 hw [] v0 (10 : Int32) dd (Int32.ofNat xs.length) (xs ++ rs) h0 n0 Z0 f1_F_v0 f2_F_v0 f3_A_dd (own_rm hl hx_)) hZ (hw _ (List.mem_of_getElem? (i := 47) rfl)) (hw _ (List.mem_of_getElem? (i := 2) rfl)) (by decide) (by decide)) (g := (mkF m 3 #[.val (.ref v0), .val (.long v1), .second, .unset, .unset] [(.int (10 : Int32)), (.ref v0)])) rfl (by rw [hml]; rfl) (Steps.refl _) (a := v0) (by rw [e0]; exact q6) q6' (argsL := [(.int (10 : Int32))]) (rest := []) (lenOf pd_0 rfl) rfl (by show 2 * 0 + _ ≤ _; exact Nat.le_of_eq rfl) (hb hby d_varint_3) (fun _ _ => ⟨rfl, e0, (by decide : 0 + 0 ≤ _), (by decide : 0 + 0 ≤ _)⟩)
  dsimp only [Pt.U, Pt.locs, Pt.cells, Pt.slots] at X6 l6 y6 z6 st6 hQ6
  rw [l6, y6, z6] at X6
  clear l6 y6 z6
  obtain ⟨rfl, N6q, e6⟩ := hQ6
  have N6 := Fr.app N0 N6q
  refine Go.st (fun _ k => st6.trans k) ?_
  obtain ⟨G6, Y6, M6⟩ : ∃ L, Stand p l e ({ frames := 1, cells := 0, slots := 0, locals := 13 } : Room) s m #[(.ref v0), (.long v1)] below meth c T6 L 0 0 ∧ Fr n0 L := ⟨_, X6, N6⟩
  clear X6 N6
  show Go p e below s _ _ _ T6 (mkF m 6 #[.val (.ref v0), .val (.long v1), .second, .unset, .unset] [])
  have S0 : Fld Z h0 v0 "com/example/muster/muster/Protobuf$Writer" "size" "I" (.int (Int32.ofNat (xs ++ own_pre 0 v1).length)) := by simpa [own_pre] using f2_F_v0
  have A0 : AI Z h0 dd .byte ((xs ++ own_pre 0 v1) ++ rs.drop 0) := by simpa [own_pre] using f3_A_dd
  refine G_lloadN Y6 hx (pc' := 7) rfl (hb hby d_varint_6) rfl ?_
  refine G_lstoreN Y6 hx (pc' := 8) rfl (hb hby d_varint_7) (L' := #[.val (.ref v0), .val (.long v1), .second, .val (.long v1), .second]) rfl ?_
  have J9 : ∀ (T : State) (h : Heap) (L : List Loc) (X : Stand p l e ({ frames := 1, cells := 0, slots := 0, locals := 13 } : Room) s m #[(.ref v0), (.long v1)] below meth c T L 0 0) (e1 : T.heap = h) (N : Fr n0 L) (K : Keep h0 h [v0, dd]) (Zq : n0 ≤ h.size) (FE : Exa Z h v0 "com/example/muster/muster/Protobuf$Writer") (FB : Fld Z h v0 "com/example/muster/muster/Protobuf$Writer" "bytes" "[B" (.ref dd)) (FS : Fld Z h v0 "com/example/muster/muster/Protobuf$Writer" "size" "I" (.int (Int32.ofNat (xs ++ own_pre 9 v1).length))) (FA : AI Z h dd .byte ((xs ++ own_pre 9 v1) ++ rs.drop 9)) (hg : 9223372036854775808 ≤ own_U v1), Go p e below s ({ frames := 1, cells := 0, slots := 0, locals := 13 } : Room).cells ({ frames := 1, cells := 0, slots := 0, locals := 13 } : Room).slots (Q_varint Z v0 v1 dd xs rs h0 n0) T (mkF m 8 #[.val (.ref v0), .val (.long v1), .second, .val (.long (own_sh 9 v1)), .second] []) := by
    intro Tj9 hj9 Lj9 Xj9 ej9 Nj9 Kj9 Zj9 FE9 FB9 FS9 FA9 hg
    refine G_lloadN Xj9 hx (pc' := 9) rfl (hb hby d_varint_8) rfl ?_
    refine G_ldc2 Xj9 hx (pc' := 12) rfl hown (mvT hZ (hw _ (List.mem_of_getElem? (i := 48) rfl))) (hb hby d_varint_9) ?_
    refine G_land Xj9 hx (pc' := 13) rfl (hb hby d_varint_12)  ?_
    refine G_lconst Xj9 hx (pc' := 14) rfl (hb hby d_varint_13) (z := (0 : Int64)) rfl ?_
    refine G_lcmp Xj9 hx (pc' := 15) rfl (hb hby d_varint_14)  ?_
    refine G_ifYes Xj9 hx (pc' := 53) (hb hby d_varint_15) ((if0 _ _).trans (teq ((lw_eq _ _).2 ((own_last v1) : ((own_sh 9 v1) &&& (-128 : Int64)) = (0 : Int64)))).1) (by decide) (by decide) ?_
    refine G_aloadN Xj9 hx (pc' := 54) rfl (hb hby d_varint_53) rfl rfl ?_
    obtain ⟨T7, X7, e7, st7⟩ := getF Xj9 hx hZ hown (host := "") (Or.inl (hw _ (List.mem_of_getElem? (i := 10) rfl))) Via.refl ej9 FB9 (g := (mkF m 54 #[.val (.ref v0), .val (.long v1), .second, .val (.long (own_sh 9 v1)), .second] [(.ref v0)])) rfl rfl (hb hby d_varint_54)
    refine Go.st st7 ?_
    show Go p e below s _ _ _ T7 (mkF m 57 #[.val (.ref v0), .val (.long v1), .second, .val (.long (own_sh 9 v1)), .second] [(.ref dd)])
    refine G_aloadN X7 hx (pc' := 58) rfl (hb hby d_varint_57) rfl rfl ?_
    refine G_dup X7 hx (pc' := 59) rfl (hb hby d_varint_58) rfl ?_
    obtain ⟨T8, X8, e8, st8⟩ := getF X7 hx hZ hown (host := "") (Or.inl (hw _ (List.mem_of_getElem? (i := 17) rfl))) Via.refl e7 FS9 (g := (mkF m 59 #[.val (.ref v0), .val (.long v1), .second, .val (.long (own_sh 9 v1)), .second] [(.ref v0), (.ref v0), (.ref dd)])) rfl rfl (hb hby d_varint_59)
    refine Go.st st8 ?_
    show Go p e below s _ _ _ T8 (mkF m 62 #[.val (.ref v0), .val (.long v1), .second, .val (.long (own_sh 9 v1)), .second] [(.int (Int32.ofNat (xs ++ own_pre 9 v1).length)), (.ref v0), (.ref dd)])
    refine G_dupX1 X8 hx (pc' := 63) rfl (hb hby d_varint_62) rfl rfl ?_
    refine G_iconst X8 hx (pc' := 64) rfl (hb hby d_varint_63) (z := (1 : Int32)) rfl ?_
    refine G_iadd X8 hx (pc' := 65) rfl (hb hby d_varint_64)  ?_
    obtain ⟨T9, h9, X9, e9, W9, st9⟩ := putF X8 hx hZ hown (host := "") (Or.inl (hw _ (List.mem_of_getElem? (i := 17) rfl))) Via.refl e8 FS9 FE9 (Or.inl (hw _ (List.mem_of_getElem? (i := 18) rfl))) (hw _ (List.mem_of_getElem? (i := 1) rfl)) (ty := .int) (by decide) rfl rfl (g := (mkF m 65 #[.val (.ref v0), .val (.long v1), .second, .val (.long (own_sh 9 v1)), .second] [(.int ((Int32.ofNat (xs ++ own_pre 9 v1).length) + (1 : Int32))), (.ref v0), (.int (Int32.ofNat (xs ++ own_pre 9 v1).length)), (.ref dd)])) rfl rfl (hb hby d_varint_65)
    refine Go.st st9 ?_
    have F_v0_w9 := FS9.same W9
    have E_v0_9 := FE9.wr W9
    have F_v0_bytes_9 := FB9.other W9 (Or.inr (slot_ne (Or.inl (hw _ (List.mem_of_getElem? (i := 11) rfl))) (Or.inl (hw _ (List.mem_of_getElem? (i := 18) rfl))) (by decide) (t := (.array .byte)) (t' := .int) (by decide) (by decide)))
    have A_dd_9 := FA9.other W9 (Ne.symm ne_v0_dd)
    have K_9 : Keep h0 h9 [v0, dd] := Kj9.wr W9 (Or.inl (List.mem_of_getElem? (i := 0) rfl))
    have Z_9 : n0 ≤ h9.size := Nat.le_trans Z0 K_9.1
    have N9 := Fr.snoc X9 Nj9 g_v0
    clear FE9 FB9 FS9 FA9 W9 st9
    obtain ⟨G9, Y9, M9⟩ : ∃ L, Stand p l e ({ frames := 1, cells := 0, slots := 0, locals := 13 } : Room) s m #[(.ref v0), (.long v1)] below meth c T9 L 0 0 ∧ Fr n0 L := ⟨_, X9, N9⟩
    clear X9 N9
    show Go p e below s _ _ _ T9 (mkF m 68 #[.val (.ref v0), .val (.long v1), .second, .val (.long (own_sh 9 v1)), .second] [(.int (Int32.ofNat (xs ++ own_pre 9 v1).length)), (.ref dd)])
    refine G_lloadN Y9 hx (pc' := 69) rfl (hb hby d_varint_68) rfl ?_
    refine G_l2i Y9 hx (pc' := 70) rfl (hb hby d_varint_69)  ?_
    refine G_i2b Y9 hx (pc' := 71) rfl (hb hby d_varint_70)  ?_
    obtain ⟨T10, h10, X10, e10, W10, A10, st10⟩ := stABn Y9 hx hZ e9 A_dd_9 (j := (Int32.ofNat (xs ++ own_pre 9 v1).length)) (own_i1 hx_ (by decide : 9 ≤ 9)) (own_i2 hl hx_ (by decide : 9 ≤ 9)) (g := (mkF m 71 #[.val (.ref v0), .val (.long v1), .second, .val (.long (own_sh 9 v1)), .second] [(.int (((own_sh 9 v1).toInt32).toInt8.toInt32)), (.int (Int32.ofNat (xs ++ own_pre 9 v1).length)), (.ref dd)])) rfl rfl (hb hby d_varint_71)
    refine Go.st st10 ?_
    have E_v0_10 := E_v0_9.wr W10
    have F_v0_bytes_10 := F_v0_bytes_9.other W10 (Or.inl ne_v0_dd)
    have F_v0_size_10 := F_v0_w9.other W10 (Or.inl ne_v0_dd)
    have A_dd_10 : AI Z h10 dd .byte (((xs ++ own_pre 9 v1) ++ rs.drop 9).set (Int32.ofNat (xs ++ own_pre 9 v1).length).toNatClampNeg (((own_sh 9 v1).toInt32).toInt8.toInt32)) := A10
    have K_10 : Keep h0 h10 [v0, dd] := K_9.wr W10 (Or.inl (List.mem_of_getElem? (i := 1) rfl))
    have Z_10 : n0 ≤ h10.size := Nat.le_trans Z0 K_10.1
    have N10 := Fr.snoc X10 M9 g_dd
    clear E_v0_9 F_v0_bytes_9 A_dd_9 F_v0_w9 W10 st10 A10
    obtain ⟨G10, Y10, M10⟩ : ∃ L, Stand p l e ({ frames := 1, cells := 0, slots := 0, locals := 13 } : Room) s m #[(.ref v0), (.long v1)] below meth c T10 L 0 0 ∧ Fr n0 L := ⟨_, X10, N10⟩
    clear X10 N10
    show Go p e below s _ _ _ T10 (mkF m 72 #[.val (.ref v0), .val (.long v1), .second, .val (.long (own_sh 9 v1)), .second] [])
    have hn : own_n v1 = 9 := own_n_9 hg (by have u := own_U0 v1; omega)
    have SL : Fld Z h10 v0 "com/example/muster/muster/Protobuf$Writer" "size" "I" (.int (Int32.ofNat (xs ++ own_enc v1).length)) := own_c4 hn ▸ F_v0_size_10
    have AL : AI Z h10 dd .byte ((xs ++ own_enc v1) ++ rs.drop (own_enc v1).length) := own_c3 hl hx_ (by decide : 9 ≤ 9) hn ▸ A_dd_10
    refine Go.fin Y10 hlk (v := none) (fun _ => rfl) (by decide) (by decide) ?_ (fun fs hr => Y10.returnOut hx Bd.returns (hb hby d_varint_72) hr)
    show Q_varint Z v0 v1 dd xs rs h0 n0 _ T10.heap _
    rw [e10]
    exact ⟨rfl, M10, K_10, E_v0_10, F_v0_bytes_10, SL, AL⟩
  have J8 : ∀ (T : State) (h : Heap) (L : List Loc) (X : Stand p l e ({ frames := 1, cells := 0, slots := 0, locals := 13 } : Room) s m #[(.ref v0), (.long v1)] below meth c T L 0 0) (e1 : T.heap = h) (N : Fr n0 L) (K : Keep h0 h [v0, dd]) (Zq : n0 ≤ h.size) (FE : Exa Z h v0 "com/example/muster/muster/Protobuf$Writer") (FB : Fld Z h v0 "com/example/muster/muster/Protobuf$Writer" "bytes" "[B" (.ref dd)) (FS : Fld Z h v0 "com/example/muster/muster/Protobuf$Writer" "size" "I" (.int (Int32.ofNat (xs ++ own_pre 8 v1).length))) (FA : AI Z h dd .byte ((xs ++ own_pre 8 v1) ++ rs.drop 8)) (hg : 72057594037927936 ≤ own_U v1), Go p e below s ({ frames := 1, cells := 0, slots := 0, locals := 13 } : Room).cells ({ frames := 1, cells := 0, slots := 0, locals := 13 } : Room).slots (Q_varint Z v0 v1 dd xs rs h0 n0) T (mkF m 8 #[.val (.ref v0), .val (.long v1), .second, .val (.long (own_sh 8 v1)), .second] []) := by
    intro Tj8 hj8 Lj8 Xj8 ej8 Nj8 Kj8 Zj8 FE8 FB8 FS8 FA8 hg
    refine G_lloadN Xj8 hx (pc' := 9) rfl (hb hby d_varint_8) rfl ?_
    refine G_ldc2 Xj8 hx (pc' := 12) rfl hown (mvT hZ (hw _ (List.mem_of_getElem? (i := 48) rfl))) (hb hby d_varint_9) ?_
    refine G_land Xj8 hx (pc' := 13) rfl (hb hby d_varint_12)  ?_
    refine G_lconst Xj8 hx (pc' := 14) rfl (hb hby d_varint_13) (z := (0 : Int64)) rfl ?_
    refine G_lcmp Xj8 hx (pc' := 15) rfl (hb hby d_varint_14)  ?_
    by_cases hc15_1 : ((own_sh 8 v1) &&& (-128 : Int64)) = (0 : Int64)
    · refine G_ifYes Xj8 hx (pc' := 53) (hb hby d_varint_15) ((if0 _ _).trans (teq ((lw_eq _ _).2 hc15_1)).1) (by decide) (by decide) ?_
      refine G_aloadN Xj8 hx (pc' := 54) rfl (hb hby d_varint_53) rfl rfl ?_
      obtain ⟨T11, X11, e11, st11⟩ := getF Xj8 hx hZ hown (host := "") (Or.inl (hw _ (List.mem_of_getElem? (i := 10) rfl))) Via.refl ej8 FB8 (g := (mkF m 54 #[.val (.ref v0), .val (.long v1), .second, .val (.long (own_sh 8 v1)), .second] [(.ref v0)])) rfl rfl (hb hby d_varint_54)
      refine Go.st st11 ?_
      show Go p e below s _ _ _ T11 (mkF m 57 #[.val (.ref v0), .val (.long v1), .second, .val (.long (own_sh 8 v1)), .second] [(.ref dd)])
      refine G_aloadN X11 hx (pc' := 58) rfl (hb hby d_varint_57) rfl rfl ?_
      refine G_dup X11 hx (pc' := 59) rfl (hb hby d_varint_58) rfl ?_
      obtain ⟨T12, X12, e12, st12⟩ := getF X11 hx hZ hown (host := "") (Or.inl (hw _ (List.mem_of_getElem? (i := 17) rfl))) Via.refl e11 FS8 (g := (mkF m 59 #[.val (.ref v0), .val (.long v1), .second, .val (.long (own_sh 8 v1)), .second] [(.ref v0), (.ref v0), (.ref dd)])) rfl rfl (hb hby d_varint_59)
      refine Go.st st12 ?_
      show Go p e below s _ _ _ T12 (mkF m 62 #[.val (.ref v0), .val (.long v1), .second, .val (.long (own_sh 8 v1)), .second] [(.int (Int32.ofNat (xs ++ own_pre 8 v1).length)), (.ref v0), (.ref dd)])
      refine G_dupX1 X12 hx (pc' := 63) rfl (hb hby d_varint_62) rfl rfl ?_
      refine G_iconst X12 hx (pc' := 64) rfl (hb hby d_varint_63) (z := (1 : Int32)) rfl ?_
      refine G_iadd X12 hx (pc' := 65) rfl (hb hby d_varint_64)  ?_
      obtain ⟨T13, h13, X13, e13, W13, st13⟩ := putF X12 hx hZ hown (host := "") (Or.inl (hw _ (List.mem_of_getElem? (i := 17) rfl))) Via.refl e12 FS8 FE8 (Or.inl (hw _ (List.mem_of_getElem? (i := 18) rfl))) (hw _ (List.mem_of_getElem? (i := 1) rfl)) (ty := .int) (by decide) rfl rfl (g := (mkF m 65 #[.val (.ref v0), .val (.long v1), .second, .val (.long (own_sh 8 v1)), .second] [(.int ((Int32.ofNat (xs ++ own_pre 8 v1).length) + (1 : Int32))), (.ref v0), (.int (Int32.ofNat (xs ++ own_pre 8 v1).length)), (.ref dd)])) rfl rfl (hb hby d_varint_65)
      refine Go.st st13 ?_
      have F_v0_w13 := FS8.same W13
      have E_v0_13 := FE8.wr W13
      have F_v0_bytes_13 := FB8.other W13 (Or.inr (slot_ne (Or.inl (hw _ (List.mem_of_getElem? (i := 11) rfl))) (Or.inl (hw _ (List.mem_of_getElem? (i := 18) rfl))) (by decide) (t := (.array .byte)) (t' := .int) (by decide) (by decide)))
      have A_dd_13 := FA8.other W13 (Ne.symm ne_v0_dd)
      have K_13 : Keep h0 h13 [v0, dd] := Kj8.wr W13 (Or.inl (List.mem_of_getElem? (i := 0) rfl))
      have Z_13 : n0 ≤ h13.size := Nat.le_trans Z0 K_13.1
      have N13 := Fr.snoc X13 Nj8 g_v0
      clear FE8 FB8 FS8 FA8 W13 st13
      obtain ⟨G13, Y13, M13⟩ : ∃ L, Stand p l e ({ frames := 1, cells := 0, slots := 0, locals := 13 } : Room) s m #[(.ref v0), (.long v1)] below meth c T13 L 0 0 ∧ Fr n0 L := ⟨_, X13, N13⟩
      clear X13 N13
      show Go p e below s _ _ _ T13 (mkF m 68 #[.val (.ref v0), .val (.long v1), .second, .val (.long (own_sh 8 v1)), .second] [(.int (Int32.ofNat (xs ++ own_pre 8 v1).length)), (.ref dd)])
      refine G_lloadN Y13 hx (pc' := 69) rfl (hb hby d_varint_68) rfl ?_
      refine G_l2i Y13 hx (pc' := 70) rfl (hb hby d_varint_69)  ?_
      refine G_i2b Y13 hx (pc' := 71) rfl (hb hby d_varint_70)  ?_
      obtain ⟨T14, h14, X14, e14, W14, A14, st14⟩ := stABn Y13 hx hZ e13 A_dd_13 (j := (Int32.ofNat (xs ++ own_pre 8 v1).length)) (own_i1 hx_ (by decide : 8 ≤ 9)) (own_i2 hl hx_ (by decide : 8 ≤ 9)) (g := (mkF m 71 #[.val (.ref v0), .val (.long v1), .second, .val (.long (own_sh 8 v1)), .second] [(.int (((own_sh 8 v1).toInt32).toInt8.toInt32)), (.int (Int32.ofNat (xs ++ own_pre 8 v1).length)), (.ref dd)])) rfl rfl (hb hby d_varint_71)
      refine Go.st st14 ?_
      have E_v0_14 := E_v0_13.wr W14
      have F_v0_bytes_14 := F_v0_bytes_13.other W14 (Or.inl ne_v0_dd)
      have F_v0_size_14 := F_v0_w13.other W14 (Or.inl ne_v0_dd)
      have A_dd_14 : AI Z h14 dd .byte (((xs ++ own_pre 8 v1) ++ rs.drop 8).set (Int32.ofNat (xs ++ own_pre 8 v1).length).toNatClampNeg (((own_sh 8 v1).toInt32).toInt8.toInt32)) := A14
      have K_14 : Keep h0 h14 [v0, dd] := K_13.wr W14 (Or.inl (List.mem_of_getElem? (i := 1) rfl))
      have Z_14 : n0 ≤ h14.size := Nat.le_trans Z0 K_14.1
      have N14 := Fr.snoc X14 M13 g_dd
      clear E_v0_13 F_v0_bytes_13 A_dd_13 F_v0_w13 W14 st14 A14
      obtain ⟨G14, Y14, M14⟩ : ∃ L, Stand p l e ({ frames := 1, cells := 0, slots := 0, locals := 13 } : Room) s m #[(.ref v0), (.long v1)] below meth c T14 L 0 0 ∧ Fr n0 L := ⟨_, X14, N14⟩
      clear X14 N14
      show Go p e below s _ _ _ T14 (mkF m 72 #[.val (.ref v0), .val (.long v1), .second, .val (.long (own_sh 8 v1)), .second] [])
      have hn : own_n v1 = 8 := own_n_8 hg ((own_t8 v1).1 hc15_1)
      have SL : Fld Z h14 v0 "com/example/muster/muster/Protobuf$Writer" "size" "I" (.int (Int32.ofNat (xs ++ own_enc v1).length)) := own_c4 hn ▸ F_v0_size_14
      have AL : AI Z h14 dd .byte ((xs ++ own_enc v1) ++ rs.drop (own_enc v1).length) := own_c3 hl hx_ (by decide : 8 ≤ 9) hn ▸ A_dd_14
      refine Go.fin Y14 hlk (v := none) (fun _ => rfl) (by decide) (by decide) ?_ (fun fs hr => Y14.returnOut hx Bd.returns (hb hby d_varint_72) hr)
      show Q_varint Z v0 v1 dd xs rs h0 n0 _ T14.heap _
      rw [e14]
      exact ⟨rfl, M14, K_14, E_v0_14, F_v0_bytes_14, SL, AL⟩
    · refine G_ifNo Xj8 hx (pc' := 18) rfl (hb hby d_varint_15) ((if0 _ _).trans (feq (fun q => hc15_1 ((lw_eq _ _).1 q))).1) ?_
      refine G_aloadN Xj8 hx (pc' := 19) rfl (hb hby d_varint_18) rfl rfl ?_
      obtain ⟨T15, X15, e15, st15⟩ := getF Xj8 hx hZ hown (host := "") (Or.inl (hw _ (List.mem_of_getElem? (i := 10) rfl))) Via.refl ej8 FB8 (g := (mkF m 19 #[.val (.ref v0), .val (.long v1), .second, .val (.long (own_sh 8 v1)), .second] [(.ref v0)])) rfl rfl (hb hby d_varint_19)
      refine Go.st st15 ?_
      show Go p e below s _ _ _ T15 (mkF m 22 #[.val (.ref v0), .val (.long v1), .second, .val (.long (own_sh 8 v1)), .second] [(.ref dd)])
      refine G_aloadN X15 hx (pc' := 23) rfl (hb hby d_varint_22) rfl rfl ?_
      refine G_dup X15 hx (pc' := 24) rfl (hb hby d_varint_23) rfl ?_
      obtain ⟨T16, X16, e16, st16⟩ := getF X15 hx hZ hown (host := "") (Or.inl (hw _ (List.mem_of_getElem? (i := 17) rfl))) Via.refl e15 FS8 (g := (mkF m 24 #[.val (.ref v0), .val (.long v1), .second, .val (.long (own_sh 8 v1)), .second] [(.ref v0), (.ref v0), (.ref dd)])) rfl rfl (hb hby d_varint_24)
      refine Go.st st16 ?_
      show Go p e below s _ _ _ T16 (mkF m 27 #[.val (.ref v0), .val (.long v1), .second, .val (.long (own_sh 8 v1)), .second] [(.int (Int32.ofNat (xs ++ own_pre 8 v1).length)), (.ref v0), (.ref dd)])
      refine G_dupX1 X16 hx (pc' := 28) rfl (hb hby d_varint_27) rfl rfl ?_
      refine G_iconst X16 hx (pc' := 29) rfl (hb hby d_varint_28) (z := (1 : Int32)) rfl ?_
      refine G_iadd X16 hx (pc' := 30) rfl (hb hby d_varint_29)  ?_
      obtain ⟨T17, h17, X17, e17, W17, st17⟩ := putF X16 hx hZ hown (host := "") (Or.inl (hw _ (List.mem_of_getElem? (i := 17) rfl))) Via.refl e16 FS8 FE8 (Or.inl (hw _ (List.mem_of_getElem? (i := 18) rfl))) (hw _ (List.mem_of_getElem? (i := 1) rfl)) (ty := .int) (by decide) rfl rfl (g := (mkF m 30 #[.val (.ref v0), .val (.long v1), .second, .val (.long (own_sh 8 v1)), .second] [(.int ((Int32.ofNat (xs ++ own_pre 8 v1).length) + (1 : Int32))), (.ref v0), (.int (Int32.ofNat (xs ++ own_pre 8 v1).length)), (.ref dd)])) rfl rfl (hb hby d_varint_30)
      refine Go.st st17 ?_
      have F_v0_w17 := FS8.same W17
      have E_v0_17 := FE8.wr W17
      have F_v0_bytes_17 := FB8.other W17 (Or.inr (slot_ne (Or.inl (hw _ (List.mem_of_getElem? (i := 11) rfl))) (Or.inl (hw _ (List.mem_of_getElem? (i := 18) rfl))) (by decide) (t := (.array .byte)) (t' := .int) (by decide) (by decide)))
      have A_dd_17 := FA8.other W17 (Ne.symm ne_v0_dd)
      have K_17 : Keep h0 h17 [v0, dd] := Kj8.wr W17 (Or.inl (List.mem_of_getElem? (i := 0) rfl))
      have Z_17 : n0 ≤ h17.size := Nat.le_trans Z0 K_17.1
      have N17 := Fr.snoc X17 Nj8 g_v0
      clear FE8 FB8 FS8 FA8 W17 st17
      obtain ⟨G17, Y17, M17⟩ : ∃ L, Stand p l e ({ frames := 1, cells := 0, slots := 0, locals := 13 } : Room) s m #[(.ref v0), (.long v1)] below meth c T17 L 0 0 ∧ Fr n0 L := ⟨_, X17, N17⟩
      clear X17 N17
      show Go p e below s _ _ _ T17 (mkF m 33 #[.val (.ref v0), .val (.long v1), .second, .val (.long (own_sh 8 v1)), .second] [(.int (Int32.ofNat (xs ++ own_pre 8 v1).length)), (.ref dd)])
      refine G_lloadN Y17 hx (pc' := 34) rfl (hb hby d_varint_33) rfl ?_
      refine G_ldc2 Y17 hx (pc' := 37) rfl hown (mvT hZ (hw _ (List.mem_of_getElem? (i := 65) rfl))) (hb hby d_varint_34) ?_
      refine G_land Y17 hx (pc' := 38) rfl (hb hby d_varint_37)  ?_
      refine G_ldc2 Y17 hx (pc' := 41) rfl hown (mvT hZ (hw _ (List.mem_of_getElem? (i := 66) rfl))) (hb hby d_varint_38) ?_
      refine G_lor Y17 hx (pc' := 42) rfl (hb hby d_varint_41)  ?_
      refine G_l2i Y17 hx (pc' := 43) rfl (hb hby d_varint_42)  ?_
      refine G_i2b Y17 hx (pc' := 44) rfl (hb hby d_varint_43)  ?_
      obtain ⟨T18, h18, X18, e18, W18, A18, st18⟩ := stABn Y17 hx hZ e17 A_dd_17 (j := (Int32.ofNat (xs ++ own_pre 8 v1).length)) (own_i1 hx_ (by decide : 8 ≤ 9)) (own_i2 hl hx_ (by decide : 8 ≤ 9)) (g := (mkF m 44 #[.val (.ref v0), .val (.long v1), .second, .val (.long (own_sh 8 v1)), .second] [(.int (((((own_sh 8 v1) &&& (127 : Int64)) ||| (128 : Int64)).toInt32).toInt8.toInt32)), (.int (Int32.ofNat (xs ++ own_pre 8 v1).length)), (.ref dd)])) rfl rfl (hb hby d_varint_44)
      refine Go.st st18 ?_
      have E_v0_18 := E_v0_17.wr W18
      have F_v0_bytes_18 := F_v0_bytes_17.other W18 (Or.inl ne_v0_dd)
      have F_v0_size_18 := F_v0_w17.other W18 (Or.inl ne_v0_dd)
      have A_dd_18 : AI Z h18 dd .byte (((xs ++ own_pre 8 v1) ++ rs.drop 8).set (Int32.ofNat (xs ++ own_pre 8 v1).length).toNatClampNeg (((((own_sh 8 v1) &&& (127 : Int64)) ||| (128 : Int64)).toInt32).toInt8.toInt32)) := A18
      have K_18 : Keep h0 h18 [v0, dd] := K_17.wr W18 (Or.inl (List.mem_of_getElem? (i := 1) rfl))
      have Z_18 : n0 ≤ h18.size := Nat.le_trans Z0 K_18.1
      have N18 := Fr.snoc X18 M17 g_dd
      clear E_v0_17 F_v0_bytes_17 A_dd_17 F_v0_w17 W18 st18 A18
      obtain ⟨G18, Y18, M18⟩ : ∃ L, Stand p l e ({ frames := 1, cells := 0, slots := 0, locals := 13 } : Room) s m #[(.ref v0), (.long v1)] below meth c T18 L 0 0 ∧ Fr n0 L := ⟨_, X18, N18⟩
      clear X18 N18
      show Go p e below s _ _ _ T18 (mkF m 45 #[.val (.ref v0), .val (.long v1), .second, .val (.long (own_sh 8 v1)), .second] [])
      refine G_lloadN Y18 hx (pc' := 46) rfl (hb hby d_varint_45) rfl ?_
      refine G_bipush Y18 hx (pc' := 48) rfl (hb hby d_varint_46) (z := (7 : Int32)) rfl ?_
      refine G_lushr Y18 hx (pc' := 49) rfl (hb hby d_varint_48)  ?_
      refine G_lstoreN Y18 hx (pc' := 50) rfl (hb hby d_varint_49) (L' := #[.val (.ref v0), .val (.long v1), .second, .val (.long (((own_sh 8 v1).toUInt64 >>> ((7 : Int32) &&& 0x3f).toInt64.toUInt64).toInt64)), .second]) rfl ?_
      refine G_goto Y18 hx (pc' := 8) (hb hby d_varint_50)  (by decide) (by decide) ?_
      have hq9 : 9223372036854775808 ≤ own_U v1 := by have z := mt (own_t8 v1).2 hc15_1; omega
      have SF9 : Fld Z h18 v0 "com/example/muster/muster/Protobuf$Writer" "size" "I" (.int (Int32.ofNat (xs ++ own_pre 9 v1).length)) := own_c2 ▸ F_v0_size_18
      have AF9 : AI Z h18 dd .byte ((xs ++ own_pre 9 v1) ++ rs.drop 9) := own_c1 hl hx_ (by decide : 8 ≤ 9) ▸ A_dd_18
      exact J9 T18 _ _ Y18 e18 M18 K_18 Z_18 E_v0_18 F_v0_bytes_18 SF9 AF9 hq9
  have J7 : ∀ (T : State) (h : Heap) (L : List Loc) (X : Stand p l e ({ frames := 1, cells := 0, slots := 0, locals := 13 } : Room) s m #[(.ref v0), (.long v1)] below meth c T L 0 0) (e1 : T.heap = h) (N : Fr n0 L) (K : Keep h0 h [v0, dd]) (Zq : n0 ≤ h.size) (FE : Exa Z h v0 "com/example/muster/muster/Protobuf$Writer") (FB : Fld Z h v0 "com/example/muster/muster/Protobuf$Writer" "bytes" "[B" (.ref dd)) (FS : Fld Z h v0 "com/example/muster/muster/Protobuf$Writer" "size" "I" (.int (Int32.ofNat (xs ++ own_pre 7 v1).length))) (FA : AI Z h dd .byte ((xs ++ own_pre 7 v1) ++ rs.drop 7)) (hg : 562949953421312 ≤ own_U v1), Go p e below s ({ frames := 1, cells := 0, slots := 0, locals := 13 } : Room).cells ({ frames := 1, cells := 0, slots := 0, locals := 13 } : Room).slots (Q_varint Z v0 v1 dd xs rs h0 n0) T (mkF m 8 #[.val (.ref v0), .val (.long v1), .second, .val (.long (own_sh 7 v1)), .second] []) := by
    intro Tj7 hj7 Lj7 Xj7 ej7 Nj7 Kj7 Zj7 FE7 FB7 FS7 FA7 hg
    refine G_lloadN Xj7 hx (pc' := 9) rfl (hb hby d_varint_8) rfl ?_
    refine G_ldc2 Xj7 hx (pc' := 12) rfl hown (mvT hZ (hw _ (List.mem_of_getElem? (i := 48) rfl))) (hb hby d_varint_9) ?_
    refine G_land Xj7 hx (pc' := 13) rfl (hb hby d_varint_12)  ?_
    refine G_lconst Xj7 hx (pc' := 14) rfl (hb hby d_varint_13) (z := (0 : Int64)) rfl ?_
    refine G_lcmp Xj7 hx (pc' := 15) rfl (hb hby d_varint_14)  ?_
    by_cases hc15_2 : ((own_sh 7 v1) &&& (-128 : Int64)) = (0 : Int64)
    · refine G_ifYes Xj7 hx (pc' := 53) (hb hby d_varint_15) ((if0 _ _).trans (teq ((lw_eq _ _).2 hc15_2)).1) (by decide) (by decide) ?_
      refine G_aloadN Xj7 hx (pc' := 54) rfl (hb hby d_varint_53) rfl rfl ?_
      obtain ⟨T19, X19, e19, st19⟩ := getF Xj7 hx hZ hown (host := "") (Or.inl (hw _ (List.mem_of_getElem? (i := 10) rfl))) Via.refl ej7 FB7 (g := (mkF m 54 #[.val (.ref v0), .val (.long v1), .second, .val (.long (own_sh 7 v1)), .second] [(.ref v0)])) rfl rfl (hb hby d_varint_54)
      refine Go.st st19 ?_
      show Go p e below s _ _ _ T19 (mkF m 57 #[.val (.ref v0), .val (.long v1), .second, .val (.long (own_sh 7 v1)), .second] [(.ref dd)])
      refine G_aloadN X19 hx (pc' := 58) rfl (hb hby d_varint_57) rfl rfl ?_
      refine G_dup X19 hx (pc' := 59) rfl (hb hby d_varint_58) rfl ?_
      obtain ⟨T20, X20, e20, st20⟩ := getF X19 hx hZ hown (host := "") (Or.inl (hw _ (List.mem_of_getElem? (i := 17) rfl))) Via.refl e19 FS7 (g := (mkF m 59 #[.val (.ref v0), .val (.long v1), .second, .val (.long (own_sh 7 v1)), .second] [(.ref v0), (.ref v0), (.ref dd)])) rfl rfl (hb hby d_varint_59)
      refine Go.st st20 ?_
      show Go p e below s _ _ _ T20 (mkF m 62 #[.val (.ref v0), .val (.long v1), .second, .val (.long (own_sh 7 v1)), .second] [(.int (Int32.ofNat (xs ++ own_pre 7 v1).length)), (.ref v0), (.ref dd)])
      refine G_dupX1 X20 hx (pc' := 63) rfl (hb hby d_varint_62) rfl rfl ?_
      refine G_iconst X20 hx (pc' := 64) rfl (hb hby d_varint_63) (z := (1 : Int32)) rfl ?_
      refine G_iadd X20 hx (pc' := 65) rfl (hb hby d_varint_64)  ?_
      obtain ⟨T21, h21, X21, e21, W21, st21⟩ := putF X20 hx hZ hown (host := "") (Or.inl (hw _ (List.mem_of_getElem? (i := 17) rfl))) Via.refl e20 FS7 FE7 (Or.inl (hw _ (List.mem_of_getElem? (i := 18) rfl))) (hw _ (List.mem_of_getElem? (i := 1) rfl)) (ty := .int) (by decide) rfl rfl (g := (mkF m 65 #[.val (.ref v0), .val (.long v1), .second, .val (.long (own_sh 7 v1)), .second] [(.int ((Int32.ofNat (xs ++ own_pre 7 v1).length) + (1 : Int32))), (.ref v0), (.int (Int32.ofNat (xs ++ own_pre 7 v1).length)), (.ref dd)])) rfl rfl (hb hby d_varint_65)
      refine Go.st st21 ?_
      have F_v0_w21 := FS7.same W21
      have E_v0_21 := FE7.wr W21
      have F_v0_bytes_21 := FB7.other W21 (Or.inr (slot_ne (Or.inl (hw _ (List.mem_of_getElem? (i := 11) rfl))) (Or.inl (hw _ (List.mem_of_getElem? (i := 18) rfl))) (by decide) (t := (.array .byte)) (t' := .int) (by decide) (by decide)))
      have A_dd_21 := FA7.other W21 (Ne.symm ne_v0_dd)
      have K_21 : Keep h0 h21 [v0, dd] := Kj7.wr W21 (Or.inl (List.mem_of_getElem? (i := 0) rfl))
      have Z_21 : n0 ≤ h21.size := Nat.le_trans Z0 K_21.1
      have N21 := Fr.snoc X21 Nj7 g_v0
      clear FE7 FB7 FS7 FA7 W21 st21
      obtain ⟨G21, Y21, M21⟩ : ∃ L, Stand p l e ({ frames := 1, cells := 0, slots := 0, locals := 13 } : Room) s m #[(.ref v0), (.long v1)] below meth c T21 L 0 0 ∧ Fr n0 L := ⟨_, X21, N21⟩
      clear X21 N21
      show Go p e below s _ _ _ T21 (mkF m 68 #[.val (.ref v0), .val (.long v1), .second, .val (.long (own_sh 7 v1)), .second] [(.int (Int32.ofNat (xs ++ own_pre 7 v1).length)), (.ref dd)])
      refine G_lloadN Y21 hx (pc' := 69) rfl (hb hby d_varint_68) rfl ?_
      refine G_l2i Y21 hx (pc' := 70) rfl (hb hby d_varint_69)  ?_
      refine G_i2b Y21 hx (pc' := 71) rfl (hb hby d_varint_70)  ?_
      obtain ⟨T22, h22, X22, e22, W22, A22, st22⟩ := stABn Y21 hx hZ e21 A_dd_21 (j := (Int32.ofNat (xs ++ own_pre 7 v1).length)) (own_i1 hx_ (by decide : 7 ≤ 9)) (own_i2 hl hx_ (by decide : 7 ≤ 9)) (g := (mkF m 71 #[.val (.ref v0), .val (.long v1), .second, .val (.long (own_sh 7 v1)), .second] [(.int (((own_sh 7 v1).toInt32).toInt8.toInt32)), (.int (Int32.ofNat (xs ++ own_pre 7 v1).length)), (.ref dd)])) rfl rfl (hb hby d_varint_71)
      refine Go.st st22 ?_
      have E_v0_22 := E_v0_21.wr W22
      have F_v0_bytes_22 := F_v0_bytes_21.other W22 (Or.inl ne_v0_dd)
      have F_v0_size_22 := F_v0_w21.other W22 (Or.inl ne_v0_dd)
      have A_dd_22 : AI Z h22 dd .byte (((xs ++ own_pre 7 v1) ++ rs.drop 7).set (Int32.ofNat (xs ++ own_pre 7 v1).length).toNatClampNeg (((own_sh 7 v1).toInt32).toInt8.toInt32)) := A22
      have K_22 : Keep h0 h22 [v0, dd] := K_21.wr W22 (Or.inl (List.mem_of_getElem? (i := 1) rfl))
      have Z_22 : n0 ≤ h22.size := Nat.le_trans Z0 K_22.1
      have N22 := Fr.snoc X22 M21 g_dd
      clear E_v0_21 F_v0_bytes_21 A_dd_21 F_v0_w21 W22 st22 A22
      obtain ⟨G22, Y22, M22⟩ : ∃ L, Stand p l e ({ frames := 1, cells := 0, slots := 0, locals := 13 } : Room) s m #[(.ref v0), (.long v1)] below meth c T22 L 0 0 ∧ Fr n0 L := ⟨_, X22, N22⟩
      clear X22 N22
      show Go p e below s _ _ _ T22 (mkF m 72 #[.val (.ref v0), .val (.long v1), .second, .val (.long (own_sh 7 v1)), .second] [])
      have hn : own_n v1 = 7 := own_n_7 hg ((own_t7 v1).1 hc15_2)
      have SL : Fld Z h22 v0 "com/example/muster/muster/Protobuf$Writer" "size" "I" (.int (Int32.ofNat (xs ++ own_enc v1).length)) := own_c4 hn ▸ F_v0_size_22
      have AL : AI Z h22 dd .byte ((xs ++ own_enc v1) ++ rs.drop (own_enc v1).length) := own_c3 hl hx_ (by decide : 7 ≤ 9) hn ▸ A_dd_22
      refine Go.fin Y22 hlk (v := none) (fun _ => rfl) (by decide) (by decide) ?_ (fun fs hr => Y22.returnOut hx Bd.returns (hb hby d_varint_72) hr)
      show Q_varint Z v0 v1 dd xs rs h0 n0 _ T22.heap _
      rw [e22]
      exact ⟨rfl, M22, K_22, E_v0_22, F_v0_bytes_22, SL, AL⟩
    · refine G_ifNo Xj7 hx (pc' := 18) rfl (hb hby d_varint_15) ((if0 _ _).trans (feq (fun q => hc15_2 ((lw_eq _ _).1 q))).1) ?_
      refine G_aloadN Xj7 hx (pc' := 19) rfl (hb hby d_varint_18) rfl rfl ?_
      obtain ⟨T23, X23, e23, st23⟩ := getF Xj7 hx hZ hown (host := "") (Or.inl (hw _ (List.mem_of_getElem? (i := 10) rfl))) Via.refl ej7 FB7 (g := (mkF m 19 #[.val (.ref v0), .val (.long v1), .second, .val (.long (own_sh 7 v1)), .second] [(.ref v0)])) rfl rfl (hb hby d_varint_19)
      refine Go.st st23 ?_
      show Go p e below s _ _ _ T23 (mkF m 22 #[.val (.ref v0), .val (.long v1), .second, .val (.long (own_sh 7 v1)), .second] [(.ref dd)])
      refine G_aloadN X23 hx (pc' := 23) rfl (hb hby d_varint_22) rfl rfl ?_
      refine G_dup X23 hx (pc' := 24) rfl (hb hby d_varint_23) rfl ?_
      obtain ⟨T24, X24, e24, st24⟩ := getF X23 hx hZ hown (host := "") (Or.inl (hw _ (List.mem_of_getElem? (i := 17) rfl))) Via.refl e23 FS7 (g := (mkF m 24 #[.val (.ref v0), .val (.long v1), .second, .val (.long (own_sh 7 v1)), .second] [(.ref v0), (.ref v0), (.ref dd)])) rfl rfl (hb hby d_varint_24)
      refine Go.st st24 ?_
      show Go p e below s _ _ _ T24 (mkF m 27 #[.val (.ref v0), .val (.long v1), .second, .val (.long (own_sh 7 v1)), .second] [(.int (Int32.ofNat (xs ++ own_pre 7 v1).length)), (.ref v0), (.ref dd)])
      refine G_dupX1 X24 hx (pc' := 28) rfl (hb hby d_varint_27) rfl rfl ?_
      refine G_iconst X24 hx (pc' := 29) rfl (hb hby d_varint_28) (z := (1 : Int32)) rfl ?_
      refine G_iadd X24 hx (pc' := 30) rfl (hb hby d_varint_29)  ?_
      obtain ⟨T25, h25, X25, e25, W25, st25⟩ := putF X24 hx hZ hown (host := "") (Or.inl (hw _ (List.mem_of_getElem? (i := 17) rfl))) Via.refl e24 FS7 FE7 (Or.inl (hw _ (List.mem_of_getElem? (i := 18) rfl))) (hw _ (List.mem_of_getElem? (i := 1) rfl)) (ty := .int) (by decide) rfl rfl (g := (mkF m 30 #[.val (.ref v0), .val (.long v1), .second, .val (.long (own_sh 7 v1)), .second] [(.int ((Int32.ofNat (xs ++ own_pre 7 v1).length) + (1 : Int32))), (.ref v0), (.int (Int32.ofNat (xs ++ own_pre 7 v1).length)), (.ref dd)])) rfl rfl (hb hby d_varint_30)
      refine Go.st st25 ?_
      have F_v0_w25 := FS7.same W25
      have E_v0_25 := FE7.wr W25
      have F_v0_bytes_25 := FB7.other W25 (Or.inr (slot_ne (Or.inl (hw _ (List.mem_of_getElem? (i := 11) rfl))) (Or.inl (hw _ (List.mem_of_getElem? (i := 18) rfl))) (by decide) (t := (.array .byte)) (t' := .int) (by decide) (by decide)))
      have A_dd_25 := FA7.other W25 (Ne.symm ne_v0_dd)
      have K_25 : Keep h0 h25 [v0, dd] := Kj7.wr W25 (Or.inl (List.mem_of_getElem? (i := 0) rfl))
      have Z_25 : n0 ≤ h25.size := Nat.le_trans Z0 K_25.1
      have N25 := Fr.snoc X25 Nj7 g_v0
      clear FE7 FB7 FS7 FA7 W25 st25
      obtain ⟨G25, Y25, M25⟩ : ∃ L, Stand p l e ({ frames := 1, cells := 0, slots := 0, locals := 13 } : Room) s m #[(.ref v0), (.long v1)] below meth c T25 L 0 0 ∧ Fr n0 L := ⟨_, X25, N25⟩
      clear X25 N25
      show Go p e below s _ _ _ T25 (mkF m 33 #[.val (.ref v0), .val (.long v1), .second, .val (.long (own_sh 7 v1)), .second] [(.int (Int32.ofNat (xs ++ own_pre 7 v1).length)), (.ref dd)])
      refine G_lloadN Y25 hx (pc' := 34) rfl (hb hby d_varint_33) rfl ?_
      refine G_ldc2 Y25 hx (pc' := 37) rfl hown (mvT hZ (hw _ (List.mem_of_getElem? (i := 65) rfl))) (hb hby d_varint_34) ?_
      refine G_land Y25 hx (pc' := 38) rfl (hb hby d_varint_37)  ?_
      refine G_ldc2 Y25 hx (pc' := 41) rfl hown (mvT hZ (hw _ (List.mem_of_getElem? (i := 66) rfl))) (hb hby d_varint_38) ?_
      refine G_lor Y25 hx (pc' := 42) rfl (hb hby d_varint_41)  ?_
      refine G_l2i Y25 hx (pc' := 43) rfl (hb hby d_varint_42)  ?_
      refine G_i2b Y25 hx (pc' := 44) rfl (hb hby d_varint_43)  ?_
      obtain ⟨T26, h26, X26, e26, W26, A26, st26⟩ := stABn Y25 hx hZ e25 A_dd_25 (j := (Int32.ofNat (xs ++ own_pre 7 v1).length)) (own_i1 hx_ (by decide : 7 ≤ 9)) (own_i2 hl hx_ (by decide : 7 ≤ 9)) (g := (mkF m 44 #[.val (.ref v0), .val (.long v1), .second, .val (.long (own_sh 7 v1)), .second] [(.int (((((own_sh 7 v1) &&& (127 : Int64)) ||| (128 : Int64)).toInt32).toInt8.toInt32)), (.int (Int32.ofNat (xs ++ own_pre 7 v1).length)), (.ref dd)])) rfl rfl (hb hby d_varint_44)
      refine Go.st st26 ?_
      have E_v0_26 := E_v0_25.wr W26
      have F_v0_bytes_26 := F_v0_bytes_25.other W26 (Or.inl ne_v0_dd)
      have F_v0_size_26 := F_v0_w25.other W26 (Or.inl ne_v0_dd)
      have A_dd_26 : AI Z h26 dd .byte (((xs ++ own_pre 7 v1) ++ rs.drop 7).set (Int32.ofNat (xs ++ own_pre 7 v1).length).toNatClampNeg (((((own_sh 7 v1) &&& (127 : Int64)) ||| (128 : Int64)).toInt32).toInt8.toInt32)) := A26
      have K_26 : Keep h0 h26 [v0, dd] := K_25.wr W26 (Or.inl (List.mem_of_getElem? (i := 1) rfl))
      have Z_26 : n0 ≤ h26.size := Nat.le_trans Z0 K_26.1
      have N26 := Fr.snoc X26 M25 g_dd
      clear E_v0_25 F_v0_bytes_25 A_dd_25 F_v0_w25 W26 st26 A26
      obtain ⟨G26, Y26, M26⟩ : ∃ L, Stand p l e ({ frames := 1, cells := 0, slots := 0, locals := 13 } : Room) s m #[(.ref v0), (.long v1)] below meth c T26 L 0 0 ∧ Fr n0 L := ⟨_, X26, N26⟩
      clear X26 N26
      show Go p e below s _ _ _ T26 (mkF m 45 #[.val (.ref v0), .val (.long v1), .second, .val (.long (own_sh 7 v1)), .second] [])
      refine G_lloadN Y26 hx (pc' := 46) rfl (hb hby d_varint_45) rfl ?_
      refine G_bipush Y26 hx (pc' := 48) rfl (hb hby d_varint_46) (z := (7 : Int32)) rfl ?_
      refine G_lushr Y26 hx (pc' := 49) rfl (hb hby d_varint_48)  ?_
      refine G_lstoreN Y26 hx (pc' := 50) rfl (hb hby d_varint_49) (L' := #[.val (.ref v0), .val (.long v1), .second, .val (.long (((own_sh 7 v1).toUInt64 >>> ((7 : Int32) &&& 0x3f).toInt64.toUInt64).toInt64)), .second]) rfl ?_
      refine G_goto Y26 hx (pc' := 8) (hb hby d_varint_50)  (by decide) (by decide) ?_
      have hq8 : 72057594037927936 ≤ own_U v1 := by have z := mt (own_t7 v1).2 hc15_2; omega
      have SF8 : Fld Z h26 v0 "com/example/muster/muster/Protobuf$Writer" "size" "I" (.int (Int32.ofNat (xs ++ own_pre 8 v1).length)) := own_c2 ▸ F_v0_size_26
      have AF8 : AI Z h26 dd .byte ((xs ++ own_pre 8 v1) ++ rs.drop 8) := own_c1 hl hx_ (by decide : 7 ≤ 9) ▸ A_dd_26
      exact J8 T26 _ _ Y26 e26 M26 K_26 Z_26 E_v0_26 F_v0_bytes_26 SF8 AF8 hq8
  have J6 : ∀ (T : State) (h : Heap) (L : List Loc) (X : Stand p l e ({ frames := 1, cells := 0, slots := 0, locals := 13 } : Room) s m #[(.ref v0), (.long v1)] below meth c T L 0 0) (e1 : T.heap = h) (N : Fr n0 L) (K : Keep h0 h [v0, dd]) (Zq : n0 ≤ h.size) (FE : Exa Z h v0 "com/example/muster/muster/Protobuf$Writer") (FB : Fld Z h v0 "com/example/muster/muster/Protobuf$Writer" "bytes" "[B" (.ref dd)) (FS : Fld Z h v0 "com/example/muster/muster/Protobuf$Writer" "size" "I" (.int (Int32.ofNat (xs ++ own_pre 6 v1).length))) (FA : AI Z h dd .byte ((xs ++ own_pre 6 v1) ++ rs.drop 6)) (hg : 4398046511104 ≤ own_U v1), Go p e below s ({ frames := 1, cells := 0, slots := 0, locals := 13 } : Room).cells ({ frames := 1, cells := 0, slots := 0, locals := 13 } : Room).slots (Q_varint Z v0 v1 dd xs rs h0 n0) T (mkF m 8 #[.val (.ref v0), .val (.long v1), .second, .val (.long (own_sh 6 v1)), .second] []) := by
    intro Tj6 hj6 Lj6 Xj6 ej6 Nj6 Kj6 Zj6 FE6 FB6 FS6 FA6 hg
    refine G_lloadN Xj6 hx (pc' := 9) rfl (hb hby d_varint_8) rfl ?_
    refine G_ldc2 Xj6 hx (pc' := 12) rfl hown (mvT hZ (hw _ (List.mem_of_getElem? (i := 48) rfl))) (hb hby d_varint_9) ?_
    refine G_land Xj6 hx (pc' := 13) rfl (hb hby d_varint_12)  ?_
    refine G_lconst Xj6 hx (pc' := 14) rfl (hb hby d_varint_13) (z := (0 : Int64)) rfl ?_
    refine G_lcmp Xj6 hx (pc' := 15) rfl (hb hby d_varint_14)  ?_
    by_cases hc15_3 : ((own_sh 6 v1) &&& (-128 : Int64)) = (0 : Int64)
    · refine G_ifYes Xj6 hx (pc' := 53) (hb hby d_varint_15) ((if0 _ _).trans (teq ((lw_eq _ _).2 hc15_3)).1) (by decide) (by decide) ?_
      refine G_aloadN Xj6 hx (pc' := 54) rfl (hb hby d_varint_53) rfl rfl ?_
      obtain ⟨T27, X27, e27, st27⟩ := getF Xj6 hx hZ hown (host := "") (Or.inl (hw _ (List.mem_of_getElem? (i := 10) rfl))) Via.refl ej6 FB6 (g := (mkF m 54 #[.val (.ref v0), .val (.long v1), .second, .val (.long (own_sh 6 v1)), .second] [(.ref v0)])) rfl rfl (hb hby d_varint_54)
      refine Go.st st27 ?_
      show Go p e below s _ _ _ T27 (mkF m 57 #[.val (.ref v0), .val (.long v1), .second, .val (.long (own_sh 6 v1)), .second] [(.ref dd)])
      refine G_aloadN X27 hx (pc' := 58) rfl (hb hby d_varint_57) rfl rfl ?_
      refine G_dup X27 hx (pc' := 59) rfl (hb hby d_varint_58) rfl ?_
      obtain ⟨T28, X28, e28, st28⟩ := getF X27 hx hZ hown (host := "") (Or.inl (hw _ (List.mem_of_getElem? (i := 17) rfl))) Via.refl e27 FS6 (g := (mkF m 59 #[.val (.ref v0), .val (.long v1), .second, .val (.long (own_sh 6 v1)), .second] [(.ref v0), (.ref v0), (.ref dd)])) rfl rfl (hb hby d_varint_59)
      refine Go.st st28 ?_
      show Go p e below s _ _ _ T28 (mkF m 62 #[.val (.ref v0), .val (.long v1), .second, .val (.long (own_sh 6 v1)), .second] [(.int (Int32.ofNat (xs ++ own_pre 6 v1).length)), (.ref v0), (.ref dd)])
      refine G_dupX1 X28 hx (pc' := 63) rfl (hb hby d_varint_62) rfl rfl ?_
      refine G_iconst X28 hx (pc' := 64) rfl (hb hby d_varint_63) (z := (1 : Int32)) rfl ?_
      refine G_iadd X28 hx (pc' := 65) rfl (hb hby d_varint_64)  ?_
      obtain ⟨T29, h29, X29, e29, W29, st29⟩ := putF X28 hx hZ hown (host := "") (Or.inl (hw _ (List.mem_of_getElem? (i := 17) rfl))) Via.refl e28 FS6 FE6 (Or.inl (hw _ (List.mem_of_getElem? (i := 18) rfl))) (hw _ (List.mem_of_getElem? (i := 1) rfl)) (ty := .int) (by decide) rfl rfl (g := (mkF m 65 #[.val (.ref v0), .val (.long v1), .second, .val (.long (own_sh 6 v1)), .second] [(.int ((Int32.ofNat (xs ++ own_pre 6 v1).length) + (1 : Int32))), (.ref v0), (.int (Int32.ofNat (xs ++ own_pre 6 v1).length)), (.ref dd)])) rfl rfl (hb hby d_varint_65)
      refine Go.st st29 ?_
      have F_v0_w29 := FS6.same W29
      have E_v0_29 := FE6.wr W29
      have F_v0_bytes_29 := FB6.other W29 (Or.inr (slot_ne (Or.inl (hw _ (List.mem_of_getElem? (i := 11) rfl))) (Or.inl (hw _ (List.mem_of_getElem? (i := 18) rfl))) (by decide) (t := (.array .byte)) (t' := .int) (by decide) (by decide)))
      have A_dd_29 := FA6.other W29 (Ne.symm ne_v0_dd)
      have K_29 : Keep h0 h29 [v0, dd] := Kj6.wr W29 (Or.inl (List.mem_of_getElem? (i := 0) rfl))
      have Z_29 : n0 ≤ h29.size := Nat.le_trans Z0 K_29.1
      have N29 := Fr.snoc X29 Nj6 g_v0
      clear FE6 FB6 FS6 FA6 W29 st29
      obtain ⟨G29, Y29, M29⟩ : ∃ L, Stand p l e ({ frames := 1, cells := 0, slots := 0, locals := 13 } : Room) s m #[(.ref v0), (.long v1)] below meth c T29 L 0 0 ∧ Fr n0 L := ⟨_, X29, N29⟩
      clear X29 N29
      show Go p e below s _ _ _ T29 (mkF m 68 #[.val (.ref v0), .val (.long v1), .second, .val (.long (own_sh 6 v1)), .second] [(.int (Int32.ofNat (xs ++ own_pre 6 v1).length)), (.ref dd)])
      refine G_lloadN Y29 hx (pc' := 69) rfl (hb hby d_varint_68) rfl ?_
      refine G_l2i Y29 hx (pc' := 70) rfl (hb hby d_varint_69)  ?_
      refine G_i2b Y29 hx (pc' := 71) rfl (hb hby d_varint_70)  ?_
      obtain ⟨T30, h30, X30, e30, W30, A30, st30⟩ := stABn Y29 hx hZ e29 A_dd_29 (j := (Int32.ofNat (xs ++ own_pre 6 v1).length)) (own_i1 hx_ (by decide : 6 ≤ 9)) (own_i2 hl hx_ (by decide : 6 ≤ 9)) (g := (mkF m 71 #[.val (.ref v0), .val (.long v1), .second, .val (.long (own_sh 6 v1)), .second] [(.int (((own_sh 6 v1).toInt32).toInt8.toInt32)), (.int (Int32.ofNat (xs ++ own_pre 6 v1).length)), (.ref dd)])) rfl rfl (hb hby d_varint_71)
      refine Go.st st30 ?_
      have E_v0_30 := E_v0_29.wr W30
      have F_v0_bytes_30 := F_v0_bytes_29.other W30 (Or.inl ne_v0_dd)
      have F_v0_size_30 := F_v0_w29.other W30 (Or.inl ne_v0_dd)
      have A_dd_30 : AI Z h30 dd .byte (((xs ++ own_pre 6 v1) ++ rs.drop 6).set (Int32.ofNat (xs ++ own_pre 6 v1).length).toNatClampNeg (((own_sh 6 v1).toInt32).toInt8.toInt32)) := A30
      have K_30 : Keep h0 h30 [v0, dd] := K_29.wr W30 (Or.inl (List.mem_of_getElem? (i := 1) rfl))
      have Z_30 : n0 ≤ h30.size := Nat.le_trans Z0 K_30.1
      have N30 := Fr.snoc X30 M29 g_dd
      clear E_v0_29 F_v0_bytes_29 A_dd_29 F_v0_w29 W30 st30 A30
      obtain ⟨G30, Y30, M30⟩ : ∃ L, Stand p l e ({ frames := 1, cells := 0, slots := 0, locals := 13 } : Room) s m #[(.ref v0), (.long v1)] below meth c T30 L 0 0 ∧ Fr n0 L := ⟨_, X30, N30⟩
      clear X30 N30
      show Go p e below s _ _ _ T30 (mkF m 72 #[.val (.ref v0), .val (.long v1), .second, .val (.long (own_sh 6 v1)), .second] [])
      have hn : own_n v1 = 6 := own_n_6 hg ((own_t6 v1).1 hc15_3)
      have SL : Fld Z h30 v0 "com/example/muster/muster/Protobuf$Writer" "size" "I" (.int (Int32.ofNat (xs ++ own_enc v1).length)) := own_c4 hn ▸ F_v0_size_30
      have AL : AI Z h30 dd .byte ((xs ++ own_enc v1) ++ rs.drop (own_enc v1).length) := own_c3 hl hx_ (by decide : 6 ≤ 9) hn ▸ A_dd_30
      refine Go.fin Y30 hlk (v := none) (fun _ => rfl) (by decide) (by decide) ?_ (fun fs hr => Y30.returnOut hx Bd.returns (hb hby d_varint_72) hr)
      show Q_varint Z v0 v1 dd xs rs h0 n0 _ T30.heap _
      rw [e30]
      exact ⟨rfl, M30, K_30, E_v0_30, F_v0_bytes_30, SL, AL⟩
    · refine G_ifNo Xj6 hx (pc' := 18) rfl (hb hby d_varint_15) ((if0 _ _).trans (feq (fun q => hc15_3 ((lw_eq _ _).1 q))).1) ?_
      refine G_aloadN Xj6 hx (pc' := 19) rfl (hb hby d_varint_18) rfl rfl ?_
      obtain ⟨T31, X31, e31, st31⟩ := getF Xj6 hx hZ hown (host := "") (Or.inl (hw _ (List.mem_of_getElem? (i := 10) rfl))) Via.refl ej6 FB6 (g := (mkF m 19 #[.val (.ref v0), .val (.long v1), .second, .val (.long (own_sh 6 v1)), .second] [(.ref v0)])) rfl rfl (hb hby d_varint_19)
      refine Go.st st31 ?_
      show Go p e below s _ _ _ T31 (mkF m 22 #[.val (.ref v0), .val (.long v1), .second, .val (.long (own_sh 6 v1)), .second] [(.ref dd)])
      refine G_aloadN X31 hx (pc' := 23) rfl (hb hby d_varint_22) rfl rfl ?_
      refine G_dup X31 hx (pc' := 24) rfl (hb hby d_varint_23) rfl ?_
      obtain ⟨T32, X32, e32, st32⟩ := getF X31 hx hZ hown (host := "") (Or.inl (hw _ (List.mem_of_getElem? (i := 17) rfl))) Via.refl e31 FS6 (g := (mkF m 24 #[.val (.ref v0), .val (.long v1), .second, .val (.long (own_sh 6 v1)), .second] [(.ref v0), (.ref v0), (.ref dd)])) rfl rfl (hb hby d_varint_24)
      refine Go.st st32 ?_
      show Go p e below s _ _ _ T32 (mkF m 27 #[.val (.ref v0), .val (.long v1), .second, .val (.long (own_sh 6 v1)), .second] [(.int (Int32.ofNat (xs ++ own_pre 6 v1).length)), (.ref v0), (.ref dd)])
      refine G_dupX1 X32 hx (pc' := 28) rfl (hb hby d_varint_27) rfl rfl ?_
      refine G_iconst X32 hx (pc' := 29) rfl (hb hby d_varint_28) (z := (1 : Int32)) rfl ?_
      refine G_iadd X32 hx (pc' := 30) rfl (hb hby d_varint_29)  ?_
      obtain ⟨T33, h33, X33, e33, W33, st33⟩ := putF X32 hx hZ hown (host := "") (Or.inl (hw _ (List.mem_of_getElem? (i := 17) rfl))) Via.refl e32 FS6 FE6 (Or.inl (hw _ (List.mem_of_getElem? (i := 18) rfl))) (hw _ (List.mem_of_getElem? (i := 1) rfl)) (ty := .int) (by decide) rfl rfl (g := (mkF m 30 #[.val (.ref v0), .val (.long v1), .second, .val (.long (own_sh 6 v1)), .second] [(.int ((Int32.ofNat (xs ++ own_pre 6 v1).length) + (1 : Int32))), (.ref v0), (.int (Int32.ofNat (xs ++ own_pre 6 v1).length)), (.ref dd)])) rfl rfl (hb hby d_varint_30)
      refine Go.st st33 ?_
      have F_v0_w33 := FS6.same W33
      have E_v0_33 := FE6.wr W33
      have F_v0_bytes_33 := FB6.other W33 (Or.inr (slot_ne (Or.inl (hw _ (List.mem_of_getElem? (i := 11) rfl))) (Or.inl (hw _ (List.mem_of_getElem? (i := 18) rfl))) (by decide) (t := (.array .byte)) (t' := .int) (by decide) (by decide)))
      have A_dd_33 := FA6.other W33 (Ne.symm ne_v0_dd)
      have K_33 : Keep h0 h33 [v0, dd] := Kj6.wr W33 (Or.inl (List.mem_of_getElem? (i := 0) rfl))
      have Z_33 : n0 ≤ h33.size := Nat.le_trans Z0 K_33.1
      have N33 := Fr.snoc X33 Nj6 g_v0
      clear FE6 FB6 FS6 FA6 W33 st33
      obtain ⟨G33, Y33, M33⟩ : ∃ L, Stand p l e ({ frames := 1, cells := 0, slots := 0, locals := 13 } : Room) s m #[(.ref v0), (.long v1)] below meth c T33 L 0 0 ∧ Fr n0 L := ⟨_, X33, N33⟩
      clear X33 N33
      show Go p e below s _ _ _ T33 (mkF m 33 #[.val (.ref v0), .val (.long v1), .second, .val (.long (own_sh 6 v1)), .second] [(.int (Int32.ofNat (xs ++ own_pre 6 v1).length)), (.ref dd)])
      refine G_lloadN Y33 hx (pc' := 34) rfl (hb hby d_varint_33) rfl ?_
      refine G_ldc2 Y33 hx (pc' := 37) rfl hown (mvT hZ (hw _ (List.mem_of_getElem? (i := 65) rfl))) (hb hby d_varint_34) ?_
      refine G_land Y33 hx (pc' := 38) rfl (hb hby d_varint_37)  ?_
      refine G_ldc2 Y33 hx (pc' := 41) rfl hown (mvT hZ (hw _ (List.mem_of_getElem? (i := 66) rfl))) (hb hby d_varint_38) ?_
      refine G_lor Y33 hx (pc' := 42) rfl (hb hby d_varint_41)  ?_
      refine G_l2i Y33 hx (pc' := 43) rfl (hb hby d_varint_42)  ?_
      refine G_i2b Y33 hx (pc' := 44) rfl (hb hby d_varint_43)  ?_
      obtain ⟨T34, h34, X34, e34, W34, A34, st34⟩ := stABn Y33 hx hZ e33 A_dd_33 (j := (Int32.ofNat (xs ++ own_pre 6 v1).length)) (own_i1 hx_ (by decide : 6 ≤ 9)) (own_i2 hl hx_ (by decide : 6 ≤ 9)) (g := (mkF m 44 #[.val (.ref v0), .val (.long v1), .second, .val (.long (own_sh 6 v1)), .second] [(.int (((((own_sh 6 v1) &&& (127 : Int64)) ||| (128 : Int64)).toInt32).toInt8.toInt32)), (.int (Int32.ofNat (xs ++ own_pre 6 v1).length)), (.ref dd)])) rfl rfl (hb hby d_varint_44)
      refine Go.st st34 ?_
      have E_v0_34 := E_v0_33.wr W34
      have F_v0_bytes_34 := F_v0_bytes_33.other W34 (Or.inl ne_v0_dd)
      have F_v0_size_34 := F_v0_w33.other W34 (Or.inl ne_v0_dd)
      have A_dd_34 : AI Z h34 dd .byte (((xs ++ own_pre 6 v1) ++ rs.drop 6).set (Int32.ofNat (xs ++ own_pre 6 v1).length).toNatClampNeg (((((own_sh 6 v1) &&& (127 : Int64)) ||| (128 : Int64)).toInt32).toInt8.toInt32)) := A34
      have K_34 : Keep h0 h34 [v0, dd] := K_33.wr W34 (Or.inl (List.mem_of_getElem? (i := 1) rfl))
      have Z_34 : n0 ≤ h34.size := Nat.le_trans Z0 K_34.1
      have N34 := Fr.snoc X34 M33 g_dd
      clear E_v0_33 F_v0_bytes_33 A_dd_33 F_v0_w33 W34 st34 A34
      obtain ⟨G34, Y34, M34⟩ : ∃ L, Stand p l e ({ frames := 1, cells := 0, slots := 0, locals := 13 } : Room) s m #[(.ref v0), (.long v1)] below meth c T34 L 0 0 ∧ Fr n0 L := ⟨_, X34, N34⟩
      clear X34 N34
      show Go p e below s _ _ _ T34 (mkF m 45 #[.val (.ref v0), .val (.long v1), .second, .val (.long (own_sh 6 v1)), .second] [])
      refine G_lloadN Y34 hx (pc' := 46) rfl (hb hby d_varint_45) rfl ?_
      refine G_bipush Y34 hx (pc' := 48) rfl (hb hby d_varint_46) (z := (7 : Int32)) rfl ?_
      refine G_lushr Y34 hx (pc' := 49) rfl (hb hby d_varint_48)  ?_
      refine G_lstoreN Y34 hx (pc' := 50) rfl (hb hby d_varint_49) (L' := #[.val (.ref v0), .val (.long v1), .second, .val (.long (((own_sh 6 v1).toUInt64 >>> ((7 : Int32) &&& 0x3f).toInt64.toUInt64).toInt64)), .second]) rfl ?_
      refine G_goto Y34 hx (pc' := 8) (hb hby d_varint_50)  (by decide) (by decide) ?_
      have hq7 : 562949953421312 ≤ own_U v1 := by have z := mt (own_t6 v1).2 hc15_3; omega
      have SF7 : Fld Z h34 v0 "com/example/muster/muster/Protobuf$Writer" "size" "I" (.int (Int32.ofNat (xs ++ own_pre 7 v1).length)) := own_c2 ▸ F_v0_size_34
      have AF7 : AI Z h34 dd .byte ((xs ++ own_pre 7 v1) ++ rs.drop 7) := own_c1 hl hx_ (by decide : 6 ≤ 9) ▸ A_dd_34
      exact J7 T34 _ _ Y34 e34 M34 K_34 Z_34 E_v0_34 F_v0_bytes_34 SF7 AF7 hq7
  have J5 : ∀ (T : State) (h : Heap) (L : List Loc) (X : Stand p l e ({ frames := 1, cells := 0, slots := 0, locals := 13 } : Room) s m #[(.ref v0), (.long v1)] below meth c T L 0 0) (e1 : T.heap = h) (N : Fr n0 L) (K : Keep h0 h [v0, dd]) (Zq : n0 ≤ h.size) (FE : Exa Z h v0 "com/example/muster/muster/Protobuf$Writer") (FB : Fld Z h v0 "com/example/muster/muster/Protobuf$Writer" "bytes" "[B" (.ref dd)) (FS : Fld Z h v0 "com/example/muster/muster/Protobuf$Writer" "size" "I" (.int (Int32.ofNat (xs ++ own_pre 5 v1).length))) (FA : AI Z h dd .byte ((xs ++ own_pre 5 v1) ++ rs.drop 5)) (hg : 34359738368 ≤ own_U v1), Go p e below s ({ frames := 1, cells := 0, slots := 0, locals := 13 } : Room).cells ({ frames := 1, cells := 0, slots := 0, locals := 13 } : Room).slots (Q_varint Z v0 v1 dd xs rs h0 n0) T (mkF m 8 #[.val (.ref v0), .val (.long v1), .second, .val (.long (own_sh 5 v1)), .second] []) := by
    intro Tj5 hj5 Lj5 Xj5 ej5 Nj5 Kj5 Zj5 FE5 FB5 FS5 FA5 hg
    refine G_lloadN Xj5 hx (pc' := 9) rfl (hb hby d_varint_8) rfl ?_
    refine G_ldc2 Xj5 hx (pc' := 12) rfl hown (mvT hZ (hw _ (List.mem_of_getElem? (i := 48) rfl))) (hb hby d_varint_9) ?_
    refine G_land Xj5 hx (pc' := 13) rfl (hb hby d_varint_12)  ?_
    refine G_lconst Xj5 hx (pc' := 14) rfl (hb hby d_varint_13) (z := (0 : Int64)) rfl ?_
    refine G_lcmp Xj5 hx (pc' := 15) rfl (hb hby d_varint_14)  ?_
    by_cases hc15_4 : ((own_sh 5 v1) &&& (-128 : Int64)) = (0 : Int64)
    · refine G_ifYes Xj5 hx (pc' := 53) (hb hby d_varint_15) ((if0 _ _).trans (teq ((lw_eq _ _).2 hc15_4)).1) (by decide) (by decide) ?_
      refine G_aloadN Xj5 hx (pc' := 54) rfl (hb hby d_varint_53) rfl rfl ?_
      obtain ⟨T35, X35, e35, st35⟩ := getF Xj5 hx hZ hown (host := "") (Or.inl (hw _ (List.mem_of_getElem? (i := 10) rfl))) Via.refl ej5 FB5 (g := (mkF m 54 #[.val (.ref v0), .val (.long v1), .second, .val (.long (own_sh 5 v1)), .second] [(.ref v0)])) rfl rfl (hb hby d_varint_54)
      refine Go.st st35 ?_
      show Go p e below s _ _ _ T35 (mkF m 57 #[.val (.ref v0), .val (.long v1), .second, .val (.long (own_sh 5 v1)), .second] [(.ref dd)])
      refine G_aloadN X35 hx (pc' := 58) rfl (hb hby d_varint_57) rfl rfl ?_
      refine G_dup X35 hx (pc' := 59) rfl (hb hby d_varint_58) rfl ?_
      obtain ⟨T36, X36, e36, st36⟩ := getF X35 hx hZ hown (host := "") (Or.inl (hw _ (List.mem_of_getElem? (i := 17) rfl))) Via.refl e35 FS5 (g := (mkF m 59 #[.val (.ref v0), .val (.long v1), .second, .val (.long (own_sh 5 v1)), .second] [(.ref v0), (.ref v0), (.ref dd)])) rfl rfl (hb hby d_varint_59)
      refine Go.st st36 ?_
      show Go p e below s _ _ _ T36 (mkF m 62 #[.val (.ref v0), .val (.long v1), .second, .val (.long (own_sh 5 v1)), .second] [(.int (Int32.ofNat (xs ++ own_pre 5 v1).length)), (.ref v0), (.ref dd)])
      refine G_dupX1 X36 hx (pc' := 63) rfl (hb hby d_varint_62) rfl rfl ?_
      refine G_iconst X36 hx (pc' := 64) rfl (hb hby d_varint_63) (z := (1 : Int32)) rfl ?_
      refine G_iadd X36 hx (pc' := 65) rfl (hb hby d_varint_64)  ?_
      obtain ⟨T37, h37, X37, e37, W37, st37⟩ := putF X36 hx hZ hown (host := "") (Or.inl (hw _ (List.mem_of_getElem? (i := 17) rfl))) Via.refl e36 FS5 FE5 (Or.inl (hw _ (List.mem_of_getElem? (i := 18) rfl))) (hw _ (List.mem_of_getElem? (i := 1) rfl)) (ty := .int) (by decide) rfl rfl (g := (mkF m 65 #[.val (.ref v0), .val (.long v1), .second, .val (.long (own_sh 5 v1)), .second] [(.int ((Int32.ofNat (xs ++ own_pre 5 v1).length) + (1 : Int32))), (.ref v0), (.int (Int32.ofNat (xs ++ own_pre 5 v1).length)), (.ref dd)])) rfl rfl (hb hby d_varint_65)
      refine Go.st st37 ?_
      have F_v0_w37 := FS5.same W37
      have E_v0_37 := FE5.wr W37
      have F_v0_bytes_37 := FB5.other W37 (Or.inr (slot_ne (Or.inl (hw _ (List.mem_of_getElem? (i := 11) rfl))) (Or.inl (hw _ (List.mem_of_getElem? (i := 18) rfl))) (by decide) (t := (.array .byte)) (t' := .int) (by decide) (by decide)))
      have A_dd_37 := FA5.other W37 (Ne.symm ne_v0_dd)
      have K_37 : Keep h0 h37 [v0, dd] := Kj5.wr W37 (Or.inl (List.mem_of_getElem? (i := 0) rfl))
      have Z_37 : n0 ≤ h37.size := Nat.le_trans Z0 K_37.1
      have N37 := Fr.snoc X37 Nj5 g_v0
      clear FE5 FB5 FS5 FA5 W37 st37
      obtain ⟨G37, Y37, M37⟩ : ∃ L, Stand p l e ({ frames := 1, cells := 0, slots := 0, locals := 13 } : Room) s m #[(.ref v0), (.long v1)] below meth c T37 L 0 0 ∧ Fr n0 L := ⟨_, X37, N37⟩
      clear X37 N37
      show Go p e below s _ _ _ T37 (mkF m 68 #[.val (.ref v0), .val (.long v1), .second, .val (.long (own_sh 5 v1)), .second] [(.int (Int32.ofNat (xs ++ own_pre 5 v1).length)), (.ref dd)])
      refine G_lloadN Y37 hx (pc' := 69) rfl (hb hby d_varint_68) rfl ?_
      refine G_l2i Y37 hx (pc' := 70) rfl (hb hby d_varint_69)  ?_
      refine G_i2b Y37 hx (pc' := 71) rfl (hb hby d_varint_70)  ?_
      obtain ⟨T38, h38, X38, e38, W38, A38, st38⟩ := stABn Y37 hx hZ e37 A_dd_37 (j := (Int32.ofNat (xs ++ own_pre 5 v1).length)) (own_i1 hx_ (by decide : 5 ≤ 9)) (own_i2 hl hx_ (by decide : 5 ≤ 9)) (g := (mkF m 71 #[.val (.ref v0), .val (.long v1), .second, .val (.long (own_sh 5 v1)), .second] [(.int (((own_sh 5 v1).toInt32).toInt8.toInt32)), (.int (Int32.ofNat (xs ++ own_pre 5 v1).length)), (.ref dd)])) rfl rfl (hb hby d_varint_71)
      refine Go.st st38 ?_
      have E_v0_38 := E_v0_37.wr W38
      have F_v0_bytes_38 := F_v0_bytes_37.other W38 (Or.inl ne_v0_dd)
      have F_v0_size_38 := F_v0_w37.other W38 (Or.inl ne_v0_dd)
      have A_dd_38 : AI Z h38 dd .byte (((xs ++ own_pre 5 v1) ++ rs.drop 5).set (Int32.ofNat (xs ++ own_pre 5 v1).length).toNatClampNeg (((own_sh 5 v1).toInt32).toInt8.toInt32)) := A38
      have K_38 : Keep h0 h38 [v0, dd] := K_37.wr W38 (Or.inl (List.mem_of_getElem? (i := 1) rfl))
      have Z_38 : n0 ≤ h38.size := Nat.le_trans Z0 K_38.1
      have N38 := Fr.snoc X38 M37 g_dd
      clear E_v0_37 F_v0_bytes_37 A_dd_37 F_v0_w37 W38 st38 A38
      obtain ⟨G38, Y38, M38⟩ : ∃ L, Stand p l e ({ frames := 1, cells := 0, slots := 0, locals := 13 } : Room) s m #[(.ref v0), (.long v1)] below meth c T38 L 0 0 ∧ Fr n0 L := ⟨_, X38, N38⟩
      clear X38 N38
      show Go p e below s _ _ _ T38 (mkF m 72 #[.val (.ref v0), .val (.long v1), .second, .val (.long (own_sh 5 v1)), .second] [])
      have hn : own_n v1 = 5 := own_n_5 hg ((own_t5 v1).1 hc15_4)
      have SL : Fld Z h38 v0 "com/example/muster/muster/Protobuf$Writer" "size" "I" (.int (Int32.ofNat (xs ++ own_enc v1).length)) := own_c4 hn ▸ F_v0_size_38
      have AL : AI Z h38 dd .byte ((xs ++ own_enc v1) ++ rs.drop (own_enc v1).length) := own_c3 hl hx_ (by decide : 5 ≤ 9) hn ▸ A_dd_38
      refine Go.fin Y38 hlk (v := none) (fun _ => rfl) (by decide) (by decide) ?_ (fun fs hr => Y38.returnOut hx Bd.returns (hb hby d_varint_72) hr)
      show Q_varint Z v0 v1 dd xs rs h0 n0 _ T38.heap _
      rw [e38]
      exact ⟨rfl, M38, K_38, E_v0_38, F_v0_bytes_38, SL, AL⟩
    · refine G_ifNo Xj5 hx (pc' := 18) rfl (hb hby d_varint_15) ((if0 _ _).trans (feq (fun q => hc15_4 ((lw_eq _ _).1 q))).1) ?_
      refine G_aloadN Xj5 hx (pc' := 19) rfl (hb hby d_varint_18) rfl rfl ?_
      obtain ⟨T39, X39, e39, st39⟩ := getF Xj5 hx hZ hown (host := "") (Or.inl (hw _ (List.mem_of_getElem? (i := 10) rfl))) Via.refl ej5 FB5 (g := (mkF m 19 #[.val (.ref v0), .val (.long v1), .second, .val (.long (own_sh 5 v1)), .second] [(.ref v0)])) rfl rfl (hb hby d_varint_19)
      refine Go.st st39 ?_
      show Go p e below s _ _ _ T39 (mkF m 22 #[.val (.ref v0), .val (.long v1), .second, .val (.long (own_sh 5 v1)), .second] [(.ref dd)])
      refine G_aloadN X39 hx (pc' := 23) rfl (hb hby d_varint_22) rfl rfl ?_
      refine G_dup X39 hx (pc' := 24) rfl (hb hby d_varint_23) rfl ?_
      obtain ⟨T40, X40, e40, st40⟩ := getF X39 hx hZ hown (host := "") (Or.inl (hw _ (List.mem_of_getElem? (i := 17) rfl))) Via.refl e39 FS5 (g := (mkF m 24 #[.val (.ref v0), .val (.long v1), .second, .val (.long (own_sh 5 v1)), .second] [(.ref v0), (.ref v0), (.ref dd)])) rfl rfl (hb hby d_varint_24)
      refine Go.st st40 ?_
      show Go p e below s _ _ _ T40 (mkF m 27 #[.val (.ref v0), .val (.long v1), .second, .val (.long (own_sh 5 v1)), .second] [(.int (Int32.ofNat (xs ++ own_pre 5 v1).length)), (.ref v0), (.ref dd)])
      refine G_dupX1 X40 hx (pc' := 28) rfl (hb hby d_varint_27) rfl rfl ?_
      refine G_iconst X40 hx (pc' := 29) rfl (hb hby d_varint_28) (z := (1 : Int32)) rfl ?_
      refine G_iadd X40 hx (pc' := 30) rfl (hb hby d_varint_29)  ?_
      obtain ⟨T41, h41, X41, e41, W41, st41⟩ := putF X40 hx hZ hown (host := "") (Or.inl (hw _ (List.mem_of_getElem? (i := 17) rfl))) Via.refl e40 FS5 FE5 (Or.inl (hw _ (List.mem_of_getElem? (i := 18) rfl))) (hw _ (List.mem_of_getElem? (i := 1) rfl)) (ty := .int) (by decide) rfl rfl (g := (mkF m 30 #[.val (.ref v0), .val (.long v1), .second, .val (.long (own_sh 5 v1)), .second] [(.int ((Int32.ofNat (xs ++ own_pre 5 v1).length) + (1 : Int32))), (.ref v0), (.int (Int32.ofNat (xs ++ own_pre 5 v1).length)), (.ref dd)])) rfl rfl (hb hby d_varint_30)
      refine Go.st st41 ?_
      have F_v0_w41 := FS5.same W41
      have E_v0_41 := FE5.wr W41
      have F_v0_bytes_41 := FB5.other W41 (Or.inr (slot_ne (Or.inl (hw _ (List.mem_of_getElem? (i := 11) rfl))) (Or.inl (hw _ (List.mem_of_getElem? (i := 18) rfl))) (by decide) (t := (.array .byte)) (t' := .int) (by decide) (by decide)))
      have A_dd_41 := FA5.other W41 (Ne.symm ne_v0_dd)
      have K_41 : Keep h0 h41 [v0, dd] := Kj5.wr W41 (Or.inl (List.mem_of_getElem? (i := 0) rfl))
      have Z_41 : n0 ≤ h41.size := Nat.le_trans Z0 K_41.1
      have N41 := Fr.snoc X41 Nj5 g_v0
      clear FE5 FB5 FS5 FA5 W41 st41
      obtain ⟨G41, Y41, M41⟩ : ∃ L, Stand p l e ({ frames := 1, cells := 0, slots := 0, locals := 13 } : Room) s m #[(.ref v0), (.long v1)] below meth c T41 L 0 0 ∧ Fr n0 L := ⟨_, X41, N41⟩
      clear X41 N41
      show Go p e below s _ _ _ T41 (mkF m 33 #[.val (.ref v0), .val (.long v1), .second, .val (.long (own_sh 5 v1)), .second] [(.int (Int32.ofNat (xs ++ own_pre 5 v1).length)), (.ref dd)])
      refine G_lloadN Y41 hx (pc' := 34) rfl (hb hby d_varint_33) rfl ?_
      refine G_ldc2 Y41 hx (pc' := 37) rfl hown (mvT hZ (hw _ (List.mem_of_getElem? (i := 65) rfl))) (hb hby d_varint_34) ?_
      refine G_land Y41 hx (pc' := 38) rfl (hb hby d_varint_37)  ?_
      refine G_ldc2 Y41 hx (pc' := 41) rfl hown (mvT hZ (hw _ (List.mem_of_getElem? (i := 66) rfl))) (hb hby d_varint_38) ?_
      refine G_lor Y41 hx (pc' := 42) rfl (hb hby d_varint_41)  ?_
      refine G_l2i Y41 hx (pc' := 43) rfl (hb hby d_varint_42)  ?_
      refine G_i2b Y41 hx (pc' := 44) rfl (hb hby d_varint_43)  ?_
      obtain ⟨T42, h42, X42, e42, W42, A42, st42⟩ := stABn Y41 hx hZ e41 A_dd_41 (j := (Int32.ofNat (xs ++ own_pre 5 v1).length)) (own_i1 hx_ (by decide : 5 ≤ 9)) (own_i2 hl hx_ (by decide : 5 ≤ 9)) (g := (mkF m 44 #[.val (.ref v0), .val (.long v1), .second, .val (.long (own_sh 5 v1)), .second] [(.int (((((own_sh 5 v1) &&& (127 : Int64)) ||| (128 : Int64)).toInt32).toInt8.toInt32)), (.int (Int32.ofNat (xs ++ own_pre 5 v1).length)), (.ref dd)])) rfl rfl (hb hby d_varint_44)
      refine Go.st st42 ?_
      have E_v0_42 := E_v0_41.wr W42
      have F_v0_bytes_42 := F_v0_bytes_41.other W42 (Or.inl ne_v0_dd)
      have F_v0_size_42 := F_v0_w41.other W42 (Or.inl ne_v0_dd)
      have A_dd_42 : AI Z h42 dd .byte (((xs ++ own_pre 5 v1) ++ rs.drop 5).set (Int32.ofNat (xs ++ own_pre 5 v1).length).toNatClampNeg (((((own_sh 5 v1) &&& (127 : Int64)) ||| (128 : Int64)).toInt32).toInt8.toInt32)) := A42
      have K_42 : Keep h0 h42 [v0, dd] := K_41.wr W42 (Or.inl (List.mem_of_getElem? (i := 1) rfl))
      have Z_42 : n0 ≤ h42.size := Nat.le_trans Z0 K_42.1
      have N42 := Fr.snoc X42 M41 g_dd
      clear E_v0_41 F_v0_bytes_41 A_dd_41 F_v0_w41 W42 st42 A42
      obtain ⟨G42, Y42, M42⟩ : ∃ L, Stand p l e ({ frames := 1, cells := 0, slots := 0, locals := 13 } : Room) s m #[(.ref v0), (.long v1)] below meth c T42 L 0 0 ∧ Fr n0 L := ⟨_, X42, N42⟩
      clear X42 N42
      show Go p e below s _ _ _ T42 (mkF m 45 #[.val (.ref v0), .val (.long v1), .second, .val (.long (own_sh 5 v1)), .second] [])
      refine G_lloadN Y42 hx (pc' := 46) rfl (hb hby d_varint_45) rfl ?_
      refine G_bipush Y42 hx (pc' := 48) rfl (hb hby d_varint_46) (z := (7 : Int32)) rfl ?_
      refine G_lushr Y42 hx (pc' := 49) rfl (hb hby d_varint_48)  ?_
      refine G_lstoreN Y42 hx (pc' := 50) rfl (hb hby d_varint_49) (L' := #[.val (.ref v0), .val (.long v1), .second, .val (.long (((own_sh 5 v1).toUInt64 >>> ((7 : Int32) &&& 0x3f).toInt64.toUInt64).toInt64)), .second]) rfl ?_
      refine G_goto Y42 hx (pc' := 8) (hb hby d_varint_50)  (by decide) (by decide) ?_
      have hq6 : 4398046511104 ≤ own_U v1 := by have z := mt (own_t5 v1).2 hc15_4; omega
      have SF6 : Fld Z h42 v0 "com/example/muster/muster/Protobuf$Writer" "size" "I" (.int (Int32.ofNat (xs ++ own_pre 6 v1).length)) := own_c2 ▸ F_v0_size_42
      have AF6 : AI Z h42 dd .byte ((xs ++ own_pre 6 v1) ++ rs.drop 6) := own_c1 hl hx_ (by decide : 5 ≤ 9) ▸ A_dd_42
      exact J6 T42 _ _ Y42 e42 M42 K_42 Z_42 E_v0_42 F_v0_bytes_42 SF6 AF6 hq6
  have J4 : ∀ (T : State) (h : Heap) (L : List Loc) (X : Stand p l e ({ frames := 1, cells := 0, slots := 0, locals := 13 } : Room) s m #[(.ref v0), (.long v1)] below meth c T L 0 0) (e1 : T.heap = h) (N : Fr n0 L) (K : Keep h0 h [v0, dd]) (Zq : n0 ≤ h.size) (FE : Exa Z h v0 "com/example/muster/muster/Protobuf$Writer") (FB : Fld Z h v0 "com/example/muster/muster/Protobuf$Writer" "bytes" "[B" (.ref dd)) (FS : Fld Z h v0 "com/example/muster/muster/Protobuf$Writer" "size" "I" (.int (Int32.ofNat (xs ++ own_pre 4 v1).length))) (FA : AI Z h dd .byte ((xs ++ own_pre 4 v1) ++ rs.drop 4)) (hg : 268435456 ≤ own_U v1), Go p e below s ({ frames := 1, cells := 0, slots := 0, locals := 13 } : Room).cells ({ frames := 1, cells := 0, slots := 0, locals := 13 } : Room).slots (Q_varint Z v0 v1 dd xs rs h0 n0) T (mkF m 8 #[.val (.ref v0), .val (.long v1), .second, .val (.long (own_sh 4 v1)), .second] []) := by
    intro Tj4 hj4 Lj4 Xj4 ej4 Nj4 Kj4 Zj4 FE4 FB4 FS4 FA4 hg
    refine G_lloadN Xj4 hx (pc' := 9) rfl (hb hby d_varint_8) rfl ?_
    refine G_ldc2 Xj4 hx (pc' := 12) rfl hown (mvT hZ (hw _ (List.mem_of_getElem? (i := 48) rfl))) (hb hby d_varint_9) ?_
    refine G_land Xj4 hx (pc' := 13) rfl (hb hby d_varint_12)  ?_
    refine G_lconst Xj4 hx (pc' := 14) rfl (hb hby d_varint_13) (z := (0 : Int64)) rfl ?_
    refine G_lcmp Xj4 hx (pc' := 15) rfl (hb hby d_varint_14)  ?_
    by_cases hc15_5 : ((own_sh 4 v1) &&& (-128 : Int64)) = (0 : Int64)
    · refine G_ifYes Xj4 hx (pc' := 53) (hb hby d_varint_15) ((if0 _ _).trans (teq ((lw_eq _ _).2 hc15_5)).1) (by decide) (by decide) ?_
      refine G_aloadN Xj4 hx (pc' := 54) rfl (hb hby d_varint_53) rfl rfl ?_
      obtain ⟨T43, X43, e43, st43⟩ := getF Xj4 hx hZ hown (host := "") (Or.inl (hw _ (List.mem_of_getElem? (i := 10) rfl))) Via.refl ej4 FB4 (g := (mkF m 54 #[.val (.ref v0), .val (.long v1), .second, .val (.long (own_sh 4 v1)), .second] [(.ref v0)])) rfl rfl (hb hby d_varint_54)
      refine Go.st st43 ?_
      show Go p e below s _ _ _ T43 (mkF m 57 #[.val (.ref v0), .val (.long v1), .second, .val (.long (own_sh 4 v1)), .second] [(.ref dd)])
      refine G_aloadN X43 hx (pc' := 58) rfl (hb hby d_varint_57) rfl rfl ?_
      refine G_dup X43 hx (pc' := 59) rfl (hb hby d_varint_58) rfl ?_
      obtain ⟨T44, X44, e44, st44⟩ := getF X43 hx hZ hown (host := "") (Or.inl (hw _ (List.mem_of_getElem? (i := 17) rfl))) Via.refl e43 FS4 (g := (mkF m 59 #[.val (.ref v0), .val (.long v1), .second, .val (.long (own_sh 4 v1)), .second] [(.ref v0), (.ref v0), (.ref dd)])) rfl rfl (hb hby d_varint_59)
      refine Go.st st44 ?_
      show Go p e below s _ _ _ T44 (mkF m 62 #[.val (.ref v0), .val (.long v1), .second, .val (.long (own_sh 4 v1)), .second] [(.int (Int32.ofNat (xs ++ own_pre 4 v1).length)), (.ref v0), (.ref dd)])
      refine G_dupX1 X44 hx (pc' := 63) rfl (hb hby d_varint_62) rfl rfl ?_
      refine G_iconst X44 hx (pc' := 64) rfl (hb hby d_varint_63) (z := (1 : Int32)) rfl ?_
      refine G_iadd X44 hx (pc' := 65) rfl (hb hby d_varint_64)  ?_
      obtain ⟨T45, h45, X45, e45, W45, st45⟩ := putF X44 hx hZ hown (host := "") (Or.inl (hw _ (List.mem_of_getElem? (i := 17) rfl))) Via.refl e44 FS4 FE4 (Or.inl (hw _ (List.mem_of_getElem? (i := 18) rfl))) (hw _ (List.mem_of_getElem? (i := 1) rfl)) (ty := .int) (by decide) rfl rfl (g := (mkF m 65 #[.val (.ref v0), .val (.long v1), .second, .val (.long (own_sh 4 v1)), .second] [(.int ((Int32.ofNat (xs ++ own_pre 4 v1).length) + (1 : Int32))), (.ref v0), (.int (Int32.ofNat (xs ++ own_pre 4 v1).length)), (.ref dd)])) rfl rfl (hb hby d_varint_65)
      refine Go.st st45 ?_
      have F_v0_w45 := FS4.same W45
      have E_v0_45 := FE4.wr W45
      have F_v0_bytes_45 := FB4.other W45 (Or.inr (slot_ne (Or.inl (hw _ (List.mem_of_getElem? (i := 11) rfl))) (Or.inl (hw _ (List.mem_of_getElem? (i := 18) rfl))) (by decide) (t := (.array .byte)) (t' := .int) (by decide) (by decide)))
      have A_dd_45 := FA4.other W45 (Ne.symm ne_v0_dd)
      have K_45 : Keep h0 h45 [v0, dd] := Kj4.wr W45 (Or.inl (List.mem_of_getElem? (i := 0) rfl))
      have Z_45 : n0 ≤ h45.size := Nat.le_trans Z0 K_45.1
      have N45 := Fr.snoc X45 Nj4 g_v0
      clear FE4 FB4 FS4 FA4 W45 st45
      obtain ⟨G45, Y45, M45⟩ : ∃ L, Stand p l e ({ frames := 1, cells := 0, slots := 0, locals := 13 } : Room) s m #[(.ref v0), (.long v1)] below meth c T45 L 0 0 ∧ Fr n0 L := ⟨_, X45, N45⟩
      clear X45 N45
      show Go p e below s _ _ _ T45 (mkF m 68 #[.val (.ref v0), .val (.long v1), .second, .val (.long (own_sh 4 v1)), .second] [(.int (Int32.ofNat (xs ++ own_pre 4 v1).length)), (.ref dd)])
      refine G_lloadN Y45 hx (pc' := 69) rfl (hb hby d_varint_68) rfl ?_
      refine G_l2i Y45 hx (pc' := 70) rfl (hb hby d_varint_69)  ?_
      refine G_i2b Y45 hx (pc' := 71) rfl (hb hby d_varint_70)  ?_
      obtain ⟨T46, h46, X46, e46, W46, A46, st46⟩ := stABn Y45 hx hZ e45 A_dd_45 (j := (Int32.ofNat (xs ++ own_pre 4 v1).length)) (own_i1 hx_ (by decide : 4 ≤ 9)) (own_i2 hl hx_ (by decide : 4 ≤ 9)) (g := (mkF m 71 #[.val (.ref v0), .val (.long v1), .second, .val (.long (own_sh 4 v1)), .second] [(.int (((own_sh 4 v1).toInt32).toInt8.toInt32)), (.int (Int32.ofNat (xs ++ own_pre 4 v1).length)), (.ref dd)])) rfl rfl (hb hby d_varint_71)
      refine Go.st st46 ?_
      have E_v0_46 := E_v0_45.wr W46
      have F_v0_bytes_46 := F_v0_bytes_45.other W46 (Or.inl ne_v0_dd)
      have F_v0_size_46 := F_v0_w45.other W46 (Or.inl ne_v0_dd)
      have A_dd_46 : AI Z h46 dd .byte (((xs ++ own_pre 4 v1) ++ rs.drop 4).set (Int32.ofNat (xs ++ own_pre 4 v1).length).toNatClampNeg (((own_sh 4 v1).toInt32).toInt8.toInt32)) := A46
      have K_46 : Keep h0 h46 [v0, dd] := K_45.wr W46 (Or.inl (List.mem_of_getElem? (i := 1) rfl))
      have Z_46 : n0 ≤ h46.size := Nat.le_trans Z0 K_46.1
      have N46 := Fr.snoc X46 M45 g_dd
      clear E_v0_45 F_v0_bytes_45 A_dd_45 F_v0_w45 W46 st46 A46
      obtain ⟨G46, Y46, M46⟩ : ∃ L, Stand p l e ({ frames := 1, cells := 0, slots := 0, locals := 13 } : Room) s m #[(.ref v0), (.long v1)] below meth c T46 L 0 0 ∧ Fr n0 L := ⟨_, X46, N46⟩
      clear X46 N46
      show Go p e below s _ _ _ T46 (mkF m 72 #[.val (.ref v0), .val (.long v1), .second, .val (.long (own_sh 4 v1)), .second] [])
      have hn : own_n v1 = 4 := own_n_4 hg ((own_t4 v1).1 hc15_5)
      have SL : Fld Z h46 v0 "com/example/muster/muster/Protobuf$Writer" "size" "I" (.int (Int32.ofNat (xs ++ own_enc v1).length)) := own_c4 hn ▸ F_v0_size_46
      have AL : AI Z h46 dd .byte ((xs ++ own_enc v1) ++ rs.drop (own_enc v1).length) := own_c3 hl hx_ (by decide : 4 ≤ 9) hn ▸ A_dd_46
      refine Go.fin Y46 hlk (v := none) (fun _ => rfl) (by decide) (by decide) ?_ (fun fs hr => Y46.returnOut hx Bd.returns (hb hby d_varint_72) hr)
      show Q_varint Z v0 v1 dd xs rs h0 n0 _ T46.heap _
      rw [e46]
      exact ⟨rfl, M46, K_46, E_v0_46, F_v0_bytes_46, SL, AL⟩
    · refine G_ifNo Xj4 hx (pc' := 18) rfl (hb hby d_varint_15) ((if0 _ _).trans (feq (fun q => hc15_5 ((lw_eq _ _).1 q))).1) ?_
      refine G_aloadN Xj4 hx (pc' := 19) rfl (hb hby d_varint_18) rfl rfl ?_
      obtain ⟨T47, X47, e47, st47⟩ := getF Xj4 hx hZ hown (host := "") (Or.inl (hw _ (List.mem_of_getElem? (i := 10) rfl))) Via.refl ej4 FB4 (g := (mkF m 19 #[.val (.ref v0), .val (.long v1), .second, .val (.long (own_sh 4 v1)), .second] [(.ref v0)])) rfl rfl (hb hby d_varint_19)
      refine Go.st st47 ?_
      show Go p e below s _ _ _ T47 (mkF m 22 #[.val (.ref v0), .val (.long v1), .second, .val (.long (own_sh 4 v1)), .second] [(.ref dd)])
      refine G_aloadN X47 hx (pc' := 23) rfl (hb hby d_varint_22) rfl rfl ?_
      refine G_dup X47 hx (pc' := 24) rfl (hb hby d_varint_23) rfl ?_
      obtain ⟨T48, X48, e48, st48⟩ := getF X47 hx hZ hown (host := "") (Or.inl (hw _ (List.mem_of_getElem? (i := 17) rfl))) Via.refl e47 FS4 (g := (mkF m 24 #[.val (.ref v0), .val (.long v1), .second, .val (.long (own_sh 4 v1)), .second] [(.ref v0), (.ref v0), (.ref dd)])) rfl rfl (hb hby d_varint_24)
      refine Go.st st48 ?_
      show Go p e below s _ _ _ T48 (mkF m 27 #[.val (.ref v0), .val (.long v1), .second, .val (.long (own_sh 4 v1)), .second] [(.int (Int32.ofNat (xs ++ own_pre 4 v1).length)), (.ref v0), (.ref dd)])
      refine G_dupX1 X48 hx (pc' := 28) rfl (hb hby d_varint_27) rfl rfl ?_
      refine G_iconst X48 hx (pc' := 29) rfl (hb hby d_varint_28) (z := (1 : Int32)) rfl ?_
      refine G_iadd X48 hx (pc' := 30) rfl (hb hby d_varint_29)  ?_
      obtain ⟨T49, h49, X49, e49, W49, st49⟩ := putF X48 hx hZ hown (host := "") (Or.inl (hw _ (List.mem_of_getElem? (i := 17) rfl))) Via.refl e48 FS4 FE4 (Or.inl (hw _ (List.mem_of_getElem? (i := 18) rfl))) (hw _ (List.mem_of_getElem? (i := 1) rfl)) (ty := .int) (by decide) rfl rfl (g := (mkF m 30 #[.val (.ref v0), .val (.long v1), .second, .val (.long (own_sh 4 v1)), .second] [(.int ((Int32.ofNat (xs ++ own_pre 4 v1).length) + (1 : Int32))), (.ref v0), (.int (Int32.ofNat (xs ++ own_pre 4 v1).length)), (.ref dd)])) rfl rfl (hb hby d_varint_30)
      refine Go.st st49 ?_
      have F_v0_w49 := FS4.same W49
      have E_v0_49 := FE4.wr W49
      have F_v0_bytes_49 := FB4.other W49 (Or.inr (slot_ne (Or.inl (hw _ (List.mem_of_getElem? (i := 11) rfl))) (Or.inl (hw _ (List.mem_of_getElem? (i := 18) rfl))) (by decide) (t := (.array .byte)) (t' := .int) (by decide) (by decide)))
      have A_dd_49 := FA4.other W49 (Ne.symm ne_v0_dd)
      have K_49 : Keep h0 h49 [v0, dd] := Kj4.wr W49 (Or.inl (List.mem_of_getElem? (i := 0) rfl))
      have Z_49 : n0 ≤ h49.size := Nat.le_trans Z0 K_49.1
      have N49 := Fr.snoc X49 Nj4 g_v0
      clear FE4 FB4 FS4 FA4 W49 st49
      obtain ⟨G49, Y49, M49⟩ : ∃ L, Stand p l e ({ frames := 1, cells := 0, slots := 0, locals := 13 } : Room) s m #[(.ref v0), (.long v1)] below meth c T49 L 0 0 ∧ Fr n0 L := ⟨_, X49, N49⟩
      clear X49 N49
      show Go p e below s _ _ _ T49 (mkF m 33 #[.val (.ref v0), .val (.long v1), .second, .val (.long (own_sh 4 v1)), .second] [(.int (Int32.ofNat (xs ++ own_pre 4 v1).length)), (.ref dd)])
      refine G_lloadN Y49 hx (pc' := 34) rfl (hb hby d_varint_33) rfl ?_
      refine G_ldc2 Y49 hx (pc' := 37) rfl hown (mvT hZ (hw _ (List.mem_of_getElem? (i := 65) rfl))) (hb hby d_varint_34) ?_
      refine G_land Y49 hx (pc' := 38) rfl (hb hby d_varint_37)  ?_
      refine G_ldc2 Y49 hx (pc' := 41) rfl hown (mvT hZ (hw _ (List.mem_of_getElem? (i := 66) rfl))) (hb hby d_varint_38) ?_
      refine G_lor Y49 hx (pc' := 42) rfl (hb hby d_varint_41)  ?_
      refine G_l2i Y49 hx (pc' := 43) rfl (hb hby d_varint_42)  ?_
      refine G_i2b Y49 hx (pc' := 44) rfl (hb hby d_varint_43)  ?_
      obtain ⟨T50, h50, X50, e50, W50, A50, st50⟩ := stABn Y49 hx hZ e49 A_dd_49 (j := (Int32.ofNat (xs ++ own_pre 4 v1).length)) (own_i1 hx_ (by decide : 4 ≤ 9)) (own_i2 hl hx_ (by decide : 4 ≤ 9)) (g := (mkF m 44 #[.val (.ref v0), .val (.long v1), .second, .val (.long (own_sh 4 v1)), .second] [(.int (((((own_sh 4 v1) &&& (127 : Int64)) ||| (128 : Int64)).toInt32).toInt8.toInt32)), (.int (Int32.ofNat (xs ++ own_pre 4 v1).length)), (.ref dd)])) rfl rfl (hb hby d_varint_44)
      refine Go.st st50 ?_
      have E_v0_50 := E_v0_49.wr W50
      have F_v0_bytes_50 := F_v0_bytes_49.other W50 (Or.inl ne_v0_dd)
      have F_v0_size_50 := F_v0_w49.other W50 (Or.inl ne_v0_dd)
      have A_dd_50 : AI Z h50 dd .byte (((xs ++ own_pre 4 v1) ++ rs.drop 4).set (Int32.ofNat (xs ++ own_pre 4 v1).length).toNatClampNeg (((((own_sh 4 v1) &&& (127 : Int64)) ||| (128 : Int64)).toInt32).toInt8.toInt32)) := A50
      have K_50 : Keep h0 h50 [v0, dd] := K_49.wr W50 (Or.inl (List.mem_of_getElem? (i := 1) rfl))
      have Z_50 : n0 ≤ h50.size := Nat.le_trans Z0 K_50.1
      have N50 := Fr.snoc X50 M49 g_dd
      clear E_v0_49 F_v0_bytes_49 A_dd_49 F_v0_w49 W50 st50 A50
      obtain ⟨G50, Y50, M50⟩ : ∃ L, Stand p l e ({ frames := 1, cells := 0, slots := 0, locals := 13 } : Room) s m #[(.ref v0), (.long v1)] below meth c T50 L 0 0 ∧ Fr n0 L := ⟨_, X50, N50⟩
      clear X50 N50
      show Go p e below s _ _ _ T50 (mkF m 45 #[.val (.ref v0), .val (.long v1), .second, .val (.long (own_sh 4 v1)), .second] [])
      refine G_lloadN Y50 hx (pc' := 46) rfl (hb hby d_varint_45) rfl ?_
      refine G_bipush Y50 hx (pc' := 48) rfl (hb hby d_varint_46) (z := (7 : Int32)) rfl ?_
      refine G_lushr Y50 hx (pc' := 49) rfl (hb hby d_varint_48)  ?_
      refine G_lstoreN Y50 hx (pc' := 50) rfl (hb hby d_varint_49) (L' := #[.val (.ref v0), .val (.long v1), .second, .val (.long (((own_sh 4 v1).toUInt64 >>> ((7 : Int32) &&& 0x3f).toInt64.toUInt64).toInt64)), .second]) rfl ?_
      refine G_goto Y50 hx (pc' := 8) (hb hby d_varint_50)  (by decide) (by decide) ?_
      have hq5 : 34359738368 ≤ own_U v1 := by have z := mt (own_t4 v1).2 hc15_5; omega
      have SF5 : Fld Z h50 v0 "com/example/muster/muster/Protobuf$Writer" "size" "I" (.int (Int32.ofNat (xs ++ own_pre 5 v1).length)) := own_c2 ▸ F_v0_size_50
      have AF5 : AI Z h50 dd .byte ((xs ++ own_pre 5 v1) ++ rs.drop 5) := own_c1 hl hx_ (by decide : 4 ≤ 9) ▸ A_dd_50
      exact J5 T50 _ _ Y50 e50 M50 K_50 Z_50 E_v0_50 F_v0_bytes_50 SF5 AF5 hq5
  have J3 : ∀ (T : State) (h : Heap) (L : List Loc) (X : Stand p l e ({ frames := 1, cells := 0, slots := 0, locals := 13 } : Room) s m #[(.ref v0), (.long v1)] below meth c T L 0 0) (e1 : T.heap = h) (N : Fr n0 L) (K : Keep h0 h [v0, dd]) (Zq : n0 ≤ h.size) (FE : Exa Z h v0 "com/example/muster/muster/Protobuf$Writer") (FB : Fld Z h v0 "com/example/muster/muster/Protobuf$Writer" "bytes" "[B" (.ref dd)) (FS : Fld Z h v0 "com/example/muster/muster/Protobuf$Writer" "size" "I" (.int (Int32.ofNat (xs ++ own_pre 3 v1).length))) (FA : AI Z h dd .byte ((xs ++ own_pre 3 v1) ++ rs.drop 3)) (hg : 2097152 ≤ own_U v1), Go p e below s ({ frames := 1, cells := 0, slots := 0, locals := 13 } : Room).cells ({ frames := 1, cells := 0, slots := 0, locals := 13 } : Room).slots (Q_varint Z v0 v1 dd xs rs h0 n0) T (mkF m 8 #[.val (.ref v0), .val (.long v1), .second, .val (.long (own_sh 3 v1)), .second] []) := by
    intro Tj3 hj3 Lj3 Xj3 ej3 Nj3 Kj3 Zj3 FE3 FB3 FS3 FA3 hg
    refine G_lloadN Xj3 hx (pc' := 9) rfl (hb hby d_varint_8) rfl ?_
    refine G_ldc2 Xj3 hx (pc' := 12) rfl hown (mvT hZ (hw _ (List.mem_of_getElem? (i := 48) rfl))) (hb hby d_varint_9) ?_
    refine G_land Xj3 hx (pc' := 13) rfl (hb hby d_varint_12)  ?_
    refine G_lconst Xj3 hx (pc' := 14) rfl (hb hby d_varint_13) (z := (0 : Int64)) rfl ?_
    refine G_lcmp Xj3 hx (pc' := 15) rfl (hb hby d_varint_14)  ?_
    by_cases hc15_6 : ((own_sh 3 v1) &&& (-128 : Int64)) = (0 : Int64)
    · refine G_ifYes Xj3 hx (pc' := 53) (hb hby d_varint_15) ((if0 _ _).trans (teq ((lw_eq _ _).2 hc15_6)).1) (by decide) (by decide) ?_
      refine G_aloadN Xj3 hx (pc' := 54) rfl (hb hby d_varint_53) rfl rfl ?_
      obtain ⟨T51, X51, e51, st51⟩ := getF Xj3 hx hZ hown (host := "") (Or.inl (hw _ (List.mem_of_getElem? (i := 10) rfl))) Via.refl ej3 FB3 (g := (mkF m 54 #[.val (.ref v0), .val (.long v1), .second, .val (.long (own_sh 3 v1)), .second] [(.ref v0)])) rfl rfl (hb hby d_varint_54)
      refine Go.st st51 ?_
      show Go p e below s _ _ _ T51 (mkF m 57 #[.val (.ref v0), .val (.long v1), .second, .val (.long (own_sh 3 v1)), .second] [(.ref dd)])
      refine G_aloadN X51 hx (pc' := 58) rfl (hb hby d_varint_57) rfl rfl ?_
      refine G_dup X51 hx (pc' := 59) rfl (hb hby d_varint_58) rfl ?_
      obtain ⟨T52, X52, e52, st52⟩ := getF X51 hx hZ hown (host := "") (Or.inl (hw _ (List.mem_of_getElem? (i := 17) rfl))) Via.refl e51 FS3 (g := (mkF m 59 #[.val (.ref v0), .val (.long v1), .second, .val (.long (own_sh 3 v1)), .second] [(.ref v0), (.ref v0), (.ref dd)])) rfl rfl (hb hby d_varint_59)
      refine Go.st st52 ?_
      show Go p e below s _ _ _ T52 (mkF m 62 #[.val (.ref v0), .val (.long v1), .second, .val (.long (own_sh 3 v1)), .second] [(.int (Int32.ofNat (xs ++ own_pre 3 v1).length)), (.ref v0), (.ref dd)])
      refine G_dupX1 X52 hx (pc' := 63) rfl (hb hby d_varint_62) rfl rfl ?_
      refine G_iconst X52 hx (pc' := 64) rfl (hb hby d_varint_63) (z := (1 : Int32)) rfl ?_
      refine G_iadd X52 hx (pc' := 65) rfl (hb hby d_varint_64)  ?_
      obtain ⟨T53, h53, X53, e53, W53, st53⟩ := putF X52 hx hZ hown (host := "") (Or.inl (hw _ (List.mem_of_getElem? (i := 17) rfl))) Via.refl e52 FS3 FE3 (Or.inl (hw _ (List.mem_of_getElem? (i := 18) rfl))) (hw _ (List.mem_of_getElem? (i := 1) rfl)) (ty := .int) (by decide) rfl rfl (g := (mkF m 65 #[.val (.ref v0), .val (.long v1), .second, .val (.long (own_sh 3 v1)), .second] [(.int ((Int32.ofNat (xs ++ own_pre 3 v1).length) + (1 : Int32))), (.ref v0), (.int (Int32.ofNat (xs ++ own_pre 3 v1).length)), (.ref dd)])) rfl rfl (hb hby d_varint_65)
      refine Go.st st53 ?_
      have F_v0_w53 := FS3.same W53
      have E_v0_53 := FE3.wr W53
      have F_v0_bytes_53 := FB3.other W53 (Or.inr (slot_ne (Or.inl (hw _ (List.mem_of_getElem? (i := 11) rfl))) (Or.inl (hw _ (List.mem_of_getElem? (i := 18) rfl))) (by decide) (t := (.array .byte)) (t' := .int) (by decide) (by decide)))
      have A_dd_53 := FA3.other W53 (Ne.symm ne_v0_dd)
      have K_53 : Keep h0 h53 [v0, dd] := Kj3.wr W53 (Or.inl (List.mem_of_getElem? (i := 0) rfl))
      have Z_53 : n0 ≤ h53.size := Nat.le_trans Z0 K_53.1
      have N53 := Fr.snoc X53 Nj3 g_v0
      clear FE3 FB3 FS3 FA3 W53 st53
      obtain ⟨G53, Y53, M53⟩ : ∃ L, Stand p l e ({ frames := 1, cells := 0, slots := 0, locals := 13 } : Room) s m #[(.ref v0), (.long v1)] below meth c T53 L 0 0 ∧ Fr n0 L := ⟨_, X53, N53⟩
      clear X53 N53
      show Go p e below s _ _ _ T53 (mkF m 68 #[.val (.ref v0), .val (.long v1), .second, .val (.long (own_sh 3 v1)), .second] [(.int (Int32.ofNat (xs ++ own_pre 3 v1).length)), (.ref dd)])
      refine G_lloadN Y53 hx (pc' := 69) rfl (hb hby d_varint_68) rfl ?_
      refine G_l2i Y53 hx (pc' := 70) rfl (hb hby d_varint_69)  ?_
      refine G_i2b Y53 hx (pc' := 71) rfl (hb hby d_varint_70)  ?_
      obtain ⟨T54, h54, X54, e54, W54, A54, st54⟩ := stABn Y53 hx hZ e53 A_dd_53 (j := (Int32.ofNat (xs ++ own_pre 3 v1).length)) (own_i1 hx_ (by decide : 3 ≤ 9)) (own_i2 hl hx_ (by decide : 3 ≤ 9)) (g := (mkF m 71 #[.val (.ref v0), .val (.long v1), .second, .val (.long (own_sh 3 v1)), .second] [(.int (((own_sh 3 v1).toInt32).toInt8.toInt32)), (.int (Int32.ofNat (xs ++ own_pre 3 v1).length)), (.ref dd)])) rfl rfl (hb hby d_varint_71)
      refine Go.st st54 ?_
      have E_v0_54 := E_v0_53.wr W54
      have F_v0_bytes_54 := F_v0_bytes_53.other W54 (Or.inl ne_v0_dd)
      have F_v0_size_54 := F_v0_w53.other W54 (Or.inl ne_v0_dd)
      have A_dd_54 : AI Z h54 dd .byte (((xs ++ own_pre 3 v1) ++ rs.drop 3).set (Int32.ofNat (xs ++ own_pre 3 v1).length).toNatClampNeg (((own_sh 3 v1).toInt32).toInt8.toInt32)) := A54
      have K_54 : Keep h0 h54 [v0, dd] := K_53.wr W54 (Or.inl (List.mem_of_getElem? (i := 1) rfl))
      have Z_54 : n0 ≤ h54.size := Nat.le_trans Z0 K_54.1
      have N54 := Fr.snoc X54 M53 g_dd
      clear E_v0_53 F_v0_bytes_53 A_dd_53 F_v0_w53 W54 st54 A54
      obtain ⟨G54, Y54, M54⟩ : ∃ L, Stand p l e ({ frames := 1, cells := 0, slots := 0, locals := 13 } : Room) s m #[(.ref v0), (.long v1)] below meth c T54 L 0 0 ∧ Fr n0 L := ⟨_, X54, N54⟩
      clear X54 N54
      show Go p e below s _ _ _ T54 (mkF m 72 #[.val (.ref v0), .val (.long v1), .second, .val (.long (own_sh 3 v1)), .second] [])
      have hn : own_n v1 = 3 := own_n_3 hg ((own_t3 v1).1 hc15_6)
      have SL : Fld Z h54 v0 "com/example/muster/muster/Protobuf$Writer" "size" "I" (.int (Int32.ofNat (xs ++ own_enc v1).length)) := own_c4 hn ▸ F_v0_size_54
      have AL : AI Z h54 dd .byte ((xs ++ own_enc v1) ++ rs.drop (own_enc v1).length) := own_c3 hl hx_ (by decide : 3 ≤ 9) hn ▸ A_dd_54
      refine Go.fin Y54 hlk (v := none) (fun _ => rfl) (by decide) (by decide) ?_ (fun fs hr => Y54.returnOut hx Bd.returns (hb hby d_varint_72) hr)
      show Q_varint Z v0 v1 dd xs rs h0 n0 _ T54.heap _
      rw [e54]
      exact ⟨rfl, M54, K_54, E_v0_54, F_v0_bytes_54, SL, AL⟩
    · refine G_ifNo Xj3 hx (pc' := 18) rfl (hb hby d_varint_15) ((if0 _ _).trans (feq (fun q => hc15_6 ((lw_eq _ _).1 q))).1) ?_
      refine G_aloadN Xj3 hx (pc' := 19) rfl (hb hby d_varint_18) rfl rfl ?_
      obtain ⟨T55, X55, e55, st55⟩ := getF Xj3 hx hZ hown (host := "") (Or.inl (hw _ (List.mem_of_getElem? (i := 10) rfl))) Via.refl ej3 FB3 (g := (mkF m 19 #[.val (.ref v0), .val (.long v1), .second, .val (.long (own_sh 3 v1)), .second] [(.ref v0)])) rfl rfl (hb hby d_varint_19)
      refine Go.st st55 ?_
      show Go p e below s _ _ _ T55 (mkF m 22 #[.val (.ref v0), .val (.long v1), .second, .val (.long (own_sh 3 v1)), .second] [(.ref dd)])
      refine G_aloadN X55 hx (pc' := 23) rfl (hb hby d_varint_22) rfl rfl ?_
      refine G_dup X55 hx (pc' := 24) rfl (hb hby d_varint_23) rfl ?_
      obtain ⟨T56, X56, e56, st56⟩ := getF X55 hx hZ hown (host := "") (Or.inl (hw _ (List.mem_of_getElem? (i := 17) rfl))) Via.refl e55 FS3 (g := (mkF m 24 #[.val (.ref v0), .val (.long v1), .second, .val (.long (own_sh 3 v1)), .second] [(.ref v0), (.ref v0), (.ref dd)])) rfl rfl (hb hby d_varint_24)
      refine Go.st st56 ?_
      show Go p e below s _ _ _ T56 (mkF m 27 #[.val (.ref v0), .val (.long v1), .second, .val (.long (own_sh 3 v1)), .second] [(.int (Int32.ofNat (xs ++ own_pre 3 v1).length)), (.ref v0), (.ref dd)])
      refine G_dupX1 X56 hx (pc' := 28) rfl (hb hby d_varint_27) rfl rfl ?_
      refine G_iconst X56 hx (pc' := 29) rfl (hb hby d_varint_28) (z := (1 : Int32)) rfl ?_
      refine G_iadd X56 hx (pc' := 30) rfl (hb hby d_varint_29)  ?_
      obtain ⟨T57, h57, X57, e57, W57, st57⟩ := putF X56 hx hZ hown (host := "") (Or.inl (hw _ (List.mem_of_getElem? (i := 17) rfl))) Via.refl e56 FS3 FE3 (Or.inl (hw _ (List.mem_of_getElem? (i := 18) rfl))) (hw _ (List.mem_of_getElem? (i := 1) rfl)) (ty := .int) (by decide) rfl rfl (g := (mkF m 30 #[.val (.ref v0), .val (.long v1), .second, .val (.long (own_sh 3 v1)), .second] [(.int ((Int32.ofNat (xs ++ own_pre 3 v1).length) + (1 : Int32))), (.ref v0), (.int (Int32.ofNat (xs ++ own_pre 3 v1).length)), (.ref dd)])) rfl rfl (hb hby d_varint_30)
      refine Go.st st57 ?_
      have F_v0_w57 := FS3.same W57
      have E_v0_57 := FE3.wr W57
      have F_v0_bytes_57 := FB3.other W57 (Or.inr (slot_ne (Or.inl (hw _ (List.mem_of_getElem? (i := 11) rfl))) (Or.inl (hw _ (List.mem_of_getElem? (i := 18) rfl))) (by decide) (t := (.array .byte)) (t' := .int) (by decide) (by decide)))
      have A_dd_57 := FA3.other W57 (Ne.symm ne_v0_dd)
      have K_57 : Keep h0 h57 [v0, dd] := Kj3.wr W57 (Or.inl (List.mem_of_getElem? (i := 0) rfl))
      have Z_57 : n0 ≤ h57.size := Nat.le_trans Z0 K_57.1
      have N57 := Fr.snoc X57 Nj3 g_v0
      clear FE3 FB3 FS3 FA3 W57 st57
      obtain ⟨G57, Y57, M57⟩ : ∃ L, Stand p l e ({ frames := 1, cells := 0, slots := 0, locals := 13 } : Room) s m #[(.ref v0), (.long v1)] below meth c T57 L 0 0 ∧ Fr n0 L := ⟨_, X57, N57⟩
      clear X57 N57
      show Go p e below s _ _ _ T57 (mkF m 33 #[.val (.ref v0), .val (.long v1), .second, .val (.long (own_sh 3 v1)), .second] [(.int (Int32.ofNat (xs ++ own_pre 3 v1).length)), (.ref dd)])
      refine G_lloadN Y57 hx (pc' := 34) rfl (hb hby d_varint_33) rfl ?_
      refine G_ldc2 Y57 hx (pc' := 37) rfl hown (mvT hZ (hw _ (List.mem_of_getElem? (i := 65) rfl))) (hb hby d_varint_34) ?_
      refine G_land Y57 hx (pc' := 38) rfl (hb hby d_varint_37)  ?_
      refine G_ldc2 Y57 hx (pc' := 41) rfl hown (mvT hZ (hw _ (List.mem_of_getElem? (i := 66) rfl))) (hb hby d_varint_38) ?_
      refine G_lor Y57 hx (pc' := 42) rfl (hb hby d_varint_41)  ?_
      refine G_l2i Y57 hx (pc' := 43) rfl (hb hby d_varint_42)  ?_
      refine G_i2b Y57 hx (pc' := 44) rfl (hb hby d_varint_43)  ?_
      obtain ⟨T58, h58, X58, e58, W58, A58, st58⟩ := stABn Y57 hx hZ e57 A_dd_57 (j := (Int32.ofNat (xs ++ own_pre 3 v1).length)) (own_i1 hx_ (by decide : 3 ≤ 9)) (own_i2 hl hx_ (by decide : 3 ≤ 9)) (g := (mkF m 44 #[.val (.ref v0), .val (.long v1), .second, .val (.long (own_sh 3 v1)), .second] [(.int (((((own_sh 3 v1) &&& (127 : Int64)) ||| (128 : Int64)).toInt32).toInt8.toInt32)), (.int (Int32.ofNat (xs ++ own_pre 3 v1).length)), (.ref dd)])) rfl rfl (hb hby d_varint_44)
      refine Go.st st58 ?_
      have E_v0_58 := E_v0_57.wr W58
      have F_v0_bytes_58 := F_v0_bytes_57.other W58 (Or.inl ne_v0_dd)
      have F_v0_size_58 := F_v0_w57.other W58 (Or.inl ne_v0_dd)
      have A_dd_58 : AI Z h58 dd .byte (((xs ++ own_pre 3 v1) ++ rs.drop 3).set (Int32.ofNat (xs ++ own_pre 3 v1).length).toNatClampNeg (((((own_sh 3 v1) &&& (127 : Int64)) ||| (128 : Int64)).toInt32).toInt8.toInt32)) := A58
      have K_58 : Keep h0 h58 [v0, dd] := K_57.wr W58 (Or.inl (List.mem_of_getElem? (i := 1) rfl))
      have Z_58 : n0 ≤ h58.size := Nat.le_trans Z0 K_58.1
      have N58 := Fr.snoc X58 M57 g_dd
      clear E_v0_57 F_v0_bytes_57 A_dd_57 F_v0_w57 W58 st58 A58
      obtain ⟨G58, Y58, M58⟩ : ∃ L, Stand p l e ({ frames := 1, cells := 0, slots := 0, locals := 13 } : Room) s m #[(.ref v0), (.long v1)] below meth c T58 L 0 0 ∧ Fr n0 L := ⟨_, X58, N58⟩
      clear X58 N58
      show Go p e below s _ _ _ T58 (mkF m 45 #[.val (.ref v0), .val (.long v1), .second, .val (.long (own_sh 3 v1)), .second] [])
      refine G_lloadN Y58 hx (pc' := 46) rfl (hb hby d_varint_45) rfl ?_
      refine G_bipush Y58 hx (pc' := 48) rfl (hb hby d_varint_46) (z := (7 : Int32)) rfl ?_
      refine G_lushr Y58 hx (pc' := 49) rfl (hb hby d_varint_48)  ?_
      refine G_lstoreN Y58 hx (pc' := 50) rfl (hb hby d_varint_49) (L' := #[.val (.ref v0), .val (.long v1), .second, .val (.long (((own_sh 3 v1).toUInt64 >>> ((7 : Int32) &&& 0x3f).toInt64.toUInt64).toInt64)), .second]) rfl ?_
      refine G_goto Y58 hx (pc' := 8) (hb hby d_varint_50)  (by decide) (by decide) ?_
      have hq4 : 268435456 ≤ own_U v1 := by have z := mt (own_t3 v1).2 hc15_6; omega
      have SF4 : Fld Z h58 v0 "com/example/muster/muster/Protobuf$Writer" "size" "I" (.int (Int32.ofNat (xs ++ own_pre 4 v1).length)) := own_c2 ▸ F_v0_size_58
      have AF4 : AI Z h58 dd .byte ((xs ++ own_pre 4 v1) ++ rs.drop 4) := own_c1 hl hx_ (by decide : 3 ≤ 9) ▸ A_dd_58
      exact J4 T58 _ _ Y58 e58 M58 K_58 Z_58 E_v0_58 F_v0_bytes_58 SF4 AF4 hq4
  have J2 : ∀ (T : State) (h : Heap) (L : List Loc) (X : Stand p l e ({ frames := 1, cells := 0, slots := 0, locals := 13 } : Room) s m #[(.ref v0), (.long v1)] below meth c T L 0 0) (e1 : T.heap = h) (N : Fr n0 L) (K : Keep h0 h [v0, dd]) (Zq : n0 ≤ h.size) (FE : Exa Z h v0 "com/example/muster/muster/Protobuf$Writer") (FB : Fld Z h v0 "com/example/muster/muster/Protobuf$Writer" "bytes" "[B" (.ref dd)) (FS : Fld Z h v0 "com/example/muster/muster/Protobuf$Writer" "size" "I" (.int (Int32.ofNat (xs ++ own_pre 2 v1).length))) (FA : AI Z h dd .byte ((xs ++ own_pre 2 v1) ++ rs.drop 2)) (hg : 16384 ≤ own_U v1), Go p e below s ({ frames := 1, cells := 0, slots := 0, locals := 13 } : Room).cells ({ frames := 1, cells := 0, slots := 0, locals := 13 } : Room).slots (Q_varint Z v0 v1 dd xs rs h0 n0) T (mkF m 8 #[.val (.ref v0), .val (.long v1), .second, .val (.long (own_sh 2 v1)), .second] []) := by
    intro Tj2 hj2 Lj2 Xj2 ej2 Nj2 Kj2 Zj2 FE2 FB2 FS2 FA2 hg
    refine G_lloadN Xj2 hx (pc' := 9) rfl (hb hby d_varint_8) rfl ?_
    refine G_ldc2 Xj2 hx (pc' := 12) rfl hown (mvT hZ (hw _ (List.mem_of_getElem? (i := 48) rfl))) (hb hby d_varint_9) ?_
    refine G_land Xj2 hx (pc' := 13) rfl (hb hby d_varint_12)  ?_
    refine G_lconst Xj2 hx (pc' := 14) rfl (hb hby d_varint_13) (z := (0 : Int64)) rfl ?_
    refine G_lcmp Xj2 hx (pc' := 15) rfl (hb hby d_varint_14)  ?_
    by_cases hc15_7 : ((own_sh 2 v1) &&& (-128 : Int64)) = (0 : Int64)
    · refine G_ifYes Xj2 hx (pc' := 53) (hb hby d_varint_15) ((if0 _ _).trans (teq ((lw_eq _ _).2 hc15_7)).1) (by decide) (by decide) ?_
      refine G_aloadN Xj2 hx (pc' := 54) rfl (hb hby d_varint_53) rfl rfl ?_
      obtain ⟨T59, X59, e59, st59⟩ := getF Xj2 hx hZ hown (host := "") (Or.inl (hw _ (List.mem_of_getElem? (i := 10) rfl))) Via.refl ej2 FB2 (g := (mkF m 54 #[.val (.ref v0), .val (.long v1), .second, .val (.long (own_sh 2 v1)), .second] [(.ref v0)])) rfl rfl (hb hby d_varint_54)
      refine Go.st st59 ?_
      show Go p e below s _ _ _ T59 (mkF m 57 #[.val (.ref v0), .val (.long v1), .second, .val (.long (own_sh 2 v1)), .second] [(.ref dd)])
      refine G_aloadN X59 hx (pc' := 58) rfl (hb hby d_varint_57) rfl rfl ?_
      refine G_dup X59 hx (pc' := 59) rfl (hb hby d_varint_58) rfl ?_
      obtain ⟨T60, X60, e60, st60⟩ := getF X59 hx hZ hown (host := "") (Or.inl (hw _ (List.mem_of_getElem? (i := 17) rfl))) Via.refl e59 FS2 (g := (mkF m 59 #[.val (.ref v0), .val (.long v1), .second, .val (.long (own_sh 2 v1)), .second] [(.ref v0), (.ref v0), (.ref dd)])) rfl rfl (hb hby d_varint_59)
      refine Go.st st60 ?_
      show Go p e below s _ _ _ T60 (mkF m 62 #[.val (.ref v0), .val (.long v1), .second, .val (.long (own_sh 2 v1)), .second] [(.int (Int32.ofNat (xs ++ own_pre 2 v1).length)), (.ref v0), (.ref dd)])
      refine G_dupX1 X60 hx (pc' := 63) rfl (hb hby d_varint_62) rfl rfl ?_
      refine G_iconst X60 hx (pc' := 64) rfl (hb hby d_varint_63) (z := (1 : Int32)) rfl ?_
      refine G_iadd X60 hx (pc' := 65) rfl (hb hby d_varint_64)  ?_
      obtain ⟨T61, h61, X61, e61, W61, st61⟩ := putF X60 hx hZ hown (host := "") (Or.inl (hw _ (List.mem_of_getElem? (i := 17) rfl))) Via.refl e60 FS2 FE2 (Or.inl (hw _ (List.mem_of_getElem? (i := 18) rfl))) (hw _ (List.mem_of_getElem? (i := 1) rfl)) (ty := .int) (by decide) rfl rfl (g := (mkF m 65 #[.val (.ref v0), .val (.long v1), .second, .val (.long (own_sh 2 v1)), .second] [(.int ((Int32.ofNat (xs ++ own_pre 2 v1).length) + (1 : Int32))), (.ref v0), (.int (Int32.ofNat (xs ++ own_pre 2 v1).length)), (.ref dd)])) rfl rfl (hb hby d_varint_65)
      refine Go.st st61 ?_
      have F_v0_w61 := FS2.same W61
      have E_v0_61 := FE2.wr W61
      have F_v0_bytes_61 := FB2.other W61 (Or.inr (slot_ne (Or.inl (hw _ (List.mem_of_getElem? (i := 11) rfl))) (Or.inl (hw _ (List.mem_of_getElem? (i := 18) rfl))) (by decide) (t := (.array .byte)) (t' := .int) (by decide) (by decide)))
      have A_dd_61 := FA2.other W61 (Ne.symm ne_v0_dd)
      have K_61 : Keep h0 h61 [v0, dd] := Kj2.wr W61 (Or.inl (List.mem_of_getElem? (i := 0) rfl))
      have Z_61 : n0 ≤ h61.size := Nat.le_trans Z0 K_61.1
      have N61 := Fr.snoc X61 Nj2 g_v0
      clear FE2 FB2 FS2 FA2 W61 st61
      obtain ⟨G61, Y61, M61⟩ : ∃ L, Stand p l e ({ frames := 1, cells := 0, slots := 0, locals := 13 } : Room) s m #[(.ref v0), (.long v1)] below meth c T61 L 0 0 ∧ Fr n0 L := ⟨_, X61, N61⟩
      clear X61 N61
      show Go p e below s _ _ _ T61 (mkF m 68 #[.val (.ref v0), .val (.long v1), .second, .val (.long (own_sh 2 v1)), .second] [(.int (Int32.ofNat (xs ++ own_pre 2 v1).length)), (.ref dd)])
      refine G_lloadN Y61 hx (pc' := 69) rfl (hb hby d_varint_68) rfl ?_
      refine G_l2i Y61 hx (pc' := 70) rfl (hb hby d_varint_69)  ?_
      refine G_i2b Y61 hx (pc' := 71) rfl (hb hby d_varint_70)  ?_
      obtain ⟨T62, h62, X62, e62, W62, A62, st62⟩ := stABn Y61 hx hZ e61 A_dd_61 (j := (Int32.ofNat (xs ++ own_pre 2 v1).length)) (own_i1 hx_ (by decide : 2 ≤ 9)) (own_i2 hl hx_ (by decide : 2 ≤ 9)) (g := (mkF m 71 #[.val (.ref v0), .val (.long v1), .second, .val (.long (own_sh 2 v1)), .second] [(.int (((own_sh 2 v1).toInt32).toInt8.toInt32)), (.int (Int32.ofNat (xs ++ own_pre 2 v1).length)), (.ref dd)])) rfl rfl (hb hby d_varint_71)
      refine Go.st st62 ?_
      have E_v0_62 := E_v0_61.wr W62
      have F_v0_bytes_62 := F_v0_bytes_61.other W62 (Or.inl ne_v0_dd)
      have F_v0_size_62 := F_v0_w61.other W62 (Or.inl ne_v0_dd)
      have A_dd_62 : AI Z h62 dd .byte (((xs ++ own_pre 2 v1) ++ rs.drop 2).set (Int32.ofNat (xs ++ own_pre 2 v1).length).toNatClampNeg (((own_sh 2 v1).toInt32).toInt8.toInt32)) := A62
      have K_62 : Keep h0 h62 [v0, dd] := K_61.wr W62 (Or.inl (List.mem_of_getElem? (i := 1) rfl))
      have Z_62 : n0 ≤ h62.size := Nat.le_trans Z0 K_62.1
      have N62 := Fr.snoc X62 M61 g_dd
      clear E_v0_61 F_v0_bytes_61 A_dd_61 F_v0_w61 W62 st62 A62
      obtain ⟨G62, Y62, M62⟩ : ∃ L, Stand p l e ({ frames := 1, cells := 0, slots := 0, locals := 13 } : Room) s m #[(.ref v0), (.long v1)] below meth c T62 L 0 0 ∧ Fr n0 L := ⟨_, X62, N62⟩
      clear X62 N62
      show Go p e below s _ _ _ T62 (mkF m 72 #[.val (.ref v0), .val (.long v1), .second, .val (.long (own_sh 2 v1)), .second] [])
      have hn : own_n v1 = 2 := own_n_2 hg ((own_t2 v1).1 hc15_7)
      have SL : Fld Z h62 v0 "com/example/muster/muster/Protobuf$Writer" "size" "I" (.int (Int32.ofNat (xs ++ own_enc v1).length)) := own_c4 hn ▸ F_v0_size_62
      have AL : AI Z h62 dd .byte ((xs ++ own_enc v1) ++ rs.drop (own_enc v1).length) := own_c3 hl hx_ (by decide : 2 ≤ 9) hn ▸ A_dd_62
      refine Go.fin Y62 hlk (v := none) (fun _ => rfl) (by decide) (by decide) ?_ (fun fs hr => Y62.returnOut hx Bd.returns (hb hby d_varint_72) hr)
      show Q_varint Z v0 v1 dd xs rs h0 n0 _ T62.heap _
      rw [e62]
      exact ⟨rfl, M62, K_62, E_v0_62, F_v0_bytes_62, SL, AL⟩
    · refine G_ifNo Xj2 hx (pc' := 18) rfl (hb hby d_varint_15) ((if0 _ _).trans (feq (fun q => hc15_7 ((lw_eq _ _).1 q))).1) ?_
      refine G_aloadN Xj2 hx (pc' := 19) rfl (hb hby d_varint_18) rfl rfl ?_
      obtain ⟨T63, X63, e63, st63⟩ := getF Xj2 hx hZ hown (host := "") (Or.inl (hw _ (List.mem_of_getElem? (i := 10) rfl))) Via.refl ej2 FB2 (g := (mkF m 19 #[.val (.ref v0), .val (.long v1), .second, .val (.long (own_sh 2 v1)), .second] [(.ref v0)])) rfl rfl (hb hby d_varint_19)
      refine Go.st st63 ?_
      show Go p e below s _ _ _ T63 (mkF m 22 #[.val (.ref v0), .val (.long v1), .second, .val (.long (own_sh 2 v1)), .second] [(.ref dd)])
      refine G_aloadN X63 hx (pc' := 23) rfl (hb hby d_varint_22) rfl rfl ?_
      refine G_dup X63 hx (pc' := 24) rfl (hb hby d_varint_23) rfl ?_
      obtain ⟨T64, X64, e64, st64⟩ := getF X63 hx hZ hown (host := "") (Or.inl (hw _ (List.mem_of_getElem? (i := 17) rfl))) Via.refl e63 FS2 (g := (mkF m 24 #[.val (.ref v0), .val (.long v1), .second, .val (.long (own_sh 2 v1)), .second] [(.ref v0), (.ref v0), (.ref dd)])) rfl rfl (hb hby d_varint_24)
      refine Go.st st64 ?_
      show Go p e below s _ _ _ T64 (mkF m 27 #[.val (.ref v0), .val (.long v1), .second, .val (.long (own_sh 2 v1)), .second] [(.int (Int32.ofNat (xs ++ own_pre 2 v1).length)), (.ref v0), (.ref dd)])
      refine G_dupX1 X64 hx (pc' := 28) rfl (hb hby d_varint_27) rfl rfl ?_
      refine G_iconst X64 hx (pc' := 29) rfl (hb hby d_varint_28) (z := (1 : Int32)) rfl ?_
      refine G_iadd X64 hx (pc' := 30) rfl (hb hby d_varint_29)  ?_
      obtain ⟨T65, h65, X65, e65, W65, st65⟩ := putF X64 hx hZ hown (host := "") (Or.inl (hw _ (List.mem_of_getElem? (i := 17) rfl))) Via.refl e64 FS2 FE2 (Or.inl (hw _ (List.mem_of_getElem? (i := 18) rfl))) (hw _ (List.mem_of_getElem? (i := 1) rfl)) (ty := .int) (by decide) rfl rfl (g := (mkF m 30 #[.val (.ref v0), .val (.long v1), .second, .val (.long (own_sh 2 v1)), .second] [(.int ((Int32.ofNat (xs ++ own_pre 2 v1).length) + (1 : Int32))), (.ref v0), (.int (Int32.ofNat (xs ++ own_pre 2 v1).length)), (.ref dd)])) rfl rfl (hb hby d_varint_30)
      refine Go.st st65 ?_
      have F_v0_w65 := FS2.same W65
      have E_v0_65 := FE2.wr W65
      have F_v0_bytes_65 := FB2.other W65 (Or.inr (slot_ne (Or.inl (hw _ (List.mem_of_getElem? (i := 11) rfl))) (Or.inl (hw _ (List.mem_of_getElem? (i := 18) rfl))) (by decide) (t := (.array .byte)) (t' := .int) (by decide) (by decide)))
      have A_dd_65 := FA2.other W65 (Ne.symm ne_v0_dd)
      have K_65 : Keep h0 h65 [v0, dd] := Kj2.wr W65 (Or.inl (List.mem_of_getElem? (i := 0) rfl))
      have Z_65 : n0 ≤ h65.size := Nat.le_trans Z0 K_65.1
      have N65 := Fr.snoc X65 Nj2 g_v0
      clear FE2 FB2 FS2 FA2 W65 st65
      obtain ⟨G65, Y65, M65⟩ : ∃ L, Stand p l e ({ frames := 1, cells := 0, slots := 0, locals := 13 } : Room) s m #[(.ref v0), (.long v1)] below meth c T65 L 0 0 ∧ Fr n0 L := ⟨_, X65, N65⟩
      clear X65 N65
      show Go p e below s _ _ _ T65 (mkF m 33 #[.val (.ref v0), .val (.long v1), .second, .val (.long (own_sh 2 v1)), .second] [(.int (Int32.ofNat (xs ++ own_pre 2 v1).length)), (.ref dd)])
      refine G_lloadN Y65 hx (pc' := 34) rfl (hb hby d_varint_33) rfl ?_
      refine G_ldc2 Y65 hx (pc' := 37) rfl hown (mvT hZ (hw _ (List.mem_of_getElem? (i := 65) rfl))) (hb hby d_varint_34) ?_
      refine G_land Y65 hx (pc' := 38) rfl (hb hby d_varint_37)  ?_
      refine G_ldc2 Y65 hx (pc' := 41) rfl hown (mvT hZ (hw _ (List.mem_of_getElem? (i := 66) rfl))) (hb hby d_varint_38) ?_
      refine G_lor Y65 hx (pc' := 42) rfl (hb hby d_varint_41)  ?_
      refine G_l2i Y65 hx (pc' := 43) rfl (hb hby d_varint_42)  ?_
      refine G_i2b Y65 hx (pc' := 44) rfl (hb hby d_varint_43)  ?_
      obtain ⟨T66, h66, X66, e66, W66, A66, st66⟩ := stABn Y65 hx hZ e65 A_dd_65 (j := (Int32.ofNat (xs ++ own_pre 2 v1).length)) (own_i1 hx_ (by decide : 2 ≤ 9)) (own_i2 hl hx_ (by decide : 2 ≤ 9)) (g := (mkF m 44 #[.val (.ref v0), .val (.long v1), .second, .val (.long (own_sh 2 v1)), .second] [(.int (((((own_sh 2 v1) &&& (127 : Int64)) ||| (128 : Int64)).toInt32).toInt8.toInt32)), (.int (Int32.ofNat (xs ++ own_pre 2 v1).length)), (.ref dd)])) rfl rfl (hb hby d_varint_44)
      refine Go.st st66 ?_
      have E_v0_66 := E_v0_65.wr W66
      have F_v0_bytes_66 := F_v0_bytes_65.other W66 (Or.inl ne_v0_dd)
      have F_v0_size_66 := F_v0_w65.other W66 (Or.inl ne_v0_dd)
      have A_dd_66 : AI Z h66 dd .byte (((xs ++ own_pre 2 v1) ++ rs.drop 2).set (Int32.ofNat (xs ++ own_pre 2 v1).length).toNatClampNeg (((((own_sh 2 v1) &&& (127 : Int64)) ||| (128 : Int64)).toInt32).toInt8.toInt32)) := A66
      have K_66 : Keep h0 h66 [v0, dd] := K_65.wr W66 (Or.inl (List.mem_of_getElem? (i := 1) rfl))
      have Z_66 : n0 ≤ h66.size := Nat.le_trans Z0 K_66.1
      have N66 := Fr.snoc X66 M65 g_dd
      clear E_v0_65 F_v0_bytes_65 A_dd_65 F_v0_w65 W66 st66 A66
      obtain ⟨G66, Y66, M66⟩ : ∃ L, Stand p l e ({ frames := 1, cells := 0, slots := 0, locals := 13 } : Room) s m #[(.ref v0), (.long v1)] below meth c T66 L 0 0 ∧ Fr n0 L := ⟨_, X66, N66⟩
      clear X66 N66
      show Go p e below s _ _ _ T66 (mkF m 45 #[.val (.ref v0), .val (.long v1), .second, .val (.long (own_sh 2 v1)), .second] [])
      refine G_lloadN Y66 hx (pc' := 46) rfl (hb hby d_varint_45) rfl ?_
      refine G_bipush Y66 hx (pc' := 48) rfl (hb hby d_varint_46) (z := (7 : Int32)) rfl ?_
      refine G_lushr Y66 hx (pc' := 49) rfl (hb hby d_varint_48)  ?_
      refine G_lstoreN Y66 hx (pc' := 50) rfl (hb hby d_varint_49) (L' := #[.val (.ref v0), .val (.long v1), .second, .val (.long (((own_sh 2 v1).toUInt64 >>> ((7 : Int32) &&& 0x3f).toInt64.toUInt64).toInt64)), .second]) rfl ?_
      refine G_goto Y66 hx (pc' := 8) (hb hby d_varint_50)  (by decide) (by decide) ?_
      have hq3 : 2097152 ≤ own_U v1 := by have z := mt (own_t2 v1).2 hc15_7; omega
      have SF3 : Fld Z h66 v0 "com/example/muster/muster/Protobuf$Writer" "size" "I" (.int (Int32.ofNat (xs ++ own_pre 3 v1).length)) := own_c2 ▸ F_v0_size_66
      have AF3 : AI Z h66 dd .byte ((xs ++ own_pre 3 v1) ++ rs.drop 3) := own_c1 hl hx_ (by decide : 2 ≤ 9) ▸ A_dd_66
      exact J3 T66 _ _ Y66 e66 M66 K_66 Z_66 E_v0_66 F_v0_bytes_66 SF3 AF3 hq3
  have J1 : ∀ (T : State) (h : Heap) (L : List Loc) (X : Stand p l e ({ frames := 1, cells := 0, slots := 0, locals := 13 } : Room) s m #[(.ref v0), (.long v1)] below meth c T L 0 0) (e1 : T.heap = h) (N : Fr n0 L) (K : Keep h0 h [v0, dd]) (Zq : n0 ≤ h.size) (FE : Exa Z h v0 "com/example/muster/muster/Protobuf$Writer") (FB : Fld Z h v0 "com/example/muster/muster/Protobuf$Writer" "bytes" "[B" (.ref dd)) (FS : Fld Z h v0 "com/example/muster/muster/Protobuf$Writer" "size" "I" (.int (Int32.ofNat (xs ++ own_pre 1 v1).length))) (FA : AI Z h dd .byte ((xs ++ own_pre 1 v1) ++ rs.drop 1)) (hg : 128 ≤ own_U v1), Go p e below s ({ frames := 1, cells := 0, slots := 0, locals := 13 } : Room).cells ({ frames := 1, cells := 0, slots := 0, locals := 13 } : Room).slots (Q_varint Z v0 v1 dd xs rs h0 n0) T (mkF m 8 #[.val (.ref v0), .val (.long v1), .second, .val (.long (own_sh 1 v1)), .second] []) := by
    intro Tj1 hj1 Lj1 Xj1 ej1 Nj1 Kj1 Zj1 FE1 FB1 FS1 FA1 hg
    refine G_lloadN Xj1 hx (pc' := 9) rfl (hb hby d_varint_8) rfl ?_
    refine G_ldc2 Xj1 hx (pc' := 12) rfl hown (mvT hZ (hw _ (List.mem_of_getElem? (i := 48) rfl))) (hb hby d_varint_9) ?_
    refine G_land Xj1 hx (pc' := 13) rfl (hb hby d_varint_12)  ?_
    refine G_lconst Xj1 hx (pc' := 14) rfl (hb hby d_varint_13) (z := (0 : Int64)) rfl ?_
    refine G_lcmp Xj1 hx (pc' := 15) rfl (hb hby d_varint_14)  ?_
    by_cases hc15_8 : ((own_sh 1 v1) &&& (-128 : Int64)) = (0 : Int64)
    · refine G_ifYes Xj1 hx (pc' := 53) (hb hby d_varint_15) ((if0 _ _).trans (teq ((lw_eq _ _).2 hc15_8)).1) (by decide) (by decide) ?_
      refine G_aloadN Xj1 hx (pc' := 54) rfl (hb hby d_varint_53) rfl rfl ?_
      obtain ⟨T67, X67, e67, st67⟩ := getF Xj1 hx hZ hown (host := "") (Or.inl (hw _ (List.mem_of_getElem? (i := 10) rfl))) Via.refl ej1 FB1 (g := (mkF m 54 #[.val (.ref v0), .val (.long v1), .second, .val (.long (own_sh 1 v1)), .second] [(.ref v0)])) rfl rfl (hb hby d_varint_54)
      refine Go.st st67 ?_
      show Go p e below s _ _ _ T67 (mkF m 57 #[.val (.ref v0), .val (.long v1), .second, .val (.long (own_sh 1 v1)), .second] [(.ref dd)])
      refine G_aloadN X67 hx (pc' := 58) rfl (hb hby d_varint_57) rfl rfl ?_
      refine G_dup X67 hx (pc' := 59) rfl (hb hby d_varint_58) rfl ?_
      obtain ⟨T68, X68, e68, st68⟩ := getF X67 hx hZ hown (host := "") (Or.inl (hw _ (List.mem_of_getElem? (i := 17) rfl))) Via.refl e67 FS1 (g := (mkF m 59 #[.val (.ref v0), .val (.long v1), .second, .val (.long (own_sh 1 v1)), .second] [(.ref v0), (.ref v0), (.ref dd)])) rfl rfl (hb hby d_varint_59)
      refine Go.st st68 ?_
      show Go p e below s _ _ _ T68 (mkF m 62 #[.val (.ref v0), .val (.long v1), .second, .val (.long (own_sh 1 v1)), .second] [(.int (Int32.ofNat (xs ++ own_pre 1 v1).length)), (.ref v0), (.ref dd)])
      refine G_dupX1 X68 hx (pc' := 63) rfl (hb hby d_varint_62) rfl rfl ?_
      refine G_iconst X68 hx (pc' := 64) rfl (hb hby d_varint_63) (z := (1 : Int32)) rfl ?_
      refine G_iadd X68 hx (pc' := 65) rfl (hb hby d_varint_64)  ?_
      obtain ⟨T69, h69, X69, e69, W69, st69⟩ := putF X68 hx hZ hown (host := "") (Or.inl (hw _ (List.mem_of_getElem? (i := 17) rfl))) Via.refl e68 FS1 FE1 (Or.inl (hw _ (List.mem_of_getElem? (i := 18) rfl))) (hw _ (List.mem_of_getElem? (i := 1) rfl)) (ty := .int) (by decide) rfl rfl (g := (mkF m 65 #[.val (.ref v0), .val (.long v1), .second, .val (.long (own_sh 1 v1)), .second] [(.int ((Int32.ofNat (xs ++ own_pre 1 v1).length) + (1 : Int32))), (.ref v0), (.int (Int32.ofNat (xs ++ own_pre 1 v1).length)), (.ref dd)])) rfl rfl (hb hby d_varint_65)
      refine Go.st st69 ?_
      have F_v0_w69 := FS1.same W69
      have E_v0_69 := FE1.wr W69
      have F_v0_bytes_69 := FB1.other W69 (Or.inr (slot_ne (Or.inl (hw _ (List.mem_of_getElem? (i := 11) rfl))) (Or.inl (hw _ (List.mem_of_getElem? (i := 18) rfl))) (by decide) (t := (.array .byte)) (t' := .int) (by decide) (by decide)))
      have A_dd_69 := FA1.other W69 (Ne.symm ne_v0_dd)
      have K_69 : Keep h0 h69 [v0, dd] := Kj1.wr W69 (Or.inl (List.mem_of_getElem? (i := 0) rfl))
      have Z_69 : n0 ≤ h69.size := Nat.le_trans Z0 K_69.1
      have N69 := Fr.snoc X69 Nj1 g_v0
      clear FE1 FB1 FS1 FA1 W69 st69
      obtain ⟨G69, Y69, M69⟩ : ∃ L, Stand p l e ({ frames := 1, cells := 0, slots := 0, locals := 13 } : Room) s m #[(.ref v0), (.long v1)] below meth c T69 L 0 0 ∧ Fr n0 L := ⟨_, X69, N69⟩
      clear X69 N69
      show Go p e below s _ _ _ T69 (mkF m 68 #[.val (.ref v0), .val (.long v1), .second, .val (.long (own_sh 1 v1)), .second] [(.int (Int32.ofNat (xs ++ own_pre 1 v1).length)), (.ref dd)])
      refine G_lloadN Y69 hx (pc' := 69) rfl (hb hby d_varint_68) rfl ?_
      refine G_l2i Y69 hx (pc' := 70) rfl (hb hby d_varint_69)  ?_
      refine G_i2b Y69 hx (pc' := 71) rfl (hb hby d_varint_70)  ?_
      obtain ⟨T70, h70, X70, e70, W70, A70, st70⟩ := stABn Y69 hx hZ e69 A_dd_69 (j := (Int32.ofNat (xs ++ own_pre 1 v1).length)) (own_i1 hx_ (by decide : 1 ≤ 9)) (own_i2 hl hx_ (by decide : 1 ≤ 9)) (g := (mkF m 71 #[.val (.ref v0), .val (.long v1), .second, .val (.long (own_sh 1 v1)), .second] [(.int (((own_sh 1 v1).toInt32).toInt8.toInt32)), (.int (Int32.ofNat (xs ++ own_pre 1 v1).length)), (.ref dd)])) rfl rfl (hb hby d_varint_71)
      refine Go.st st70 ?_
      have E_v0_70 := E_v0_69.wr W70
      have F_v0_bytes_70 := F_v0_bytes_69.other W70 (Or.inl ne_v0_dd)
      have F_v0_size_70 := F_v0_w69.other W70 (Or.inl ne_v0_dd)
      have A_dd_70 : AI Z h70 dd .byte (((xs ++ own_pre 1 v1) ++ rs.drop 1).set (Int32.ofNat (xs ++ own_pre 1 v1).length).toNatClampNeg (((own_sh 1 v1).toInt32).toInt8.toInt32)) := A70
      have K_70 : Keep h0 h70 [v0, dd] := K_69.wr W70 (Or.inl (List.mem_of_getElem? (i := 1) rfl))
      have Z_70 : n0 ≤ h70.size := Nat.le_trans Z0 K_70.1
      have N70 := Fr.snoc X70 M69 g_dd
      clear E_v0_69 F_v0_bytes_69 A_dd_69 F_v0_w69 W70 st70 A70
      obtain ⟨G70, Y70, M70⟩ : ∃ L, Stand p l e ({ frames := 1, cells := 0, slots := 0, locals := 13 } : Room) s m #[(.ref v0), (.long v1)] below meth c T70 L 0 0 ∧ Fr n0 L := ⟨_, X70, N70⟩
      clear X70 N70
      show Go p e below s _ _ _ T70 (mkF m 72 #[.val (.ref v0), .val (.long v1), .second, .val (.long (own_sh 1 v1)), .second] [])
      have hn : own_n v1 = 1 := own_n_1 hg ((own_t1 v1).1 hc15_8)
      have SL : Fld Z h70 v0 "com/example/muster/muster/Protobuf$Writer" "size" "I" (.int (Int32.ofNat (xs ++ own_enc v1).length)) := own_c4 hn ▸ F_v0_size_70
      have AL : AI Z h70 dd .byte ((xs ++ own_enc v1) ++ rs.drop (own_enc v1).length) := own_c3 hl hx_ (by decide : 1 ≤ 9) hn ▸ A_dd_70
      refine Go.fin Y70 hlk (v := none) (fun _ => rfl) (by decide) (by decide) ?_ (fun fs hr => Y70.returnOut hx Bd.returns (hb hby d_varint_72) hr)
      show Q_varint Z v0 v1 dd xs rs h0 n0 _ T70.heap _
      rw [e70]
      exact ⟨rfl, M70, K_70, E_v0_70, F_v0_bytes_70, SL, AL⟩
    · refine G_ifNo Xj1 hx (pc' := 18) rfl (hb hby d_varint_15) ((if0 _ _).trans (feq (fun q => hc15_8 ((lw_eq _ _).1 q))).1) ?_
      refine G_aloadN Xj1 hx (pc' := 19) rfl (hb hby d_varint_18) rfl rfl ?_
      obtain ⟨T71, X71, e71, st71⟩ := getF Xj1 hx hZ hown (host := "") (Or.inl (hw _ (List.mem_of_getElem? (i := 10) rfl))) Via.refl ej1 FB1 (g := (mkF m 19 #[.val (.ref v0), .val (.long v1), .second, .val (.long (own_sh 1 v1)), .second] [(.ref v0)])) rfl rfl (hb hby d_varint_19)
      refine Go.st st71 ?_
      show Go p e below s _ _ _ T71 (mkF m 22 #[.val (.ref v0), .val (.long v1), .second, .val (.long (own_sh 1 v1)), .second] [(.ref dd)])
      refine G_aloadN X71 hx (pc' := 23) rfl (hb hby d_varint_22) rfl rfl ?_
      refine G_dup X71 hx (pc' := 24) rfl (hb hby d_varint_23) rfl ?_
      obtain ⟨T72, X72, e72, st72⟩ := getF X71 hx hZ hown (host := "") (Or.inl (hw _ (List.mem_of_getElem? (i := 17) rfl))) Via.refl e71 FS1 (g := (mkF m 24 #[.val (.ref v0), .val (.long v1), .second, .val (.long (own_sh 1 v1)), .second] [(.ref v0), (.ref v0), (.ref dd)])) rfl rfl (hb hby d_varint_24)
      refine Go.st st72 ?_
      show Go p e below s _ _ _ T72 (mkF m 27 #[.val (.ref v0), .val (.long v1), .second, .val (.long (own_sh 1 v1)), .second] [(.int (Int32.ofNat (xs ++ own_pre 1 v1).length)), (.ref v0), (.ref dd)])
      refine G_dupX1 X72 hx (pc' := 28) rfl (hb hby d_varint_27) rfl rfl ?_
      refine G_iconst X72 hx (pc' := 29) rfl (hb hby d_varint_28) (z := (1 : Int32)) rfl ?_
      refine G_iadd X72 hx (pc' := 30) rfl (hb hby d_varint_29)  ?_
      obtain ⟨T73, h73, X73, e73, W73, st73⟩ := putF X72 hx hZ hown (host := "") (Or.inl (hw _ (List.mem_of_getElem? (i := 17) rfl))) Via.refl e72 FS1 FE1 (Or.inl (hw _ (List.mem_of_getElem? (i := 18) rfl))) (hw _ (List.mem_of_getElem? (i := 1) rfl)) (ty := .int) (by decide) rfl rfl (g := (mkF m 30 #[.val (.ref v0), .val (.long v1), .second, .val (.long (own_sh 1 v1)), .second] [(.int ((Int32.ofNat (xs ++ own_pre 1 v1).length) + (1 : Int32))), (.ref v0), (.int (Int32.ofNat (xs ++ own_pre 1 v1).length)), (.ref dd)])) rfl rfl (hb hby d_varint_30)
      refine Go.st st73 ?_
      have F_v0_w73 := FS1.same W73
      have E_v0_73 := FE1.wr W73
      have F_v0_bytes_73 := FB1.other W73 (Or.inr (slot_ne (Or.inl (hw _ (List.mem_of_getElem? (i := 11) rfl))) (Or.inl (hw _ (List.mem_of_getElem? (i := 18) rfl))) (by decide) (t := (.array .byte)) (t' := .int) (by decide) (by decide)))
      have A_dd_73 := FA1.other W73 (Ne.symm ne_v0_dd)
      have K_73 : Keep h0 h73 [v0, dd] := Kj1.wr W73 (Or.inl (List.mem_of_getElem? (i := 0) rfl))
      have Z_73 : n0 ≤ h73.size := Nat.le_trans Z0 K_73.1
      have N73 := Fr.snoc X73 Nj1 g_v0
      clear FE1 FB1 FS1 FA1 W73 st73
      obtain ⟨G73, Y73, M73⟩ : ∃ L, Stand p l e ({ frames := 1, cells := 0, slots := 0, locals := 13 } : Room) s m #[(.ref v0), (.long v1)] below meth c T73 L 0 0 ∧ Fr n0 L := ⟨_, X73, N73⟩
      clear X73 N73
      show Go p e below s _ _ _ T73 (mkF m 33 #[.val (.ref v0), .val (.long v1), .second, .val (.long (own_sh 1 v1)), .second] [(.int (Int32.ofNat (xs ++ own_pre 1 v1).length)), (.ref dd)])
      refine G_lloadN Y73 hx (pc' := 34) rfl (hb hby d_varint_33) rfl ?_
      refine G_ldc2 Y73 hx (pc' := 37) rfl hown (mvT hZ (hw _ (List.mem_of_getElem? (i := 65) rfl))) (hb hby d_varint_34) ?_
      refine G_land Y73 hx (pc' := 38) rfl (hb hby d_varint_37)  ?_
      refine G_ldc2 Y73 hx (pc' := 41) rfl hown (mvT hZ (hw _ (List.mem_of_getElem? (i := 66) rfl))) (hb hby d_varint_38) ?_
      refine G_lor Y73 hx (pc' := 42) rfl (hb hby d_varint_41)  ?_
      refine G_l2i Y73 hx (pc' := 43) rfl (hb hby d_varint_42)  ?_
      refine G_i2b Y73 hx (pc' := 44) rfl (hb hby d_varint_43)  ?_
      obtain ⟨T74, h74, X74, e74, W74, A74, st74⟩ := stABn Y73 hx hZ e73 A_dd_73 (j := (Int32.ofNat (xs ++ own_pre 1 v1).length)) (own_i1 hx_ (by decide : 1 ≤ 9)) (own_i2 hl hx_ (by decide : 1 ≤ 9)) (g := (mkF m 44 #[.val (.ref v0), .val (.long v1), .second, .val (.long (own_sh 1 v1)), .second] [(.int (((((own_sh 1 v1) &&& (127 : Int64)) ||| (128 : Int64)).toInt32).toInt8.toInt32)), (.int (Int32.ofNat (xs ++ own_pre 1 v1).length)), (.ref dd)])) rfl rfl (hb hby d_varint_44)
      refine Go.st st74 ?_
      have E_v0_74 := E_v0_73.wr W74
      have F_v0_bytes_74 := F_v0_bytes_73.other W74 (Or.inl ne_v0_dd)
      have F_v0_size_74 := F_v0_w73.other W74 (Or.inl ne_v0_dd)
      have A_dd_74 : AI Z h74 dd .byte (((xs ++ own_pre 1 v1) ++ rs.drop 1).set (Int32.ofNat (xs ++ own_pre 1 v1).length).toNatClampNeg (((((own_sh 1 v1) &&& (127 : Int64)) ||| (128 : Int64)).toInt32).toInt8.toInt32)) := A74
      have K_74 : Keep h0 h74 [v0, dd] := K_73.wr W74 (Or.inl (List.mem_of_getElem? (i := 1) rfl))
      have Z_74 : n0 ≤ h74.size := Nat.le_trans Z0 K_74.1
      have N74 := Fr.snoc X74 M73 g_dd
      clear E_v0_73 F_v0_bytes_73 A_dd_73 F_v0_w73 W74 st74 A74
      obtain ⟨G74, Y74, M74⟩ : ∃ L, Stand p l e ({ frames := 1, cells := 0, slots := 0, locals := 13 } : Room) s m #[(.ref v0), (.long v1)] below meth c T74 L 0 0 ∧ Fr n0 L := ⟨_, X74, N74⟩
      clear X74 N74
      show Go p e below s _ _ _ T74 (mkF m 45 #[.val (.ref v0), .val (.long v1), .second, .val (.long (own_sh 1 v1)), .second] [])
      refine G_lloadN Y74 hx (pc' := 46) rfl (hb hby d_varint_45) rfl ?_
      refine G_bipush Y74 hx (pc' := 48) rfl (hb hby d_varint_46) (z := (7 : Int32)) rfl ?_
      refine G_lushr Y74 hx (pc' := 49) rfl (hb hby d_varint_48)  ?_
      refine G_lstoreN Y74 hx (pc' := 50) rfl (hb hby d_varint_49) (L' := #[.val (.ref v0), .val (.long v1), .second, .val (.long (((own_sh 1 v1).toUInt64 >>> ((7 : Int32) &&& 0x3f).toInt64.toUInt64).toInt64)), .second]) rfl ?_
      refine G_goto Y74 hx (pc' := 8) (hb hby d_varint_50)  (by decide) (by decide) ?_
      have hq2 : 16384 ≤ own_U v1 := by have z := mt (own_t1 v1).2 hc15_8; omega
      have SF2 : Fld Z h74 v0 "com/example/muster/muster/Protobuf$Writer" "size" "I" (.int (Int32.ofNat (xs ++ own_pre 2 v1).length)) := own_c2 ▸ F_v0_size_74
      have AF2 : AI Z h74 dd .byte ((xs ++ own_pre 2 v1) ++ rs.drop 2) := own_c1 hl hx_ (by decide : 1 ≤ 9) ▸ A_dd_74
      exact J2 T74 _ _ Y74 e74 M74 K_74 Z_74 E_v0_74 F_v0_bytes_74 SF2 AF2 hq2
  have J0 : ∀ (T : State) (h : Heap) (L : List Loc) (X : Stand p l e ({ frames := 1, cells := 0, slots := 0, locals := 13 } : Room) s m #[(.ref v0), (.long v1)] below meth c T L 0 0) (e1 : T.heap = h) (N : Fr n0 L) (K : Keep h0 h [v0, dd]) (Zq : n0 ≤ h.size) (FE : Exa Z h v0 "com/example/muster/muster/Protobuf$Writer") (FB : Fld Z h v0 "com/example/muster/muster/Protobuf$Writer" "bytes" "[B" (.ref dd)) (FS : Fld Z h v0 "com/example/muster/muster/Protobuf$Writer" "size" "I" (.int (Int32.ofNat (xs ++ own_pre 0 v1).length))) (FA : AI Z h dd .byte ((xs ++ own_pre 0 v1) ++ rs.drop 0)), Go p e below s ({ frames := 1, cells := 0, slots := 0, locals := 13 } : Room).cells ({ frames := 1, cells := 0, slots := 0, locals := 13 } : Room).slots (Q_varint Z v0 v1 dd xs rs h0 n0) T (mkF m 8 #[.val (.ref v0), .val (.long v1), .second, .val (.long (own_sh 0 v1)), .second] []) := by
    intro Tj0 hj0 Lj0 Xj0 ej0 Nj0 Kj0 Zj0 FE0 FB0 FS0 FA0
    refine G_lloadN Xj0 hx (pc' := 9) rfl (hb hby d_varint_8) rfl ?_
    refine G_ldc2 Xj0 hx (pc' := 12) rfl hown (mvT hZ (hw _ (List.mem_of_getElem? (i := 48) rfl))) (hb hby d_varint_9) ?_
    refine G_land Xj0 hx (pc' := 13) rfl (hb hby d_varint_12)  ?_
    refine G_lconst Xj0 hx (pc' := 14) rfl (hb hby d_varint_13) (z := (0 : Int64)) rfl ?_
    refine G_lcmp Xj0 hx (pc' := 15) rfl (hb hby d_varint_14)  ?_
    by_cases hc15_9 : ((own_sh 0 v1) &&& (-128 : Int64)) = (0 : Int64)
    · refine G_ifYes Xj0 hx (pc' := 53) (hb hby d_varint_15) ((if0 _ _).trans (teq ((lw_eq _ _).2 hc15_9)).1) (by decide) (by decide) ?_
      refine G_aloadN Xj0 hx (pc' := 54) rfl (hb hby d_varint_53) rfl rfl ?_
      obtain ⟨T75, X75, e75, st75⟩ := getF Xj0 hx hZ hown (host := "") (Or.inl (hw _ (List.mem_of_getElem? (i := 10) rfl))) Via.refl ej0 FB0 (g := (mkF m 54 #[.val (.ref v0), .val (.long v1), .second, .val (.long (own_sh 0 v1)), .second] [(.ref v0)])) rfl rfl (hb hby d_varint_54)
      refine Go.st st75 ?_
      show Go p e below s _ _ _ T75 (mkF m 57 #[.val (.ref v0), .val (.long v1), .second, .val (.long (own_sh 0 v1)), .second] [(.ref dd)])
      refine G_aloadN X75 hx (pc' := 58) rfl (hb hby d_varint_57) rfl rfl ?_
      refine G_dup X75 hx (pc' := 59) rfl (hb hby d_varint_58) rfl ?_
      obtain ⟨T76, X76, e76, st76⟩ := getF X75 hx hZ hown (host := "") (Or.inl (hw _ (List.mem_of_getElem? (i := 17) rfl))) Via.refl e75 FS0 (g := (mkF m 59 #[.val (.ref v0), .val (.long v1), .second, .val (.long (own_sh 0 v1)), .second] [(.ref v0), (.ref v0), (.ref dd)])) rfl rfl (hb hby d_varint_59)
      refine Go.st st76 ?_
      show Go p e below s _ _ _ T76 (mkF m 62 #[.val (.ref v0), .val (.long v1), .second, .val (.long (own_sh 0 v1)), .second] [(.int (Int32.ofNat (xs ++ own_pre 0 v1).length)), (.ref v0), (.ref dd)])
      refine G_dupX1 X76 hx (pc' := 63) rfl (hb hby d_varint_62) rfl rfl ?_
      refine G_iconst X76 hx (pc' := 64) rfl (hb hby d_varint_63) (z := (1 : Int32)) rfl ?_
      refine G_iadd X76 hx (pc' := 65) rfl (hb hby d_varint_64)  ?_
      obtain ⟨T77, h77, X77, e77, W77, st77⟩ := putF X76 hx hZ hown (host := "") (Or.inl (hw _ (List.mem_of_getElem? (i := 17) rfl))) Via.refl e76 FS0 FE0 (Or.inl (hw _ (List.mem_of_getElem? (i := 18) rfl))) (hw _ (List.mem_of_getElem? (i := 1) rfl)) (ty := .int) (by decide) rfl rfl (g := (mkF m 65 #[.val (.ref v0), .val (.long v1), .second, .val (.long (own_sh 0 v1)), .second] [(.int ((Int32.ofNat (xs ++ own_pre 0 v1).length) + (1 : Int32))), (.ref v0), (.int (Int32.ofNat (xs ++ own_pre 0 v1).length)), (.ref dd)])) rfl rfl (hb hby d_varint_65)
      refine Go.st st77 ?_
      have F_v0_w77 := FS0.same W77
      have E_v0_77 := FE0.wr W77
      have F_v0_bytes_77 := FB0.other W77 (Or.inr (slot_ne (Or.inl (hw _ (List.mem_of_getElem? (i := 11) rfl))) (Or.inl (hw _ (List.mem_of_getElem? (i := 18) rfl))) (by decide) (t := (.array .byte)) (t' := .int) (by decide) (by decide)))
      have A_dd_77 := FA0.other W77 (Ne.symm ne_v0_dd)
      have K_77 : Keep h0 h77 [v0, dd] := Kj0.wr W77 (Or.inl (List.mem_of_getElem? (i := 0) rfl))
      have Z_77 : n0 ≤ h77.size := Nat.le_trans Z0 K_77.1
      have N77 := Fr.snoc X77 Nj0 g_v0
      clear FE0 FB0 FS0 FA0 W77 st77
      obtain ⟨G77, Y77, M77⟩ : ∃ L, Stand p l e ({ frames := 1, cells := 0, slots := 0, locals := 13 } : Room) s m #[(.ref v0), (.long v1)] below meth c T77 L 0 0 ∧ Fr n0 L := ⟨_, X77, N77⟩
      clear X77 N77
      show Go p e below s _ _ _ T77 (mkF m 68 #[.val (.ref v0), .val (.long v1), .second, .val (.long (own_sh 0 v1)), .second] [(.int (Int32.ofNat (xs ++ own_pre 0 v1).length)), (.ref dd)])
      refine G_lloadN Y77 hx (pc' := 69) rfl (hb hby d_varint_68) rfl ?_
      refine G_l2i Y77 hx (pc' := 70) rfl (hb hby d_varint_69)  ?_
      refine G_i2b Y77 hx (pc' := 71) rfl (hb hby d_varint_70)  ?_
      obtain ⟨T78, h78, X78, e78, W78, A78, st78⟩ := stABn Y77 hx hZ e77 A_dd_77 (j := (Int32.ofNat (xs ++ own_pre 0 v1).length)) (own_i1 hx_ (by decide : 0 ≤ 9)) (own_i2 hl hx_ (by decide : 0 ≤ 9)) (g := (mkF m 71 #[.val (.ref v0), .val (.long v1), .second, .val (.long (own_sh 0 v1)), .second] [(.int (((own_sh 0 v1).toInt32).toInt8.toInt32)), (.int (Int32.ofNat (xs ++ own_pre 0 v1).length)), (.ref dd)])) rfl rfl (hb hby d_varint_71)
      refine Go.st st78 ?_
      have E_v0_78 := E_v0_77.wr W78
      have F_v0_bytes_78 := F_v0_bytes_77.other W78 (Or.inl ne_v0_dd)
      have F_v0_size_78 := F_v0_w77.other W78 (Or.inl ne_v0_dd)
      have A_dd_78 : AI Z h78 dd .byte (((xs ++ own_pre 0 v1) ++ rs.drop 0).set (Int32.ofNat (xs ++ own_pre 0 v1).length).toNatClampNeg (((own_sh 0 v1).toInt32).toInt8.toInt32)) := A78
      have K_78 : Keep h0 h78 [v0, dd] := K_77.wr W78 (Or.inl (List.mem_of_getElem? (i := 1) rfl))
      have Z_78 : n0 ≤ h78.size := Nat.le_trans Z0 K_78.1
      have N78 := Fr.snoc X78 M77 g_dd
      clear E_v0_77 F_v0_bytes_77 A_dd_77 F_v0_w77 W78 st78 A78
      obtain ⟨G78, Y78, M78⟩ : ∃ L, Stand p l e ({ frames := 1, cells := 0, slots := 0, locals := 13 } : Room) s m #[(.ref v0), (.long v1)] below meth c T78 L 0 0 ∧ Fr n0 L := ⟨_, X78, N78⟩
      clear X78 N78
      show Go p e below s _ _ _ T78 (mkF m 72 #[.val (.ref v0), .val (.long v1), .second, .val (.long (own_sh 0 v1)), .second] [])
      have hn : own_n v1 = 0 := own_n_0 ((own_t0 v1).1 hc15_9)
      have SL : Fld Z h78 v0 "com/example/muster/muster/Protobuf$Writer" "size" "I" (.int (Int32.ofNat (xs ++ own_enc v1).length)) := own_c4 hn ▸ F_v0_size_78
      have AL : AI Z h78 dd .byte ((xs ++ own_enc v1) ++ rs.drop (own_enc v1).length) := own_c3 hl hx_ (by decide : 0 ≤ 9) hn ▸ A_dd_78
      refine Go.fin Y78 hlk (v := none) (fun _ => rfl) (by decide) (by decide) ?_ (fun fs hr => Y78.returnOut hx Bd.returns (hb hby d_varint_72) hr)
      show Q_varint Z v0 v1 dd xs rs h0 n0 _ T78.heap _
      rw [e78]
      exact ⟨rfl, M78, K_78, E_v0_78, F_v0_bytes_78, SL, AL⟩
    · refine G_ifNo Xj0 hx (pc' := 18) rfl (hb hby d_varint_15) ((if0 _ _).trans (feq (fun q => hc15_9 ((lw_eq _ _).1 q))).1) ?_
      refine G_aloadN Xj0 hx (pc' := 19) rfl (hb hby d_varint_18) rfl rfl ?_
      obtain ⟨T79, X79, e79, st79⟩ := getF Xj0 hx hZ hown (host := "") (Or.inl (hw _ (List.mem_of_getElem? (i := 10) rfl))) Via.refl ej0 FB0 (g := (mkF m 19 #[.val (.ref v0), .val (.long v1), .second, .val (.long (own_sh 0 v1)), .second] [(.ref v0)])) rfl rfl (hb hby d_varint_19)
      refine Go.st st79 ?_
      show Go p e below s _ _ _ T79 (mkF m 22 #[.val (.ref v0), .val (.long v1), .second, .val (.long (own_sh 0 v1)), .second] [(.ref dd)])
      refine G_aloadN X79 hx (pc' := 23) rfl (hb hby d_varint_22) rfl rfl ?_
      refine G_dup X79 hx (pc' := 24) rfl (hb hby d_varint_23) rfl ?_
      obtain ⟨T80, X80, e80, st80⟩ := getF X79 hx hZ hown (host := "") (Or.inl (hw _ (List.mem_of_getElem? (i := 17) rfl))) Via.refl e79 FS0 (g := (mkF m 24 #[.val (.ref v0), .val (.long v1), .second, .val (.long (own_sh 0 v1)), .second] [(.ref v0), (.ref v0), (.ref dd)])) rfl rfl (hb hby d_varint_24)
      refine Go.st st80 ?_
      show Go p e below s _ _ _ T80 (mkF m 27 #[.val (.ref v0), .val (.long v1), .second, .val (.long (own_sh 0 v1)), .second] [(.int (Int32.ofNat (xs ++ own_pre 0 v1).length)), (.ref v0), (.ref dd)])
      refine G_dupX1 X80 hx (pc' := 28) rfl (hb hby d_varint_27) rfl rfl ?_
      refine G_iconst X80 hx (pc' := 29) rfl (hb hby d_varint_28) (z := (1 : Int32)) rfl ?_
      refine G_iadd X80 hx (pc' := 30) rfl (hb hby d_varint_29)  ?_
      obtain ⟨T81, h81, X81, e81, W81, st81⟩ := putF X80 hx hZ hown (host := "") (Or.inl (hw _ (List.mem_of_getElem? (i := 17) rfl))) Via.refl e80 FS0 FE0 (Or.inl (hw _ (List.mem_of_getElem? (i := 18) rfl))) (hw _ (List.mem_of_getElem? (i := 1) rfl)) (ty := .int) (by decide) rfl rfl (g := (mkF m 30 #[.val (.ref v0), .val (.long v1), .second, .val (.long (own_sh 0 v1)), .second] [(.int ((Int32.ofNat (xs ++ own_pre 0 v1).length) + (1 : Int32))), (.ref v0), (.int (Int32.ofNat (xs ++ own_pre 0 v1).length)), (.ref dd)])) rfl rfl (hb hby d_varint_30)
      refine Go.st st81 ?_
      have F_v0_w81 := FS0.same W81
      have E_v0_81 := FE0.wr W81
      have F_v0_bytes_81 := FB0.other W81 (Or.inr (slot_ne (Or.inl (hw _ (List.mem_of_getElem? (i := 11) rfl))) (Or.inl (hw _ (List.mem_of_getElem? (i := 18) rfl))) (by decide) (t := (.array .byte)) (t' := .int) (by decide) (by decide)))
      have A_dd_81 := FA0.other W81 (Ne.symm ne_v0_dd)
      have K_81 : Keep h0 h81 [v0, dd] := Kj0.wr W81 (Or.inl (List.mem_of_getElem? (i := 0) rfl))
      have Z_81 : n0 ≤ h81.size := Nat.le_trans Z0 K_81.1
      have N81 := Fr.snoc X81 Nj0 g_v0
      clear FE0 FB0 FS0 FA0 W81 st81
      obtain ⟨G81, Y81, M81⟩ : ∃ L, Stand p l e ({ frames := 1, cells := 0, slots := 0, locals := 13 } : Room) s m #[(.ref v0), (.long v1)] below meth c T81 L 0 0 ∧ Fr n0 L := ⟨_, X81, N81⟩
      clear X81 N81
      show Go p e below s _ _ _ T81 (mkF m 33 #[.val (.ref v0), .val (.long v1), .second, .val (.long (own_sh 0 v1)), .second] [(.int (Int32.ofNat (xs ++ own_pre 0 v1).length)), (.ref dd)])
      refine G_lloadN Y81 hx (pc' := 34) rfl (hb hby d_varint_33) rfl ?_
      refine G_ldc2 Y81 hx (pc' := 37) rfl hown (mvT hZ (hw _ (List.mem_of_getElem? (i := 65) rfl))) (hb hby d_varint_34) ?_
      refine G_land Y81 hx (pc' := 38) rfl (hb hby d_varint_37)  ?_
      refine G_ldc2 Y81 hx (pc' := 41) rfl hown (mvT hZ (hw _ (List.mem_of_getElem? (i := 66) rfl))) (hb hby d_varint_38) ?_
      refine G_lor Y81 hx (pc' := 42) rfl (hb hby d_varint_41)  ?_
      refine G_l2i Y81 hx (pc' := 43) rfl (hb hby d_varint_42)  ?_
      refine G_i2b Y81 hx (pc' := 44) rfl (hb hby d_varint_43)  ?_
      obtain ⟨T82, h82, X82, e82, W82, A82, st82⟩ := stABn Y81 hx hZ e81 A_dd_81 (j := (Int32.ofNat (xs ++ own_pre 0 v1).length)) (own_i1 hx_ (by decide : 0 ≤ 9)) (own_i2 hl hx_ (by decide : 0 ≤ 9)) (g := (mkF m 44 #[.val (.ref v0), .val (.long v1), .second, .val (.long (own_sh 0 v1)), .second] [(.int (((((own_sh 0 v1) &&& (127 : Int64)) ||| (128 : Int64)).toInt32).toInt8.toInt32)), (.int (Int32.ofNat (xs ++ own_pre 0 v1).length)), (.ref dd)])) rfl rfl (hb hby d_varint_44)
      refine Go.st st82 ?_
      have E_v0_82 := E_v0_81.wr W82
      have F_v0_bytes_82 := F_v0_bytes_81.other W82 (Or.inl ne_v0_dd)
      have F_v0_size_82 := F_v0_w81.other W82 (Or.inl ne_v0_dd)
      have A_dd_82 : AI Z h82 dd .byte (((xs ++ own_pre 0 v1) ++ rs.drop 0).set (Int32.ofNat (xs ++ own_pre 0 v1).length).toNatClampNeg (((((own_sh 0 v1) &&& (127 : Int64)) ||| (128 : Int64)).toInt32).toInt8.toInt32)) := A82
      have K_82 : Keep h0 h82 [v0, dd] := K_81.wr W82 (Or.inl (List.mem_of_getElem? (i := 1) rfl))
      have Z_82 : n0 ≤ h82.size := Nat.le_trans Z0 K_82.1
      have N82 := Fr.snoc X82 M81 g_dd
      clear E_v0_81 F_v0_bytes_81 A_dd_81 F_v0_w81 W82 st82 A82
      obtain ⟨G82, Y82, M82⟩ : ∃ L, Stand p l e ({ frames := 1, cells := 0, slots := 0, locals := 13 } : Room) s m #[(.ref v0), (.long v1)] below meth c T82 L 0 0 ∧ Fr n0 L := ⟨_, X82, N82⟩
      clear X82 N82
      show Go p e below s _ _ _ T82 (mkF m 45 #[.val (.ref v0), .val (.long v1), .second, .val (.long (own_sh 0 v1)), .second] [])
      refine G_lloadN Y82 hx (pc' := 46) rfl (hb hby d_varint_45) rfl ?_
      refine G_bipush Y82 hx (pc' := 48) rfl (hb hby d_varint_46) (z := (7 : Int32)) rfl ?_
      refine G_lushr Y82 hx (pc' := 49) rfl (hb hby d_varint_48)  ?_
      refine G_lstoreN Y82 hx (pc' := 50) rfl (hb hby d_varint_49) (L' := #[.val (.ref v0), .val (.long v1), .second, .val (.long (((own_sh 0 v1).toUInt64 >>> ((7 : Int32) &&& 0x3f).toInt64.toUInt64).toInt64)), .second]) rfl ?_
      refine G_goto Y82 hx (pc' := 8) (hb hby d_varint_50)  (by decide) (by decide) ?_
      have hq1 : 128 ≤ own_U v1 := by have z := mt (own_t0 v1).2 hc15_9; omega
      have SF1 : Fld Z h82 v0 "com/example/muster/muster/Protobuf$Writer" "size" "I" (.int (Int32.ofNat (xs ++ own_pre 1 v1).length)) := own_c2 ▸ F_v0_size_82
      have AF1 : AI Z h82 dd .byte ((xs ++ own_pre 1 v1) ++ rs.drop 1) := own_c1 hl hx_ (by decide : 0 ≤ 9) ▸ A_dd_82
      exact J1 T82 _ _ Y82 e82 M82 K_82 Z_82 E_v0_82 F_v0_bytes_82 SF1 AF1 hq1
  show Go p e below s _ _ _ T6 (mkF m 8 #[.val (.ref v0), .val (.long v1), .second, .val (.long (own_sh 0 v1)), .second] [])
  exact J0 T6 _ _ Y6 e6 M6 (Keep.refl h0 [v0, dd]) Z0 f0_E_v0 f1_F_v0 S0 A0
theorem d_wkey_0 : decode prog_35_method_9_code 0 = .ok (.aload_n 0, 1) := by decide +kernel
theorem d_wkey_1 : decode prog_35_method_9_code 1 = .ok (.iload_n 1, 1) := by decide +kernel
theorem d_wkey_2 : decode prog_35_method_9_code 2 = .ok (.i2l, 1) := by decide +kernel
theorem d_wkey_3 : decode prog_35_method_9_code 3 = .ok (.iconst 3, 1) := by decide +kernel
theorem d_wkey_4 : decode prog_35_method_9_code 4 = .ok (.lshl, 1) := by decide +kernel
theorem d_wkey_5 : decode prog_35_method_9_code 5 = .ok (.iload_n 2, 1) := by decide +kernel
theorem d_wkey_6 : decode prog_35_method_9_code 6 = .ok (.i2l, 1) := by decide +kernel
theorem d_wkey_7 : decode prog_35_method_9_code 7 = .ok (.lor, 1) := by decide +kernel
theorem d_wkey_8 : decode prog_35_method_9_code 8 = .ok (.invokevirtual 19, 3) := by decide +kernel
theorem pd_1 : parseMethodDescriptor "(J)V" = some ⟨[.long], none⟩ := by decide +kernel
theorem d_wkey_11 : decode prog_35_method_9_code 11 = .ok (.return_, 1) := by decide +kernel
theorem ef_wkey (m : MethodId) (v0 : Addr) (v1 : Int32) : entryFrame m #[(.ref v0), (.int v1), (.int (0 : Int32))] 3 = mkF m 0 #[.val (.ref v0), .val (.int v1), .val (.int (0 : Int32))] [] := by first | (simp [entryFrame, mkF, argsToLocals, Value.category]; done) | rfl
def Q_wkey (Z : State) (v0 : Addr) (v1 : Int32) (dd : Addr) (xs : List Int32) (rs : List Int32) (h0 : Heap) (n0 : Nat) (v : Option Value) (h : Heap) (L : List Loc) : Prop := v = none ∧ Fr n0 L ∧ Keep h0 h [v0, dd] ∧ Exa Z h v0 "com/example/muster/muster/Protobuf$Writer" ∧ Fld Z h v0 "com/example/muster/muster/Protobuf$Writer" "bytes" "[B" (.ref dd) ∧ Fld Z h v0 "com/example/muster/muster/Protobuf$Writer" "size" "I" (.int (Int32.ofNat (xs ++ own_enc (((v1.toInt64) <<< ((3 : Int32) &&& 0x3f).toInt64) ||| ((0 : Int32).toInt64))).length)) ∧ AI Z h dd .byte ((xs ++ own_enc (((v1.toInt64) <<< ((3 : Int32) &&& 0x3f).toInt64) ||| ((0 : Int32).toInt64))) ++ rs.drop (own_enc (((v1.toInt64) <<< ((3 : Int32) &&& 0x3f).toInt64) ||| ((0 : Int32).toInt64))).length)
set_option maxRecDepth 65536 in
set_option maxHeartbeats 40000000 in
theorem rm_wkey (l : Launch) (Z : State) (a0 : Array Value) (hw : ∀ d ∈ tables_1, d.before a0 Z = true) (ws : List Jvm.Cond) (v0 : Addr) (v1 : Int32) (dd : Addr) (xs : List Int32) (rs : List Int32) (h0 : Heap) (n0 : Nat) (Z0 : n0 ≤ h0.size) (f0_E_v0 : Exa Z h0 v0 "com/example/muster/muster/Protobuf$Writer") (f1_F_v0 : Fld Z h0 v0 "com/example/muster/muster/Protobuf$Writer" "bytes" "[B" (.ref dd)) (f2_F_v0 : Fld Z h0 v0 "com/example/muster/muster/Protobuf$Writer" "size" "I" (.int (Int32.ofNat xs.length))) (f3_A_dd : AI Z h0 dd .byte (xs ++ rs)) (g_v0 : n0 ≤ v0) (g_dd : n0 ≤ dd) (ne_v0_dd : v0 ≠ dd) (hl : xs.length + rs.length = 64) (hx_ : xs.length ≤ 10) :
    MetFree l (⟨"com/example/muster/muster/Protobuf$Writer", "key", "(II)V"⟩ : MethodName) (head1 (Jvm.Cond.code (⟨"com/example/muster/muster/Protobuf$Writer", "key", "(II)V"⟩ : MethodName) prog_35_method_9_code 3 none :: ws) ({ frames := 2, cells := 0, slots := 0, locals := 29 } : Room)) (fun a U => a = #[(.ref v0), (.int v1), (.int (0 : Int32))] ∧ Z.Warmed39 U.vm ∧ U.heap = h0) (fun _ _ _ _ _ => True) (fun _ U o U' => ∃ v L, o = .returned v ∧ Q_wkey Z v0 v1 dd xs rs h0 n0 v U'.heap L ∧ FrameEnd U o U' L ({ frames := 2, cells := 0, slots := 0, locals := 29 } : Room).cells ({ frames := 2, cells := 0, slots := 0, locals := 29 } : Room).slots) := by
  refine MetFree.of_bodySF (plainFor_of_name (by first | (simp [plainName, overriddenIn]; done) | decide +kernel)) hisR ?_
  intro p e s m args below meth c s₁ Bd hml0 hP hK
  obtain ⟨rfl, hZ, hh⟩ := hP
  have hx := Bd.exec
  have hby := Bd.bytes
  have hml : c.maxLocals = 3 := hml0
  have hown : s.vm.findClass "com/example/muster/muster/Protobuf$Writer" = some m.cls := findClass_of_methodNamed Bd.named
  have hnm := (name_of_methodNamed Bd.named Bd.method).1
  have hlk : meth.locks = false := Bd.notSynchronized
  have X0 : Stand p l e ({ frames := 2, cells := 0, slots := 0, locals := 29 } : Room) s m #[(.ref v0), (.int v1), (.int (0 : Int32))] below meth c s₁ [] 0 0 := Stand.of_body Bd
  have e0 : s₁.heap = h0 := by rw [← hh, Bd.state]; rfl
  have N0 := Fr.nil n0
  refine Go.enter (Q := Q_wkey Z v0 v1 dd xs rs h0 n0) (C := ({ frames := 2, cells := 0, slots := 0, locals := 29 } : Room).cells) (N := ({ frames := 2, cells := 0, slots := 0, locals := 29 } : Room).slots) (ef_wkey m v0 v1) ?_
  show Go p e below s _ _ _ s₁ (mkF m 0 #[.val (.ref v0), .val (.int v1), .val (.int (0 : Int32))] [])
  refine G_aloadN X0 hx (pc' := 1) rfl (hb hby d_wkey_0) rfl rfl ?_
  refine G_iloadN X0 hx (pc' := 2) rfl (hb hby d_wkey_1) rfl ?_
  refine G_i2l X0 hx (pc' := 3) rfl (hb hby d_wkey_2)  ?_
  refine G_iconst X0 hx (pc' := 4) rfl (hb hby d_wkey_3) (z := (3 : Int32)) rfl ?_
  refine G_lshl X0 hx (pc' := 5) rfl (hb hby d_wkey_4)  ?_
  refine G_iloadN X0 hx (pc' := 6) rfl (hb hby d_wkey_5) rfl ?_
  refine G_i2l X0 hx (pc' := 7) rfl (hb hby d_wkey_6)  ?_
  refine G_lor X0 hx (pc' := 8) rfl (hb hby d_wkey_7)  ?_
  obtain ⟨cq83, q83, q83'⟩ := f0_E_v0.cell
  obtain ⟨_, _, ⟨T83, L83, k83, n83⟩, -, X83, ⟨Lc83, hQ83, l83, y83, z83⟩, st83⟩ := X0.privateBack hx (y := (⟨"com/example/muster/muster/Protobuf$Writer", "varint", "(J)V"⟩ : MethodName)) hown (mvT hZ (hw _ (List.mem_of_getElem? (i := 40) rfl))) (mvT hZ (hw _ (List.mem_of_getElem? (i := 41) rfl))) (own_selp (mv hZ (hw _ (List.mem_of_getElem? (i := 1) rfl))) (mvP hZ (hw _ (List.mem_of_getElem? (i := 42) rfl))) (mvT hZ (hw _ (List.mem_of_getElem? (i := 41) rfl))) (by decide)) (Cond.privateMethod_at (mvP hZ (hw _ (List.mem_of_getElem? (i := 42) rfl)) (args := #[]))) (mvT hZ (hw _ (List.mem_of_getElem? (i := 43) rfl))) (by decide) (backOf (W := 0) (rm_varint l Z a0 hw [] v0 (((v1.toInt64) <<< ((3 : Int32) &&& 0x3f).toInt64) ||| ((0 : Int32).toInt64)) dd xs rs h0 n0 Z0 f0_E_v0 f1_F_v0 f2_F_v0 f3_A_dd g_v0 g_dd ne_v0_dd hl hx_) hZ (hw _ (List.mem_of_getElem? (i := 43) rfl)) (hw _ (List.mem_of_getElem? (i := 2) rfl)) (by decide) (by decide)) (g := (mkF m 8 #[.val (.ref v0), .val (.int v1), .val (.int (0 : Int32))] [(.long (((v1.toInt64) <<< ((3 : Int32) &&& 0x3f).toInt64) ||| ((0 : Int32).toInt64))), (.ref v0)])) rfl (by rw [hml]; rfl) (Steps.refl _) (a := v0) (by rw [e0]; exact q83) q83' (argsL := [(.long (((v1.toInt64) <<< ((3 : Int32) &&& 0x3f).toInt64) ||| ((0 : Int32).toInt64)))]) (rest := []) (lenOf pd_1 rfl) rfl (by show 2 * 0 + _ ≤ _; exact Nat.le_of_eq rfl) (hb hby d_wkey_8) (fun _ _ => ⟨rfl, e0, (by decide : 0 + 0 ≤ _), (by decide : 0 + 0 ≤ _)⟩)
  dsimp only [Pt.U, Pt.locs, Pt.cells, Pt.slots] at X83 l83 y83 z83 st83 hQ83
  rw [l83, y83, z83] at X83
  clear l83 y83 z83
  obtain ⟨rfl, N83q, K83, p83_0, p83_1, p83_2, p83_3⟩ := hQ83
  have N83 := Fr.app N0 N83q
  refine Go.st (fun _ k => st83.trans k) ?_
  have K_83 : Keep h0 T83.heap [v0, dd] := (Keep.refl h0 [v0, dd]).trans K83 (allS (Or.inl (List.mem_of_getElem? (i := 0) rfl)) (allS (Or.inl (List.mem_of_getElem? (i := 1) rfl)) all0))
  have Z_83 : n0 ≤ T83.heap.size := Nat.le_trans Z0 K_83.1
  clear f0_E_v0 f1_F_v0 f2_F_v0 f3_A_dd st83 K83
  obtain ⟨G83, Y83, M83⟩ : ∃ L, Stand p l e ({ frames := 2, cells := 0, slots := 0, locals := 29 } : Room) s m #[(.ref v0), (.int v1), (.int (0 : Int32))] below meth c T83 L 0 0 ∧ Fr n0 L := ⟨_, X83, N83⟩
  clear X83 N83
  show Go p e below s _ _ _ T83 (mkF m 11 #[.val (.ref v0), .val (.int v1), .val (.int (0 : Int32))] [])
  refine Go.fin Y83 hlk (v := none) (fun _ => rfl) (by decide) (by decide) ?_ (fun fs hr => Y83.returnOut hx Bd.returns (hb hby d_wkey_11) hr)
  show Q_wkey Z v0 v1 dd xs rs h0 n0 _ T83.heap _
  exact ⟨rfl, M83, K_83, p83_0, p83_1, p83_2, p83_3⟩
theorem own_w1 {xs rs : List Int32} {k : Int64} (hl : xs.length + rs.length = 64) (hx0 : xs.length = 0) : (xs ++ own_enc k).length + (rs.drop (own_enc k).length).length = 64 := by
  have h := own_encL k
  have h9 := own_n9 k
  rw [List.length_append, List.length_drop]; omega
theorem own_w2 {xs : List Int32} {k : Int64} (hx0 : xs.length = 0) : (xs ++ own_enc k).length ≤ 10 := by
  have h := own_encL k
  have h9 := own_n9 k
  rw [List.length_append]; omega
theorem d_int64_0 : decode prog_35_method_2_code 0 = .ok (.aload_n 0, 1) := by decide +kernel
theorem d_int64_1 : decode prog_35_method_2_code 1 = .ok (.iload_n 1, 1) := by decide +kernel
theorem d_int64_2 : decode prog_35_method_2_code 2 = .ok (.iconst 0, 1) := by decide +kernel
theorem d_int64_3 : decode prog_35_method_2_code 3 = .ok (.invokevirtual 15, 3) := by decide +kernel
theorem pd_2 : parseMethodDescriptor "(II)V" = some ⟨[.int, .int], none⟩ := by decide +kernel
theorem d_int64_6 : decode prog_35_method_2_code 6 = .ok (.aload_n 0, 1) := by decide +kernel
theorem d_int64_7 : decode prog_35_method_2_code 7 = .ok (.lload_n 2, 1) := by decide +kernel
theorem d_int64_8 : decode prog_35_method_2_code 8 = .ok (.invokevirtual 19, 3) := by decide +kernel
theorem d_int64_11 : decode prog_35_method_2_code 11 = .ok (.return_, 1) := by decide +kernel
theorem ef_int64 (m : MethodId) (v0 : Addr) (v1 : Int32) (v2 : Int64) : entryFrame m #[(.ref v0), (.int v1), (.long v2)] 4 = mkF m 0 #[.val (.ref v0), .val (.int v1), .val (.long v2), .second] [] := by first | (simp [entryFrame, mkF, argsToLocals, Value.category]; done) | rfl
def Q_int64 (Z : State) (v0 : Addr) (v1 : Int32) (v2 : Int64) (dd : Addr) (xs : List Int32) (rs : List Int32) (h0 : Heap) (n0 : Nat) (v : Option Value) (h : Heap) (L : List Loc) : Prop := v = none ∧ Fr n0 L ∧ Keep h0 h [v0, dd] ∧ Exa Z h v0 "com/example/muster/muster/Protobuf$Writer" ∧ Fld Z h v0 "com/example/muster/muster/Protobuf$Writer" "bytes" "[B" (.ref dd) ∧ Fld Z h v0 "com/example/muster/muster/Protobuf$Writer" "size" "I" (.int (Int32.ofNat ((xs ++ own_enc (((v1.toInt64) <<< ((3 : Int32) &&& 0x3f).toInt64) ||| ((0 : Int32).toInt64))) ++ own_enc v2).length)) ∧ AI Z h dd .byte (((xs ++ own_enc (((v1.toInt64) <<< ((3 : Int32) &&& 0x3f).toInt64) ||| ((0 : Int32).toInt64))) ++ own_enc v2) ++ (rs.drop (own_enc (((v1.toInt64) <<< ((3 : Int32) &&& 0x3f).toInt64) ||| ((0 : Int32).toInt64))).length).drop (own_enc v2).length)
set_option maxRecDepth 65536 in
set_option maxHeartbeats 40000000 in
theorem rm_int64 (l : Launch) (Z : State) (a0 : Array Value) (hw : ∀ d ∈ tables_1, d.before a0 Z = true) (ws : List Jvm.Cond) (v0 : Addr) (v1 : Int32) (v2 : Int64) (dd : Addr) (xs : List Int32) (rs : List Int32) (h0 : Heap) (n0 : Nat) (Z0 : n0 ≤ h0.size) (f0_E_v0 : Exa Z h0 v0 "com/example/muster/muster/Protobuf$Writer") (f1_F_v0 : Fld Z h0 v0 "com/example/muster/muster/Protobuf$Writer" "bytes" "[B" (.ref dd)) (f2_F_v0 : Fld Z h0 v0 "com/example/muster/muster/Protobuf$Writer" "size" "I" (.int (Int32.ofNat xs.length))) (f3_A_dd : AI Z h0 dd .byte (xs ++ rs)) (g_v0 : n0 ≤ v0) (g_dd : n0 ≤ dd) (ne_v0_dd : v0 ≠ dd) (hl : xs.length + rs.length = 64) (hx0 : xs.length = 0) :
    MetFree l (⟨"com/example/muster/muster/Protobuf$Writer", "int64", "(IJ)V"⟩ : MethodName) (head1 (Jvm.Cond.code (⟨"com/example/muster/muster/Protobuf$Writer", "int64", "(IJ)V"⟩ : MethodName) prog_35_method_2_code 4 none :: ws) ({ frames := 3, cells := 0, slots := 0, locals := 43 } : Room)) (fun a U => a = #[(.ref v0), (.int v1), (.long v2)] ∧ Z.Warmed39 U.vm ∧ U.heap = h0) (fun _ _ _ _ _ => True) (fun _ U o U' => ∃ v L, o = .returned v ∧ Q_int64 Z v0 v1 v2 dd xs rs h0 n0 v U'.heap L ∧ FrameEnd U o U' L ({ frames := 3, cells := 0, slots := 0, locals := 43 } : Room).cells ({ frames := 3, cells := 0, slots := 0, locals := 43 } : Room).slots) := by
  refine MetFree.of_bodySF (plainFor_of_name (by first | (simp [plainName, overriddenIn]; done) | decide +kernel)) hisR ?_
  intro p e s m args below meth c s₁ Bd hml0 hP hK
  obtain ⟨rfl, hZ, hh⟩ := hP
  have hx := Bd.exec
  have hby := Bd.bytes
  have hml : c.maxLocals = 4 := hml0
  have hown : s.vm.findClass "com/example/muster/muster/Protobuf$Writer" = some m.cls := findClass_of_methodNamed Bd.named
  have hnm := (name_of_methodNamed Bd.named Bd.method).1
  have hlk : meth.locks = false := Bd.notSynchronized
  have X0 : Stand p l e ({ frames := 3, cells := 0, slots := 0, locals := 43 } : Room) s m #[(.ref v0), (.int v1), (.long v2)] below meth c s₁ [] 0 0 := Stand.of_body Bd
  have e0 : s₁.heap = h0 := by rw [← hh, Bd.state]; rfl
  have N0 := Fr.nil n0
  refine Go.enter (Q := Q_int64 Z v0 v1 v2 dd xs rs h0 n0) (C := ({ frames := 3, cells := 0, slots := 0, locals := 43 } : Room).cells) (N := ({ frames := 3, cells := 0, slots := 0, locals := 43 } : Room).slots) (ef_int64 m v0 v1 v2) ?_
  show Go p e below s _ _ _ s₁ (mkF m 0 #[.val (.ref v0), .val (.int v1), .val (.long v2), .second] [])
  refine G_aloadN X0 hx (pc' := 1) rfl (hb hby d_int64_0) rfl rfl ?_
  refine G_iloadN X0 hx (pc' := 2) rfl (hb hby d_int64_1) rfl ?_
  refine G_iconst X0 hx (pc' := 3) rfl (hb hby d_int64_2) (z := (0 : Int32)) rfl ?_
  obtain ⟨cq84, q84, q84'⟩ := f0_E_v0.cell
  obtain ⟨_, _, ⟨T84, L84, k84, n84⟩, -, X84, ⟨Lc84, hQ84, l84, y84, z84⟩, st84⟩ := X0.privateBack hx (y := (⟨"com/example/muster/muster/Protobuf$Writer", "key", "(II)V"⟩ : MethodName)) hown (mvT hZ (hw _ (List.mem_of_getElem? (i := 36) rfl))) (mvT hZ (hw _ (List.mem_of_getElem? (i := 37) rfl))) (own_selp (mv hZ (hw _ (List.mem_of_getElem? (i := 1) rfl))) (mvP hZ (hw _ (List.mem_of_getElem? (i := 38) rfl))) (mvT hZ (hw _ (List.mem_of_getElem? (i := 37) rfl))) (by decide)) (Cond.privateMethod_at (mvP hZ (hw _ (List.mem_of_getElem? (i := 38) rfl)) (args := #[]))) (mvT hZ (hw _ (List.mem_of_getElem? (i := 39) rfl))) (by decide) (backOf (W := 0) (rm_wkey l Z a0 hw [] v0 v1 dd xs rs h0 n0 Z0 f0_E_v0 f1_F_v0 f2_F_v0 f3_A_dd g_v0 g_dd ne_v0_dd hl (by omega)) hZ (hw _ (List.mem_of_getElem? (i := 39) rfl)) (hw _ (List.mem_of_getElem? (i := 2) rfl)) (by decide) (by decide)) (g := (mkF m 3 #[.val (.ref v0), .val (.int v1), .val (.long v2), .second] [(.int (0 : Int32)), (.int v1), (.ref v0)])) rfl (by rw [hml]; rfl) (Steps.refl _) (a := v0) (by rw [e0]; exact q84) q84' (argsL := [(.int v1), (.int (0 : Int32))]) (rest := []) (lenOf pd_2 rfl) rfl (by show 2 * 0 + _ ≤ _; exact Nat.le_of_eq rfl) (hb hby d_int64_3) (fun _ _ => ⟨rfl, e0, (by decide : 0 + 0 ≤ _), (by decide : 0 + 0 ≤ _)⟩)
  dsimp only [Pt.U, Pt.locs, Pt.cells, Pt.slots] at X84 l84 y84 z84 st84 hQ84
  rw [l84, y84, z84] at X84
  clear l84 y84 z84
  obtain ⟨rfl, N84q, K84, p84_0, p84_1, p84_2, p84_3⟩ := hQ84
  have N84 := Fr.app N0 N84q
  refine Go.st (fun _ k => st84.trans k) ?_
  have K_84 : Keep h0 T84.heap [v0, dd] := (Keep.refl h0 [v0, dd]).trans K84 (allS (Or.inl (List.mem_of_getElem? (i := 0) rfl)) (allS (Or.inl (List.mem_of_getElem? (i := 1) rfl)) all0))
  have Z_84 : n0 ≤ T84.heap.size := Nat.le_trans Z0 K_84.1
  clear f0_E_v0 f1_F_v0 f2_F_v0 f3_A_dd st84 K84
  obtain ⟨G84, Y84, M84⟩ : ∃ L, Stand p l e ({ frames := 3, cells := 0, slots := 0, locals := 43 } : Room) s m #[(.ref v0), (.int v1), (.long v2)] below meth c T84 L 0 0 ∧ Fr n0 L := ⟨_, X84, N84⟩
  clear X84 N84
  show Go p e below s _ _ _ T84 (mkF m 6 #[.val (.ref v0), .val (.int v1), .val (.long v2), .second] [])
  refine G_aloadN Y84 hx (pc' := 7) rfl (hb hby d_int64_6) rfl rfl ?_
  refine G_lloadN Y84 hx (pc' := 8) rfl (hb hby d_int64_7) rfl ?_
  obtain ⟨cq85, q85, q85'⟩ := p84_0.cell
  obtain ⟨_, _, ⟨T85, L85, k85, n85⟩, -, X85, ⟨Lc85, hQ85, l85, y85, z85⟩, st85⟩ := Y84.privateBack hx (y := (⟨"com/example/muster/muster/Protobuf$Writer", "varint", "(J)V"⟩ : MethodName)) hown (mvT hZ (hw _ (List.mem_of_getElem? (i := 40) rfl))) (mvT hZ (hw _ (List.mem_of_getElem? (i := 41) rfl))) (own_selp (mv hZ (hw _ (List.mem_of_getElem? (i := 1) rfl))) (mvP hZ (hw _ (List.mem_of_getElem? (i := 42) rfl))) (mvT hZ (hw _ (List.mem_of_getElem? (i := 41) rfl))) (by decide)) (Cond.privateMethod_at (mvP hZ (hw _ (List.mem_of_getElem? (i := 42) rfl)) (args := #[]))) (mvT hZ (hw _ (List.mem_of_getElem? (i := 43) rfl))) (by decide) (backOf (W := 0) (rm_varint l Z a0 hw [] v0 v2 dd (xs ++ own_enc (((v1.toInt64) <<< ((3 : Int32) &&& 0x3f).toInt64) ||| ((0 : Int32).toInt64))) (rs.drop (own_enc (((v1.toInt64) <<< ((3 : Int32) &&& 0x3f).toInt64) ||| ((0 : Int32).toInt64))).length) T84.heap n0 Z_84 p84_0 p84_1 p84_2 (by simpa using p84_3) g_v0 g_dd ne_v0_dd (own_w1 hl hx0) (own_w2 hx0)) hZ (hw _ (List.mem_of_getElem? (i := 43) rfl)) (hw _ (List.mem_of_getElem? (i := 2) rfl)) (by decide) (by decide)) (g := (mkF m 8 #[.val (.ref v0), .val (.int v1), .val (.long v2), .second] [(.long v2), (.ref v0)])) rfl (by rw [hml]; rfl) (Steps.refl _) (a := v0) q85 q85' (argsL := [(.long v2)]) (rest := []) (lenOf pd_1 rfl) rfl (by show 2 * 0 + _ ≤ _; exact Nat.le_of_eq rfl) (hb hby d_int64_8) (fun _ _ => ⟨rfl, rfl, (by decide : 0 + 0 ≤ _), (by decide : 0 + 0 ≤ _)⟩)
  dsimp only [Pt.U, Pt.locs, Pt.cells, Pt.slots] at X85 l85 y85 z85 st85 hQ85
  rw [l85, y85, z85] at X85
  clear l85 y85 z85
  obtain ⟨rfl, N85q, K85, p85_0, p85_1, p85_2, p85_3⟩ := hQ85
  have N85 := Fr.app M84 N85q
  refine Go.st (fun _ k => st85.trans k) ?_
  have K_85 : Keep h0 T85.heap [v0, dd] := K_84.trans K85 (allS (Or.inl (List.mem_of_getElem? (i := 0) rfl)) (allS (Or.inl (List.mem_of_getElem? (i := 1) rfl)) all0))
  have Z_85 : n0 ≤ T85.heap.size := Nat.le_trans Z0 K_85.1
  clear p84_0 p84_1 p84_2 p84_3 st85 K85
  obtain ⟨G85, Y85, M85⟩ : ∃ L, Stand p l e ({ frames := 3, cells := 0, slots := 0, locals := 43 } : Room) s m #[(.ref v0), (.int v1), (.long v2)] below meth c T85 L 0 0 ∧ Fr n0 L := ⟨_, X85, N85⟩
  clear X85 N85
  show Go p e below s _ _ _ T85 (mkF m 11 #[.val (.ref v0), .val (.int v1), .val (.long v2), .second] [])
  refine Go.fin Y85 hlk (v := none) (fun _ => rfl) (by decide) (by decide) ?_ (fun fs hr => Y85.returnOut hx Bd.returns (hb hby d_int64_11) hr)
  show Q_int64 Z v0 v1 v2 dd xs rs h0 n0 _ T85.heap _
  exact ⟨rfl, M85, K_85, p85_0, p85_1, p85_2, p85_3⟩
theorem d_wclear_0 : decode prog_35_method_6_code 0 = .ok (.aload_n 0, 1) := by decide +kernel
theorem d_wclear_1 : decode prog_35_method_6_code 1 = .ok (.iconst 0, 1) := by decide +kernel
theorem d_wclear_2 : decode prog_35_method_6_code 2 = .ok (.putfield 35, 3) := by decide +kernel
theorem d_wclear_5 : decode prog_35_method_6_code 5 = .ok (.return_, 1) := by decide +kernel
theorem ef_wclear (m : MethodId) (v0 : Addr) : entryFrame m #[(.ref v0)] 1 = mkF m 0 #[.val (.ref v0)] [] := by first | (simp [entryFrame, mkF, argsToLocals, Value.category]; done) | rfl
def Q_wclear (Z : State) (v0 : Addr) (sz : Int32) (dd : Addr) (h0 : Heap) (n0 : Nat) (v : Option Value) (h : Heap) (L : List Loc) : Prop := v = none ∧ Fr n0 L ∧ Keep h0 h [v0] ∧ Exa Z h v0 "com/example/muster/muster/Protobuf$Writer" ∧ Fld Z h v0 "com/example/muster/muster/Protobuf$Writer" "bytes" "[B" (.ref dd) ∧ Fld Z h v0 "com/example/muster/muster/Protobuf$Writer" "size" "I" (.int (0 : Int32))
set_option maxRecDepth 65536 in
set_option maxHeartbeats 40000000 in
theorem rm_wclear (l : Launch) (Z : State) (a0 : Array Value) (hw : ∀ d ∈ tables_1, d.before a0 Z = true) (ws : List Jvm.Cond) (v0 : Addr) (sz : Int32) (dd : Addr) (h0 : Heap) (n0 : Nat) (Z0 : n0 ≤ h0.size) (f0_E_v0 : Exa Z h0 v0 "com/example/muster/muster/Protobuf$Writer") (f1_F_v0 : Fld Z h0 v0 "com/example/muster/muster/Protobuf$Writer" "bytes" "[B" (.ref dd)) (f2_F_v0 : Fld Z h0 v0 "com/example/muster/muster/Protobuf$Writer" "size" "I" (.int sz)) (g_v0 : n0 ≤ v0) :
    MetFree l (⟨"com/example/muster/muster/Protobuf$Writer", "clear", "()V"⟩ : MethodName) (head1 (Jvm.Cond.code (⟨"com/example/muster/muster/Protobuf$Writer", "clear", "()V"⟩ : MethodName) prog_35_method_6_code 1 none :: ws) ({ frames := 0, cells := 0, slots := 0, locals := 0 } : Room)) (fun a U => a = #[(.ref v0)] ∧ Z.Warmed39 U.vm ∧ U.heap = h0) (fun _ _ _ _ _ => True) (fun _ U o U' => ∃ v L, o = .returned v ∧ Q_wclear Z v0 sz dd h0 n0 v U'.heap L ∧ FrameEnd U o U' L ({ frames := 0, cells := 0, slots := 0, locals := 0 } : Room).cells ({ frames := 0, cells := 0, slots := 0, locals := 0 } : Room).slots) := by
  refine MetFree.of_bodySF (plainFor_of_name (by first | (simp [plainName, overriddenIn]; done) | decide +kernel)) hisR ?_
  intro p e s m args below meth c s₁ Bd hml0 hP hK
  obtain ⟨rfl, hZ, hh⟩ := hP
  have hx := Bd.exec
  have hby := Bd.bytes
  have hml : c.maxLocals = 1 := hml0
  have hown : s.vm.findClass "com/example/muster/muster/Protobuf$Writer" = some m.cls := findClass_of_methodNamed Bd.named
  have hnm := (name_of_methodNamed Bd.named Bd.method).1
  have hlk : meth.locks = false := Bd.notSynchronized
  have X0 : Stand p l e ({ frames := 0, cells := 0, slots := 0, locals := 0 } : Room) s m #[(.ref v0)] below meth c s₁ [] 0 0 := Stand.of_body Bd
  have e0 : s₁.heap = h0 := by rw [← hh, Bd.state]; rfl
  have N0 := Fr.nil n0
  refine Go.enter (Q := Q_wclear Z v0 sz dd h0 n0) (C := ({ frames := 0, cells := 0, slots := 0, locals := 0 } : Room).cells) (N := ({ frames := 0, cells := 0, slots := 0, locals := 0 } : Room).slots) (ef_wclear m v0) ?_
  show Go p e below s _ _ _ s₁ (mkF m 0 #[.val (.ref v0)] [])
  refine G_aloadN X0 hx (pc' := 1) rfl (hb hby d_wclear_0) rfl rfl ?_
  refine G_iconst X0 hx (pc' := 2) rfl (hb hby d_wclear_1) (z := (0 : Int32)) rfl ?_
  obtain ⟨T86, h86, X86, e86, W86, st86⟩ := putF X0 hx hZ hown (host := "") (Or.inl (hw _ (List.mem_of_getElem? (i := 17) rfl))) Via.refl e0 f2_F_v0 f0_E_v0 (Or.inl (hw _ (List.mem_of_getElem? (i := 18) rfl))) (hw _ (List.mem_of_getElem? (i := 1) rfl)) (ty := .int) (by decide) rfl rfl (g := (mkF m 2 #[.val (.ref v0)] [(.int (0 : Int32)), (.ref v0)])) rfl rfl (hb hby d_wclear_2)
  refine Go.st st86 ?_
  have F_v0_w86 := f2_F_v0.same W86
  have E_v0_86 := f0_E_v0.wr W86
  have F_v0_bytes_86 := f1_F_v0.other W86 (Or.inr (slot_ne (Or.inl (hw _ (List.mem_of_getElem? (i := 11) rfl))) (Or.inl (hw _ (List.mem_of_getElem? (i := 18) rfl))) (by decide) (t := (.array .byte)) (t' := .int) (by decide) (by decide)))
  have K_86 : Keep h0 h86 [v0] := (Keep.refl h0 [v0]).wr W86 (Or.inl (List.mem_of_getElem? (i := 0) rfl))
  have Z_86 : n0 ≤ h86.size := Nat.le_trans Z0 K_86.1
  have N86 := Fr.snoc X86 N0 g_v0
  clear f0_E_v0 f1_F_v0 f2_F_v0 W86 st86
  obtain ⟨G86, Y86, M86⟩ : ∃ L, Stand p l e ({ frames := 0, cells := 0, slots := 0, locals := 0 } : Room) s m #[(.ref v0)] below meth c T86 L 0 0 ∧ Fr n0 L := ⟨_, X86, N86⟩
  clear X86 N86
  show Go p e below s _ _ _ T86 (mkF m 5 #[.val (.ref v0)] [])
  refine Go.fin Y86 hlk (v := none) (fun _ => rfl) (by decide) (by decide) ?_ (fun fs hr => Y86.returnOut hx Bd.returns (hb hby d_wclear_5) hr)
  show Q_wclear Z v0 sz dd h0 n0 _ T86.heap _
  rw [e86]
  exact ⟨rfl, M86, K_86, E_v0_86, F_v0_bytes_86, F_v0_w86⟩
theorem d_min_0 : decode jdk_29_method_69_code 0 = .ok (.iload_n 0, 1) := by decide +kernel
theorem d_min_1 : decode jdk_29_method_69_code 1 = .ok (.iload_n 1, 1) := by decide +kernel
theorem d_min_2 : decode jdk_29_method_69_code 2 = .ok (.if_icmp .gt 7, 3) := by decide +kernel
theorem d_min_9 : decode jdk_29_method_69_code 9 = .ok (.iload_n 1, 1) := by decide +kernel
theorem d_min_10 : decode jdk_29_method_69_code 10 = .ok (.ireturn, 1) := by decide +kernel
theorem d_min_5 : decode jdk_29_method_69_code 5 = .ok (.iload_n 0, 1) := by decide +kernel
theorem d_min_6 : decode jdk_29_method_69_code 6 = .ok (.goto 4, 3) := by decide +kernel
def f_min (v0 : Int32) (v1 : Int32) : Int32 := (if v1 < v0 then v1 else v0)
theorem ef_min (m : MethodId) (v0 : Int32) (v1 : Int32) : entryFrame m #[(.int v0), (.int v1)] 2 = mkF m 0 #[.val (.int v0), .val (.int v1)] [] := by first | (simp [entryFrame, mkF, argsToLocals, Value.category]; done) | rfl
def Q_min (Z : State) (v0 : Int32) (v1 : Int32) (h0 : Heap) (n0 : Nat) (v : Option Value) (h : Heap) (L : List Loc) : Prop := v = some (.int (f_min v0 v1)) ∧ Fr n0 L ∧ h = h0
set_option maxRecDepth 65536 in
set_option maxHeartbeats 40000000 in
theorem rm_min (l : Launch) (Z : State) (a0 : Array Value) (hw : ∀ d ∈ tables_1, d.before a0 Z = true) (ws : List Jvm.Cond) (v0 : Int32) (v1 : Int32) (h0 : Heap) (n0 : Nat) (Z0 : n0 ≤ h0.size) :
    MetFree l (⟨"java/lang/Math", "min", "(II)I"⟩ : MethodName) (head1 (Jvm.Cond.code (⟨"java/lang/Math", "min", "(II)I"⟩ : MethodName) jdk_29_method_69_code 2 (some .int) :: ws) ({ frames := 0, cells := 0, slots := 0, locals := 0 } : Room)) (fun a U => a = #[(.int v0), (.int v1)] ∧ Z.Warmed39 U.vm ∧ U.heap = h0) (fun _ _ _ _ _ => True) (fun _ U o U' => ∃ v L, o = .returned v ∧ Q_min Z v0 v1 h0 n0 v U'.heap L ∧ FrameEnd U o U' L ({ frames := 0, cells := 0, slots := 0, locals := 0 } : Room).cells ({ frames := 0, cells := 0, slots := 0, locals := 0 } : Room).slots) := by
  refine MetFree.of_bodySF (Jvm.Free.JP.mathPlain rfl (by decide +kernel)) hisR ?_
  intro p e s m args below meth c s₁ Bd hml0 hP hK
  obtain ⟨rfl, hZ, hh⟩ := hP
  have hx := Bd.exec
  have hby := Bd.bytes
  have hml : c.maxLocals = 2 := hml0
  have hown : s.vm.findClass "java/lang/Math" = some m.cls := findClass_of_methodNamed Bd.named
  have hnm := (name_of_methodNamed Bd.named Bd.method).1
  have hlk : meth.locks = false := Bd.notSynchronized
  have X0 : Stand p l e ({ frames := 0, cells := 0, slots := 0, locals := 0 } : Room) s m #[(.int v0), (.int v1)] below meth c s₁ [] 0 0 := Stand.of_body Bd
  have e0 : s₁.heap = h0 := by rw [← hh, Bd.state]; rfl
  have N0 := Fr.nil n0
  refine Go.enter (Q := Q_min Z v0 v1 h0 n0) (C := ({ frames := 0, cells := 0, slots := 0, locals := 0 } : Room).cells) (N := ({ frames := 0, cells := 0, slots := 0, locals := 0 } : Room).slots) (ef_min m v0 v1) ?_
  show Go p e below s _ _ _ s₁ (mkF m 0 #[.val (.int v0), .val (.int v1)] [])
  refine G_iloadN X0 hx (pc' := 1) rfl (hb hby d_min_0) rfl ?_
  refine G_iloadN X0 hx (pc' := 2) rfl (hb hby d_min_1) rfl ?_
  by_cases hc2_1 : v1 < v0
  · refine G_icmpYes X0 hx (pc' := 9) (hb hby d_min_2) (tlt hc2_1).2.2.1 (by decide) (by decide) ?_
    refine G_iloadN X0 hx (pc' := 10) rfl (hb hby d_min_9) rfl ?_
    refine Go.fin X0 hlk (v := some (.int v1)) (fun h => by rw [Bd.returns] at h; cases h) (by decide) (by decide) ?_ (fun fs hr => retOut X0 hx Bd.returns rfl (Or.inl ⟨rfl, Or.inl rfl, _, rfl⟩) (hb hby d_min_10) hr)
    show Q_min Z v0 v1 h0 n0 _ s₁.heap _
    rw [e0]
    exact ⟨congrArg (fun z => some (Value.int z)) (Eq.symm ((if_pos hc2_1).trans rfl)), N0, rfl⟩
  · refine G_icmpNo X0 hx (pc' := 5) rfl (hb hby d_min_2) (flt hc2_1).2.2.1 ?_
    refine G_iloadN X0 hx (pc' := 6) rfl (hb hby d_min_5) rfl ?_
    refine G_goto X0 hx (pc' := 10) (hb hby d_min_6)  (by decide) (by decide) ?_
    refine Go.fin X0 hlk (v := some (.int v0)) (fun h => by rw [Bd.returns] at h; cases h) (by decide) (by decide) ?_ (fun fs hr => retOut X0 hx Bd.returns rfl (Or.inl ⟨rfl, Or.inl rfl, _, rfl⟩) (hb hby d_min_10) hr)
    show Q_min Z v0 v1 h0 n0 _ s₁.heap _
    rw [e0]
    exact ⟨congrArg (fun z => some (Value.int z)) (Eq.symm ((if_neg hc2_1).trans rfl)), N0, rfl⟩
theorem own_mn {a : Int32} {bs : List Int32} (q1 : 0 ≤ a.toInt) (q3 : a.toInt ≤ bs.length) (q4 : bs.length ≤ 64) : f_min (Int32.ofNat (bs).length) a = a := by
  have e := (own_nat q4).1
  unfold f_min
  by_cases q : a < Int32.ofNat bs.length
  · rw [if_pos q]
  · rw [if_neg q]
    rw [Int32.lt_iff_toInt_lt, e] at q
    apply Int32.toInt_inj.mp
    rw [e]; omega
theorem own_nn {a : Int32} (h : 0 ≤ a.toInt) : ¬ a < 0 := by
  rw [Int32.lt_iff_toInt_lt, show (0 : Int32).toInt = 0 from rfl]; omega
theorem own_k1 {a : Int32} (q2 : a.toInt ≤ 20) : a.toNatClampNeg ≤ 20 := by show a.toInt.toNat ≤ 20; omega
theorem own_k2 {a : Int32} {bs : List Int32} (q1 : 0 ≤ a.toInt) (q3 : a.toInt ≤ bs.length) (q4 : bs.length ≤ 64) : ¬ f_min (Int32.ofNat (bs).length) a < 0 := by rw [own_mn q1 q3 q4]; exact own_nn q1
theorem own_k3 {a : Int32} {bs : List Int32} (q1 : 0 ≤ a.toInt) (q3 : a.toInt ≤ bs.length) (q4 : bs.length ≤ 64) : (0 : Int32).toNatClampNeg + (f_min (Int32.ofNat (bs).length) a).toNatClampNeg ≤ bs.length := by
  rw [own_mn q1 q3 q4]; show 0 + a.toInt.toNat ≤ _; omega
theorem own_k4 {a : Int32} {bs : List Int32} (q1 : 0 ≤ a.toInt) (q3 : a.toInt ≤ bs.length) (q4 : bs.length ≤ 64) : (0 : Int32).toNatClampNeg + (f_min (Int32.ofNat (bs).length) a).toNatClampNeg ≤ (List.replicate (a).toNatClampNeg (0 : Int32)).length := by
  rw [own_mn q1 q3 q4, List.length_replicate]; show 0 + _ ≤ _; omega
theorem own_k5 {a : Int32} {bs : List Int32} (q1 : 0 ≤ a.toInt) (q3 : a.toInt ≤ bs.length) (q4 : bs.length ≤ 64) : (List.replicate (a).toNatClampNeg (0 : Int32)).take (0 : Int32).toNatClampNeg ++ (bs.drop (0 : Int32).toNatClampNeg).take (f_min (Int32.ofNat (bs).length) a).toNatClampNeg ++ (List.replicate (a).toNatClampNeg (0 : Int32)).drop ((0 : Int32).toNatClampNeg + (f_min (Int32.ofNat (bs).length) a).toNatClampNeg) = bs.take a.toNatClampNeg := by
  rw [own_mn q1 q3 q4]
  have z : (0 : Int32).toNatClampNeg = 0 := by decide
  rw [z, List.take_zero, List.nil_append, Nat.zero_add, List.drop_replicate, Nat.sub_self]
  simp
theorem d_copyOf_0 : decode jdk_65_method_121_code 0 = .ok (.iload_n 1, 1) := by decide +kernel
theorem d_copyOf_1 : decode jdk_65_method_121_code 1 = .ok (.aload_n 0, 1) := by decide +kernel
theorem d_copyOf_2 : decode jdk_65_method_121_code 2 = .ok (.arraylength, 1) := by decide +kernel
theorem d_copyOf_3 : decode jdk_65_method_121_code 3 = .ok (.if_icmp .ne 11, 3) := by decide +kernel
theorem d_copyOf_14 : decode jdk_65_method_121_code 14 = .ok (.iload_n 1, 1) := by decide +kernel
theorem d_copyOf_15 : decode jdk_65_method_121_code 15 = .ok (.newarray .byte, 2) := by decide +kernel
theorem d_copyOf_17 : decode jdk_65_method_121_code 17 = .ok (.astore_n 2, 1) := by decide +kernel
theorem d_copyOf_18 : decode jdk_65_method_121_code 18 = .ok (.aload_n 0, 1) := by decide +kernel
theorem d_copyOf_19 : decode jdk_65_method_121_code 19 = .ok (.iconst 0, 1) := by decide +kernel
theorem d_copyOf_20 : decode jdk_65_method_121_code 20 = .ok (.aload_n 2, 1) := by decide +kernel
theorem d_copyOf_21 : decode jdk_65_method_121_code 21 = .ok (.iconst 0, 1) := by decide +kernel
theorem d_copyOf_22 : decode jdk_65_method_121_code 22 = .ok (.aload_n 0, 1) := by decide +kernel
theorem d_copyOf_23 : decode jdk_65_method_121_code 23 = .ok (.arraylength, 1) := by decide +kernel
theorem d_copyOf_24 : decode jdk_65_method_121_code 24 = .ok (.iload_n 1, 1) := by decide +kernel
theorem d_copyOf_25 : decode jdk_65_method_121_code 25 = .ok (.invokestatic 304, 3) := by decide +kernel
theorem pd_3 : parseMethodDescriptor "(II)I" = some ⟨[.int, .int], some .int⟩ := by decide +kernel
theorem d_copyOf_28 : decode jdk_65_method_121_code 28 = .ok (.invokestatic 150, 3) := by decide +kernel
theorem d_copyOf_31 : decode jdk_65_method_121_code 31 = .ok (.aload_n 2, 1) := by decide +kernel
theorem d_copyOf_32 : decode jdk_65_method_121_code 32 = .ok (.areturn, 1) := by decide +kernel
theorem ef_copyOf (m : MethodId) (v0 : Addr) (v1 : Int32) : entryFrame m #[(.ref v0), (.int v1)] 3 = mkF m 0 #[.val (.ref v0), .val (.int v1), .unset] [] := by first | (simp [entryFrame, mkF, argsToLocals, Value.category]; done) | rfl
def Q_copyOf (Z : State) (v0 : Addr) (v1 : Int32) (bs : List Int32) (h0 : Heap) (n0 : Nat) (v : Option Value) (h : Heap) (L : List Loc) : Prop := ∃ b0 : Addr, v = some (.ref b0) ∧ Fr n0 L ∧ Keep h0 h [] ∧ h0.size ≤ b0 ∧ Exa Z h b0 "[B" ∧ AI Z h b0 .byte (bs.take v1.toNatClampNeg)
set_option maxRecDepth 65536 in
set_option maxHeartbeats 40000000 in
theorem rm_copyOf (l : Launch) (Z : State) (a0 : Array Value) (hw : ∀ d ∈ tables_1, d.before a0 Z = true) (ws : List Jvm.Cond) (v0 : Addr) (v1 : Int32) (bs : List Int32) (h0 : Heap) (n0 : Nat) (Z0 : n0 ≤ h0.size) (f0_A_v0 : AI Z h0 v0 .byte bs) (q0 : ¬ (v1 = (Int32.ofNat (bs).length))) (q1 : 0 ≤ v1.toInt) (q2 : v1.toInt ≤ 20) (q3 : v1.toInt ≤ bs.length) (q4 : bs.length ≤ 64) :
    MetFree l (⟨"java/util/Arrays", "copyOf", "([BI)[B"⟩ : MethodName) (head1 (Jvm.Cond.code (⟨"java/util/Arrays", "copyOf", "([BI)[B"⟩ : MethodName) jdk_65_method_121_code 3 (some (.array .byte)) :: ws) ({ frames := 1, cells := 1, slots := 20, locals := 18 } : Room)) (fun a U => a = #[(.ref v0), (.int v1)] ∧ Z.Warmed39 U.vm ∧ U.heap = h0) (fun _ _ _ _ _ => True) (fun _ U o U' => ∃ v L, o = .returned v ∧ Q_copyOf Z v0 v1 bs h0 n0 v U'.heap L ∧ FrameEnd U o U' L ({ frames := 1, cells := 1, slots := 20, locals := 18 } : Room).cells ({ frames := 1, cells := 1, slots := 20, locals := 18 } : Room).slots) := by
  refine MetFree.of_bodySF (plainFor_of_name (by first | (simp [plainName, overriddenIn]; done) | decide +kernel)) hisR ?_
  intro p e s m args below meth c s₁ Bd hml0 hP hK
  obtain ⟨rfl, hZ, hh⟩ := hP
  have hx := Bd.exec
  have hby := Bd.bytes
  have hml : c.maxLocals = 3 := hml0
  have hown : s.vm.findClass "java/util/Arrays" = some m.cls := findClass_of_methodNamed Bd.named
  have hnm := (name_of_methodNamed Bd.named Bd.method).1
  have hlk : meth.locks = false := Bd.notSynchronized
  have X0 : Stand p l e ({ frames := 1, cells := 1, slots := 20, locals := 18 } : Room) s m #[(.ref v0), (.int v1)] below meth c s₁ [] 0 0 := Stand.of_body Bd
  have e0 : s₁.heap = h0 := by rw [← hh, Bd.state]; rfl
  have N0 := Fr.nil n0
  refine Go.enter (Q := Q_copyOf Z v0 v1 bs h0 n0) (C := ({ frames := 1, cells := 1, slots := 20, locals := 18 } : Room).cells) (N := ({ frames := 1, cells := 1, slots := 20, locals := 18 } : Room).slots) (ef_copyOf m v0 v1) ?_
  show Go p e below s _ _ _ s₁ (mkF m 0 #[.val (.ref v0), .val (.int v1), .unset] [])
  refine G_iloadN X0 hx (pc' := 1) rfl (hb hby d_copyOf_0) rfl ?_
  refine G_aloadN X0 hx (pc' := 2) rfl (hb hby d_copyOf_1) rfl rfl ?_
  refine Go.st (lenAI X0 hx hZ e0 f0_A_v0 (g := (mkF m 2 #[.val (.ref v0), .val (.int v1), .unset] [(.ref v0), (.int v1)])) rfl rfl (hb hby d_copyOf_2)) ?_
  show Go p e below s _ _ _ s₁ (mkF m 3 #[.val (.ref v0), .val (.int v1), .unset] [(.int (Int32.ofNat (bs).length)), (.int v1)])
  refine G_icmpYes X0 hx (pc' := 14) (hb hby d_copyOf_3) (feq (q0 : ¬ (v1 = (Int32.ofNat (bs).length)))).2 (by decide) (by decide) ?_
  refine G_iloadN X0 hx (pc' := 15) rfl (hb hby d_copyOf_14) rfl ?_
  obtain ⟨T87, h87, X87, e87, E87, B87, A87, st87⟩ := newAI X0 hx hZ (hw _ (List.mem_of_getElem? (i := 9) rfl)) e0 (g := (mkF m 15 #[.val (.ref v0), .val (.int v1), .unset] [(.int v1)])) rfl (hb hby d_copyOf_15) rfl (own_nn q1) (ty := .byte) rfl ⟨rfl, rfl⟩ (cap := 20) (own_k1 q2) (by decide) (by decide) (by decide) (ad := "[B") (by decide)
  obtain ⟨b87, q87⟩ : ∃ z, z = h0.size := ⟨_, rfl⟩
  rw [← q87] at A87 B87 st87
  refine Go.st st87 ?_
  have ne_v0_b87 : v0 ≠ b87 := Nat.ne_of_lt (Nat.lt_of_lt_of_le f0_A_v0.lt (Nat.le_of_eq q87.symm))
  have g_b87 : n0 ≤ b87 := Nat.le_trans Z0 (Nat.le_of_eq q87.symm)
  have sz_b87 : h0.size ≤ b87 := Nat.le_trans (Nat.le_refl _) (Nat.le_of_eq q87.symm)
  have A_v0_87 := f0_A_v0.ext E87
  have A_b87 : AI Z h87 b87 .byte (List.replicate (v1).toNatClampNeg (0 : Int32)) := A87
  have K_87 : Keep h0 h87 [] := (Keep.refl h0 []).ext E87
  have Z_87 : n0 ≤ h87.size := Nat.le_trans Z0 K_87.1
  clear f0_A_v0 E87 st87 A87
  show Go p e below s _ _ _ T87 (mkF m 17 #[.val (.ref v0), .val (.int v1), .unset] [(.ref b87)])
  refine G_astoreN X87 hx (pc' := 18) rfl (hb hby d_copyOf_17) rfl (L' := #[.val (.ref v0), .val (.int v1), .val (.ref b87)]) rfl ?_
  refine G_aloadN X87 hx (pc' := 19) rfl (hb hby d_copyOf_18) rfl rfl ?_
  refine G_iconst X87 hx (pc' := 20) rfl (hb hby d_copyOf_19) (z := (0 : Int32)) rfl ?_
  refine G_aloadN X87 hx (pc' := 21) rfl (hb hby d_copyOf_20) rfl rfl ?_
  refine G_iconst X87 hx (pc' := 22) rfl (hb hby d_copyOf_21) (z := (0 : Int32)) rfl ?_
  refine G_aloadN X87 hx (pc' := 23) rfl (hb hby d_copyOf_22) rfl rfl ?_
  refine Go.st (lenAI X87 hx hZ e87 A_v0_87 (g := (mkF m 23 #[.val (.ref v0), .val (.int v1), .val (.ref b87)] [(.ref v0), (.int (0 : Int32)), (.ref b87), (.int (0 : Int32)), (.ref v0)])) rfl rfl (hb hby d_copyOf_23)) ?_
  show Go p e below s _ _ _ T87 (mkF m 24 #[.val (.ref v0), .val (.int v1), .val (.ref b87)] [(.int (Int32.ofNat (bs).length)), (.int (0 : Int32)), (.ref b87), (.int (0 : Int32)), (.ref v0)])
  refine G_iloadN X87 hx (pc' := 25) rfl (hb hby d_copyOf_24) rfl ?_
  obtain ⟨_, _, ⟨T88, L88, k88, n88⟩, -, X88, ⟨Lc88, hQ88, l88, y88, z88⟩, st88⟩ := Jvm.LawKit.callS X87 hx (y := (⟨"java/lang/Math", "min", "(II)I"⟩ : MethodName)) hown (mvT hZ (hw _ (List.mem_of_getElem? (i := 23) rfl))) (mvT hZ (hw _ (List.mem_of_getElem? (i := 24) rfl))) (mvT hZ (hw _ (List.mem_of_getElem? (i := 25) rfl))) (mvT hZ (hw _ (List.mem_of_getElem? (i := 26) rfl))) (by decide) (backOf (W := 4) (rm_min l Z a0 hw [] (Int32.ofNat (bs).length) v1 h87 n0 Z_87 ) hZ (hw _ (List.mem_of_getElem? (i := 26) rfl)) (hw _ (List.mem_of_getElem? (i := 25) rfl)) (by decide) (by decide)) (g := (mkF m 25 #[.val (.ref v0), .val (.int v1), .val (.ref b87)] [(.int v1), (.int (Int32.ofNat (bs).length)), (.int (0 : Int32)), (.ref b87), (.int (0 : Int32)), (.ref v0)])) rfl (by rw [hml]; rfl) (argsL := [(.int (Int32.ofNat (bs).length)), (.int v1)]) (rest := [(.int (0 : Int32)), (.ref b87), (.int (0 : Int32)), (.ref v0)]) (lenOf pd_3 rfl) rfl (by show 2 * 0 + _ ≤ _; exact Nat.le_of_eq rfl) (hb hby d_copyOf_25) (fun _ _ => ⟨rfl, e87, (by decide : 1 + 0 ≤ _), (by decide : 20 + 0 ≤ _)⟩)
  dsimp only [Pt.U, Pt.locs, Pt.cells, Pt.slots] at X88 l88 y88 z88 st88 hQ88
  rw [l88, y88, z88] at X88
  clear l88 y88 z88
  obtain ⟨rfl, N88q, e88⟩ := hQ88
  have N88 := Fr.app N0 N88q
  refine Go.st st88 ?_
  obtain ⟨G88, Y88, M88⟩ : ∃ L, Stand p l e ({ frames := 1, cells := 1, slots := 20, locals := 18 } : Room) s m #[(.ref v0), (.int v1)] below meth c T88 L 1 20 ∧ Fr n0 L := ⟨_, X88, N88⟩
  clear X88 N88
  show Go p e below s _ _ _ T88 (mkF m 28 #[.val (.ref v0), .val (.int v1), .val (.ref b87)] [(.int (f_min (Int32.ofNat (bs).length) v1)), (.int (0 : Int32)), (.ref b87), (.int (0 : Int32)), (.ref v0)])
  obtain ⟨T89, h89, L89, X89, e89, N89, K89, A89, st89⟩ := cpAI Y88 hx hZ hown (hw _ (List.mem_of_getElem? (i := 27) rfl)) (hw _ (List.mem_of_getElem? (i := 30) rfl)) (hw _ (List.mem_of_getElem? (i := 28) rfl)) (hw _ (List.mem_of_getElem? (i := 29) rfl)) e88 A_v0_87 A_b87 rfl (by decide) (by decide) (own_k2 q1 q3 q4) (own_k3 q1 q3 q4) (own_k4 q1 q3 q4) M88 g_b87 (g := (mkF m 28 #[.val (.ref v0), .val (.int v1), .val (.ref b87)] [(.int (f_min (Int32.ofNat (bs).length) v1)), (.int (0 : Int32)), (.ref b87), (.int (0 : Int32)), (.ref v0)])) rfl (by rw [hml]; rfl) rfl (hb hby d_copyOf_28) (by decide) (W := 0) (by show 2 * 0 + _ ≤ _; exact Nat.le_of_eq rfl) (by decide)
  refine Go.st st89 ?_
  have A_v0_89 := A_v0_87.keep K89 (ninS ne_v0_b87 nin0)
  have E_b87_89 := B87.keep K89
  have C89 : AI Z h89 b87 .byte (bs.take v1.toNatClampNeg) := own_k5 q1 q3 q4 ▸ A89
  have K_89 : Keep h0 h89 [] := K_87.trans K89 (allS (Or.inr sz_b87) all0)
  have Z_89 : n0 ≤ h89.size := Nat.le_trans Z0 K_89.1
  show Go p e below s _ _ _ T89 (mkF m 31 #[.val (.ref v0), .val (.int v1), .val (.ref b87)] [])
  refine G_aloadN X89 hx (pc' := 32) rfl (hb hby d_copyOf_31) rfl rfl ?_
  refine Go.fin X89 hlk (v := some (.ref b87)) (fun h => by rw [Bd.returns] at h; cases h) (by decide) (by decide) ?_ (fun fs hr => retOut X89 hx Bd.returns rfl (Or.inr (Or.inr (Or.inr (Or.inr ⟨rfl, rfl, rfl⟩)))) (hb hby d_copyOf_32) hr)
  show Q_copyOf Z v0 v1 bs h0 n0 _ T89.heap _
  rw [e89]
  exact ⟨b87, rfl, N89, K_89, sz_b87, E_b87_89, C89⟩
theorem own_b1 {xs rs : List Int32} (hl : xs.length + rs.length = 64) (hx : xs.length ≤ 20) : ¬ ((Int32.ofNat xs.length) = (Int32.ofNat ((xs ++ rs)).length)) := by
  intro q
  have := congrArg Int32.toInt q
  rw [List.length_append, hl, (own_nat (by omega)).1, (own_nat (by omega)).1] at this
  omega
theorem own_bt {xs rs : List Int32} (hx : xs.length ≤ 20) : (xs ++ rs).take (Int32.ofNat xs.length).toNatClampNeg = xs := by
  rw [(own_nat (by omega)).2.1]; simp
theorem own_bi {xs : List Int32} (hx : xs.length ≤ 20) : (Int32.ofNat xs.length).toInt = xs.length := (own_nat (by omega)).1
theorem d_toBA_0 : decode prog_35_method_7_code 0 = .ok (.aload_n 0, 1) := by decide +kernel
theorem d_toBA_1 : decode prog_35_method_7_code 1 = .ok (.getfield 9, 3) := by decide +kernel
theorem d_toBA_4 : decode prog_35_method_7_code 4 = .ok (.aload_n 0, 1) := by decide +kernel
theorem d_toBA_5 : decode prog_35_method_7_code 5 = .ok (.getfield 35, 3) := by decide +kernel
theorem d_toBA_8 : decode prog_35_method_7_code 8 = .ok (.invokestatic 55, 3) := by decide +kernel
theorem pd_4 : parseMethodDescriptor "([BI)[B" = some ⟨[(.array .byte), .int], some (.array .byte)⟩ := by decide +kernel
theorem d_toBA_11 : decode prog_35_method_7_code 11 = .ok (.areturn, 1) := by decide +kernel
theorem ef_toBA (m : MethodId) (v0 : Addr) : entryFrame m #[(.ref v0)] 1 = mkF m 0 #[.val (.ref v0)] [] := by first | (simp [entryFrame, mkF, argsToLocals, Value.category]; done) | rfl
def Q_toBA (Z : State) (v0 : Addr) (dd : Addr) (xs : List Int32) (rs : List Int32) (h0 : Heap) (n0 : Nat) (v : Option Value) (h : Heap) (L : List Loc) : Prop := ∃ b0 : Addr, v = some (.ref b0) ∧ Fr n0 L ∧ Keep h0 h [] ∧ h0.size ≤ b0 ∧ Exa Z h b0 "[B" ∧ AI Z h b0 .byte xs
set_option maxRecDepth 65536 in
set_option maxHeartbeats 40000000 in
theorem rm_toBA (l : Launch) (Z : State) (a0 : Array Value) (hw : ∀ d ∈ tables_1, d.before a0 Z = true) (ws : List Jvm.Cond) (v0 : Addr) (dd : Addr) (xs : List Int32) (rs : List Int32) (h0 : Heap) (n0 : Nat) (Z0 : n0 ≤ h0.size) (f0_F_v0 : Fld Z h0 v0 "com/example/muster/muster/Protobuf$Writer" "bytes" "[B" (.ref dd)) (f1_F_v0 : Fld Z h0 v0 "com/example/muster/muster/Protobuf$Writer" "size" "I" (.int (Int32.ofNat xs.length))) (f2_A_dd : AI Z h0 dd .byte (xs ++ rs)) (hl : xs.length + rs.length = 64) (hx_ : xs.length ≤ 20) :
    MetFree l (⟨"com/example/muster/muster/Protobuf$Writer", "toByteArray", "()[B"⟩ : MethodName) (head1 (Jvm.Cond.code (⟨"com/example/muster/muster/Protobuf$Writer", "toByteArray", "()[B"⟩ : MethodName) prog_35_method_7_code 1 (some (.array .byte)) :: ws) ({ frames := 2, cells := 1, slots := 20, locals := 32 } : Room)) (fun a U => a = #[(.ref v0)] ∧ Z.Warmed39 U.vm ∧ U.heap = h0) (fun _ _ _ _ _ => True) (fun _ U o U' => ∃ v L, o = .returned v ∧ Q_toBA Z v0 dd xs rs h0 n0 v U'.heap L ∧ FrameEnd U o U' L ({ frames := 2, cells := 1, slots := 20, locals := 32 } : Room).cells ({ frames := 2, cells := 1, slots := 20, locals := 32 } : Room).slots) := by
  refine MetFree.of_bodySF (plainFor_of_name (by first | (simp [plainName, overriddenIn]; done) | decide +kernel)) hisR ?_
  intro p e s m args below meth c s₁ Bd hml0 hP hK
  obtain ⟨rfl, hZ, hh⟩ := hP
  have hx := Bd.exec
  have hby := Bd.bytes
  have hml : c.maxLocals = 1 := hml0
  have hown : s.vm.findClass "com/example/muster/muster/Protobuf$Writer" = some m.cls := findClass_of_methodNamed Bd.named
  have hnm := (name_of_methodNamed Bd.named Bd.method).1
  have hlk : meth.locks = false := Bd.notSynchronized
  have X0 : Stand p l e ({ frames := 2, cells := 1, slots := 20, locals := 32 } : Room) s m #[(.ref v0)] below meth c s₁ [] 0 0 := Stand.of_body Bd
  have e0 : s₁.heap = h0 := by rw [← hh, Bd.state]; rfl
  have N0 := Fr.nil n0
  refine Go.enter (Q := Q_toBA Z v0 dd xs rs h0 n0) (C := ({ frames := 2, cells := 1, slots := 20, locals := 32 } : Room).cells) (N := ({ frames := 2, cells := 1, slots := 20, locals := 32 } : Room).slots) (ef_toBA m v0) ?_
  show Go p e below s _ _ _ s₁ (mkF m 0 #[.val (.ref v0)] [])
  refine G_aloadN X0 hx (pc' := 1) rfl (hb hby d_toBA_0) rfl rfl ?_
  obtain ⟨T90, X90, e90, st90⟩ := getF X0 hx hZ hown (host := "") (Or.inl (hw _ (List.mem_of_getElem? (i := 10) rfl))) Via.refl e0 f0_F_v0 (g := (mkF m 1 #[.val (.ref v0)] [(.ref v0)])) rfl rfl (hb hby d_toBA_1)
  refine Go.st st90 ?_
  show Go p e below s _ _ _ T90 (mkF m 4 #[.val (.ref v0)] [(.ref dd)])
  refine G_aloadN X90 hx (pc' := 5) rfl (hb hby d_toBA_4) rfl rfl ?_
  obtain ⟨T91, X91, e91, st91⟩ := getF X90 hx hZ hown (host := "") (Or.inl (hw _ (List.mem_of_getElem? (i := 17) rfl))) Via.refl e90 f1_F_v0 (g := (mkF m 5 #[.val (.ref v0)] [(.ref v0), (.ref dd)])) rfl rfl (hb hby d_toBA_5)
  refine Go.st st91 ?_
  show Go p e below s _ _ _ T91 (mkF m 8 #[.val (.ref v0)] [(.int (Int32.ofNat xs.length)), (.ref dd)])
  obtain ⟨_, _, ⟨T92, L92, k92, n92⟩, -, X92, ⟨Lc92, hQ92, l92, y92, z92⟩, st92⟩ := Jvm.LawKit.callS X91 hx (y := (⟨"java/util/Arrays", "copyOf", "([BI)[B"⟩ : MethodName)) hown (mvT hZ (hw _ (List.mem_of_getElem? (i := 19) rfl))) (mvT hZ (hw _ (List.mem_of_getElem? (i := 20) rfl))) (mvT hZ (hw _ (List.mem_of_getElem? (i := 21) rfl))) (mvT hZ (hw _ (List.mem_of_getElem? (i := 22) rfl))) (by decide) (backOf (W := 0) (rm_copyOf l Z a0 hw [] dd (Int32.ofNat xs.length) (xs ++ rs) h0 n0 Z0 f2_A_dd (own_b1 hl hx_) (by rw [own_bi hx_]; omega) (by rw [own_bi hx_]; omega) (by rw [own_bi hx_, List.length_append]; omega) (by rw [List.length_append]; omega)) hZ (hw _ (List.mem_of_getElem? (i := 22) rfl)) (hw _ (List.mem_of_getElem? (i := 21) rfl)) (by decide) (by decide)) (g := (mkF m 8 #[.val (.ref v0)] [(.int (Int32.ofNat xs.length)), (.ref dd)])) rfl (by rw [hml]; rfl) (argsL := [(.ref dd), (.int (Int32.ofNat xs.length))]) (rest := []) (lenOf pd_4 rfl) rfl (by show 2 * 0 + _ ≤ _; exact Nat.le_of_eq rfl) (hb hby d_toBA_8) (fun _ _ => ⟨rfl, e91, (by decide : 0 + 1 ≤ _), (by decide : 0 + 20 ≤ _)⟩)
  dsimp only [Pt.U, Pt.locs, Pt.cells, Pt.slots] at X92 l92 y92 z92 st92 hQ92
  rw [l92, y92, z92] at X92
  clear l92 y92 z92
  obtain ⟨b0_92, rfl, N92q, K92, le_b0_92, p92_0, p92_1⟩ := hQ92
  have N92 := Fr.app N0 N92q
  refine Go.st st92 ?_
  have ne_dd_b0_92 : dd ≠ b0_92 := Nat.ne_of_lt (Nat.lt_of_lt_of_le f2_A_dd.lt le_b0_92)
  have ne_v0_b0_92 : v0 ≠ b0_92 := Nat.ne_of_lt (Nat.lt_of_lt_of_le f0_F_v0.lt le_b0_92)
  have g_b0_92 : n0 ≤ b0_92 := Nat.le_trans Z0 le_b0_92
  have sz_b0_92 : h0.size ≤ b0_92 := Nat.le_trans (Nat.le_refl _) le_b0_92
  have F_v0_bytes_92 := f0_F_v0.keep K92 nin0
  have F_v0_size_92 := f1_F_v0.keep K92 nin0
  have A_dd_92 := f2_A_dd.keep K92 nin0
  have K_92 : Keep h0 T92.heap [] := (Keep.refl h0 []).trans K92 all0
  have Z_92 : n0 ≤ T92.heap.size := Nat.le_trans Z0 K_92.1
  clear f0_F_v0 f1_F_v0 f2_A_dd st92 K92
  obtain ⟨G92, Y92, M92⟩ : ∃ L, Stand p l e ({ frames := 2, cells := 1, slots := 20, locals := 32 } : Room) s m #[(.ref v0)] below meth c T92 L 1 20 ∧ Fr n0 L := ⟨_, X92, N92⟩
  clear X92 N92
  have AT : AI Z T92.heap b0_92 .byte xs := own_bt hx_ ▸ p92_1
  show Go p e below s _ _ _ T92 (mkF m 11 #[.val (.ref v0)] [(.ref b0_92)])
  refine Go.fin Y92 hlk (v := some (.ref b0_92)) (fun h => by rw [Bd.returns] at h; cases h) (by decide) (by decide) ?_ (fun fs hr => retOut Y92 hx Bd.returns rfl (Or.inr (Or.inr (Or.inr (Or.inr ⟨rfl, rfl, rfl⟩)))) (hb hby d_toBA_11) hr)
  show Q_toBA Z v0 dd xs rs h0 n0 _ T92.heap _
  exact ⟨b0_92, rfl, M92, K_92, sz_b0_92, p92_0, AT⟩
theorem d_lenOf_0 : decode method_2_code 0 = .ok (.lload_n 0, 1) := by decide +kernel
theorem d_lenOf_1 : decode method_2_code 1 = .ok (.bipush 7, 2) := by decide +kernel
theorem d_lenOf_3 : decode method_2_code 3 = .ok (.lushr, 1) := by decide +kernel
theorem d_lenOf_4 : decode method_2_code 4 = .ok (.lconst 0, 1) := by decide +kernel
theorem d_lenOf_5 : decode method_2_code 5 = .ok (.lcmp, 1) := by decide +kernel
theorem d_lenOf_6 : decode method_2_code 6 = .ok (.ifCond .ne 5, 3) := by decide +kernel
theorem d_lenOf_9 : decode method_2_code 9 = .ok (.iconst 1, 1) := by decide +kernel
theorem d_lenOf_10 : decode method_2_code 10 = .ok (.ireturn, 1) := by decide +kernel
theorem d_lenOf_11 : decode method_2_code 11 = .ok (.lload_n 0, 1) := by decide +kernel
theorem d_lenOf_12 : decode method_2_code 12 = .ok (.bipush 14, 2) := by decide +kernel
theorem d_lenOf_14 : decode method_2_code 14 = .ok (.lushr, 1) := by decide +kernel
theorem d_lenOf_15 : decode method_2_code 15 = .ok (.lconst 0, 1) := by decide +kernel
theorem d_lenOf_16 : decode method_2_code 16 = .ok (.lcmp, 1) := by decide +kernel
theorem d_lenOf_17 : decode method_2_code 17 = .ok (.ifCond .ne 5, 3) := by decide +kernel
theorem d_lenOf_20 : decode method_2_code 20 = .ok (.iconst 2, 1) := by decide +kernel
theorem d_lenOf_21 : decode method_2_code 21 = .ok (.ireturn, 1) := by decide +kernel
theorem d_lenOf_22 : decode method_2_code 22 = .ok (.lload_n 0, 1) := by decide +kernel
theorem d_lenOf_23 : decode method_2_code 23 = .ok (.bipush 21, 2) := by decide +kernel
theorem d_lenOf_25 : decode method_2_code 25 = .ok (.lushr, 1) := by decide +kernel
theorem d_lenOf_26 : decode method_2_code 26 = .ok (.lconst 0, 1) := by decide +kernel
theorem d_lenOf_27 : decode method_2_code 27 = .ok (.lcmp, 1) := by decide +kernel
theorem d_lenOf_28 : decode method_2_code 28 = .ok (.ifCond .ne 5, 3) := by decide +kernel
theorem d_lenOf_31 : decode method_2_code 31 = .ok (.iconst 3, 1) := by decide +kernel
theorem d_lenOf_32 : decode method_2_code 32 = .ok (.ireturn, 1) := by decide +kernel
theorem d_lenOf_33 : decode method_2_code 33 = .ok (.lload_n 0, 1) := by decide +kernel
theorem d_lenOf_34 : decode method_2_code 34 = .ok (.bipush 28, 2) := by decide +kernel
theorem d_lenOf_36 : decode method_2_code 36 = .ok (.lushr, 1) := by decide +kernel
theorem d_lenOf_37 : decode method_2_code 37 = .ok (.lconst 0, 1) := by decide +kernel
theorem d_lenOf_38 : decode method_2_code 38 = .ok (.lcmp, 1) := by decide +kernel
theorem d_lenOf_39 : decode method_2_code 39 = .ok (.ifCond .ne 5, 3) := by decide +kernel
theorem d_lenOf_42 : decode method_2_code 42 = .ok (.iconst 4, 1) := by decide +kernel
theorem d_lenOf_43 : decode method_2_code 43 = .ok (.ireturn, 1) := by decide +kernel
theorem d_lenOf_44 : decode method_2_code 44 = .ok (.lload_n 0, 1) := by decide +kernel
theorem d_lenOf_45 : decode method_2_code 45 = .ok (.bipush 35, 2) := by decide +kernel
theorem d_lenOf_47 : decode method_2_code 47 = .ok (.lushr, 1) := by decide +kernel
theorem d_lenOf_48 : decode method_2_code 48 = .ok (.lconst 0, 1) := by decide +kernel
theorem d_lenOf_49 : decode method_2_code 49 = .ok (.lcmp, 1) := by decide +kernel
theorem d_lenOf_50 : decode method_2_code 50 = .ok (.ifCond .ne 5, 3) := by decide +kernel
theorem d_lenOf_53 : decode method_2_code 53 = .ok (.iconst 5, 1) := by decide +kernel
theorem d_lenOf_54 : decode method_2_code 54 = .ok (.ireturn, 1) := by decide +kernel
theorem d_lenOf_55 : decode method_2_code 55 = .ok (.lload_n 0, 1) := by decide +kernel
theorem d_lenOf_56 : decode method_2_code 56 = .ok (.bipush 42, 2) := by decide +kernel
theorem d_lenOf_58 : decode method_2_code 58 = .ok (.lushr, 1) := by decide +kernel
theorem d_lenOf_59 : decode method_2_code 59 = .ok (.lconst 0, 1) := by decide +kernel
theorem d_lenOf_60 : decode method_2_code 60 = .ok (.lcmp, 1) := by decide +kernel
theorem d_lenOf_61 : decode method_2_code 61 = .ok (.ifCond .ne 6, 3) := by decide +kernel
theorem d_lenOf_64 : decode method_2_code 64 = .ok (.bipush 6, 2) := by decide +kernel
theorem d_lenOf_66 : decode method_2_code 66 = .ok (.ireturn, 1) := by decide +kernel
theorem d_lenOf_67 : decode method_2_code 67 = .ok (.lload_n 0, 1) := by decide +kernel
theorem d_lenOf_68 : decode method_2_code 68 = .ok (.bipush 49, 2) := by decide +kernel
theorem d_lenOf_70 : decode method_2_code 70 = .ok (.lushr, 1) := by decide +kernel
theorem d_lenOf_71 : decode method_2_code 71 = .ok (.lconst 0, 1) := by decide +kernel
theorem d_lenOf_72 : decode method_2_code 72 = .ok (.lcmp, 1) := by decide +kernel
theorem d_lenOf_73 : decode method_2_code 73 = .ok (.ifCond .ne 6, 3) := by decide +kernel
theorem d_lenOf_76 : decode method_2_code 76 = .ok (.bipush 7, 2) := by decide +kernel
theorem d_lenOf_78 : decode method_2_code 78 = .ok (.ireturn, 1) := by decide +kernel
theorem d_lenOf_79 : decode method_2_code 79 = .ok (.lload_n 0, 1) := by decide +kernel
theorem d_lenOf_80 : decode method_2_code 80 = .ok (.bipush 56, 2) := by decide +kernel
theorem d_lenOf_82 : decode method_2_code 82 = .ok (.lushr, 1) := by decide +kernel
theorem d_lenOf_83 : decode method_2_code 83 = .ok (.lconst 0, 1) := by decide +kernel
theorem d_lenOf_84 : decode method_2_code 84 = .ok (.lcmp, 1) := by decide +kernel
theorem d_lenOf_85 : decode method_2_code 85 = .ok (.ifCond .ne 6, 3) := by decide +kernel
theorem d_lenOf_88 : decode method_2_code 88 = .ok (.bipush 8, 2) := by decide +kernel
theorem d_lenOf_90 : decode method_2_code 90 = .ok (.ireturn, 1) := by decide +kernel
theorem d_lenOf_91 : decode method_2_code 91 = .ok (.lload_n 0, 1) := by decide +kernel
theorem d_lenOf_92 : decode method_2_code 92 = .ok (.bipush 63, 2) := by decide +kernel
theorem d_lenOf_94 : decode method_2_code 94 = .ok (.lushr, 1) := by decide +kernel
theorem d_lenOf_95 : decode method_2_code 95 = .ok (.lconst 0, 1) := by decide +kernel
theorem d_lenOf_96 : decode method_2_code 96 = .ok (.lcmp, 1) := by decide +kernel
theorem d_lenOf_97 : decode method_2_code 97 = .ok (.ifCond .ne 6, 3) := by decide +kernel
theorem d_lenOf_100 : decode method_2_code 100 = .ok (.bipush 9, 2) := by decide +kernel
theorem d_lenOf_102 : decode method_2_code 102 = .ok (.ireturn, 1) := by decide +kernel
theorem d_lenOf_103 : decode method_2_code 103 = .ok (.bipush 10, 2) := by decide +kernel
theorem d_lenOf_105 : decode method_2_code 105 = .ok (.ireturn, 1) := by decide +kernel
def f_lenOf (v0 : Int64) : Int32 := (if ((v0.toUInt64 >>> ((7 : Int32) &&& 0x3f).toInt64.toUInt64).toInt64) = (0 : Int64) then (1 : Int32) else (if ((v0.toUInt64 >>> ((14 : Int32) &&& 0x3f).toInt64.toUInt64).toInt64) = (0 : Int64) then (2 : Int32) else (if ((v0.toUInt64 >>> ((21 : Int32) &&& 0x3f).toInt64.toUInt64).toInt64) = (0 : Int64) then (3 : Int32) else (if ((v0.toUInt64 >>> ((28 : Int32) &&& 0x3f).toInt64.toUInt64).toInt64) = (0 : Int64) then (4 : Int32) else (if ((v0.toUInt64 >>> ((35 : Int32) &&& 0x3f).toInt64.toUInt64).toInt64) = (0 : Int64) then (5 : Int32) else (if ((v0.toUInt64 >>> ((42 : Int32) &&& 0x3f).toInt64.toUInt64).toInt64) = (0 : Int64) then (6 : Int32) else (if ((v0.toUInt64 >>> ((49 : Int32) &&& 0x3f).toInt64.toUInt64).toInt64) = (0 : Int64) then (7 : Int32) else (if ((v0.toUInt64 >>> ((56 : Int32) &&& 0x3f).toInt64.toUInt64).toInt64) = (0 : Int64) then (8 : Int32) else (if ((v0.toUInt64 >>> ((63 : Int32) &&& 0x3f).toInt64.toUInt64).toInt64) = (0 : Int64) then (9 : Int32) else (10 : Int32))))))))))
theorem ef_lenOf (m : MethodId) (v0 : Int64) : entryFrame m #[(.long v0)] 2 = mkF m 0 #[.val (.long v0), .second] [] := by first | (simp [entryFrame, mkF, argsToLocals, Value.category]; done) | rfl
def Q_lenOf (Z : State) (v0 : Int64) (h0 : Heap) (n0 : Nat) (v : Option Value) (h : Heap) (L : List Loc) : Prop := v = some (.int (f_lenOf v0)) ∧ Fr n0 L ∧ h = h0
set_option maxRecDepth 65536 in
set_option maxHeartbeats 40000000 in
theorem rm_lenOf (l : Launch) (Z : State) (a0 : Array Value) (hw : ∀ d ∈ tables_1, d.before a0 Z = true) (ws : List Jvm.Cond) (v0 : Int64) (h0 : Heap) (n0 : Nat) (Z0 : n0 ≤ h0.size) :
    MetFree l (⟨"com/example/muster/muster/WriterToByteArrayPinLaw", "lenOf", "(J)I"⟩ : MethodName) (head1 (Jvm.Cond.code (⟨"com/example/muster/muster/WriterToByteArrayPinLaw", "lenOf", "(J)I"⟩ : MethodName) method_2_code 2 (some .int) :: ws) ({ frames := 0, cells := 0, slots := 0, locals := 0 } : Room)) (fun a U => a = #[(.long v0)] ∧ Z.Warmed39 U.vm ∧ U.heap = h0) (fun _ _ _ _ _ => True) (fun _ U o U' => ∃ v L, o = .returned v ∧ Q_lenOf Z v0 h0 n0 v U'.heap L ∧ FrameEnd U o U' L ({ frames := 0, cells := 0, slots := 0, locals := 0 } : Room).cells ({ frames := 0, cells := 0, slots := 0, locals := 0 } : Room).slots) := by
  refine MetFree.of_bodySF (plainFor_of_name (by first | (simp [plainName, overriddenIn]; done) | decide +kernel)) hisR ?_
  intro p e s m args below meth c s₁ Bd hml0 hP hK
  obtain ⟨rfl, hZ, hh⟩ := hP
  have hx := Bd.exec
  have hby := Bd.bytes
  have hml : c.maxLocals = 2 := hml0
  have hown : s.vm.findClass "com/example/muster/muster/WriterToByteArrayPinLaw" = some m.cls := findClass_of_methodNamed Bd.named
  have hnm := (name_of_methodNamed Bd.named Bd.method).1
  have hlk : meth.locks = false := Bd.notSynchronized
  have X0 : Stand p l e ({ frames := 0, cells := 0, slots := 0, locals := 0 } : Room) s m #[(.long v0)] below meth c s₁ [] 0 0 := Stand.of_body Bd
  have e0 : s₁.heap = h0 := by rw [← hh, Bd.state]; rfl
  have N0 := Fr.nil n0
  refine Go.enter (Q := Q_lenOf Z v0 h0 n0) (C := ({ frames := 0, cells := 0, slots := 0, locals := 0 } : Room).cells) (N := ({ frames := 0, cells := 0, slots := 0, locals := 0 } : Room).slots) (ef_lenOf m v0) ?_
  show Go p e below s _ _ _ s₁ (mkF m 0 #[.val (.long v0), .second] [])
  refine G_lloadN X0 hx (pc' := 1) rfl (hb hby d_lenOf_0) rfl ?_
  refine G_bipush X0 hx (pc' := 3) rfl (hb hby d_lenOf_1) (z := (7 : Int32)) rfl ?_
  refine G_lushr X0 hx (pc' := 4) rfl (hb hby d_lenOf_3)  ?_
  refine G_lconst X0 hx (pc' := 5) rfl (hb hby d_lenOf_4) (z := (0 : Int64)) rfl ?_
  refine G_lcmp X0 hx (pc' := 6) rfl (hb hby d_lenOf_5)  ?_
  by_cases hc6_1 : ((v0.toUInt64 >>> ((7 : Int32) &&& 0x3f).toInt64.toUInt64).toInt64) = (0 : Int64)
  · refine G_ifNo X0 hx (pc' := 9) rfl (hb hby d_lenOf_6) ((if0 _ _).trans (teq ((lw_eq _ _).2 hc6_1)).2) ?_
    refine G_iconst X0 hx (pc' := 10) rfl (hb hby d_lenOf_9) (z := (1 : Int32)) rfl ?_
    refine Go.fin X0 hlk (v := some (.int (1 : Int32))) (fun h => by rw [Bd.returns] at h; cases h) (by decide) (by decide) ?_ (fun fs hr => retOut X0 hx Bd.returns rfl (Or.inl ⟨rfl, Or.inl rfl, _, rfl⟩) (hb hby d_lenOf_10) hr)
    show Q_lenOf Z v0 h0 n0 _ s₁.heap _
    rw [e0]
    exact ⟨congrArg (fun z => some (Value.int z)) (Eq.symm ((if_pos hc6_1).trans rfl)), N0, rfl⟩
  · refine G_ifYes X0 hx (pc' := 11) (hb hby d_lenOf_6) ((if0 _ _).trans (feq (fun q => hc6_1 ((lw_eq _ _).1 q))).2) (by decide) (by decide) ?_
    refine G_lloadN X0 hx (pc' := 12) rfl (hb hby d_lenOf_11) rfl ?_
    refine G_bipush X0 hx (pc' := 14) rfl (hb hby d_lenOf_12) (z := (14 : Int32)) rfl ?_
    refine G_lushr X0 hx (pc' := 15) rfl (hb hby d_lenOf_14)  ?_
    refine G_lconst X0 hx (pc' := 16) rfl (hb hby d_lenOf_15) (z := (0 : Int64)) rfl ?_
    refine G_lcmp X0 hx (pc' := 17) rfl (hb hby d_lenOf_16)  ?_
    by_cases hc17_2 : ((v0.toUInt64 >>> ((14 : Int32) &&& 0x3f).toInt64.toUInt64).toInt64) = (0 : Int64)
    · refine G_ifNo X0 hx (pc' := 20) rfl (hb hby d_lenOf_17) ((if0 _ _).trans (teq ((lw_eq _ _).2 hc17_2)).2) ?_
      refine G_iconst X0 hx (pc' := 21) rfl (hb hby d_lenOf_20) (z := (2 : Int32)) rfl ?_
      refine Go.fin X0 hlk (v := some (.int (2 : Int32))) (fun h => by rw [Bd.returns] at h; cases h) (by decide) (by decide) ?_ (fun fs hr => retOut X0 hx Bd.returns rfl (Or.inl ⟨rfl, Or.inl rfl, _, rfl⟩) (hb hby d_lenOf_21) hr)
      show Q_lenOf Z v0 h0 n0 _ s₁.heap _
      rw [e0]
      exact ⟨congrArg (fun z => some (Value.int z)) (Eq.symm ((if_neg hc6_1).trans ((if_pos hc17_2).trans rfl))), N0, rfl⟩
    · refine G_ifYes X0 hx (pc' := 22) (hb hby d_lenOf_17) ((if0 _ _).trans (feq (fun q => hc17_2 ((lw_eq _ _).1 q))).2) (by decide) (by decide) ?_
      refine G_lloadN X0 hx (pc' := 23) rfl (hb hby d_lenOf_22) rfl ?_
      refine G_bipush X0 hx (pc' := 25) rfl (hb hby d_lenOf_23) (z := (21 : Int32)) rfl ?_
      refine G_lushr X0 hx (pc' := 26) rfl (hb hby d_lenOf_25)  ?_
      refine G_lconst X0 hx (pc' := 27) rfl (hb hby d_lenOf_26) (z := (0 : Int64)) rfl ?_
      refine G_lcmp X0 hx (pc' := 28) rfl (hb hby d_lenOf_27)  ?_
      by_cases hc28_3 : ((v0.toUInt64 >>> ((21 : Int32) &&& 0x3f).toInt64.toUInt64).toInt64) = (0 : Int64)
      · refine G_ifNo X0 hx (pc' := 31) rfl (hb hby d_lenOf_28) ((if0 _ _).trans (teq ((lw_eq _ _).2 hc28_3)).2) ?_
        refine G_iconst X0 hx (pc' := 32) rfl (hb hby d_lenOf_31) (z := (3 : Int32)) rfl ?_
        refine Go.fin X0 hlk (v := some (.int (3 : Int32))) (fun h => by rw [Bd.returns] at h; cases h) (by decide) (by decide) ?_ (fun fs hr => retOut X0 hx Bd.returns rfl (Or.inl ⟨rfl, Or.inl rfl, _, rfl⟩) (hb hby d_lenOf_32) hr)
        show Q_lenOf Z v0 h0 n0 _ s₁.heap _
        rw [e0]
        exact ⟨congrArg (fun z => some (Value.int z)) (Eq.symm ((if_neg hc6_1).trans ((if_neg hc17_2).trans ((if_pos hc28_3).trans rfl)))), N0, rfl⟩
      · refine G_ifYes X0 hx (pc' := 33) (hb hby d_lenOf_28) ((if0 _ _).trans (feq (fun q => hc28_3 ((lw_eq _ _).1 q))).2) (by decide) (by decide) ?_
        refine G_lloadN X0 hx (pc' := 34) rfl (hb hby d_lenOf_33) rfl ?_
        refine G_bipush X0 hx (pc' := 36) rfl (hb hby d_lenOf_34) (z := (28 : Int32)) rfl ?_
        refine G_lushr X0 hx (pc' := 37) rfl (hb hby d_lenOf_36)  ?_
        refine G_lconst X0 hx (pc' := 38) rfl (hb hby d_lenOf_37) (z := (0 : Int64)) rfl ?_
        refine G_lcmp X0 hx (pc' := 39) rfl (hb hby d_lenOf_38)  ?_
        by_cases hc39_4 : ((v0.toUInt64 >>> ((28 : Int32) &&& 0x3f).toInt64.toUInt64).toInt64) = (0 : Int64)
        · refine G_ifNo X0 hx (pc' := 42) rfl (hb hby d_lenOf_39) ((if0 _ _).trans (teq ((lw_eq _ _).2 hc39_4)).2) ?_
          refine G_iconst X0 hx (pc' := 43) rfl (hb hby d_lenOf_42) (z := (4 : Int32)) rfl ?_
          refine Go.fin X0 hlk (v := some (.int (4 : Int32))) (fun h => by rw [Bd.returns] at h; cases h) (by decide) (by decide) ?_ (fun fs hr => retOut X0 hx Bd.returns rfl (Or.inl ⟨rfl, Or.inl rfl, _, rfl⟩) (hb hby d_lenOf_43) hr)
          show Q_lenOf Z v0 h0 n0 _ s₁.heap _
          rw [e0]
          exact ⟨congrArg (fun z => some (Value.int z)) (Eq.symm ((if_neg hc6_1).trans ((if_neg hc17_2).trans ((if_neg hc28_3).trans ((if_pos hc39_4).trans rfl))))), N0, rfl⟩
        · refine G_ifYes X0 hx (pc' := 44) (hb hby d_lenOf_39) ((if0 _ _).trans (feq (fun q => hc39_4 ((lw_eq _ _).1 q))).2) (by decide) (by decide) ?_
          refine G_lloadN X0 hx (pc' := 45) rfl (hb hby d_lenOf_44) rfl ?_
          refine G_bipush X0 hx (pc' := 47) rfl (hb hby d_lenOf_45) (z := (35 : Int32)) rfl ?_
          refine G_lushr X0 hx (pc' := 48) rfl (hb hby d_lenOf_47)  ?_
          refine G_lconst X0 hx (pc' := 49) rfl (hb hby d_lenOf_48) (z := (0 : Int64)) rfl ?_
          refine G_lcmp X0 hx (pc' := 50) rfl (hb hby d_lenOf_49)  ?_
          by_cases hc50_5 : ((v0.toUInt64 >>> ((35 : Int32) &&& 0x3f).toInt64.toUInt64).toInt64) = (0 : Int64)
          · refine G_ifNo X0 hx (pc' := 53) rfl (hb hby d_lenOf_50) ((if0 _ _).trans (teq ((lw_eq _ _).2 hc50_5)).2) ?_
            refine G_iconst X0 hx (pc' := 54) rfl (hb hby d_lenOf_53) (z := (5 : Int32)) rfl ?_
            refine Go.fin X0 hlk (v := some (.int (5 : Int32))) (fun h => by rw [Bd.returns] at h; cases h) (by decide) (by decide) ?_ (fun fs hr => retOut X0 hx Bd.returns rfl (Or.inl ⟨rfl, Or.inl rfl, _, rfl⟩) (hb hby d_lenOf_54) hr)
            show Q_lenOf Z v0 h0 n0 _ s₁.heap _
            rw [e0]
            exact ⟨congrArg (fun z => some (Value.int z)) (Eq.symm ((if_neg hc6_1).trans ((if_neg hc17_2).trans ((if_neg hc28_3).trans ((if_neg hc39_4).trans ((if_pos hc50_5).trans rfl)))))), N0, rfl⟩
          · refine G_ifYes X0 hx (pc' := 55) (hb hby d_lenOf_50) ((if0 _ _).trans (feq (fun q => hc50_5 ((lw_eq _ _).1 q))).2) (by decide) (by decide) ?_
            refine G_lloadN X0 hx (pc' := 56) rfl (hb hby d_lenOf_55) rfl ?_
            refine G_bipush X0 hx (pc' := 58) rfl (hb hby d_lenOf_56) (z := (42 : Int32)) rfl ?_
            refine G_lushr X0 hx (pc' := 59) rfl (hb hby d_lenOf_58)  ?_
            refine G_lconst X0 hx (pc' := 60) rfl (hb hby d_lenOf_59) (z := (0 : Int64)) rfl ?_
            refine G_lcmp X0 hx (pc' := 61) rfl (hb hby d_lenOf_60)  ?_
            by_cases hc61_6 : ((v0.toUInt64 >>> ((42 : Int32) &&& 0x3f).toInt64.toUInt64).toInt64) = (0 : Int64)
            · refine G_ifNo X0 hx (pc' := 64) rfl (hb hby d_lenOf_61) ((if0 _ _).trans (teq ((lw_eq _ _).2 hc61_6)).2) ?_
              refine G_bipush X0 hx (pc' := 66) rfl (hb hby d_lenOf_64) (z := (6 : Int32)) rfl ?_
              refine Go.fin X0 hlk (v := some (.int (6 : Int32))) (fun h => by rw [Bd.returns] at h; cases h) (by decide) (by decide) ?_ (fun fs hr => retOut X0 hx Bd.returns rfl (Or.inl ⟨rfl, Or.inl rfl, _, rfl⟩) (hb hby d_lenOf_66) hr)
              show Q_lenOf Z v0 h0 n0 _ s₁.heap _
              rw [e0]
              exact ⟨congrArg (fun z => some (Value.int z)) (Eq.symm ((if_neg hc6_1).trans ((if_neg hc17_2).trans ((if_neg hc28_3).trans ((if_neg hc39_4).trans ((if_neg hc50_5).trans ((if_pos hc61_6).trans rfl))))))), N0, rfl⟩
            · refine G_ifYes X0 hx (pc' := 67) (hb hby d_lenOf_61) ((if0 _ _).trans (feq (fun q => hc61_6 ((lw_eq _ _).1 q))).2) (by decide) (by decide) ?_
              refine G_lloadN X0 hx (pc' := 68) rfl (hb hby d_lenOf_67) rfl ?_
              refine G_bipush X0 hx (pc' := 70) rfl (hb hby d_lenOf_68) (z := (49 : Int32)) rfl ?_
              refine G_lushr X0 hx (pc' := 71) rfl (hb hby d_lenOf_70)  ?_
              refine G_lconst X0 hx (pc' := 72) rfl (hb hby d_lenOf_71) (z := (0 : Int64)) rfl ?_
              refine G_lcmp X0 hx (pc' := 73) rfl (hb hby d_lenOf_72)  ?_
              by_cases hc73_7 : ((v0.toUInt64 >>> ((49 : Int32) &&& 0x3f).toInt64.toUInt64).toInt64) = (0 : Int64)
              · refine G_ifNo X0 hx (pc' := 76) rfl (hb hby d_lenOf_73) ((if0 _ _).trans (teq ((lw_eq _ _).2 hc73_7)).2) ?_
                refine G_bipush X0 hx (pc' := 78) rfl (hb hby d_lenOf_76) (z := (7 : Int32)) rfl ?_
                refine Go.fin X0 hlk (v := some (.int (7 : Int32))) (fun h => by rw [Bd.returns] at h; cases h) (by decide) (by decide) ?_ (fun fs hr => retOut X0 hx Bd.returns rfl (Or.inl ⟨rfl, Or.inl rfl, _, rfl⟩) (hb hby d_lenOf_78) hr)
                show Q_lenOf Z v0 h0 n0 _ s₁.heap _
                rw [e0]
                exact ⟨congrArg (fun z => some (Value.int z)) (Eq.symm ((if_neg hc6_1).trans ((if_neg hc17_2).trans ((if_neg hc28_3).trans ((if_neg hc39_4).trans ((if_neg hc50_5).trans ((if_neg hc61_6).trans ((if_pos hc73_7).trans rfl)))))))), N0, rfl⟩
              · refine G_ifYes X0 hx (pc' := 79) (hb hby d_lenOf_73) ((if0 _ _).trans (feq (fun q => hc73_7 ((lw_eq _ _).1 q))).2) (by decide) (by decide) ?_
                refine G_lloadN X0 hx (pc' := 80) rfl (hb hby d_lenOf_79) rfl ?_
                refine G_bipush X0 hx (pc' := 82) rfl (hb hby d_lenOf_80) (z := (56 : Int32)) rfl ?_
                refine G_lushr X0 hx (pc' := 83) rfl (hb hby d_lenOf_82)  ?_
                refine G_lconst X0 hx (pc' := 84) rfl (hb hby d_lenOf_83) (z := (0 : Int64)) rfl ?_
                refine G_lcmp X0 hx (pc' := 85) rfl (hb hby d_lenOf_84)  ?_
                by_cases hc85_8 : ((v0.toUInt64 >>> ((56 : Int32) &&& 0x3f).toInt64.toUInt64).toInt64) = (0 : Int64)
                · refine G_ifNo X0 hx (pc' := 88) rfl (hb hby d_lenOf_85) ((if0 _ _).trans (teq ((lw_eq _ _).2 hc85_8)).2) ?_
                  refine G_bipush X0 hx (pc' := 90) rfl (hb hby d_lenOf_88) (z := (8 : Int32)) rfl ?_
                  refine Go.fin X0 hlk (v := some (.int (8 : Int32))) (fun h => by rw [Bd.returns] at h; cases h) (by decide) (by decide) ?_ (fun fs hr => retOut X0 hx Bd.returns rfl (Or.inl ⟨rfl, Or.inl rfl, _, rfl⟩) (hb hby d_lenOf_90) hr)
                  show Q_lenOf Z v0 h0 n0 _ s₁.heap _
                  rw [e0]
                  exact ⟨congrArg (fun z => some (Value.int z)) (Eq.symm ((if_neg hc6_1).trans ((if_neg hc17_2).trans ((if_neg hc28_3).trans ((if_neg hc39_4).trans ((if_neg hc50_5).trans ((if_neg hc61_6).trans ((if_neg hc73_7).trans ((if_pos hc85_8).trans rfl))))))))), N0, rfl⟩
                · refine G_ifYes X0 hx (pc' := 91) (hb hby d_lenOf_85) ((if0 _ _).trans (feq (fun q => hc85_8 ((lw_eq _ _).1 q))).2) (by decide) (by decide) ?_
                  refine G_lloadN X0 hx (pc' := 92) rfl (hb hby d_lenOf_91) rfl ?_
                  refine G_bipush X0 hx (pc' := 94) rfl (hb hby d_lenOf_92) (z := (63 : Int32)) rfl ?_
                  refine G_lushr X0 hx (pc' := 95) rfl (hb hby d_lenOf_94)  ?_
                  refine G_lconst X0 hx (pc' := 96) rfl (hb hby d_lenOf_95) (z := (0 : Int64)) rfl ?_
                  refine G_lcmp X0 hx (pc' := 97) rfl (hb hby d_lenOf_96)  ?_
                  by_cases hc97_9 : ((v0.toUInt64 >>> ((63 : Int32) &&& 0x3f).toInt64.toUInt64).toInt64) = (0 : Int64)
                  · refine G_ifNo X0 hx (pc' := 100) rfl (hb hby d_lenOf_97) ((if0 _ _).trans (teq ((lw_eq _ _).2 hc97_9)).2) ?_
                    refine G_bipush X0 hx (pc' := 102) rfl (hb hby d_lenOf_100) (z := (9 : Int32)) rfl ?_
                    refine Go.fin X0 hlk (v := some (.int (9 : Int32))) (fun h => by rw [Bd.returns] at h; cases h) (by decide) (by decide) ?_ (fun fs hr => retOut X0 hx Bd.returns rfl (Or.inl ⟨rfl, Or.inl rfl, _, rfl⟩) (hb hby d_lenOf_102) hr)
                    show Q_lenOf Z v0 h0 n0 _ s₁.heap _
                    rw [e0]
                    exact ⟨congrArg (fun z => some (Value.int z)) (Eq.symm ((if_neg hc6_1).trans ((if_neg hc17_2).trans ((if_neg hc28_3).trans ((if_neg hc39_4).trans ((if_neg hc50_5).trans ((if_neg hc61_6).trans ((if_neg hc73_7).trans ((if_neg hc85_8).trans ((if_pos hc97_9).trans rfl)))))))))), N0, rfl⟩
                  · refine G_ifYes X0 hx (pc' := 103) (hb hby d_lenOf_97) ((if0 _ _).trans (feq (fun q => hc97_9 ((lw_eq _ _).1 q))).2) (by decide) (by decide) ?_
                    refine G_bipush X0 hx (pc' := 105) rfl (hb hby d_lenOf_103) (z := (10 : Int32)) rfl ?_
                    refine Go.fin X0 hlk (v := some (.int (10 : Int32))) (fun h => by rw [Bd.returns] at h; cases h) (by decide) (by decide) ?_ (fun fs hr => retOut X0 hx Bd.returns rfl (Or.inl ⟨rfl, Or.inl rfl, _, rfl⟩) (hb hby d_lenOf_105) hr)
                    show Q_lenOf Z v0 h0 n0 _ s₁.heap _
                    rw [e0]
                    exact ⟨congrArg (fun z => some (Value.int z)) (Eq.symm ((if_neg hc6_1).trans ((if_neg hc17_2).trans ((if_neg hc28_3).trans ((if_neg hc39_4).trans ((if_neg hc50_5).trans ((if_neg hc61_6).trans ((if_neg hc73_7).trans ((if_neg hc85_8).trans ((if_neg hc97_9).trans rfl)))))))))), N0, rfl⟩
theorem own_lz (v : Int64) (s : Int32) (k : Nat) (hs : s.toBitVec.toNat % 64 = k) (h0 : 0 < k) : (((v.toUInt64 >>> (s &&& 0x3f).toInt64.toUInt64).toInt64) = (0 : Int64)) = (own_U v < ((2 ^ k : Nat) : Int)) := by
  have e := own_srI s k hs h0 v
  have u := own_U0 v
  have z : (0 : Int64).toInt = 0 := rfl
  have p2 : (0 : Int) < ((2 ^ k : Nat) : Int) := by exact_mod_cast Nat.two_pow_pos k
  apply propext
  constructor
  · intro q
    have q2 : (own_sr s v).toInt = 0 := by show (((v.toUInt64 >>> (s &&& 0x3f).toInt64.toUInt64).toInt64)).toInt = 0; rw [q]; rfl
    rw [e] at q2
    rcases Int.lt_or_le (own_U v) ((2 ^ k : Nat) : Int) with w | w
    · exact w
    · have := Int.ediv_le_ediv p2 w
      rw [Int.ediv_self (by omega), q2] at this
      omega
  · intro q
    apply Int64.toInt_inj.mp
    show (own_sr s v).toInt = _
    rw [e, z, Int.ediv_eq_zero_of_lt u.1 q]
theorem own_lnf (v : Int64) : f_lenOf v = Int32.ofNat (own_n v + 1) := by
  have e1 := (own_lz v 7 7 (by decide) (by decide)).trans (by rw [show ((2 ^ 7 : Nat) : Int) = 128 from by decide] : _ = (own_U v < 128))
  have e2 := (own_lz v 14 14 (by decide) (by decide)).trans (by rw [show ((2 ^ 14 : Nat) : Int) = 16384 from by decide] : _ = (own_U v < 16384))
  have e3 := (own_lz v 21 21 (by decide) (by decide)).trans (by rw [show ((2 ^ 21 : Nat) : Int) = 2097152 from by decide] : _ = (own_U v < 2097152))
  have e4 := (own_lz v 28 28 (by decide) (by decide)).trans (by rw [show ((2 ^ 28 : Nat) : Int) = 268435456 from by decide] : _ = (own_U v < 268435456))
  have e5 := (own_lz v 35 35 (by decide) (by decide)).trans (by rw [show ((2 ^ 35 : Nat) : Int) = 34359738368 from by decide] : _ = (own_U v < 34359738368))
  have e6 := (own_lz v 42 42 (by decide) (by decide)).trans (by rw [show ((2 ^ 42 : Nat) : Int) = 4398046511104 from by decide] : _ = (own_U v < 4398046511104))
  have e7 := (own_lz v 49 49 (by decide) (by decide)).trans (by rw [show ((2 ^ 49 : Nat) : Int) = 562949953421312 from by decide] : _ = (own_U v < 562949953421312))
  have e8 := (own_lz v 56 56 (by decide) (by decide)).trans (by rw [show ((2 ^ 56 : Nat) : Int) = 72057594037927936 from by decide] : _ = (own_U v < 72057594037927936))
  have e9 := (own_lz v 63 63 (by decide) (by decide)).trans (by rw [show ((2 ^ 63 : Nat) : Int) = 9223372036854775808 from by decide] : _ = (own_U v < 9223372036854775808))
  unfold f_lenOf own_n
  by_cases h1 : own_U v < 128
  · rw [if_pos (e1.mpr h1), if_pos h1]; rfl
  rw [if_neg (fun q => h1 (e1.mp q)), if_neg h1]
  by_cases h2 : own_U v < 16384
  · rw [if_pos (e2.mpr h2), if_pos h2]; rfl
  rw [if_neg (fun q => h2 (e2.mp q)), if_neg h2]
  by_cases h3 : own_U v < 2097152
  · rw [if_pos (e3.mpr h3), if_pos h3]; rfl
  rw [if_neg (fun q => h3 (e3.mp q)), if_neg h3]
  by_cases h4 : own_U v < 268435456
  · rw [if_pos (e4.mpr h4), if_pos h4]; rfl
  rw [if_neg (fun q => h4 (e4.mp q)), if_neg h4]
  by_cases h5 : own_U v < 34359738368
  · rw [if_pos (e5.mpr h5), if_pos h5]; rfl
  rw [if_neg (fun q => h5 (e5.mp q)), if_neg h5]
  by_cases h6 : own_U v < 4398046511104
  · rw [if_pos (e6.mpr h6), if_pos h6]; rfl
  rw [if_neg (fun q => h6 (e6.mp q)), if_neg h6]
  by_cases h7 : own_U v < 562949953421312
  · rw [if_pos (e7.mpr h7), if_pos h7]; rfl
  rw [if_neg (fun q => h7 (e7.mp q)), if_neg h7]
  by_cases h8 : own_U v < 72057594037927936
  · rw [if_pos (e8.mpr h8), if_pos h8]; rfl
  rw [if_neg (fun q => h8 (e8.mp q)), if_neg h8]
  by_cases h9 : own_U v < 9223372036854775808
  · rw [if_pos (e9.mpr h9), if_pos h9]; rfl
  rw [if_neg (fun q => h9 (e9.mp q)), if_neg h9]
  rfl
theorem d_encAt_0 : decode method_3_code 0 = .ok (.lload_n 0, 1) := by decide +kernel
theorem d_encAt_1 : decode method_3_code 1 = .ok (.bipush 7, 2) := by decide +kernel
theorem d_encAt_3 : decode method_3_code 3 = .ok (.iload_n 2, 1) := by decide +kernel
theorem d_encAt_4 : decode method_3_code 4 = .ok (.imul, 1) := by decide +kernel
theorem d_encAt_5 : decode method_3_code 5 = .ok (.lushr, 1) := by decide +kernel
theorem d_encAt_6 : decode method_3_code 6 = .ok (.ldc2_w 7, 3) := by decide +kernel
theorem d_encAt_9 : decode method_3_code 9 = .ok (.land, 1) := by decide +kernel
theorem d_encAt_10 : decode method_3_code 10 = .ok (.lstore_n 3, 1) := by decide +kernel
theorem d_encAt_11 : decode method_3_code 11 = .ok (.iload_n 2, 1) := by decide +kernel
theorem d_encAt_12 : decode method_3_code 12 = .ok (.lload_n 0, 1) := by decide +kernel
theorem d_encAt_13 : decode method_3_code 13 = .ok (.invokestatic 9, 3) := by decide +kernel
theorem pd_5 : parseMethodDescriptor "(J)I" = some ⟨[.long], some .int⟩ := by decide +kernel
theorem d_encAt_16 : decode method_3_code 16 = .ok (.iconst 1, 1) := by decide +kernel
theorem d_encAt_17 : decode method_3_code 17 = .ok (.isub, 1) := by decide +kernel
theorem d_encAt_18 : decode method_3_code 18 = .ok (.if_icmp .ge 9, 3) := by decide +kernel
theorem d_encAt_21 : decode method_3_code 21 = .ok (.lload_n 3, 1) := by decide +kernel
theorem d_encAt_22 : decode method_3_code 22 = .ok (.ldc2_w 15, 3) := by decide +kernel
theorem d_encAt_25 : decode method_3_code 25 = .ok (.lor, 1) := by decide +kernel
theorem d_encAt_26 : decode method_3_code 26 = .ok (.lstore_n 3, 1) := by decide +kernel
theorem d_encAt_27 : decode method_3_code 27 = .ok (.lload_n 3, 1) := by decide +kernel
theorem d_encAt_28 : decode method_3_code 28 = .ok (.l2i, 1) := by decide +kernel
theorem d_encAt_29 : decode method_3_code 29 = .ok (.i2b, 1) := by decide +kernel
theorem d_encAt_30 : decode method_3_code 30 = .ok (.ireturn, 1) := by decide +kernel
def f_encAt (v0 : Int64) (v1 : Int32) : Int32 := (if v1 < ((f_lenOf v0) - (1 : Int32)) then ((((((v0.toUInt64 >>> (((7 : Int32) * v1) &&& 0x3f).toInt64.toUInt64).toInt64) &&& (127 : Int64)) ||| (128 : Int64)).toInt32).toInt8.toInt32) else (((((v0.toUInt64 >>> (((7 : Int32) * v1) &&& 0x3f).toInt64.toUInt64).toInt64) &&& (127 : Int64)).toInt32).toInt8.toInt32))
theorem ef_encAt (m : MethodId) (v0 : Int64) (v1 : Int32) : entryFrame m #[(.long v0), (.int v1)] 5 = mkF m 0 #[.val (.long v0), .second, .val (.int v1), .unset, .unset] [] := by first | (simp [entryFrame, mkF, argsToLocals, Value.category]; done) | rfl
def Q_encAt (Z : State) (v0 : Int64) (v1 : Int32) (h0 : Heap) (n0 : Nat) (v : Option Value) (h : Heap) (L : List Loc) : Prop := v = some (.int (f_encAt v0 v1)) ∧ Fr n0 L ∧ h = h0
set_option maxRecDepth 65536 in
set_option maxHeartbeats 40000000 in
theorem rm_encAt (l : Launch) (Z : State) (a0 : Array Value) (hw : ∀ d ∈ tables_1, d.before a0 Z = true) (ws : List Jvm.Cond) (v0 : Int64) (v1 : Int32) (h0 : Heap) (n0 : Nat) (Z0 : n0 ≤ h0.size) :
    MetFree l (⟨"com/example/muster/muster/WriterToByteArrayPinLaw", "encAt", "(JI)I"⟩ : MethodName) (head1 (Jvm.Cond.code (⟨"com/example/muster/muster/WriterToByteArrayPinLaw", "encAt", "(JI)I"⟩ : MethodName) method_3_code 5 (some .int) :: ws) ({ frames := 1, cells := 0, slots := 0, locals := 14 } : Room)) (fun a U => a = #[(.long v0), (.int v1)] ∧ Z.Warmed39 U.vm ∧ U.heap = h0) (fun _ _ _ _ _ => True) (fun _ U o U' => ∃ v L, o = .returned v ∧ Q_encAt Z v0 v1 h0 n0 v U'.heap L ∧ FrameEnd U o U' L ({ frames := 1, cells := 0, slots := 0, locals := 14 } : Room).cells ({ frames := 1, cells := 0, slots := 0, locals := 14 } : Room).slots) := by
  refine MetFree.of_bodySF (plainFor_of_name (by first | (simp [plainName, overriddenIn]; done) | decide +kernel)) hisR ?_
  intro p e s m args below meth c s₁ Bd hml0 hP hK
  obtain ⟨rfl, hZ, hh⟩ := hP
  have hx := Bd.exec
  have hby := Bd.bytes
  have hml : c.maxLocals = 5 := hml0
  have hown : s.vm.findClass "com/example/muster/muster/WriterToByteArrayPinLaw" = some m.cls := findClass_of_methodNamed Bd.named
  have hnm := (name_of_methodNamed Bd.named Bd.method).1
  have hlk : meth.locks = false := Bd.notSynchronized
  have X0 : Stand p l e ({ frames := 1, cells := 0, slots := 0, locals := 14 } : Room) s m #[(.long v0), (.int v1)] below meth c s₁ [] 0 0 := Stand.of_body Bd
  have e0 : s₁.heap = h0 := by rw [← hh, Bd.state]; rfl
  have N0 := Fr.nil n0
  refine Go.enter (Q := Q_encAt Z v0 v1 h0 n0) (C := ({ frames := 1, cells := 0, slots := 0, locals := 14 } : Room).cells) (N := ({ frames := 1, cells := 0, slots := 0, locals := 14 } : Room).slots) (ef_encAt m v0 v1) ?_
  show Go p e below s _ _ _ s₁ (mkF m 0 #[.val (.long v0), .second, .val (.int v1), .unset, .unset] [])
  refine G_lloadN X0 hx (pc' := 1) rfl (hb hby d_encAt_0) rfl ?_
  refine G_bipush X0 hx (pc' := 3) rfl (hb hby d_encAt_1) (z := (7 : Int32)) rfl ?_
  refine G_iloadN X0 hx (pc' := 4) rfl (hb hby d_encAt_3) rfl ?_
  refine G_imul X0 hx (pc' := 5) rfl (hb hby d_encAt_4)  ?_
  refine G_lushr X0 hx (pc' := 6) rfl (hb hby d_encAt_5)  ?_
  refine G_ldc2 X0 hx (pc' := 9) rfl hown (mvT hZ (hw _ (List.mem_of_getElem? (i := 59) rfl))) (hb hby d_encAt_6) ?_
  refine G_land X0 hx (pc' := 10) rfl (hb hby d_encAt_9)  ?_
  refine G_lstoreN X0 hx (pc' := 11) rfl (hb hby d_encAt_10) (L' := #[.val (.long v0), .second, .val (.int v1), .val (.long (((v0.toUInt64 >>> (((7 : Int32) * v1) &&& 0x3f).toInt64.toUInt64).toInt64) &&& (127 : Int64))), .second]) rfl ?_
  refine G_iloadN X0 hx (pc' := 12) rfl (hb hby d_encAt_11) rfl ?_
  refine G_lloadN X0 hx (pc' := 13) rfl (hb hby d_encAt_12) rfl ?_
  obtain ⟨_, _, ⟨T93, L93, k93, n93⟩, -, X93, ⟨Lc93, hQ93, l93, y93, z93⟩, st93⟩ := Jvm.LawKit.callS X0 hx (y := (⟨"com/example/muster/muster/WriterToByteArrayPinLaw", "lenOf", "(J)I"⟩ : MethodName)) hown (mvT hZ (hw _ (List.mem_of_getElem? (i := 49) rfl))) (mvT hZ (hw _ (List.mem_of_getElem? (i := 50) rfl))) (mvT hZ (hw _ (List.mem_of_getElem? (i := 51) rfl))) (mvT hZ (hw _ (List.mem_of_getElem? (i := 52) rfl))) (by decide) (backOf (W := 1) (rm_lenOf l Z a0 hw [] v0 h0 n0 Z0 ) hZ (hw _ (List.mem_of_getElem? (i := 52) rfl)) (hw _ (List.mem_of_getElem? (i := 51) rfl)) (by decide) (by decide)) (g := (mkF m 13 #[.val (.long v0), .second, .val (.int v1), .val (.long (((v0.toUInt64 >>> (((7 : Int32) * v1) &&& 0x3f).toInt64.toUInt64).toInt64) &&& (127 : Int64))), .second] [(.long v0), (.int v1)])) rfl (by rw [hml]; rfl) (argsL := [(.long v0)]) (rest := [(.int v1)]) (lenOf pd_5 rfl) rfl (by show 2 * 0 + _ ≤ _; exact Nat.le_of_eq rfl) (hb hby d_encAt_13) (fun _ _ => ⟨rfl, e0, (by decide : 0 + 0 ≤ _), (by decide : 0 + 0 ≤ _)⟩)
  dsimp only [Pt.U, Pt.locs, Pt.cells, Pt.slots] at X93 l93 y93 z93 st93 hQ93
  rw [l93, y93, z93] at X93
  clear l93 y93 z93
  obtain ⟨rfl, N93q, e93⟩ := hQ93
  have N93 := Fr.app N0 N93q
  refine Go.st st93 ?_
  obtain ⟨G93, Y93, M93⟩ : ∃ L, Stand p l e ({ frames := 1, cells := 0, slots := 0, locals := 14 } : Room) s m #[(.long v0), (.int v1)] below meth c T93 L 0 0 ∧ Fr n0 L := ⟨_, X93, N93⟩
  clear X93 N93
  show Go p e below s _ _ _ T93 (mkF m 16 #[.val (.long v0), .second, .val (.int v1), .val (.long (((v0.toUInt64 >>> (((7 : Int32) * v1) &&& 0x3f).toInt64.toUInt64).toInt64) &&& (127 : Int64))), .second] [(.int (f_lenOf v0)), (.int v1)])
  refine G_iconst Y93 hx (pc' := 17) rfl (hb hby d_encAt_16) (z := (1 : Int32)) rfl ?_
  refine G_isub Y93 hx (pc' := 18) rfl (hb hby d_encAt_17)  ?_
  by_cases hc18_1 : v1 < ((f_lenOf v0) - (1 : Int32))
  · refine G_icmpNo Y93 hx (pc' := 21) rfl (hb hby d_encAt_18) (tlt hc18_1).2.1 ?_
    refine G_lloadN Y93 hx (pc' := 22) rfl (hb hby d_encAt_21) rfl ?_
    refine G_ldc2 Y93 hx (pc' := 25) rfl hown (mvT hZ (hw _ (List.mem_of_getElem? (i := 67) rfl))) (hb hby d_encAt_22) ?_
    refine G_lor Y93 hx (pc' := 26) rfl (hb hby d_encAt_25)  ?_
    refine G_lstoreN Y93 hx (pc' := 27) rfl (hb hby d_encAt_26) (L' := #[.val (.long v0), .second, .val (.int v1), .val (.long ((((v0.toUInt64 >>> (((7 : Int32) * v1) &&& 0x3f).toInt64.toUInt64).toInt64) &&& (127 : Int64)) ||| (128 : Int64))), .second]) rfl ?_
    refine G_lloadN Y93 hx (pc' := 28) rfl (hb hby d_encAt_27) rfl ?_
    refine G_l2i Y93 hx (pc' := 29) rfl (hb hby d_encAt_28)  ?_
    refine G_i2b Y93 hx (pc' := 30) rfl (hb hby d_encAt_29)  ?_
    refine Go.fin Y93 hlk (v := some (.int ((((((v0.toUInt64 >>> (((7 : Int32) * v1) &&& 0x3f).toInt64.toUInt64).toInt64) &&& (127 : Int64)) ||| (128 : Int64)).toInt32).toInt8.toInt32))) (fun h => by rw [Bd.returns] at h; cases h) (by decide) (by decide) ?_ (fun fs hr => retOut Y93 hx Bd.returns rfl (Or.inl ⟨rfl, Or.inl rfl, _, rfl⟩) (hb hby d_encAt_30) hr)
    show Q_encAt Z v0 v1 h0 n0 _ T93.heap _
    rw [e93]
    exact ⟨congrArg (fun z => some (Value.int z)) (Eq.symm ((if_pos hc18_1).trans rfl)), M93, rfl⟩
  · refine G_icmpYes Y93 hx (pc' := 27) (hb hby d_encAt_18) (flt hc18_1).2.1 (by decide) (by decide) ?_
    refine G_lloadN Y93 hx (pc' := 28) rfl (hb hby d_encAt_27) rfl ?_
    refine G_l2i Y93 hx (pc' := 29) rfl (hb hby d_encAt_28)  ?_
    refine G_i2b Y93 hx (pc' := 30) rfl (hb hby d_encAt_29)  ?_
    refine Go.fin Y93 hlk (v := some (.int (((((v0.toUInt64 >>> (((7 : Int32) * v1) &&& 0x3f).toInt64.toUInt64).toInt64) &&& (127 : Int64)).toInt32).toInt8.toInt32))) (fun h => by rw [Bd.returns] at h; cases h) (by decide) (by decide) ?_ (fun fs hr => retOut Y93 hx Bd.returns rfl (Or.inl ⟨rfl, Or.inl rfl, _, rfl⟩) (hb hby d_encAt_30) hr)
    show Q_encAt Z v0 v1 h0 n0 _ T93.heap _
    rw [e93]
    exact ⟨congrArg (fun z => some (Value.int z)) (Eq.symm ((if_neg hc18_1).trans rfl)), M93, rfl⟩
theorem own_7i : ∀ k : Fin 9, ((7 : Int32) * Int32.ofNat (k.val + 1)).toBitVec.toNat % 64 = 7 * (k.val + 1) := by decide
theorem own_shR (v : Int64) (i : Nat) (hi : i ≤ 9) : own_sr ((7 : Int32) * Int32.ofNat i) v = own_sh i v := by
  match i, hi with
  | 0, _ =>
    show own_sr ((7 : Int32) * Int32.ofNat 0) v = v
    rw [show (7 : Int32) * Int32.ofNat 0 = 0 from by decide]
    unfold own_sr
    rw [show ((0 : Int32) &&& 0x3f).toInt64.toUInt64 = 0 from by decide]
    simp
  | k + 1, h => exact (own_shE v k _ (own_7i ⟨k, by omega⟩)).symm
theorem own_lenI (v : Int64) : f_lenOf v - (1 : Int32) = Int32.ofNat (own_n v) := by
  rw [own_lnf, ← own_up]
  apply Int32.toInt_inj.mp
  have h9 := own_n9 v
  have a := c_isub (Int32.ofNat (own_n v) + 1) 1
  have b := c_iadd (Int32.ofNat (own_n v)) 1
  have r := rng32 (Int32.ofNat (own_n v) + 1 - 1)
  have r2 := rng32 (Int32.ofNat (own_n v) + 1)
  have e := (own_nat (by omega : own_n v ≤ 64)).1
  rw [show (1 : Int32).toInt = 1 from by decide] at a b
  omega
theorem own_nU (v : Int64) : own_U (own_sh (own_n v) v) < 128 := by
  rw [own_shU]
  have u := own_U0 v
  unfold own_n
  repeat' split
  all_goals (first | rw [show ((128 ^ 0 : Nat) : Int) = 1 from by decide] | rw [show ((128 ^ 1 : Nat) : Int) = 128 from by decide] | rw [show ((128 ^ 2 : Nat) : Int) = 16384 from by decide] | rw [show ((128 ^ 3 : Nat) : Int) = 2097152 from by decide] | rw [show ((128 ^ 4 : Nat) : Int) = 268435456 from by decide] | rw [show ((128 ^ 5 : Nat) : Int) = 34359738368 from by decide] | rw [show ((128 ^ 6 : Nat) : Int) = 4398046511104 from by decide] | rw [show ((128 ^ 7 : Nat) : Int) = 562949953421312 from by decide] | rw [show ((128 ^ 8 : Nat) : Int) = 72057594037927936 from by decide] | rw [show ((128 ^ 9 : Nat) : Int) = 9223372036854775808 from by decide])
  all_goals omega
theorem own_encA (v : Int64) (i : Nat) (hi : i ≤ own_n v) : f_encAt v (Int32.ofNat i) = (own_enc v).getD i 0 := by
  have h9 := own_n9 v
  have e1 := (own_nat (by omega : i ≤ 64)).1
  have e2 := (own_nat (by omega : own_n v ≤ 64)).1
  have s := own_shR v i (by omega)
  unfold own_sr at s
  unfold f_encAt
  rw [own_lenI, s, List.getD_eq_getElem?_getD]
  by_cases q : i < own_n v
  · rw [if_pos (by rw [Int32.lt_iff_toInt_lt, e1, e2]; omega), own_encG v i q]; rfl
  · have e : i = own_n v := by omega
    rw [if_neg (by rw [Int32.lt_iff_toInt_lt, e1, e2]; omega), e, own_encF, own_127 (own_nU v)]; rfl
theorem own_eb (v : Int64) (i : Int32) : (f_encAt v i).toInt8.toInt32 = f_encAt v i := by
  unfold f_encAt
  split <;> simp
theorem own_zl {key v : Int64} {zs : List Int32} (hz : own_enc key ++ own_enc v = zs) : zs.length = (own_n key + 1) + (own_n v + 1) := by
  rw [← hz, List.length_append, own_encL, own_encL]
theorem own_z20 {key v : Int64} {zs : List Int32} (hz : own_enc key ++ own_enc v = zs) : zs.length ≤ 20 := by
  have a := own_n9 key
  have b := own_n9 v
  rw [own_zl hz]; omega
theorem own_toN {k : Int32} (h : ¬ k < 0) : k = Int32.ofNat k.toInt.toNat ∧ 0 ≤ k.toInt := by
  rw [Int32.lt_iff_toInt_lt, show (0 : Int32).toInt = 0 from rfl] at h
  have r := rng32 k
  refine ⟨?_, by omega⟩
  apply Int32.toInt_inj.mp
  rw [Int32.toInt_ofNat_of_lt (by omega)]; omega
theorem own_ci {key v : Int64} {zs : List Int32} {k : Int32} (hz : own_enc key ++ own_enc v = zs) (hk0 : ¬ k < 0) (h1 : k < Int32.ofNat (zs).length) : k.toNatClampNeg < zs.length := by
  have z := own_z20 hz
  rw [Int32.lt_iff_toInt_lt, (own_nat (by omega)).1] at h1
  have := (own_toN hk0).2
  show k.toInt.toNat < _
  omega
theorem own_ck1 {key v : Int64} {zs : List Int32} {k lk : Int32} (hz : own_enc key ++ own_enc v = zs) (hlk : lk = f_lenOf key) (hk0 : ¬ k < 0) (hk : k.toInt ≤ 19) (h1 : k < Int32.ofNat (zs).length) (h2 : k < lk) : (zs.getD k.toNatClampNeg 0) = ((f_encAt key k).toInt8.toInt32) := by
  obtain ⟨e, h0⟩ := own_toN hk0
  have h9 := own_n9 key
  rw [hlk, own_lnf, Int32.lt_iff_toInt_lt, (own_nat (by omega)).1] at h2
  rw [own_eb, e, own_encA key _ (by omega), ← hz, (own_nat (by omega)).2.1, List.getD_eq_getElem?_getD, List.getD_eq_getElem?_getD, List.getElem?_append_left (by rw [own_encL]; omega)]
theorem own_ck2 {key v : Int64} {zs : List Int32} {k lk : Int32} (hz : own_enc key ++ own_enc v = zs) (hlk : lk = f_lenOf key) (hk0 : ¬ k < 0) (hk : k.toInt ≤ 19) (h1 : k < Int32.ofNat (zs).length) (h2 : ¬ k < lk) : (zs.getD k.toNatClampNeg 0) = ((f_encAt v (k - lk)).toInt8.toInt32) := by
  obtain ⟨e, h0⟩ := own_toN hk0
  have h9 := own_n9 key
  have h9v := own_n9 v
  have z := own_zl hz
  have el := (own_nat (by omega : own_n key + 1 ≤ 64)).1
  rw [hlk, own_lnf, Int32.lt_iff_toInt_lt, el] at h2
  rw [Int32.lt_iff_toInt_lt, (own_nat (by omega)).1] at h1
  have es : k - lk = Int32.ofNat (k.toInt.toNat - (own_n key + 1)) := by
    rw [hlk, own_lnf]
    apply Int32.toInt_inj.mp
    have a := c_isub k (Int32.ofNat (own_n key + 1))
    have r := rng32 (k - Int32.ofNat (own_n key + 1))
    rw [(own_nat (by omega)).1]
    omega
  rw [own_eb, es, own_encA v _ (by omega), ← hz]
  rw [show k.toNatClampNeg = k.toInt.toNat from rfl, List.getD_eq_getElem?_getD, List.getD_eq_getElem?_getD, List.getElem?_append_right (by rw [own_encL]; omega), own_encL]
theorem own_reb {Z : State} {h : Heap} {w d : Addr} {key v : Int64} {f : Int32} {zs : List Int32} (hkey : ((f.toInt64) <<< ((3 : Int32) &&& 0x3f).toInt64) = key) (hzs : own_enc key ++ own_enc v = zs)
    (S : Fld Z h w "com/example/muster/muster/Protobuf$Writer" "size" "I" (.int (Int32.ofNat ((([] : List Int32) ++ own_enc (((f.toInt64) <<< ((3 : Int32) &&& 0x3f).toInt64) ||| ((0 : Int32).toInt64))) ++ own_enc v).length)))
    (A : AI Z h d .byte (((([] : List Int32) ++ own_enc (((f.toInt64) <<< ((3 : Int32) &&& 0x3f).toInt64) ||| ((0 : Int32).toInt64))) ++ own_enc v) ++ ((List.replicate 64 (0 : Int32)).drop (own_enc (((f.toInt64) <<< ((3 : Int32) &&& 0x3f).toInt64) ||| ((0 : Int32).toInt64))).length).drop (own_enc v).length)) :
    ∃ z : List Int32, zs.length + z.length = 64 ∧ Fld Z h w "com/example/muster/muster/Protobuf$Writer" "size" "I" (.int (Int32.ofNat zs.length)) ∧ AI Z h d .byte (zs ++ z) := by
  have k : (((f.toInt64) <<< ((3 : Int32) &&& 0x3f).toInt64) ||| ((0 : Int32).toInt64)) = key := by
    rw [hkey, show (0 : Int32).toInt64 = 0 from by decide]; simp
  rw [k, List.nil_append, hzs] at S A
  have z := own_zl hzs
  have a9 := own_n9 key
  have b9 := own_n9 v
  refine ⟨_, ?_, S, A⟩
  rw [List.length_drop, List.length_drop, List.length_replicate, own_encL, own_encL]
  omega
theorem own_z0 {key v : Int64} {zs : List Int32} (hz : own_enc key ++ own_enc v = zs) : (0 : Int32).toNatClampNeg < zs.length := by
  rw [own_zl hz]; show 0 < _; omega
theorem own_tot {key v : Int64} {zs : List Int32} (hz : own_enc key ++ own_enc v = zs) : (Int32.ofNat (zs).length) = ((f_lenOf key) + (f_lenOf v)) := by
  rw [own_lnf, own_lnf, own_zl hz, ← Int32.ofNat_add]
theorem own_first {key v : Int64} {zs : List Int32} (hz : own_enc key ++ own_enc v = zs) : (zs.getD 0 0) = ((f_encAt key (0 : Int32)).toInt8.toInt32) := by
  have q := own_encA key 0 (by omega)
  rw [own_eb]
  have e : f_encAt key (0 : Int32) = (own_enc key).getD 0 0 := q
  rw [e, ← hz, List.getD_eq_getElem?_getD, List.getD_eq_getElem?_getD, List.getElem?_append_left (by rw [own_encL]; omega)]

theorem d_check_0 : decode method_4_code 0 = .ok (.iload_n 1, 1) := by decide +kernel
theorem d_check_1 : decode method_4_code 1 = .ok (.aload_n 0, 1) := by decide +kernel
theorem d_check_2 : decode method_4_code 2 = .ok (.arraylength, 1) := by decide +kernel
theorem d_check_3 : decode method_4_code 3 = .ok (.if_icmp .lt 5, 3) := by decide +kernel
theorem d_check_8 : decode method_4_code 8 = .ok (.iload_n 1, 1) := by decide +kernel
theorem d_check_9 : decode method_4_code 9 = .ok (.iload 4, 2) := by decide +kernel
theorem d_check_11 : decode method_4_code 11 = .ok (.if_icmp .ge 13, 3) := by decide +kernel
theorem d_check_14 : decode method_4_code 14 = .ok (.lload_n 2, 1) := by decide +kernel
theorem d_check_15 : decode method_4_code 15 = .ok (.iload_n 1, 1) := by decide +kernel
theorem d_check_16 : decode method_4_code 16 = .ok (.invokestatic 17, 3) := by decide +kernel
theorem pd_6 : parseMethodDescriptor "(JI)I" = some ⟨[.long, .int], some .int⟩ := by decide +kernel
theorem d_check_19 : decode method_4_code 19 = .ok (.istore 7, 2) := by decide +kernel
theorem d_check_21 : decode method_4_code 21 = .ok (.goto 14, 3) := by decide +kernel
theorem d_check_35 : decode method_4_code 35 = .ok (.aload_n 0, 1) := by decide +kernel
theorem d_check_36 : decode method_4_code 36 = .ok (.iload_n 1, 1) := by decide +kernel
theorem d_check_37 : decode method_4_code 37 = .ok (.baload, 1) := by decide +kernel
theorem d_check_38 : decode method_4_code 38 = .ok (.iload 7, 2) := by decide +kernel
theorem d_check_40 : decode method_4_code 40 = .ok (.i2b, 1) := by decide +kernel
theorem d_check_41 : decode method_4_code 41 = .ok (.if_icmp .ne 7, 3) := by decide +kernel
theorem d_check_44 : decode method_4_code 44 = .ok (.iconst 1, 1) := by decide +kernel
theorem d_check_45 : decode method_4_code 45 = .ok (.goto 4, 3) := by decide +kernel
theorem d_check_49 : decode method_4_code 49 = .ok (.ireturn, 1) := by decide +kernel
theorem d_check_24 : decode method_4_code 24 = .ok (.lload 5, 2) := by decide +kernel
theorem d_check_26 : decode method_4_code 26 = .ok (.iload_n 1, 1) := by decide +kernel
theorem d_check_27 : decode method_4_code 27 = .ok (.iload 4, 2) := by decide +kernel
theorem d_check_29 : decode method_4_code 29 = .ok (.isub, 1) := by decide +kernel
theorem d_check_30 : decode method_4_code 30 = .ok (.invokestatic 17, 3) := by decide +kernel
theorem d_check_33 : decode method_4_code 33 = .ok (.istore 7, 2) := by decide +kernel
theorem d_check_6 : decode method_4_code 6 = .ok (.iconst 1, 1) := by decide +kernel
theorem d_check_7 : decode method_4_code 7 = .ok (.ireturn, 1) := by decide +kernel
theorem ef_check (m : MethodId) (v0 : Addr) (v1 : Int32) (v2 : Int64) (v3 : Int32) (v4 : Int64) : entryFrame m #[(.ref v0), (.int v1), (.long v2), (.int v3), (.long v4)] 8 = mkF m 0 #[.val (.ref v0), .val (.int v1), .val (.long v2), .second, .val (.int v3), .val (.long v4), .second, .unset] [] := by first | (simp [entryFrame, mkF, argsToLocals, Value.category]; done) | rfl
def Q_check (Z : State) (v0 : Addr) (v1 : Int32) (v2 : Int64) (v3 : Int32) (v4 : Int64) (zs : List Int32) (h0 : Heap) (n0 : Nat) (v : Option Value) (h : Heap) (L : List Loc) : Prop := v = some (.int (1 : Int32)) ∧ Fr n0 L ∧ h = h0
set_option maxRecDepth 65536 in
set_option maxHeartbeats 40000000 in
theorem rm_check (l : Launch) (Z : State) (a0 : Array Value) (hw : ∀ d ∈ tables_1, d.before a0 Z = true) (ws : List Jvm.Cond) (v0 : Addr) (v1 : Int32) (v2 : Int64) (v3 : Int32) (v4 : Int64) (zs : List Int32) (h0 : Heap) (n0 : Nat) (Z0 : n0 ≤ h0.size) (f0_A_v0 : AI Z h0 v0 .byte zs) (hz : own_enc v2 ++ own_enc v4 = zs) (hlv : v3 = f_lenOf v2) (hk0 : ¬ (v1 < 0)) (hk : v1.toInt ≤ 19) :
    MetFree l (⟨"com/example/muster/muster/WriterToByteArrayPinLaw", "check", "([BIJIJ)Z"⟩ : MethodName) (head1 (Jvm.Cond.code (⟨"com/example/muster/muster/WriterToByteArrayPinLaw", "check", "([BIJIJ)Z"⟩ : MethodName) method_4_code 8 (some .boolean) :: ws) ({ frames := 2, cells := 0, slots := 0, locals := 30 } : Room)) (fun a U => a = #[(.ref v0), (.int v1), (.long v2), (.int v3), (.long v4)] ∧ Z.Warmed39 U.vm ∧ U.heap = h0) (fun _ _ _ _ _ => True) (fun _ U o U' => ∃ v L, o = .returned v ∧ Q_check Z v0 v1 v2 v3 v4 zs h0 n0 v U'.heap L ∧ FrameEnd U o U' L ({ frames := 2, cells := 0, slots := 0, locals := 30 } : Room).cells ({ frames := 2, cells := 0, slots := 0, locals := 30 } : Room).slots) := by
  refine MetFree.of_bodySF (plainFor_of_name (by first | (simp [plainName, overriddenIn]; done) | decide +kernel)) hisR ?_
  intro p e s m args below meth c s₁ Bd hml0 hP hK
  obtain ⟨rfl, hZ, hh⟩ := hP
  have hx := Bd.exec
  have hby := Bd.bytes
  have hml : c.maxLocals = 8 := hml0
  have hown : s.vm.findClass "com/example/muster/muster/WriterToByteArrayPinLaw" = some m.cls := findClass_of_methodNamed Bd.named
  have hnm := (name_of_methodNamed Bd.named Bd.method).1
  have hlk : meth.locks = false := Bd.notSynchronized
  have X0 : Stand p l e ({ frames := 2, cells := 0, slots := 0, locals := 30 } : Room) s m #[(.ref v0), (.int v1), (.long v2), (.int v3), (.long v4)] below meth c s₁ [] 0 0 := Stand.of_body Bd
  have e0 : s₁.heap = h0 := by rw [← hh, Bd.state]; rfl
  have N0 := Fr.nil n0
  refine Go.enter (Q := Q_check Z v0 v1 v2 v3 v4 zs h0 n0) (C := ({ frames := 2, cells := 0, slots := 0, locals := 30 } : Room).cells) (N := ({ frames := 2, cells := 0, slots := 0, locals := 30 } : Room).slots) (ef_check m v0 v1 v2 v3 v4) ?_
  show Go p e below s _ _ _ s₁ (mkF m 0 #[.val (.ref v0), .val (.int v1), .val (.long v2), .second, .val (.int v3), .val (.long v4), .second, .unset] [])
  refine G_iloadN X0 hx (pc' := 1) rfl (hb hby d_check_0) rfl ?_
  refine G_aloadN X0 hx (pc' := 2) rfl (hb hby d_check_1) rfl rfl ?_
  refine Go.st (lenAI X0 hx hZ e0 f0_A_v0 (g := (mkF m 2 #[.val (.ref v0), .val (.int v1), .val (.long v2), .second, .val (.int v3), .val (.long v4), .second, .unset] [(.ref v0), (.int v1)])) rfl rfl (hb hby d_check_2)) ?_
  show Go p e below s _ _ _ s₁ (mkF m 3 #[.val (.ref v0), .val (.int v1), .val (.long v2), .second, .val (.int v3), .val (.long v4), .second, .unset] [(.int (Int32.ofNat (zs).length)), (.int v1)])
  by_cases hc3_1 : v1 < (Int32.ofNat (zs).length)
  · refine G_icmpYes X0 hx (pc' := 8) (hb hby d_check_3) (tlt hc3_1).1 (by decide) (by decide) ?_
    refine G_iloadN X0 hx (pc' := 9) rfl (hb hby d_check_8) rfl ?_
    refine G_iload X0 hx (pc' := 11) rfl (hb hby d_check_9) rfl ?_
    by_cases hc11_2 : v1 < v3
    · refine G_icmpNo X0 hx (pc' := 14) rfl (hb hby d_check_11) (tlt hc11_2).2.1 ?_
      refine G_lloadN X0 hx (pc' := 15) rfl (hb hby d_check_14) rfl ?_
      refine G_iloadN X0 hx (pc' := 16) rfl (hb hby d_check_15) rfl ?_
      obtain ⟨_, _, ⟨T94, L94, k94, n94⟩, -, X94, ⟨Lc94, hQ94, l94, y94, z94⟩, st94⟩ := Jvm.LawKit.callS X0 hx (y := (⟨"com/example/muster/muster/WriterToByteArrayPinLaw", "encAt", "(JI)I"⟩ : MethodName)) hown (mvT hZ (hw _ (List.mem_of_getElem? (i := 56) rfl))) (mvT hZ (hw _ (List.mem_of_getElem? (i := 57) rfl))) (mvT hZ (hw _ (List.mem_of_getElem? (i := 51) rfl))) (mvT hZ (hw _ (List.mem_of_getElem? (i := 58) rfl))) (by decide) (backOf (W := 0) (rm_encAt l Z a0 hw [] v2 v1 h0 n0 Z0 ) hZ (hw _ (List.mem_of_getElem? (i := 58) rfl)) (hw _ (List.mem_of_getElem? (i := 51) rfl)) (by decide) (by decide)) (g := (mkF m 16 #[.val (.ref v0), .val (.int v1), .val (.long v2), .second, .val (.int v3), .val (.long v4), .second, .unset] [(.int v1), (.long v2)])) rfl (by rw [hml]; rfl) (argsL := [(.long v2), (.int v1)]) (rest := []) (lenOf pd_6 rfl) rfl (by show 2 * 0 + _ ≤ _; exact Nat.le_of_eq rfl) (hb hby d_check_16) (fun _ _ => ⟨rfl, e0, (by decide : 0 + 0 ≤ _), (by decide : 0 + 0 ≤ _)⟩)
      dsimp only [Pt.U, Pt.locs, Pt.cells, Pt.slots] at X94 l94 y94 z94 st94 hQ94
      rw [l94, y94, z94] at X94
      clear l94 y94 z94
      obtain ⟨rfl, N94q, e94⟩ := hQ94
      have N94 := Fr.app N0 N94q
      refine Go.st st94 ?_
      obtain ⟨G94, Y94, M94⟩ : ∃ L, Stand p l e ({ frames := 2, cells := 0, slots := 0, locals := 30 } : Room) s m #[(.ref v0), (.int v1), (.long v2), (.int v3), (.long v4)] below meth c T94 L 0 0 ∧ Fr n0 L := ⟨_, X94, N94⟩
      clear X94 N94
      show Go p e below s _ _ _ T94 (mkF m 19 #[.val (.ref v0), .val (.int v1), .val (.long v2), .second, .val (.int v3), .val (.long v4), .second, .unset] [(.int (f_encAt v2 v1))])
      refine G_istore Y94 hx (pc' := 21) rfl (hb hby d_check_19) (L' := #[.val (.ref v0), .val (.int v1), .val (.long v2), .second, .val (.int v3), .val (.long v4), .second, .val (.int (f_encAt v2 v1))]) rfl ?_
      refine G_goto Y94 hx (pc' := 35) (hb hby d_check_21)  (by decide) (by decide) ?_
      refine G_aloadN Y94 hx (pc' := 36) rfl (hb hby d_check_35) rfl rfl ?_
      refine G_iloadN Y94 hx (pc' := 37) rfl (hb hby d_check_36) rfl ?_
      refine Go.st (ldAB Y94 hx hZ e94 f0_A_v0 (j := v1) hk0 (own_ci hz hk0 hc3_1) (g := (mkF m 37 #[.val (.ref v0), .val (.int v1), .val (.long v2), .second, .val (.int v3), .val (.long v4), .second, .val (.int (f_encAt v2 v1))] [(.int v1), (.ref v0)])) rfl rfl (hb hby d_check_37)) ?_
      show Go p e below s _ _ _ T94 (mkF m 38 #[.val (.ref v0), .val (.int v1), .val (.long v2), .second, .val (.int v3), .val (.long v4), .second, .val (.int (f_encAt v2 v1))] [(.int (zs.getD v1.toNatClampNeg 0))])
      refine G_iload Y94 hx (pc' := 40) rfl (hb hby d_check_38) rfl ?_
      refine G_i2b Y94 hx (pc' := 41) rfl (hb hby d_check_40)  ?_
      refine G_icmpNo Y94 hx (pc' := 44) rfl (hb hby d_check_41) (teq (own_ck1 hz hlv hk0 hk hc3_1 hc11_2 : (zs.getD v1.toNatClampNeg 0) = ((f_encAt v2 v1).toInt8.toInt32))).2 ?_
      refine G_iconst Y94 hx (pc' := 45) rfl (hb hby d_check_44) (z := (1 : Int32)) rfl ?_
      refine G_goto Y94 hx (pc' := 49) (hb hby d_check_45)  (by decide) (by decide) ?_
      refine Go.fin Y94 hlk (v := some (.int (1 : Int32))) (fun h => by rw [Bd.returns] at h; cases h) (by decide) (by decide) ?_ (fun fs hr => retN Y94 hx (t := .boolean) Bd.returns (by simp) (hb hby d_check_49) hr)
      show Q_check Z v0 v1 v2 v3 v4 zs h0 n0 _ T94.heap _
      rw [e94]
      exact ⟨rfl, M94, rfl⟩
    · refine G_icmpYes X0 hx (pc' := 24) (hb hby d_check_11) (flt hc11_2).2.1 (by decide) (by decide) ?_
      refine G_lload X0 hx (pc' := 26) rfl (hb hby d_check_24) rfl ?_
      refine G_iloadN X0 hx (pc' := 27) rfl (hb hby d_check_26) rfl ?_
      refine G_iload X0 hx (pc' := 29) rfl (hb hby d_check_27) rfl ?_
      refine G_isub X0 hx (pc' := 30) rfl (hb hby d_check_29)  ?_
      obtain ⟨_, _, ⟨T95, L95, k95, n95⟩, -, X95, ⟨Lc95, hQ95, l95, y95, z95⟩, st95⟩ := Jvm.LawKit.callS X0 hx (y := (⟨"com/example/muster/muster/WriterToByteArrayPinLaw", "encAt", "(JI)I"⟩ : MethodName)) hown (mvT hZ (hw _ (List.mem_of_getElem? (i := 56) rfl))) (mvT hZ (hw _ (List.mem_of_getElem? (i := 57) rfl))) (mvT hZ (hw _ (List.mem_of_getElem? (i := 51) rfl))) (mvT hZ (hw _ (List.mem_of_getElem? (i := 58) rfl))) (by decide) (backOf (W := 0) (rm_encAt l Z a0 hw [] v4 (v1 - v3) h0 n0 Z0 ) hZ (hw _ (List.mem_of_getElem? (i := 58) rfl)) (hw _ (List.mem_of_getElem? (i := 51) rfl)) (by decide) (by decide)) (g := (mkF m 30 #[.val (.ref v0), .val (.int v1), .val (.long v2), .second, .val (.int v3), .val (.long v4), .second, .unset] [(.int (v1 - v3)), (.long v4)])) rfl (by rw [hml]; rfl) (argsL := [(.long v4), (.int (v1 - v3))]) (rest := []) (lenOf pd_6 rfl) rfl (by show 2 * 0 + _ ≤ _; exact Nat.le_of_eq rfl) (hb hby d_check_30) (fun _ _ => ⟨rfl, e0, (by decide : 0 + 0 ≤ _), (by decide : 0 + 0 ≤ _)⟩)
      dsimp only [Pt.U, Pt.locs, Pt.cells, Pt.slots] at X95 l95 y95 z95 st95 hQ95
      rw [l95, y95, z95] at X95
      clear l95 y95 z95
      obtain ⟨rfl, N95q, e95⟩ := hQ95
      have N95 := Fr.app N0 N95q
      refine Go.st st95 ?_
      obtain ⟨G95, Y95, M95⟩ : ∃ L, Stand p l e ({ frames := 2, cells := 0, slots := 0, locals := 30 } : Room) s m #[(.ref v0), (.int v1), (.long v2), (.int v3), (.long v4)] below meth c T95 L 0 0 ∧ Fr n0 L := ⟨_, X95, N95⟩
      clear X95 N95
      show Go p e below s _ _ _ T95 (mkF m 33 #[.val (.ref v0), .val (.int v1), .val (.long v2), .second, .val (.int v3), .val (.long v4), .second, .unset] [(.int (f_encAt v4 (v1 - v3)))])
      refine G_istore Y95 hx (pc' := 35) rfl (hb hby d_check_33) (L' := #[.val (.ref v0), .val (.int v1), .val (.long v2), .second, .val (.int v3), .val (.long v4), .second, .val (.int (f_encAt v4 (v1 - v3)))]) rfl ?_
      refine G_aloadN Y95 hx (pc' := 36) rfl (hb hby d_check_35) rfl rfl ?_
      refine G_iloadN Y95 hx (pc' := 37) rfl (hb hby d_check_36) rfl ?_
      refine Go.st (ldAB Y95 hx hZ e95 f0_A_v0 (j := v1) hk0 (own_ci hz hk0 hc3_1) (g := (mkF m 37 #[.val (.ref v0), .val (.int v1), .val (.long v2), .second, .val (.int v3), .val (.long v4), .second, .val (.int (f_encAt v4 (v1 - v3)))] [(.int v1), (.ref v0)])) rfl rfl (hb hby d_check_37)) ?_
      show Go p e below s _ _ _ T95 (mkF m 38 #[.val (.ref v0), .val (.int v1), .val (.long v2), .second, .val (.int v3), .val (.long v4), .second, .val (.int (f_encAt v4 (v1 - v3)))] [(.int (zs.getD v1.toNatClampNeg 0))])
      refine G_iload Y95 hx (pc' := 40) rfl (hb hby d_check_38) rfl ?_
      refine G_i2b Y95 hx (pc' := 41) rfl (hb hby d_check_40)  ?_
      refine G_icmpNo Y95 hx (pc' := 44) rfl (hb hby d_check_41) (teq (own_ck2 hz hlv hk0 hk hc3_1 hc11_2 : (zs.getD v1.toNatClampNeg 0) = ((f_encAt v4 (v1 - v3)).toInt8.toInt32))).2 ?_
      refine G_iconst Y95 hx (pc' := 45) rfl (hb hby d_check_44) (z := (1 : Int32)) rfl ?_
      refine G_goto Y95 hx (pc' := 49) (hb hby d_check_45)  (by decide) (by decide) ?_
      refine Go.fin Y95 hlk (v := some (.int (1 : Int32))) (fun h => by rw [Bd.returns] at h; cases h) (by decide) (by decide) ?_ (fun fs hr => retN Y95 hx (t := .boolean) Bd.returns (by simp) (hb hby d_check_49) hr)
      show Q_check Z v0 v1 v2 v3 v4 zs h0 n0 _ T95.heap _
      rw [e95]
      exact ⟨rfl, M95, rfl⟩
  · refine G_icmpNo X0 hx (pc' := 6) rfl (hb hby d_check_3) (flt hc3_1).1 ?_
    refine G_iconst X0 hx (pc' := 7) rfl (hb hby d_check_6) (z := (1 : Int32)) rfl ?_
    refine Go.fin X0 hlk (v := some (.int (1 : Int32))) (fun h => by rw [Bd.returns] at h; cases h) (by decide) (by decide) ?_ (fun fs hr => retN X0 hx (t := .boolean) Bd.returns (by simp) (hb hby d_check_7) hr)
    show Q_check Z v0 v1 v2 v3 v4 zs h0 n0 _ s₁.heap _
    rw [e0]
    exact ⟨rfl, N0, rfl⟩
theorem pd_7 : parseMethodDescriptor "()V" = some ⟨[], none⟩ := by decide +kernel
theorem pd_8 : parseMethodDescriptor "()[B" = some ⟨[], some (.array .byte)⟩ := by decide +kernel
theorem pd_9 : parseMethodDescriptor "(IJ)V" = some ⟨[.int, .long], none⟩ := by decide +kernel
theorem pd_10 : parseMethodDescriptor "([BIJIJ)Z" = some ⟨[(.array .byte), .int, .long, .int, .long], some .boolean⟩ := by decide +kernel
theorem ef_law (m : MethodId) (v0 : Int32) (v1 : Int64) : entryFrame m #[(.int v0), (.long v1)] maxLocals = mkF m 0 #[.val (.int v0), .val (.long v1), .second, .unset, .unset, .unset, .unset, .unset, .unset, .unset, .unset, .unset, .unset] [] := by first | (simp [entryFrame, mkF, argsToLocals, Value.category, maxLocals]; done) | rfl
def Q_law (Z : State) (v0 : Int32) (v1 : Int64) (h0 : Heap) (n0 : Nat) (v : Option Value) (h : Heap) (L : List Loc) : Prop := v = some (.int (1 : Int32)) ∧ Fr n0 L
set_option maxRecDepth 65536 in
set_option maxHeartbeats 40000000 in
theorem rm_law (l : Launch) (Z : State) (a0 : Array Value) (hw : ∀ d ∈ tables_1, d.before a0 Z = true) (ws : List Jvm.Cond) (v0 : Int32) (v1 : Int64) (h0 : Heap) (n0 : Nat) (Z0 : n0 ≤ h0.size) :
    MetFree l x (head1 (Jvm.Cond.code x code maxLocals ret :: ws) room_1) (fun a U => a = #[(.int v0), (.long v1)] ∧ Z.Warmed39 U.vm ∧ U.heap = h0) (fun _ _ _ _ _ => True) (fun _ U o U' => ∃ v L, o = .returned v ∧ Q_law Z v0 v1 h0 n0 v U'.heap L ∧ FrameEnd U o U' L room_1.cells room_1.slots) := by
  refine MetFree.of_bodySF (plainFor_of_name (by first | (simp [plainName, overriddenIn]; done) | decide +kernel)) hisR ?_
  intro p e s m args below meth c s₁ Bd hml0 hP hK
  obtain ⟨rfl, hZ, hh⟩ := hP
  have hx := Bd.exec
  have hby := Bd.bytes
  have hml : c.maxLocals = 13 := hml0
  have hown : s.vm.findClass "com/example/muster/muster/WriterToByteArrayPinLaw" = some m.cls := findClass_of_methodNamed Bd.named
  have hnm := (name_of_methodNamed Bd.named Bd.method).1
  have hlk : meth.locks = false := Bd.notSynchronized
  have X0 : Stand p l e room_1 s m #[(.int v0), (.long v1)] below meth c s₁ [] 0 0 := Stand.of_body Bd
  have e0 : s₁.heap = h0 := by rw [← hh, Bd.state]; rfl
  have N0 := Fr.nil n0
  refine Go.enter (Q := Q_law Z v0 v1 h0 n0) (C := room_1.cells) (N := room_1.slots) (ef_law m v0 v1) ?_
  show Go p e below s _ _ _ s₁ (mkF m 0 #[.val (.int v0), .val (.long v1), .second, .unset, .unset, .unset, .unset, .unset, .unset, .unset, .unset, .unset, .unset] [])
  obtain ⟨T96, h96, X96, e96, E96, A96, D96, -, st96⟩ := newO X0 hx hZ hown (hw _ (List.mem_of_getElem? (i := 0) rfl)) (hw _ (List.mem_of_getElem? (i := 1) rfl)) (hw _ (List.mem_of_getElem? (i := 2) rfl)) e0 (g := (mkF m 0 #[.val (.int v0), .val (.long v1), .second, .unset, .unset, .unset, .unset, .unset, .unset, .unset, .unset, .unset, .unset] [])) rfl (hb hby at_0) (by decide) (by decide)
  obtain ⟨b96, q96⟩ : ∃ z, z = h0.size := ⟨_, rfl⟩
  rw [← q96] at A96 D96 st96
  refine Go.st st96 ?_
  have g_b96 : n0 ≤ b96 := Nat.le_trans Z0 (Nat.le_of_eq q96.symm)
  have sz_b96 : h0.size ≤ b96 := Nat.le_trans (Nat.le_refl _) (Nat.le_of_eq q96.symm)
  have F_b96_bytes : Fld Z h96 b96 "com/example/muster/muster/Protobuf$Writer" "bytes" "[B" .null := D96 (Or.inl (hw _ (List.mem_of_getElem? (i := 11) rfl))) (ty := (.array .byte)) (by decide)
  have F_b96_size : Fld Z h96 b96 "com/example/muster/muster/Protobuf$Writer" "size" "I" (.int (0 : Int32)) := D96 (Or.inl (hw _ (List.mem_of_getElem? (i := 18) rfl))) (ty := .int) (by decide)
  have K_96 : Keep h0 h96 [] := (Keep.refl h0 []).ext E96
  have Z_96 : n0 ≤ h96.size := Nat.le_trans Z0 K_96.1
  clear E96 st96 D96
  show Go p e below s _ _ _ T96 (mkF m 3 #[.val (.int v0), .val (.long v1), .second, .unset, .unset, .unset, .unset, .unset, .unset, .unset, .unset, .unset, .unset] [(.ref b96)])
  refine G_dup X96 hx (pc' := 4) rfl (hb hby at_3) rfl ?_
  obtain ⟨_, _, ⟨T97, L97, k97, n97⟩, -, X97, ⟨Lc97, hQ97, l97, y97, z97⟩, st97⟩ := X96.specialBack hx (y := (⟨"com/example/muster/muster/Protobuf$Writer", "<init>", "()V"⟩ : MethodName)) rfl hown (mvT hZ (hw _ (List.mem_of_getElem? (i := 3) rfl))) (mvT hZ (hw _ (List.mem_of_getElem? (i := 4) rfl))) (mvT hZ (hw _ (List.mem_of_getElem? (i := 5) rfl))) (by decide) (backOf (W := 1) (rm_winit l Z a0 hw [] b96 h96 n0 Z_96 A96 F_b96_bytes F_b96_size g_b96) hZ (hw _ (List.mem_of_getElem? (i := 5) rfl)) (hw _ (List.mem_of_getElem? (i := 2) rfl)) (by decide) (by decide)) (g := (mkF m 4 #[.val (.int v0), .val (.long v1), .second, .unset, .unset, .unset, .unset, .unset, .unset, .unset, .unset, .unset, .unset] [(.ref b96), (.ref b96)])) rfl (by rw [hml]; rfl) (Steps.refl _) (a := b96) (argsL := []) (rest := [(.ref b96)]) (lenOf pd_7 rfl) rfl (by show 2 * 0 + _ ≤ _; exact Nat.le_of_eq rfl) (hb hby at_4) (fun _ _ => ⟨rfl, e96, (by decide : 1 + 1 ≤ _), (by decide : 2 + 64 ≤ _)⟩)
  dsimp only [Pt.U, Pt.locs, Pt.cells, Pt.slots] at X97 l97 y97 z97 st97 hQ97
  rw [l97, y97, z97] at X97
  clear l97 y97 z97
  obtain ⟨b0_97, rfl, N97q, K97, le_b0_97, p97_0, p97_1, p97_2, p97_3, p97_4⟩ := hQ97
  have N97 := Fr.app N0 N97q
  refine Go.st (fun _ k => st97.trans k) ?_
  have ne_b96_b0_97 : b96 ≠ b0_97 := Nat.ne_of_lt (Nat.lt_of_lt_of_le A96.lt le_b0_97)
  have g_b0_97 : n0 ≤ b0_97 := Nat.le_trans Z_96 le_b0_97
  have sz_b0_97 : h0.size ≤ b0_97 := Nat.le_trans K_96.1 le_b0_97
  have K_97 : Keep h0 T97.heap [] := K_96.trans K97 (allS (Or.inr sz_b96) all0)
  have Z_97 : n0 ≤ T97.heap.size := Nat.le_trans Z0 K_97.1
  clear A96 F_b96_bytes F_b96_size st97 K97
  obtain ⟨G97, Y97, M97⟩ : ∃ L, Stand p l e room_1 s m #[(.int v0), (.long v1)] below meth c T97 L 2 66 ∧ Fr n0 L := ⟨_, X97, N97⟩
  clear X97 N97
  show Go p e below s _ _ _ T97 (mkF m 7 #[.val (.int v0), .val (.long v1), .second, .unset, .unset, .unset, .unset, .unset, .unset, .unset, .unset, .unset, .unset] [(.ref b96)])
  refine G_astoreN Y97 hx (pc' := 8) rfl (hb hby at_7) rfl (L' := #[.val (.int v0), .val (.long v1), .second, .val (.ref b96), .unset, .unset, .unset, .unset, .unset, .unset, .unset, .unset, .unset]) rfl ?_
  have S0 : Fld Z T97.heap b96 "com/example/muster/muster/Protobuf$Writer" "size" "I" (.int (Int32.ofNat ([] : List Int32).length)) := p97_2
  have A0 : AI Z T97.heap b0_97 .byte (([] : List Int32) ++ (List.replicate 64 (0 : Int32))) := p97_4
  refine G_aloadN Y97 hx (pc' := 9) rfl (hb hby at_8) rfl rfl ?_
  obtain ⟨cq98, kq98, q98a, q98b, q98c⟩ := isOf hZ rfl p97_0
  obtain ⟨_, _, ⟨T98, L98, k98, n98⟩, -, X98, ⟨Lc98, hQ98, l98, y98, z98⟩, st98⟩ := Y97.virtualBack hx (y := (⟨"com/example/muster/muster/Protobuf$Writer", "toByteArray", "()[B"⟩ : MethodName)) (z := (⟨"com/example/muster/muster/Protobuf$Writer", "toByteArray", "()[B"⟩ : MethodName)) hown (mvT hZ (hw _ (List.mem_of_getElem? (i := 12) rfl))) (mvT hZ (hw _ (List.mem_of_getElem? (i := 13) rfl))) (notFace_of_selects (args := #[]) (mvT hZ (hw _ (List.mem_of_getElem? (i := 15) rfl)))) (mvT hZ (hw _ (List.mem_of_getElem? (i := 15) rfl))) (mvT hZ (hw _ (List.mem_of_getElem? (i := 14) rfl))) (by decide) (backOf (W := 0) (rm_toBA l Z a0 hw [] b96 b0_97 ([] : List Int32) (List.replicate 64 (0 : Int32)) T97.heap n0 Z_97 p97_1 S0 A0 (by decide) (by decide)) hZ (hw _ (List.mem_of_getElem? (i := 16) rfl)) (hw _ (List.mem_of_getElem? (i := 2) rfl)) (by decide) (by decide)) q98a q98c (g := (mkF m 9 #[.val (.int v0), .val (.long v1), .second, .val (.ref b96), .unset, .unset, .unset, .unset, .unset, .unset, .unset, .unset, .unset] [(.ref b96)])) rfl (by rw [hml]; rfl) (Steps.refl _) (argsL := []) (rest := []) (lenOf pd_8 rfl) rfl (by show 2 * 0 + _ ≤ _; exact Nat.le_of_eq rfl) (hb hby at_9) (fun _ _ => ⟨rfl, rfl, (by decide : 2 + 1 ≤ _), (by decide : 66 + 20 ≤ _)⟩)
  dsimp only [Pt.U, Pt.locs, Pt.cells, Pt.slots] at X98 l98 y98 z98 st98 hQ98
  rw [l98, y98, z98] at X98
  clear l98 y98 z98
  obtain ⟨b0_98, rfl, N98q, K98, le_b0_98, p98_0, p98_1⟩ := hQ98
  have N98 := Fr.app M97 N98q
  refine Go.st (fun _ k => st98.trans k) ?_
  have ne_b0_97_b0_98 : b0_97 ≠ b0_98 := Nat.ne_of_lt (Nat.lt_of_lt_of_le p97_3.lt le_b0_98)
  have ne_b96_b0_98 : b96 ≠ b0_98 := Nat.ne_of_lt (Nat.lt_of_lt_of_le p97_0.lt le_b0_98)
  have g_b0_98 : n0 ≤ b0_98 := Nat.le_trans Z_97 le_b0_98
  have sz_b0_98 : h0.size ≤ b0_98 := Nat.le_trans K_97.1 le_b0_98
  have E_b96_98 := p97_0.keep K98
  have F_b96_bytes_98 := p97_1.keep K98 nin0
  have F_b96_size_98 := S0.keep K98 nin0
  have E_b0_97_98 := p97_3.keep K98
  have A_b0_97_98 := A0.keep K98 nin0
  have K_98 : Keep h0 T98.heap [] := K_97.trans K98 all0
  have Z_98 : n0 ≤ T98.heap.size := Nat.le_trans Z0 K_98.1
  clear p97_0 p97_1 S0 p97_3 A0 st98 K98
  obtain ⟨G98, Y98, M98⟩ : ∃ L, Stand p l e room_1 s m #[(.int v0), (.long v1)] below meth c T98 L 3 86 ∧ Fr n0 L := ⟨_, X98, N98⟩
  clear X98 N98
  show Go p e below s _ _ _ T98 (mkF m 12 #[.val (.int v0), .val (.long v1), .second, .val (.ref b96), .unset, .unset, .unset, .unset, .unset, .unset, .unset, .unset, .unset] [(.ref b0_98)])
  refine G_astore Y98 hx (pc' := 14) rfl (hb hby at_12) rfl (L' := #[.val (.int v0), .val (.long v1), .second, .val (.ref b96), .val (.ref b0_98), .unset, .unset, .unset, .unset, .unset, .unset, .unset, .unset]) rfl ?_
  refine G_aload Y98 hx (pc' := 16) rfl (hb hby at_14) rfl rfl ?_
  refine Go.st (lenAI Y98 hx hZ rfl p98_1 (g := (mkF m 16 #[.val (.int v0), .val (.long v1), .second, .val (.ref b96), .val (.ref b0_98), .unset, .unset, .unset, .unset, .unset, .unset, .unset, .unset] [(.ref b0_98)])) rfl rfl (hb hby at_16)) ?_
  show Go p e below s _ _ _ T98 (mkF m 17 #[.val (.int v0), .val (.long v1), .second, .val (.ref b96), .val (.ref b0_98), .unset, .unset, .unset, .unset, .unset, .unset, .unset, .unset] [(.int (Int32.ofNat (([] : List Int32)).length))])
  refine G_ifYes Y98 hx (pc' := 22) (hb hby at_17) ((if0 _ _).trans (teq (rfl : (Int32.ofNat (([] : List Int32)).length) = (0 : Int32))).1) (by decide) (by decide) ?_
  refine G_aloadN Y98 hx (pc' := 23) rfl (hb hby at_22) rfl rfl ?_
  refine G_iloadN Y98 hx (pc' := 24) rfl (hb hby at_23) rfl ?_
  refine G_lloadN Y98 hx (pc' := 25) rfl (hb hby at_24) rfl ?_
  obtain ⟨cq99, kq99, q99a, q99b, q99c⟩ := isOf hZ rfl E_b96_98
  obtain ⟨_, _, ⟨T99, L99, k99, n99⟩, -, X99, ⟨Lc99, hQ99, l99, y99, z99⟩, st99⟩ := Y98.virtualBack hx (y := (⟨"com/example/muster/muster/Protobuf$Writer", "int64", "(IJ)V"⟩ : MethodName)) (z := (⟨"com/example/muster/muster/Protobuf$Writer", "int64", "(IJ)V"⟩ : MethodName)) hown (mvT hZ (hw _ (List.mem_of_getElem? (i := 31) rfl))) (mvT hZ (hw _ (List.mem_of_getElem? (i := 32) rfl))) (notFace_of_selects (args := #[]) (mvT hZ (hw _ (List.mem_of_getElem? (i := 34) rfl)))) (mvT hZ (hw _ (List.mem_of_getElem? (i := 34) rfl))) (mvT hZ (hw _ (List.mem_of_getElem? (i := 33) rfl))) (by decide) (backOf (W := 0) (rm_int64 l Z a0 hw [] b96 v0 v1 b0_97 ([] : List Int32) (List.replicate 64 (0 : Int32)) T98.heap n0 Z_98 E_b96_98 F_b96_bytes_98 F_b96_size_98 A_b0_97_98 g_b96 g_b0_97 ne_b96_b0_97 (by decide) rfl) hZ (hw _ (List.mem_of_getElem? (i := 35) rfl)) (hw _ (List.mem_of_getElem? (i := 2) rfl)) (by decide) (by decide)) q99a q99c (g := (mkF m 25 #[.val (.int v0), .val (.long v1), .second, .val (.ref b96), .val (.ref b0_98), .unset, .unset, .unset, .unset, .unset, .unset, .unset, .unset] [(.long v1), (.int v0), (.ref b96)])) rfl (by rw [hml]; rfl) (Steps.refl _) (argsL := [(.int v0), (.long v1)]) (rest := []) (lenOf pd_9 rfl) rfl (by show 2 * 0 + _ ≤ _; exact Nat.le_of_eq rfl) (hb hby at_25) (fun _ _ => ⟨rfl, rfl, (by decide : 3 + 0 ≤ _), (by decide : 86 + 0 ≤ _)⟩)
  dsimp only [Pt.U, Pt.locs, Pt.cells, Pt.slots] at X99 l99 y99 z99 st99 hQ99
  rw [l99, y99, z99] at X99
  clear l99 y99 z99
  obtain ⟨rfl, N99q, K99, p99_0, p99_1, p99_2, p99_3⟩ := hQ99
  have N99 := Fr.app M98 N99q
  refine Go.st (fun _ k => st99.trans k) ?_
  have E_b0_97_99 := E_b0_97_98.keep K99
  have E_b0_98_99 := p98_0.keep K99
  have A_b0_98_99 := p98_1.keep K99 (ninS (Ne.symm ne_b96_b0_98) (ninS (Ne.symm ne_b0_97_b0_98) nin0))
  have K_99 : Keep h0 T99.heap [] := K_98.trans K99 (allS (Or.inr sz_b96) (allS (Or.inr sz_b0_97) all0))
  have Z_99 : n0 ≤ T99.heap.size := Nat.le_trans Z0 K_99.1
  clear E_b96_98 F_b96_bytes_98 F_b96_size_98 E_b0_97_98 A_b0_97_98 p98_0 p98_1 st99 K99
  obtain ⟨G99, Y99, M99⟩ : ∃ L, Stand p l e room_1 s m #[(.int v0), (.long v1)] below meth c T99 L 3 86 ∧ Fr n0 L := ⟨_, X99, N99⟩
  clear X99 N99
  show Go p e below s _ _ _ T99 (mkF m 28 #[.val (.int v0), .val (.long v1), .second, .val (.ref b96), .val (.ref b0_98), .unset, .unset, .unset, .unset, .unset, .unset, .unset, .unset] [])
  obtain ⟨key, hkey⟩ : ∃ z : Int64, ((v0.toInt64) <<< ((3 : Int32) &&& 0x3f).toInt64) = z := ⟨_, rfl⟩
  obtain ⟨zs, hzs⟩ : ∃ z : List Int32, own_enc key ++ own_enc v1 = z := ⟨_, rfl⟩
  obtain ⟨r2, hl2, S1, A1⟩ : ∃ z : List Int32, zs.length + z.length = 64 ∧ Fld Z T99.heap b96 "com/example/muster/muster/Protobuf$Writer" "size" "I" (.int (Int32.ofNat zs.length)) ∧ AI Z T99.heap b0_97 .byte (zs ++ z) := own_reb hkey hzs p99_2 p99_3
  have hz20 : zs.length ≤ 20 := own_z20 hzs
  refine G_aloadN Y99 hx (pc' := 29) rfl (hb hby at_28) rfl rfl ?_
  obtain ⟨cq100, kq100, q100a, q100b, q100c⟩ := isOf hZ rfl p99_0
  obtain ⟨_, _, ⟨T100, L100, k100, n100⟩, -, X100, ⟨Lc100, hQ100, l100, y100, z100⟩, st100⟩ := Y99.virtualBack hx (y := (⟨"com/example/muster/muster/Protobuf$Writer", "toByteArray", "()[B"⟩ : MethodName)) (z := (⟨"com/example/muster/muster/Protobuf$Writer", "toByteArray", "()[B"⟩ : MethodName)) hown (mvT hZ (hw _ (List.mem_of_getElem? (i := 12) rfl))) (mvT hZ (hw _ (List.mem_of_getElem? (i := 13) rfl))) (notFace_of_selects (args := #[]) (mvT hZ (hw _ (List.mem_of_getElem? (i := 15) rfl)))) (mvT hZ (hw _ (List.mem_of_getElem? (i := 15) rfl))) (mvT hZ (hw _ (List.mem_of_getElem? (i := 14) rfl))) (by decide) (backOf (W := 0) (rm_toBA l Z a0 hw [] b96 b0_97 zs r2 T99.heap n0 Z_99 p99_1 S1 A1 hl2 hz20) hZ (hw _ (List.mem_of_getElem? (i := 16) rfl)) (hw _ (List.mem_of_getElem? (i := 2) rfl)) (by decide) (by decide)) q100a q100c (g := (mkF m 29 #[.val (.int v0), .val (.long v1), .second, .val (.ref b96), .val (.ref b0_98), .unset, .unset, .unset, .unset, .unset, .unset, .unset, .unset] [(.ref b96)])) rfl (by rw [hml]; rfl) (Steps.refl _) (argsL := []) (rest := []) (lenOf pd_8 rfl) rfl (by show 2 * 0 + _ ≤ _; exact Nat.le_of_eq rfl) (hb hby at_29) (fun _ _ => ⟨rfl, rfl, (by decide : 3 + 1 ≤ _), (by decide : 86 + 20 ≤ _)⟩)
  dsimp only [Pt.U, Pt.locs, Pt.cells, Pt.slots] at X100 l100 y100 z100 st100 hQ100
  rw [l100, y100, z100] at X100
  clear l100 y100 z100
  obtain ⟨b0_100, rfl, N100q, K100, le_b0_100, p100_0, p100_1⟩ := hQ100
  have N100 := Fr.app M99 N100q
  refine Go.st (fun _ k => st100.trans k) ?_
  have ne_b0_97_b0_100 : b0_97 ≠ b0_100 := Nat.ne_of_lt (Nat.lt_of_lt_of_le E_b0_97_99.lt le_b0_100)
  have ne_b0_98_b0_100 : b0_98 ≠ b0_100 := Nat.ne_of_lt (Nat.lt_of_lt_of_le E_b0_98_99.lt le_b0_100)
  have ne_b96_b0_100 : b96 ≠ b0_100 := Nat.ne_of_lt (Nat.lt_of_lt_of_le p99_0.lt le_b0_100)
  have g_b0_100 : n0 ≤ b0_100 := Nat.le_trans Z_99 le_b0_100
  have sz_b0_100 : h0.size ≤ b0_100 := Nat.le_trans K_99.1 le_b0_100
  have E_b0_97_100 := E_b0_97_99.keep K100
  have E_b0_98_100 := E_b0_98_99.keep K100
  have A_b0_98_100 := A_b0_98_99.keep K100 nin0
  have E_b96_100 := p99_0.keep K100
  have F_b96_bytes_100 := p99_1.keep K100 nin0
  have F_b96_size_100 := S1.keep K100 nin0
  have A_b0_97_100 := A1.keep K100 nin0
  have K_100 : Keep h0 T100.heap [] := K_99.trans K100 all0
  have Z_100 : n0 ≤ T100.heap.size := Nat.le_trans Z0 K_100.1
  clear E_b0_97_99 E_b0_98_99 A_b0_98_99 p99_0 p99_1 S1 A1 st100 K100
  obtain ⟨G100, Y100, M100⟩ : ∃ L, Stand p l e room_1 s m #[(.int v0), (.long v1)] below meth c T100 L 4 106 ∧ Fr n0 L := ⟨_, X100, N100⟩
  clear X100 N100
  show Go p e below s _ _ _ T100 (mkF m 32 #[.val (.int v0), .val (.long v1), .second, .val (.ref b96), .val (.ref b0_98), .unset, .unset, .unset, .unset, .unset, .unset, .unset, .unset] [(.ref b0_100)])
  refine G_astore Y100 hx (pc' := 34) rfl (hb hby at_32) rfl (L' := #[.val (.int v0), .val (.long v1), .second, .val (.ref b96), .val (.ref b0_98), .val (.ref b0_100), .unset, .unset, .unset, .unset, .unset, .unset, .unset]) rfl ?_
  refine G_iloadN Y100 hx (pc' := 35) rfl (hb hby at_34) rfl ?_
  refine G_i2l Y100 hx (pc' := 36) rfl (hb hby at_35)  ?_
  refine G_iconst Y100 hx (pc' := 37) rfl (hb hby at_36) (z := (3 : Int32)) rfl ?_
  refine G_lshl Y100 hx (pc' := 38) rfl (hb hby at_37)  ?_
  refine G_lstore Y100 hx (pc' := 40) rfl (hb hby at_38) (L' := #[.val (.int v0), .val (.long v1), .second, .val (.ref b96), .val (.ref b0_98), .val (.ref b0_100), .val (.long ((v0.toInt64) <<< ((3 : Int32) &&& 0x3f).toInt64)), .second, .unset, .unset, .unset, .unset, .unset]) rfl ?_
  rw [hkey]
  refine G_lload Y100 hx (pc' := 42) rfl (hb hby at_40) rfl ?_
  obtain ⟨_, _, ⟨T101, L101, k101, n101⟩, -, X101, ⟨Lc101, hQ101, l101, y101, z101⟩, st101⟩ := Jvm.LawKit.callS Y100 hx (y := (⟨"com/example/muster/muster/WriterToByteArrayPinLaw", "lenOf", "(J)I"⟩ : MethodName)) hown (mvT hZ (hw _ (List.mem_of_getElem? (i := 49) rfl))) (mvT hZ (hw _ (List.mem_of_getElem? (i := 50) rfl))) (mvT hZ (hw _ (List.mem_of_getElem? (i := 51) rfl))) (mvT hZ (hw _ (List.mem_of_getElem? (i := 52) rfl))) (by decide) (backOf (W := 0) (rm_lenOf l Z a0 hw [] key T100.heap n0 Z_100 ) hZ (hw _ (List.mem_of_getElem? (i := 52) rfl)) (hw _ (List.mem_of_getElem? (i := 51) rfl)) (by decide) (by decide)) (g := (mkF m 42 #[.val (.int v0), .val (.long v1), .second, .val (.ref b96), .val (.ref b0_98), .val (.ref b0_100), .val (.long key), .second, .unset, .unset, .unset, .unset, .unset] [(.long key)])) rfl (by rw [hml]; rfl) (argsL := [(.long key)]) (rest := []) (lenOf pd_5 rfl) rfl (by show 2 * 0 + _ ≤ _; exact Nat.le_of_eq rfl) (hb hby at_42) (fun _ _ => ⟨rfl, rfl, (by decide : 4 + 0 ≤ _), (by decide : 106 + 0 ≤ _)⟩)
  dsimp only [Pt.U, Pt.locs, Pt.cells, Pt.slots] at X101 l101 y101 z101 st101 hQ101
  rw [l101, y101, z101] at X101
  clear l101 y101 z101
  obtain ⟨rfl, N101q, e101⟩ := hQ101
  have N101 := Fr.app M100 N101q
  refine Go.st st101 ?_
  obtain ⟨G101, Y101, M101⟩ : ∃ L, Stand p l e room_1 s m #[(.int v0), (.long v1)] below meth c T101 L 4 106 ∧ Fr n0 L := ⟨_, X101, N101⟩
  clear X101 N101
  show Go p e below s _ _ _ T101 (mkF m 45 #[.val (.int v0), .val (.long v1), .second, .val (.ref b96), .val (.ref b0_98), .val (.ref b0_100), .val (.long key), .second, .unset, .unset, .unset, .unset, .unset] [(.int (f_lenOf key))])
  refine G_istore Y101 hx (pc' := 47) rfl (hb hby at_45) (L' := #[.val (.int v0), .val (.long v1), .second, .val (.ref b96), .val (.ref b0_98), .val (.ref b0_100), .val (.long key), .second, .val (.int (f_lenOf key)), .unset, .unset, .unset, .unset]) rfl ?_
  refine G_lloadN Y101 hx (pc' := 48) rfl (hb hby at_47) rfl ?_
  obtain ⟨_, _, ⟨T102, L102, k102, n102⟩, -, X102, ⟨Lc102, hQ102, l102, y102, z102⟩, st102⟩ := Jvm.LawKit.callS Y101 hx (y := (⟨"com/example/muster/muster/WriterToByteArrayPinLaw", "lenOf", "(J)I"⟩ : MethodName)) hown (mvT hZ (hw _ (List.mem_of_getElem? (i := 49) rfl))) (mvT hZ (hw _ (List.mem_of_getElem? (i := 50) rfl))) (mvT hZ (hw _ (List.mem_of_getElem? (i := 51) rfl))) (mvT hZ (hw _ (List.mem_of_getElem? (i := 52) rfl))) (by decide) (backOf (W := 0) (rm_lenOf l Z a0 hw [] v1 T100.heap n0 Z_100 ) hZ (hw _ (List.mem_of_getElem? (i := 52) rfl)) (hw _ (List.mem_of_getElem? (i := 51) rfl)) (by decide) (by decide)) (g := (mkF m 48 #[.val (.int v0), .val (.long v1), .second, .val (.ref b96), .val (.ref b0_98), .val (.ref b0_100), .val (.long key), .second, .val (.int (f_lenOf key)), .unset, .unset, .unset, .unset] [(.long v1)])) rfl (by rw [hml]; rfl) (argsL := [(.long v1)]) (rest := []) (lenOf pd_5 rfl) rfl (by show 2 * 0 + _ ≤ _; exact Nat.le_of_eq rfl) (hb hby at_48) (fun _ _ => ⟨rfl, e101, (by decide : 4 + 0 ≤ _), (by decide : 106 + 0 ≤ _)⟩)
  dsimp only [Pt.U, Pt.locs, Pt.cells, Pt.slots] at X102 l102 y102 z102 st102 hQ102
  rw [l102, y102, z102] at X102
  clear l102 y102 z102
  obtain ⟨rfl, N102q, e102⟩ := hQ102
  have N102 := Fr.app M101 N102q
  refine Go.st st102 ?_
  obtain ⟨G102, Y102, M102⟩ : ∃ L, Stand p l e room_1 s m #[(.int v0), (.long v1)] below meth c T102 L 4 106 ∧ Fr n0 L := ⟨_, X102, N102⟩
  clear X102 N102
  show Go p e below s _ _ _ T102 (mkF m 51 #[.val (.int v0), .val (.long v1), .second, .val (.ref b96), .val (.ref b0_98), .val (.ref b0_100), .val (.long key), .second, .val (.int (f_lenOf key)), .unset, .unset, .unset, .unset] [(.int (f_lenOf v1))])
  refine G_istore Y102 hx (pc' := 53) rfl (hb hby at_51) (L' := #[.val (.int v0), .val (.long v1), .second, .val (.ref b96), .val (.ref b0_98), .val (.ref b0_100), .val (.long key), .second, .val (.int (f_lenOf key)), .val (.int (f_lenOf v1)), .unset, .unset, .unset]) rfl ?_
  refine G_aload Y102 hx (pc' := 55) rfl (hb hby at_53) rfl rfl ?_
  refine Go.st (lenAI Y102 hx hZ e102 p100_1 (g := (mkF m 55 #[.val (.int v0), .val (.long v1), .second, .val (.ref b96), .val (.ref b0_98), .val (.ref b0_100), .val (.long key), .second, .val (.int (f_lenOf key)), .val (.int (f_lenOf v1)), .unset, .unset, .unset] [(.ref b0_100)])) rfl rfl (hb hby at_55)) ?_
  show Go p e below s _ _ _ T102 (mkF m 56 #[.val (.int v0), .val (.long v1), .second, .val (.ref b96), .val (.ref b0_98), .val (.ref b0_100), .val (.long key), .second, .val (.int (f_lenOf key)), .val (.int (f_lenOf v1)), .unset, .unset, .unset] [(.int (Int32.ofNat (zs).length))])
  refine G_iload Y102 hx (pc' := 58) rfl (hb hby at_56) rfl ?_
  refine G_iload Y102 hx (pc' := 60) rfl (hb hby at_58) rfl ?_
  refine G_iadd Y102 hx (pc' := 61) rfl (hb hby at_60)  ?_
  refine G_icmpYes Y102 hx (pc' := 66) (hb hby at_61) (teq ((own_tot hzs) : (Int32.ofNat (zs).length) = ((f_lenOf key) + (f_lenOf v1)))).1 (by decide) (by decide) ?_
  refine G_aload Y102 hx (pc' := 68) rfl (hb hby at_66) rfl rfl ?_
  refine G_iconst Y102 hx (pc' := 69) rfl (hb hby at_68) (z := (0 : Int32)) rfl ?_
  refine G_lload Y102 hx (pc' := 71) rfl (hb hby at_69) rfl ?_
  refine G_iload Y102 hx (pc' := 73) rfl (hb hby at_71) rfl ?_
  refine G_lloadN Y102 hx (pc' := 74) rfl (hb hby at_73) rfl ?_
  obtain ⟨_, _, ⟨T103, L103, k103, n103⟩, -, X103, ⟨Lc103, hQ103, l103, y103, z103⟩, st103⟩ := Jvm.LawKit.callS Y102 hx (y := (⟨"com/example/muster/muster/WriterToByteArrayPinLaw", "check", "([BIJIJ)Z"⟩ : MethodName)) hown (mvT hZ (hw _ (List.mem_of_getElem? (i := 53) rfl))) (mvT hZ (hw _ (List.mem_of_getElem? (i := 54) rfl))) (mvT hZ (hw _ (List.mem_of_getElem? (i := 51) rfl))) (mvT hZ (hw _ (List.mem_of_getElem? (i := 55) rfl))) (by decide) (backOf (W := 0) (rm_check l Z a0 hw [] b0_100 (0 : Int32) key (f_lenOf key) v1 zs T100.heap n0 Z_100 p100_1 hzs rfl (by decide) (by decide)) hZ (hw _ (List.mem_of_getElem? (i := 55) rfl)) (hw _ (List.mem_of_getElem? (i := 51) rfl)) (by decide) (by decide)) (g := (mkF m 74 #[.val (.int v0), .val (.long v1), .second, .val (.ref b96), .val (.ref b0_98), .val (.ref b0_100), .val (.long key), .second, .val (.int (f_lenOf key)), .val (.int (f_lenOf v1)), .unset, .unset, .unset] [(.long v1), (.int (f_lenOf key)), (.long key), (.int (0 : Int32)), (.ref b0_100)])) rfl (by rw [hml]; rfl) (argsL := [(.ref b0_100), (.int (0 : Int32)), (.long key), (.int (f_lenOf key)), (.long v1)]) (rest := []) (lenOf pd_10 rfl) rfl (by show 2 * 0 + _ ≤ _; exact Nat.le_of_eq rfl) (hb hby at_74) (fun _ _ => ⟨rfl, e102, (by decide : 4 + 0 ≤ _), (by decide : 106 + 0 ≤ _)⟩)
  dsimp only [Pt.U, Pt.locs, Pt.cells, Pt.slots] at X103 l103 y103 z103 st103 hQ103
  rw [l103, y103, z103] at X103
  clear l103 y103 z103
  obtain ⟨rfl, N103q, e103⟩ := hQ103
  have N103 := Fr.app M102 N103q
  refine Go.st st103 ?_
  obtain ⟨G103, Y103, M103⟩ : ∃ L, Stand p l e room_1 s m #[(.int v0), (.long v1)] below meth c T103 L 4 106 ∧ Fr n0 L := ⟨_, X103, N103⟩
  clear X103 N103
  show Go p e below s _ _ _ T103 (mkF m 77 #[.val (.int v0), .val (.long v1), .second, .val (.ref b96), .val (.ref b0_98), .val (.ref b0_100), .val (.long key), .second, .val (.int (f_lenOf key)), .val (.int (f_lenOf v1)), .unset, .unset, .unset] [(.int (1 : Int32))])
  refine G_ifNo Y103 hx (pc' := 80) rfl (hb hby at_77) ((if0 _ _).trans (feq (by decide : ¬ ((1 : Int32) = (0 : Int32)))).1) ?_
  refine G_aload Y103 hx (pc' := 82) rfl (hb hby at_80) rfl rfl ?_
  refine G_iconst Y103 hx (pc' := 83) rfl (hb hby at_82) (z := (1 : Int32)) rfl ?_
  refine G_lload Y103 hx (pc' := 85) rfl (hb hby at_83) rfl ?_
  refine G_iload Y103 hx (pc' := 87) rfl (hb hby at_85) rfl ?_
  refine G_lloadN Y103 hx (pc' := 88) rfl (hb hby at_87) rfl ?_
  obtain ⟨_, _, ⟨T104, L104, k104, n104⟩, -, X104, ⟨Lc104, hQ104, l104, y104, z104⟩, st104⟩ := Jvm.LawKit.callS Y103 hx (y := (⟨"com/example/muster/muster/WriterToByteArrayPinLaw", "check", "([BIJIJ)Z"⟩ : MethodName)) hown (mvT hZ (hw _ (List.mem_of_getElem? (i := 53) rfl))) (mvT hZ (hw _ (List.mem_of_getElem? (i := 54) rfl))) (mvT hZ (hw _ (List.mem_of_getElem? (i := 51) rfl))) (mvT hZ (hw _ (List.mem_of_getElem? (i := 55) rfl))) (by decide) (backOf (W := 0) (rm_check l Z a0 hw [] b0_100 (1 : Int32) key (f_lenOf key) v1 zs T100.heap n0 Z_100 p100_1 hzs rfl (by decide) (by decide)) hZ (hw _ (List.mem_of_getElem? (i := 55) rfl)) (hw _ (List.mem_of_getElem? (i := 51) rfl)) (by decide) (by decide)) (g := (mkF m 88 #[.val (.int v0), .val (.long v1), .second, .val (.ref b96), .val (.ref b0_98), .val (.ref b0_100), .val (.long key), .second, .val (.int (f_lenOf key)), .val (.int (f_lenOf v1)), .unset, .unset, .unset] [(.long v1), (.int (f_lenOf key)), (.long key), (.int (1 : Int32)), (.ref b0_100)])) rfl (by rw [hml]; rfl) (argsL := [(.ref b0_100), (.int (1 : Int32)), (.long key), (.int (f_lenOf key)), (.long v1)]) (rest := []) (lenOf pd_10 rfl) rfl (by show 2 * 0 + _ ≤ _; exact Nat.le_of_eq rfl) (hb hby at_88) (fun _ _ => ⟨rfl, e103, (by decide : 4 + 0 ≤ _), (by decide : 106 + 0 ≤ _)⟩)
  dsimp only [Pt.U, Pt.locs, Pt.cells, Pt.slots] at X104 l104 y104 z104 st104 hQ104
  rw [l104, y104, z104] at X104
  clear l104 y104 z104
  obtain ⟨rfl, N104q, e104⟩ := hQ104
  have N104 := Fr.app M103 N104q
  refine Go.st st104 ?_
  obtain ⟨G104, Y104, M104⟩ : ∃ L, Stand p l e room_1 s m #[(.int v0), (.long v1)] below meth c T104 L 4 106 ∧ Fr n0 L := ⟨_, X104, N104⟩
  clear X104 N104
  show Go p e below s _ _ _ T104 (mkF m 91 #[.val (.int v0), .val (.long v1), .second, .val (.ref b96), .val (.ref b0_98), .val (.ref b0_100), .val (.long key), .second, .val (.int (f_lenOf key)), .val (.int (f_lenOf v1)), .unset, .unset, .unset] [(.int (1 : Int32))])
  refine G_ifNo Y104 hx (pc' := 94) rfl (hb hby at_91) ((if0 _ _).trans (feq (by decide : ¬ ((1 : Int32) = (0 : Int32)))).1) ?_
  refine G_aload Y104 hx (pc' := 96) rfl (hb hby at_94) rfl rfl ?_
  refine G_iconst Y104 hx (pc' := 97) rfl (hb hby at_96) (z := (2 : Int32)) rfl ?_
  refine G_lload Y104 hx (pc' := 99) rfl (hb hby at_97) rfl ?_
  refine G_iload Y104 hx (pc' := 101) rfl (hb hby at_99) rfl ?_
  refine G_lloadN Y104 hx (pc' := 102) rfl (hb hby at_101) rfl ?_
  obtain ⟨_, _, ⟨T105, L105, k105, n105⟩, -, X105, ⟨Lc105, hQ105, l105, y105, z105⟩, st105⟩ := Jvm.LawKit.callS Y104 hx (y := (⟨"com/example/muster/muster/WriterToByteArrayPinLaw", "check", "([BIJIJ)Z"⟩ : MethodName)) hown (mvT hZ (hw _ (List.mem_of_getElem? (i := 53) rfl))) (mvT hZ (hw _ (List.mem_of_getElem? (i := 54) rfl))) (mvT hZ (hw _ (List.mem_of_getElem? (i := 51) rfl))) (mvT hZ (hw _ (List.mem_of_getElem? (i := 55) rfl))) (by decide) (backOf (W := 0) (rm_check l Z a0 hw [] b0_100 (2 : Int32) key (f_lenOf key) v1 zs T100.heap n0 Z_100 p100_1 hzs rfl (by decide) (by decide)) hZ (hw _ (List.mem_of_getElem? (i := 55) rfl)) (hw _ (List.mem_of_getElem? (i := 51) rfl)) (by decide) (by decide)) (g := (mkF m 102 #[.val (.int v0), .val (.long v1), .second, .val (.ref b96), .val (.ref b0_98), .val (.ref b0_100), .val (.long key), .second, .val (.int (f_lenOf key)), .val (.int (f_lenOf v1)), .unset, .unset, .unset] [(.long v1), (.int (f_lenOf key)), (.long key), (.int (2 : Int32)), (.ref b0_100)])) rfl (by rw [hml]; rfl) (argsL := [(.ref b0_100), (.int (2 : Int32)), (.long key), (.int (f_lenOf key)), (.long v1)]) (rest := []) (lenOf pd_10 rfl) rfl (by show 2 * 0 + _ ≤ _; exact Nat.le_of_eq rfl) (hb hby at_102) (fun _ _ => ⟨rfl, e104, (by decide : 4 + 0 ≤ _), (by decide : 106 + 0 ≤ _)⟩)
  dsimp only [Pt.U, Pt.locs, Pt.cells, Pt.slots] at X105 l105 y105 z105 st105 hQ105
  rw [l105, y105, z105] at X105
  clear l105 y105 z105
  obtain ⟨rfl, N105q, e105⟩ := hQ105
  have N105 := Fr.app M104 N105q
  refine Go.st st105 ?_
  obtain ⟨G105, Y105, M105⟩ : ∃ L, Stand p l e room_1 s m #[(.int v0), (.long v1)] below meth c T105 L 4 106 ∧ Fr n0 L := ⟨_, X105, N105⟩
  clear X105 N105
  show Go p e below s _ _ _ T105 (mkF m 105 #[.val (.int v0), .val (.long v1), .second, .val (.ref b96), .val (.ref b0_98), .val (.ref b0_100), .val (.long key), .second, .val (.int (f_lenOf key)), .val (.int (f_lenOf v1)), .unset, .unset, .unset] [(.int (1 : Int32))])
  refine G_ifNo Y105 hx (pc' := 108) rfl (hb hby at_105) ((if0 _ _).trans (feq (by decide : ¬ ((1 : Int32) = (0 : Int32)))).1) ?_
  refine G_aload Y105 hx (pc' := 110) rfl (hb hby at_108) rfl rfl ?_
  refine G_iconst Y105 hx (pc' := 111) rfl (hb hby at_110) (z := (3 : Int32)) rfl ?_
  refine G_lload Y105 hx (pc' := 113) rfl (hb hby at_111) rfl ?_
  refine G_iload Y105 hx (pc' := 115) rfl (hb hby at_113) rfl ?_
  refine G_lloadN Y105 hx (pc' := 116) rfl (hb hby at_115) rfl ?_
  obtain ⟨_, _, ⟨T106, L106, k106, n106⟩, -, X106, ⟨Lc106, hQ106, l106, y106, z106⟩, st106⟩ := Jvm.LawKit.callS Y105 hx (y := (⟨"com/example/muster/muster/WriterToByteArrayPinLaw", "check", "([BIJIJ)Z"⟩ : MethodName)) hown (mvT hZ (hw _ (List.mem_of_getElem? (i := 53) rfl))) (mvT hZ (hw _ (List.mem_of_getElem? (i := 54) rfl))) (mvT hZ (hw _ (List.mem_of_getElem? (i := 51) rfl))) (mvT hZ (hw _ (List.mem_of_getElem? (i := 55) rfl))) (by decide) (backOf (W := 0) (rm_check l Z a0 hw [] b0_100 (3 : Int32) key (f_lenOf key) v1 zs T100.heap n0 Z_100 p100_1 hzs rfl (by decide) (by decide)) hZ (hw _ (List.mem_of_getElem? (i := 55) rfl)) (hw _ (List.mem_of_getElem? (i := 51) rfl)) (by decide) (by decide)) (g := (mkF m 116 #[.val (.int v0), .val (.long v1), .second, .val (.ref b96), .val (.ref b0_98), .val (.ref b0_100), .val (.long key), .second, .val (.int (f_lenOf key)), .val (.int (f_lenOf v1)), .unset, .unset, .unset] [(.long v1), (.int (f_lenOf key)), (.long key), (.int (3 : Int32)), (.ref b0_100)])) rfl (by rw [hml]; rfl) (argsL := [(.ref b0_100), (.int (3 : Int32)), (.long key), (.int (f_lenOf key)), (.long v1)]) (rest := []) (lenOf pd_10 rfl) rfl (by show 2 * 0 + _ ≤ _; exact Nat.le_of_eq rfl) (hb hby at_116) (fun _ _ => ⟨rfl, e105, (by decide : 4 + 0 ≤ _), (by decide : 106 + 0 ≤ _)⟩)
  dsimp only [Pt.U, Pt.locs, Pt.cells, Pt.slots] at X106 l106 y106 z106 st106 hQ106
  rw [l106, y106, z106] at X106
  clear l106 y106 z106
  obtain ⟨rfl, N106q, e106⟩ := hQ106
  have N106 := Fr.app M105 N106q
  refine Go.st st106 ?_
  obtain ⟨G106, Y106, M106⟩ : ∃ L, Stand p l e room_1 s m #[(.int v0), (.long v1)] below meth c T106 L 4 106 ∧ Fr n0 L := ⟨_, X106, N106⟩
  clear X106 N106
  show Go p e below s _ _ _ T106 (mkF m 119 #[.val (.int v0), .val (.long v1), .second, .val (.ref b96), .val (.ref b0_98), .val (.ref b0_100), .val (.long key), .second, .val (.int (f_lenOf key)), .val (.int (f_lenOf v1)), .unset, .unset, .unset] [(.int (1 : Int32))])
  refine G_ifNo Y106 hx (pc' := 122) rfl (hb hby at_119) ((if0 _ _).trans (feq (by decide : ¬ ((1 : Int32) = (0 : Int32)))).1) ?_
  refine G_aload Y106 hx (pc' := 124) rfl (hb hby at_122) rfl rfl ?_
  refine G_iconst Y106 hx (pc' := 125) rfl (hb hby at_124) (z := (4 : Int32)) rfl ?_
  refine G_lload Y106 hx (pc' := 127) rfl (hb hby at_125) rfl ?_
  refine G_iload Y106 hx (pc' := 129) rfl (hb hby at_127) rfl ?_
  refine G_lloadN Y106 hx (pc' := 130) rfl (hb hby at_129) rfl ?_
  obtain ⟨_, _, ⟨T107, L107, k107, n107⟩, -, X107, ⟨Lc107, hQ107, l107, y107, z107⟩, st107⟩ := Jvm.LawKit.callS Y106 hx (y := (⟨"com/example/muster/muster/WriterToByteArrayPinLaw", "check", "([BIJIJ)Z"⟩ : MethodName)) hown (mvT hZ (hw _ (List.mem_of_getElem? (i := 53) rfl))) (mvT hZ (hw _ (List.mem_of_getElem? (i := 54) rfl))) (mvT hZ (hw _ (List.mem_of_getElem? (i := 51) rfl))) (mvT hZ (hw _ (List.mem_of_getElem? (i := 55) rfl))) (by decide) (backOf (W := 0) (rm_check l Z a0 hw [] b0_100 (4 : Int32) key (f_lenOf key) v1 zs T100.heap n0 Z_100 p100_1 hzs rfl (by decide) (by decide)) hZ (hw _ (List.mem_of_getElem? (i := 55) rfl)) (hw _ (List.mem_of_getElem? (i := 51) rfl)) (by decide) (by decide)) (g := (mkF m 130 #[.val (.int v0), .val (.long v1), .second, .val (.ref b96), .val (.ref b0_98), .val (.ref b0_100), .val (.long key), .second, .val (.int (f_lenOf key)), .val (.int (f_lenOf v1)), .unset, .unset, .unset] [(.long v1), (.int (f_lenOf key)), (.long key), (.int (4 : Int32)), (.ref b0_100)])) rfl (by rw [hml]; rfl) (argsL := [(.ref b0_100), (.int (4 : Int32)), (.long key), (.int (f_lenOf key)), (.long v1)]) (rest := []) (lenOf pd_10 rfl) rfl (by show 2 * 0 + _ ≤ _; exact Nat.le_of_eq rfl) (hb hby at_130) (fun _ _ => ⟨rfl, e106, (by decide : 4 + 0 ≤ _), (by decide : 106 + 0 ≤ _)⟩)
  dsimp only [Pt.U, Pt.locs, Pt.cells, Pt.slots] at X107 l107 y107 z107 st107 hQ107
  rw [l107, y107, z107] at X107
  clear l107 y107 z107
  obtain ⟨rfl, N107q, e107⟩ := hQ107
  have N107 := Fr.app M106 N107q
  refine Go.st st107 ?_
  obtain ⟨G107, Y107, M107⟩ : ∃ L, Stand p l e room_1 s m #[(.int v0), (.long v1)] below meth c T107 L 4 106 ∧ Fr n0 L := ⟨_, X107, N107⟩
  clear X107 N107
  show Go p e below s _ _ _ T107 (mkF m 133 #[.val (.int v0), .val (.long v1), .second, .val (.ref b96), .val (.ref b0_98), .val (.ref b0_100), .val (.long key), .second, .val (.int (f_lenOf key)), .val (.int (f_lenOf v1)), .unset, .unset, .unset] [(.int (1 : Int32))])
  refine G_ifNo Y107 hx (pc' := 136) rfl (hb hby at_133) ((if0 _ _).trans (feq (by decide : ¬ ((1 : Int32) = (0 : Int32)))).1) ?_
  refine G_aload Y107 hx (pc' := 138) rfl (hb hby at_136) rfl rfl ?_
  refine G_iconst Y107 hx (pc' := 139) rfl (hb hby at_138) (z := (5 : Int32)) rfl ?_
  refine G_lload Y107 hx (pc' := 141) rfl (hb hby at_139) rfl ?_
  refine G_iload Y107 hx (pc' := 143) rfl (hb hby at_141) rfl ?_
  refine G_lloadN Y107 hx (pc' := 144) rfl (hb hby at_143) rfl ?_
  obtain ⟨_, _, ⟨T108, L108, k108, n108⟩, -, X108, ⟨Lc108, hQ108, l108, y108, z108⟩, st108⟩ := Jvm.LawKit.callS Y107 hx (y := (⟨"com/example/muster/muster/WriterToByteArrayPinLaw", "check", "([BIJIJ)Z"⟩ : MethodName)) hown (mvT hZ (hw _ (List.mem_of_getElem? (i := 53) rfl))) (mvT hZ (hw _ (List.mem_of_getElem? (i := 54) rfl))) (mvT hZ (hw _ (List.mem_of_getElem? (i := 51) rfl))) (mvT hZ (hw _ (List.mem_of_getElem? (i := 55) rfl))) (by decide) (backOf (W := 0) (rm_check l Z a0 hw [] b0_100 (5 : Int32) key (f_lenOf key) v1 zs T100.heap n0 Z_100 p100_1 hzs rfl (by decide) (by decide)) hZ (hw _ (List.mem_of_getElem? (i := 55) rfl)) (hw _ (List.mem_of_getElem? (i := 51) rfl)) (by decide) (by decide)) (g := (mkF m 144 #[.val (.int v0), .val (.long v1), .second, .val (.ref b96), .val (.ref b0_98), .val (.ref b0_100), .val (.long key), .second, .val (.int (f_lenOf key)), .val (.int (f_lenOf v1)), .unset, .unset, .unset] [(.long v1), (.int (f_lenOf key)), (.long key), (.int (5 : Int32)), (.ref b0_100)])) rfl (by rw [hml]; rfl) (argsL := [(.ref b0_100), (.int (5 : Int32)), (.long key), (.int (f_lenOf key)), (.long v1)]) (rest := []) (lenOf pd_10 rfl) rfl (by show 2 * 0 + _ ≤ _; exact Nat.le_of_eq rfl) (hb hby at_144) (fun _ _ => ⟨rfl, e107, (by decide : 4 + 0 ≤ _), (by decide : 106 + 0 ≤ _)⟩)
  dsimp only [Pt.U, Pt.locs, Pt.cells, Pt.slots] at X108 l108 y108 z108 st108 hQ108
  rw [l108, y108, z108] at X108
  clear l108 y108 z108
  obtain ⟨rfl, N108q, e108⟩ := hQ108
  have N108 := Fr.app M107 N108q
  refine Go.st st108 ?_
  obtain ⟨G108, Y108, M108⟩ : ∃ L, Stand p l e room_1 s m #[(.int v0), (.long v1)] below meth c T108 L 4 106 ∧ Fr n0 L := ⟨_, X108, N108⟩
  clear X108 N108
  show Go p e below s _ _ _ T108 (mkF m 147 #[.val (.int v0), .val (.long v1), .second, .val (.ref b96), .val (.ref b0_98), .val (.ref b0_100), .val (.long key), .second, .val (.int (f_lenOf key)), .val (.int (f_lenOf v1)), .unset, .unset, .unset] [(.int (1 : Int32))])
  refine G_ifNo Y108 hx (pc' := 150) rfl (hb hby at_147) ((if0 _ _).trans (feq (by decide : ¬ ((1 : Int32) = (0 : Int32)))).1) ?_
  refine G_aload Y108 hx (pc' := 152) rfl (hb hby at_150) rfl rfl ?_
  refine G_bipush Y108 hx (pc' := 154) rfl (hb hby at_152) (z := (6 : Int32)) rfl ?_
  refine G_lload Y108 hx (pc' := 156) rfl (hb hby at_154) rfl ?_
  refine G_iload Y108 hx (pc' := 158) rfl (hb hby at_156) rfl ?_
  refine G_lloadN Y108 hx (pc' := 159) rfl (hb hby at_158) rfl ?_
  obtain ⟨_, _, ⟨T109, L109, k109, n109⟩, -, X109, ⟨Lc109, hQ109, l109, y109, z109⟩, st109⟩ := Jvm.LawKit.callS Y108 hx (y := (⟨"com/example/muster/muster/WriterToByteArrayPinLaw", "check", "([BIJIJ)Z"⟩ : MethodName)) hown (mvT hZ (hw _ (List.mem_of_getElem? (i := 53) rfl))) (mvT hZ (hw _ (List.mem_of_getElem? (i := 54) rfl))) (mvT hZ (hw _ (List.mem_of_getElem? (i := 51) rfl))) (mvT hZ (hw _ (List.mem_of_getElem? (i := 55) rfl))) (by decide) (backOf (W := 0) (rm_check l Z a0 hw [] b0_100 (6 : Int32) key (f_lenOf key) v1 zs T100.heap n0 Z_100 p100_1 hzs rfl (by decide) (by decide)) hZ (hw _ (List.mem_of_getElem? (i := 55) rfl)) (hw _ (List.mem_of_getElem? (i := 51) rfl)) (by decide) (by decide)) (g := (mkF m 159 #[.val (.int v0), .val (.long v1), .second, .val (.ref b96), .val (.ref b0_98), .val (.ref b0_100), .val (.long key), .second, .val (.int (f_lenOf key)), .val (.int (f_lenOf v1)), .unset, .unset, .unset] [(.long v1), (.int (f_lenOf key)), (.long key), (.int (6 : Int32)), (.ref b0_100)])) rfl (by rw [hml]; rfl) (argsL := [(.ref b0_100), (.int (6 : Int32)), (.long key), (.int (f_lenOf key)), (.long v1)]) (rest := []) (lenOf pd_10 rfl) rfl (by show 2 * 0 + _ ≤ _; exact Nat.le_of_eq rfl) (hb hby at_159) (fun _ _ => ⟨rfl, e108, (by decide : 4 + 0 ≤ _), (by decide : 106 + 0 ≤ _)⟩)
  dsimp only [Pt.U, Pt.locs, Pt.cells, Pt.slots] at X109 l109 y109 z109 st109 hQ109
  rw [l109, y109, z109] at X109
  clear l109 y109 z109
  obtain ⟨rfl, N109q, e109⟩ := hQ109
  have N109 := Fr.app M108 N109q
  refine Go.st st109 ?_
  obtain ⟨G109, Y109, M109⟩ : ∃ L, Stand p l e room_1 s m #[(.int v0), (.long v1)] below meth c T109 L 4 106 ∧ Fr n0 L := ⟨_, X109, N109⟩
  clear X109 N109
  show Go p e below s _ _ _ T109 (mkF m 162 #[.val (.int v0), .val (.long v1), .second, .val (.ref b96), .val (.ref b0_98), .val (.ref b0_100), .val (.long key), .second, .val (.int (f_lenOf key)), .val (.int (f_lenOf v1)), .unset, .unset, .unset] [(.int (1 : Int32))])
  refine G_ifNo Y109 hx (pc' := 165) rfl (hb hby at_162) ((if0 _ _).trans (feq (by decide : ¬ ((1 : Int32) = (0 : Int32)))).1) ?_
  refine G_aload Y109 hx (pc' := 167) rfl (hb hby at_165) rfl rfl ?_
  refine G_bipush Y109 hx (pc' := 169) rfl (hb hby at_167) (z := (7 : Int32)) rfl ?_
  refine G_lload Y109 hx (pc' := 171) rfl (hb hby at_169) rfl ?_
  refine G_iload Y109 hx (pc' := 173) rfl (hb hby at_171) rfl ?_
  refine G_lloadN Y109 hx (pc' := 174) rfl (hb hby at_173) rfl ?_
  obtain ⟨_, _, ⟨T110, L110, k110, n110⟩, -, X110, ⟨Lc110, hQ110, l110, y110, z110⟩, st110⟩ := Jvm.LawKit.callS Y109 hx (y := (⟨"com/example/muster/muster/WriterToByteArrayPinLaw", "check", "([BIJIJ)Z"⟩ : MethodName)) hown (mvT hZ (hw _ (List.mem_of_getElem? (i := 53) rfl))) (mvT hZ (hw _ (List.mem_of_getElem? (i := 54) rfl))) (mvT hZ (hw _ (List.mem_of_getElem? (i := 51) rfl))) (mvT hZ (hw _ (List.mem_of_getElem? (i := 55) rfl))) (by decide) (backOf (W := 0) (rm_check l Z a0 hw [] b0_100 (7 : Int32) key (f_lenOf key) v1 zs T100.heap n0 Z_100 p100_1 hzs rfl (by decide) (by decide)) hZ (hw _ (List.mem_of_getElem? (i := 55) rfl)) (hw _ (List.mem_of_getElem? (i := 51) rfl)) (by decide) (by decide)) (g := (mkF m 174 #[.val (.int v0), .val (.long v1), .second, .val (.ref b96), .val (.ref b0_98), .val (.ref b0_100), .val (.long key), .second, .val (.int (f_lenOf key)), .val (.int (f_lenOf v1)), .unset, .unset, .unset] [(.long v1), (.int (f_lenOf key)), (.long key), (.int (7 : Int32)), (.ref b0_100)])) rfl (by rw [hml]; rfl) (argsL := [(.ref b0_100), (.int (7 : Int32)), (.long key), (.int (f_lenOf key)), (.long v1)]) (rest := []) (lenOf pd_10 rfl) rfl (by show 2 * 0 + _ ≤ _; exact Nat.le_of_eq rfl) (hb hby at_174) (fun _ _ => ⟨rfl, e109, (by decide : 4 + 0 ≤ _), (by decide : 106 + 0 ≤ _)⟩)
  dsimp only [Pt.U, Pt.locs, Pt.cells, Pt.slots] at X110 l110 y110 z110 st110 hQ110
  rw [l110, y110, z110] at X110
  clear l110 y110 z110
  obtain ⟨rfl, N110q, e110⟩ := hQ110
  have N110 := Fr.app M109 N110q
  refine Go.st st110 ?_
  obtain ⟨G110, Y110, M110⟩ : ∃ L, Stand p l e room_1 s m #[(.int v0), (.long v1)] below meth c T110 L 4 106 ∧ Fr n0 L := ⟨_, X110, N110⟩
  clear X110 N110
  show Go p e below s _ _ _ T110 (mkF m 177 #[.val (.int v0), .val (.long v1), .second, .val (.ref b96), .val (.ref b0_98), .val (.ref b0_100), .val (.long key), .second, .val (.int (f_lenOf key)), .val (.int (f_lenOf v1)), .unset, .unset, .unset] [(.int (1 : Int32))])
  refine G_ifNo Y110 hx (pc' := 180) rfl (hb hby at_177) ((if0 _ _).trans (feq (by decide : ¬ ((1 : Int32) = (0 : Int32)))).1) ?_
  refine G_aload Y110 hx (pc' := 182) rfl (hb hby at_180) rfl rfl ?_
  refine G_bipush Y110 hx (pc' := 184) rfl (hb hby at_182) (z := (8 : Int32)) rfl ?_
  refine G_lload Y110 hx (pc' := 186) rfl (hb hby at_184) rfl ?_
  refine G_iload Y110 hx (pc' := 188) rfl (hb hby at_186) rfl ?_
  refine G_lloadN Y110 hx (pc' := 189) rfl (hb hby at_188) rfl ?_
  obtain ⟨_, _, ⟨T111, L111, k111, n111⟩, -, X111, ⟨Lc111, hQ111, l111, y111, z111⟩, st111⟩ := Jvm.LawKit.callS Y110 hx (y := (⟨"com/example/muster/muster/WriterToByteArrayPinLaw", "check", "([BIJIJ)Z"⟩ : MethodName)) hown (mvT hZ (hw _ (List.mem_of_getElem? (i := 53) rfl))) (mvT hZ (hw _ (List.mem_of_getElem? (i := 54) rfl))) (mvT hZ (hw _ (List.mem_of_getElem? (i := 51) rfl))) (mvT hZ (hw _ (List.mem_of_getElem? (i := 55) rfl))) (by decide) (backOf (W := 0) (rm_check l Z a0 hw [] b0_100 (8 : Int32) key (f_lenOf key) v1 zs T100.heap n0 Z_100 p100_1 hzs rfl (by decide) (by decide)) hZ (hw _ (List.mem_of_getElem? (i := 55) rfl)) (hw _ (List.mem_of_getElem? (i := 51) rfl)) (by decide) (by decide)) (g := (mkF m 189 #[.val (.int v0), .val (.long v1), .second, .val (.ref b96), .val (.ref b0_98), .val (.ref b0_100), .val (.long key), .second, .val (.int (f_lenOf key)), .val (.int (f_lenOf v1)), .unset, .unset, .unset] [(.long v1), (.int (f_lenOf key)), (.long key), (.int (8 : Int32)), (.ref b0_100)])) rfl (by rw [hml]; rfl) (argsL := [(.ref b0_100), (.int (8 : Int32)), (.long key), (.int (f_lenOf key)), (.long v1)]) (rest := []) (lenOf pd_10 rfl) rfl (by show 2 * 0 + _ ≤ _; exact Nat.le_of_eq rfl) (hb hby at_189) (fun _ _ => ⟨rfl, e110, (by decide : 4 + 0 ≤ _), (by decide : 106 + 0 ≤ _)⟩)
  dsimp only [Pt.U, Pt.locs, Pt.cells, Pt.slots] at X111 l111 y111 z111 st111 hQ111
  rw [l111, y111, z111] at X111
  clear l111 y111 z111
  obtain ⟨rfl, N111q, e111⟩ := hQ111
  have N111 := Fr.app M110 N111q
  refine Go.st st111 ?_
  obtain ⟨G111, Y111, M111⟩ : ∃ L, Stand p l e room_1 s m #[(.int v0), (.long v1)] below meth c T111 L 4 106 ∧ Fr n0 L := ⟨_, X111, N111⟩
  clear X111 N111
  show Go p e below s _ _ _ T111 (mkF m 192 #[.val (.int v0), .val (.long v1), .second, .val (.ref b96), .val (.ref b0_98), .val (.ref b0_100), .val (.long key), .second, .val (.int (f_lenOf key)), .val (.int (f_lenOf v1)), .unset, .unset, .unset] [(.int (1 : Int32))])
  refine G_ifNo Y111 hx (pc' := 195) rfl (hb hby at_192) ((if0 _ _).trans (feq (by decide : ¬ ((1 : Int32) = (0 : Int32)))).1) ?_
  refine G_aload Y111 hx (pc' := 197) rfl (hb hby at_195) rfl rfl ?_
  refine G_bipush Y111 hx (pc' := 199) rfl (hb hby at_197) (z := (9 : Int32)) rfl ?_
  refine G_lload Y111 hx (pc' := 201) rfl (hb hby at_199) rfl ?_
  refine G_iload Y111 hx (pc' := 203) rfl (hb hby at_201) rfl ?_
  refine G_lloadN Y111 hx (pc' := 204) rfl (hb hby at_203) rfl ?_
  obtain ⟨_, _, ⟨T112, L112, k112, n112⟩, -, X112, ⟨Lc112, hQ112, l112, y112, z112⟩, st112⟩ := Jvm.LawKit.callS Y111 hx (y := (⟨"com/example/muster/muster/WriterToByteArrayPinLaw", "check", "([BIJIJ)Z"⟩ : MethodName)) hown (mvT hZ (hw _ (List.mem_of_getElem? (i := 53) rfl))) (mvT hZ (hw _ (List.mem_of_getElem? (i := 54) rfl))) (mvT hZ (hw _ (List.mem_of_getElem? (i := 51) rfl))) (mvT hZ (hw _ (List.mem_of_getElem? (i := 55) rfl))) (by decide) (backOf (W := 0) (rm_check l Z a0 hw [] b0_100 (9 : Int32) key (f_lenOf key) v1 zs T100.heap n0 Z_100 p100_1 hzs rfl (by decide) (by decide)) hZ (hw _ (List.mem_of_getElem? (i := 55) rfl)) (hw _ (List.mem_of_getElem? (i := 51) rfl)) (by decide) (by decide)) (g := (mkF m 204 #[.val (.int v0), .val (.long v1), .second, .val (.ref b96), .val (.ref b0_98), .val (.ref b0_100), .val (.long key), .second, .val (.int (f_lenOf key)), .val (.int (f_lenOf v1)), .unset, .unset, .unset] [(.long v1), (.int (f_lenOf key)), (.long key), (.int (9 : Int32)), (.ref b0_100)])) rfl (by rw [hml]; rfl) (argsL := [(.ref b0_100), (.int (9 : Int32)), (.long key), (.int (f_lenOf key)), (.long v1)]) (rest := []) (lenOf pd_10 rfl) rfl (by show 2 * 0 + _ ≤ _; exact Nat.le_of_eq rfl) (hb hby at_204) (fun _ _ => ⟨rfl, e111, (by decide : 4 + 0 ≤ _), (by decide : 106 + 0 ≤ _)⟩)
  dsimp only [Pt.U, Pt.locs, Pt.cells, Pt.slots] at X112 l112 y112 z112 st112 hQ112
  rw [l112, y112, z112] at X112
  clear l112 y112 z112
  obtain ⟨rfl, N112q, e112⟩ := hQ112
  have N112 := Fr.app M111 N112q
  refine Go.st st112 ?_
  obtain ⟨G112, Y112, M112⟩ : ∃ L, Stand p l e room_1 s m #[(.int v0), (.long v1)] below meth c T112 L 4 106 ∧ Fr n0 L := ⟨_, X112, N112⟩
  clear X112 N112
  show Go p e below s _ _ _ T112 (mkF m 207 #[.val (.int v0), .val (.long v1), .second, .val (.ref b96), .val (.ref b0_98), .val (.ref b0_100), .val (.long key), .second, .val (.int (f_lenOf key)), .val (.int (f_lenOf v1)), .unset, .unset, .unset] [(.int (1 : Int32))])
  refine G_ifNo Y112 hx (pc' := 210) rfl (hb hby at_207) ((if0 _ _).trans (feq (by decide : ¬ ((1 : Int32) = (0 : Int32)))).1) ?_
  refine G_aload Y112 hx (pc' := 212) rfl (hb hby at_210) rfl rfl ?_
  refine G_bipush Y112 hx (pc' := 214) rfl (hb hby at_212) (z := (10 : Int32)) rfl ?_
  refine G_lload Y112 hx (pc' := 216) rfl (hb hby at_214) rfl ?_
  refine G_iload Y112 hx (pc' := 218) rfl (hb hby at_216) rfl ?_
  refine G_lloadN Y112 hx (pc' := 219) rfl (hb hby at_218) rfl ?_
  obtain ⟨_, _, ⟨T113, L113, k113, n113⟩, -, X113, ⟨Lc113, hQ113, l113, y113, z113⟩, st113⟩ := Jvm.LawKit.callS Y112 hx (y := (⟨"com/example/muster/muster/WriterToByteArrayPinLaw", "check", "([BIJIJ)Z"⟩ : MethodName)) hown (mvT hZ (hw _ (List.mem_of_getElem? (i := 53) rfl))) (mvT hZ (hw _ (List.mem_of_getElem? (i := 54) rfl))) (mvT hZ (hw _ (List.mem_of_getElem? (i := 51) rfl))) (mvT hZ (hw _ (List.mem_of_getElem? (i := 55) rfl))) (by decide) (backOf (W := 0) (rm_check l Z a0 hw [] b0_100 (10 : Int32) key (f_lenOf key) v1 zs T100.heap n0 Z_100 p100_1 hzs rfl (by decide) (by decide)) hZ (hw _ (List.mem_of_getElem? (i := 55) rfl)) (hw _ (List.mem_of_getElem? (i := 51) rfl)) (by decide) (by decide)) (g := (mkF m 219 #[.val (.int v0), .val (.long v1), .second, .val (.ref b96), .val (.ref b0_98), .val (.ref b0_100), .val (.long key), .second, .val (.int (f_lenOf key)), .val (.int (f_lenOf v1)), .unset, .unset, .unset] [(.long v1), (.int (f_lenOf key)), (.long key), (.int (10 : Int32)), (.ref b0_100)])) rfl (by rw [hml]; rfl) (argsL := [(.ref b0_100), (.int (10 : Int32)), (.long key), (.int (f_lenOf key)), (.long v1)]) (rest := []) (lenOf pd_10 rfl) rfl (by show 2 * 0 + _ ≤ _; exact Nat.le_of_eq rfl) (hb hby at_219) (fun _ _ => ⟨rfl, e112, (by decide : 4 + 0 ≤ _), (by decide : 106 + 0 ≤ _)⟩)
  dsimp only [Pt.U, Pt.locs, Pt.cells, Pt.slots] at X113 l113 y113 z113 st113 hQ113
  rw [l113, y113, z113] at X113
  clear l113 y113 z113
  obtain ⟨rfl, N113q, e113⟩ := hQ113
  have N113 := Fr.app M112 N113q
  refine Go.st st113 ?_
  obtain ⟨G113, Y113, M113⟩ : ∃ L, Stand p l e room_1 s m #[(.int v0), (.long v1)] below meth c T113 L 4 106 ∧ Fr n0 L := ⟨_, X113, N113⟩
  clear X113 N113
  show Go p e below s _ _ _ T113 (mkF m 222 #[.val (.int v0), .val (.long v1), .second, .val (.ref b96), .val (.ref b0_98), .val (.ref b0_100), .val (.long key), .second, .val (.int (f_lenOf key)), .val (.int (f_lenOf v1)), .unset, .unset, .unset] [(.int (1 : Int32))])
  refine G_ifNo Y113 hx (pc' := 225) rfl (hb hby at_222) ((if0 _ _).trans (feq (by decide : ¬ ((1 : Int32) = (0 : Int32)))).1) ?_
  refine G_aload Y113 hx (pc' := 227) rfl (hb hby at_225) rfl rfl ?_
  refine G_bipush Y113 hx (pc' := 229) rfl (hb hby at_227) (z := (11 : Int32)) rfl ?_
  refine G_lload Y113 hx (pc' := 231) rfl (hb hby at_229) rfl ?_
  refine G_iload Y113 hx (pc' := 233) rfl (hb hby at_231) rfl ?_
  refine G_lloadN Y113 hx (pc' := 234) rfl (hb hby at_233) rfl ?_
  obtain ⟨_, _, ⟨T114, L114, k114, n114⟩, -, X114, ⟨Lc114, hQ114, l114, y114, z114⟩, st114⟩ := Jvm.LawKit.callS Y113 hx (y := (⟨"com/example/muster/muster/WriterToByteArrayPinLaw", "check", "([BIJIJ)Z"⟩ : MethodName)) hown (mvT hZ (hw _ (List.mem_of_getElem? (i := 53) rfl))) (mvT hZ (hw _ (List.mem_of_getElem? (i := 54) rfl))) (mvT hZ (hw _ (List.mem_of_getElem? (i := 51) rfl))) (mvT hZ (hw _ (List.mem_of_getElem? (i := 55) rfl))) (by decide) (backOf (W := 0) (rm_check l Z a0 hw [] b0_100 (11 : Int32) key (f_lenOf key) v1 zs T100.heap n0 Z_100 p100_1 hzs rfl (by decide) (by decide)) hZ (hw _ (List.mem_of_getElem? (i := 55) rfl)) (hw _ (List.mem_of_getElem? (i := 51) rfl)) (by decide) (by decide)) (g := (mkF m 234 #[.val (.int v0), .val (.long v1), .second, .val (.ref b96), .val (.ref b0_98), .val (.ref b0_100), .val (.long key), .second, .val (.int (f_lenOf key)), .val (.int (f_lenOf v1)), .unset, .unset, .unset] [(.long v1), (.int (f_lenOf key)), (.long key), (.int (11 : Int32)), (.ref b0_100)])) rfl (by rw [hml]; rfl) (argsL := [(.ref b0_100), (.int (11 : Int32)), (.long key), (.int (f_lenOf key)), (.long v1)]) (rest := []) (lenOf pd_10 rfl) rfl (by show 2 * 0 + _ ≤ _; exact Nat.le_of_eq rfl) (hb hby at_234) (fun _ _ => ⟨rfl, e113, (by decide : 4 + 0 ≤ _), (by decide : 106 + 0 ≤ _)⟩)
  dsimp only [Pt.U, Pt.locs, Pt.cells, Pt.slots] at X114 l114 y114 z114 st114 hQ114
  rw [l114, y114, z114] at X114
  clear l114 y114 z114
  obtain ⟨rfl, N114q, e114⟩ := hQ114
  have N114 := Fr.app M113 N114q
  refine Go.st st114 ?_
  obtain ⟨G114, Y114, M114⟩ : ∃ L, Stand p l e room_1 s m #[(.int v0), (.long v1)] below meth c T114 L 4 106 ∧ Fr n0 L := ⟨_, X114, N114⟩
  clear X114 N114
  show Go p e below s _ _ _ T114 (mkF m 237 #[.val (.int v0), .val (.long v1), .second, .val (.ref b96), .val (.ref b0_98), .val (.ref b0_100), .val (.long key), .second, .val (.int (f_lenOf key)), .val (.int (f_lenOf v1)), .unset, .unset, .unset] [(.int (1 : Int32))])
  refine G_ifNo Y114 hx (pc' := 240) rfl (hb hby at_237) ((if0 _ _).trans (feq (by decide : ¬ ((1 : Int32) = (0 : Int32)))).1) ?_
  refine G_aload Y114 hx (pc' := 242) rfl (hb hby at_240) rfl rfl ?_
  refine G_bipush Y114 hx (pc' := 244) rfl (hb hby at_242) (z := (12 : Int32)) rfl ?_
  refine G_lload Y114 hx (pc' := 246) rfl (hb hby at_244) rfl ?_
  refine G_iload Y114 hx (pc' := 248) rfl (hb hby at_246) rfl ?_
  refine G_lloadN Y114 hx (pc' := 249) rfl (hb hby at_248) rfl ?_
  obtain ⟨_, _, ⟨T115, L115, k115, n115⟩, -, X115, ⟨Lc115, hQ115, l115, y115, z115⟩, st115⟩ := Jvm.LawKit.callS Y114 hx (y := (⟨"com/example/muster/muster/WriterToByteArrayPinLaw", "check", "([BIJIJ)Z"⟩ : MethodName)) hown (mvT hZ (hw _ (List.mem_of_getElem? (i := 53) rfl))) (mvT hZ (hw _ (List.mem_of_getElem? (i := 54) rfl))) (mvT hZ (hw _ (List.mem_of_getElem? (i := 51) rfl))) (mvT hZ (hw _ (List.mem_of_getElem? (i := 55) rfl))) (by decide) (backOf (W := 0) (rm_check l Z a0 hw [] b0_100 (12 : Int32) key (f_lenOf key) v1 zs T100.heap n0 Z_100 p100_1 hzs rfl (by decide) (by decide)) hZ (hw _ (List.mem_of_getElem? (i := 55) rfl)) (hw _ (List.mem_of_getElem? (i := 51) rfl)) (by decide) (by decide)) (g := (mkF m 249 #[.val (.int v0), .val (.long v1), .second, .val (.ref b96), .val (.ref b0_98), .val (.ref b0_100), .val (.long key), .second, .val (.int (f_lenOf key)), .val (.int (f_lenOf v1)), .unset, .unset, .unset] [(.long v1), (.int (f_lenOf key)), (.long key), (.int (12 : Int32)), (.ref b0_100)])) rfl (by rw [hml]; rfl) (argsL := [(.ref b0_100), (.int (12 : Int32)), (.long key), (.int (f_lenOf key)), (.long v1)]) (rest := []) (lenOf pd_10 rfl) rfl (by show 2 * 0 + _ ≤ _; exact Nat.le_of_eq rfl) (hb hby at_249) (fun _ _ => ⟨rfl, e114, (by decide : 4 + 0 ≤ _), (by decide : 106 + 0 ≤ _)⟩)
  dsimp only [Pt.U, Pt.locs, Pt.cells, Pt.slots] at X115 l115 y115 z115 st115 hQ115
  rw [l115, y115, z115] at X115
  clear l115 y115 z115
  obtain ⟨rfl, N115q, e115⟩ := hQ115
  have N115 := Fr.app M114 N115q
  refine Go.st st115 ?_
  obtain ⟨G115, Y115, M115⟩ : ∃ L, Stand p l e room_1 s m #[(.int v0), (.long v1)] below meth c T115 L 4 106 ∧ Fr n0 L := ⟨_, X115, N115⟩
  clear X115 N115
  show Go p e below s _ _ _ T115 (mkF m 252 #[.val (.int v0), .val (.long v1), .second, .val (.ref b96), .val (.ref b0_98), .val (.ref b0_100), .val (.long key), .second, .val (.int (f_lenOf key)), .val (.int (f_lenOf v1)), .unset, .unset, .unset] [(.int (1 : Int32))])
  refine G_ifNo Y115 hx (pc' := 255) rfl (hb hby at_252) ((if0 _ _).trans (feq (by decide : ¬ ((1 : Int32) = (0 : Int32)))).1) ?_
  refine G_aload Y115 hx (pc' := 257) rfl (hb hby at_255) rfl rfl ?_
  refine G_bipush Y115 hx (pc' := 259) rfl (hb hby at_257) (z := (13 : Int32)) rfl ?_
  refine G_lload Y115 hx (pc' := 261) rfl (hb hby at_259) rfl ?_
  refine G_iload Y115 hx (pc' := 263) rfl (hb hby at_261) rfl ?_
  refine G_lloadN Y115 hx (pc' := 264) rfl (hb hby at_263) rfl ?_
  obtain ⟨_, _, ⟨T116, L116, k116, n116⟩, -, X116, ⟨Lc116, hQ116, l116, y116, z116⟩, st116⟩ := Jvm.LawKit.callS Y115 hx (y := (⟨"com/example/muster/muster/WriterToByteArrayPinLaw", "check", "([BIJIJ)Z"⟩ : MethodName)) hown (mvT hZ (hw _ (List.mem_of_getElem? (i := 53) rfl))) (mvT hZ (hw _ (List.mem_of_getElem? (i := 54) rfl))) (mvT hZ (hw _ (List.mem_of_getElem? (i := 51) rfl))) (mvT hZ (hw _ (List.mem_of_getElem? (i := 55) rfl))) (by decide) (backOf (W := 0) (rm_check l Z a0 hw [] b0_100 (13 : Int32) key (f_lenOf key) v1 zs T100.heap n0 Z_100 p100_1 hzs rfl (by decide) (by decide)) hZ (hw _ (List.mem_of_getElem? (i := 55) rfl)) (hw _ (List.mem_of_getElem? (i := 51) rfl)) (by decide) (by decide)) (g := (mkF m 264 #[.val (.int v0), .val (.long v1), .second, .val (.ref b96), .val (.ref b0_98), .val (.ref b0_100), .val (.long key), .second, .val (.int (f_lenOf key)), .val (.int (f_lenOf v1)), .unset, .unset, .unset] [(.long v1), (.int (f_lenOf key)), (.long key), (.int (13 : Int32)), (.ref b0_100)])) rfl (by rw [hml]; rfl) (argsL := [(.ref b0_100), (.int (13 : Int32)), (.long key), (.int (f_lenOf key)), (.long v1)]) (rest := []) (lenOf pd_10 rfl) rfl (by show 2 * 0 + _ ≤ _; exact Nat.le_of_eq rfl) (hb hby at_264) (fun _ _ => ⟨rfl, e115, (by decide : 4 + 0 ≤ _), (by decide : 106 + 0 ≤ _)⟩)
  dsimp only [Pt.U, Pt.locs, Pt.cells, Pt.slots] at X116 l116 y116 z116 st116 hQ116
  rw [l116, y116, z116] at X116
  clear l116 y116 z116
  obtain ⟨rfl, N116q, e116⟩ := hQ116
  have N116 := Fr.app M115 N116q
  refine Go.st st116 ?_
  obtain ⟨G116, Y116, M116⟩ : ∃ L, Stand p l e room_1 s m #[(.int v0), (.long v1)] below meth c T116 L 4 106 ∧ Fr n0 L := ⟨_, X116, N116⟩
  clear X116 N116
  show Go p e below s _ _ _ T116 (mkF m 267 #[.val (.int v0), .val (.long v1), .second, .val (.ref b96), .val (.ref b0_98), .val (.ref b0_100), .val (.long key), .second, .val (.int (f_lenOf key)), .val (.int (f_lenOf v1)), .unset, .unset, .unset] [(.int (1 : Int32))])
  refine G_ifNo Y116 hx (pc' := 270) rfl (hb hby at_267) ((if0 _ _).trans (feq (by decide : ¬ ((1 : Int32) = (0 : Int32)))).1) ?_
  refine G_aload Y116 hx (pc' := 272) rfl (hb hby at_270) rfl rfl ?_
  refine G_bipush Y116 hx (pc' := 274) rfl (hb hby at_272) (z := (14 : Int32)) rfl ?_
  refine G_lload Y116 hx (pc' := 276) rfl (hb hby at_274) rfl ?_
  refine G_iload Y116 hx (pc' := 278) rfl (hb hby at_276) rfl ?_
  refine G_lloadN Y116 hx (pc' := 279) rfl (hb hby at_278) rfl ?_
  obtain ⟨_, _, ⟨T117, L117, k117, n117⟩, -, X117, ⟨Lc117, hQ117, l117, y117, z117⟩, st117⟩ := Jvm.LawKit.callS Y116 hx (y := (⟨"com/example/muster/muster/WriterToByteArrayPinLaw", "check", "([BIJIJ)Z"⟩ : MethodName)) hown (mvT hZ (hw _ (List.mem_of_getElem? (i := 53) rfl))) (mvT hZ (hw _ (List.mem_of_getElem? (i := 54) rfl))) (mvT hZ (hw _ (List.mem_of_getElem? (i := 51) rfl))) (mvT hZ (hw _ (List.mem_of_getElem? (i := 55) rfl))) (by decide) (backOf (W := 0) (rm_check l Z a0 hw [] b0_100 (14 : Int32) key (f_lenOf key) v1 zs T100.heap n0 Z_100 p100_1 hzs rfl (by decide) (by decide)) hZ (hw _ (List.mem_of_getElem? (i := 55) rfl)) (hw _ (List.mem_of_getElem? (i := 51) rfl)) (by decide) (by decide)) (g := (mkF m 279 #[.val (.int v0), .val (.long v1), .second, .val (.ref b96), .val (.ref b0_98), .val (.ref b0_100), .val (.long key), .second, .val (.int (f_lenOf key)), .val (.int (f_lenOf v1)), .unset, .unset, .unset] [(.long v1), (.int (f_lenOf key)), (.long key), (.int (14 : Int32)), (.ref b0_100)])) rfl (by rw [hml]; rfl) (argsL := [(.ref b0_100), (.int (14 : Int32)), (.long key), (.int (f_lenOf key)), (.long v1)]) (rest := []) (lenOf pd_10 rfl) rfl (by show 2 * 0 + _ ≤ _; exact Nat.le_of_eq rfl) (hb hby at_279) (fun _ _ => ⟨rfl, e116, (by decide : 4 + 0 ≤ _), (by decide : 106 + 0 ≤ _)⟩)
  dsimp only [Pt.U, Pt.locs, Pt.cells, Pt.slots] at X117 l117 y117 z117 st117 hQ117
  rw [l117, y117, z117] at X117
  clear l117 y117 z117
  obtain ⟨rfl, N117q, e117⟩ := hQ117
  have N117 := Fr.app M116 N117q
  refine Go.st st117 ?_
  obtain ⟨G117, Y117, M117⟩ : ∃ L, Stand p l e room_1 s m #[(.int v0), (.long v1)] below meth c T117 L 4 106 ∧ Fr n0 L := ⟨_, X117, N117⟩
  clear X117 N117
  show Go p e below s _ _ _ T117 (mkF m 282 #[.val (.int v0), .val (.long v1), .second, .val (.ref b96), .val (.ref b0_98), .val (.ref b0_100), .val (.long key), .second, .val (.int (f_lenOf key)), .val (.int (f_lenOf v1)), .unset, .unset, .unset] [(.int (1 : Int32))])
  refine G_ifNo Y117 hx (pc' := 285) rfl (hb hby at_282) ((if0 _ _).trans (feq (by decide : ¬ ((1 : Int32) = (0 : Int32)))).1) ?_
  refine G_aload Y117 hx (pc' := 287) rfl (hb hby at_285) rfl rfl ?_
  refine G_bipush Y117 hx (pc' := 289) rfl (hb hby at_287) (z := (15 : Int32)) rfl ?_
  refine G_lload Y117 hx (pc' := 291) rfl (hb hby at_289) rfl ?_
  refine G_iload Y117 hx (pc' := 293) rfl (hb hby at_291) rfl ?_
  refine G_lloadN Y117 hx (pc' := 294) rfl (hb hby at_293) rfl ?_
  obtain ⟨_, _, ⟨T118, L118, k118, n118⟩, -, X118, ⟨Lc118, hQ118, l118, y118, z118⟩, st118⟩ := Jvm.LawKit.callS Y117 hx (y := (⟨"com/example/muster/muster/WriterToByteArrayPinLaw", "check", "([BIJIJ)Z"⟩ : MethodName)) hown (mvT hZ (hw _ (List.mem_of_getElem? (i := 53) rfl))) (mvT hZ (hw _ (List.mem_of_getElem? (i := 54) rfl))) (mvT hZ (hw _ (List.mem_of_getElem? (i := 51) rfl))) (mvT hZ (hw _ (List.mem_of_getElem? (i := 55) rfl))) (by decide) (backOf (W := 0) (rm_check l Z a0 hw [] b0_100 (15 : Int32) key (f_lenOf key) v1 zs T100.heap n0 Z_100 p100_1 hzs rfl (by decide) (by decide)) hZ (hw _ (List.mem_of_getElem? (i := 55) rfl)) (hw _ (List.mem_of_getElem? (i := 51) rfl)) (by decide) (by decide)) (g := (mkF m 294 #[.val (.int v0), .val (.long v1), .second, .val (.ref b96), .val (.ref b0_98), .val (.ref b0_100), .val (.long key), .second, .val (.int (f_lenOf key)), .val (.int (f_lenOf v1)), .unset, .unset, .unset] [(.long v1), (.int (f_lenOf key)), (.long key), (.int (15 : Int32)), (.ref b0_100)])) rfl (by rw [hml]; rfl) (argsL := [(.ref b0_100), (.int (15 : Int32)), (.long key), (.int (f_lenOf key)), (.long v1)]) (rest := []) (lenOf pd_10 rfl) rfl (by show 2 * 0 + _ ≤ _; exact Nat.le_of_eq rfl) (hb hby at_294) (fun _ _ => ⟨rfl, e117, (by decide : 4 + 0 ≤ _), (by decide : 106 + 0 ≤ _)⟩)
  dsimp only [Pt.U, Pt.locs, Pt.cells, Pt.slots] at X118 l118 y118 z118 st118 hQ118
  rw [l118, y118, z118] at X118
  clear l118 y118 z118
  obtain ⟨rfl, N118q, e118⟩ := hQ118
  have N118 := Fr.app M117 N118q
  refine Go.st st118 ?_
  obtain ⟨G118, Y118, M118⟩ : ∃ L, Stand p l e room_1 s m #[(.int v0), (.long v1)] below meth c T118 L 4 106 ∧ Fr n0 L := ⟨_, X118, N118⟩
  clear X118 N118
  show Go p e below s _ _ _ T118 (mkF m 297 #[.val (.int v0), .val (.long v1), .second, .val (.ref b96), .val (.ref b0_98), .val (.ref b0_100), .val (.long key), .second, .val (.int (f_lenOf key)), .val (.int (f_lenOf v1)), .unset, .unset, .unset] [(.int (1 : Int32))])
  refine G_ifNo Y118 hx (pc' := 300) rfl (hb hby at_297) ((if0 _ _).trans (feq (by decide : ¬ ((1 : Int32) = (0 : Int32)))).1) ?_
  refine G_aload Y118 hx (pc' := 302) rfl (hb hby at_300) rfl rfl ?_
  refine G_bipush Y118 hx (pc' := 304) rfl (hb hby at_302) (z := (16 : Int32)) rfl ?_
  refine G_lload Y118 hx (pc' := 306) rfl (hb hby at_304) rfl ?_
  refine G_iload Y118 hx (pc' := 308) rfl (hb hby at_306) rfl ?_
  refine G_lloadN Y118 hx (pc' := 309) rfl (hb hby at_308) rfl ?_
  obtain ⟨_, _, ⟨T119, L119, k119, n119⟩, -, X119, ⟨Lc119, hQ119, l119, y119, z119⟩, st119⟩ := Jvm.LawKit.callS Y118 hx (y := (⟨"com/example/muster/muster/WriterToByteArrayPinLaw", "check", "([BIJIJ)Z"⟩ : MethodName)) hown (mvT hZ (hw _ (List.mem_of_getElem? (i := 53) rfl))) (mvT hZ (hw _ (List.mem_of_getElem? (i := 54) rfl))) (mvT hZ (hw _ (List.mem_of_getElem? (i := 51) rfl))) (mvT hZ (hw _ (List.mem_of_getElem? (i := 55) rfl))) (by decide) (backOf (W := 0) (rm_check l Z a0 hw [] b0_100 (16 : Int32) key (f_lenOf key) v1 zs T100.heap n0 Z_100 p100_1 hzs rfl (by decide) (by decide)) hZ (hw _ (List.mem_of_getElem? (i := 55) rfl)) (hw _ (List.mem_of_getElem? (i := 51) rfl)) (by decide) (by decide)) (g := (mkF m 309 #[.val (.int v0), .val (.long v1), .second, .val (.ref b96), .val (.ref b0_98), .val (.ref b0_100), .val (.long key), .second, .val (.int (f_lenOf key)), .val (.int (f_lenOf v1)), .unset, .unset, .unset] [(.long v1), (.int (f_lenOf key)), (.long key), (.int (16 : Int32)), (.ref b0_100)])) rfl (by rw [hml]; rfl) (argsL := [(.ref b0_100), (.int (16 : Int32)), (.long key), (.int (f_lenOf key)), (.long v1)]) (rest := []) (lenOf pd_10 rfl) rfl (by show 2 * 0 + _ ≤ _; exact Nat.le_of_eq rfl) (hb hby at_309) (fun _ _ => ⟨rfl, e118, (by decide : 4 + 0 ≤ _), (by decide : 106 + 0 ≤ _)⟩)
  dsimp only [Pt.U, Pt.locs, Pt.cells, Pt.slots] at X119 l119 y119 z119 st119 hQ119
  rw [l119, y119, z119] at X119
  clear l119 y119 z119
  obtain ⟨rfl, N119q, e119⟩ := hQ119
  have N119 := Fr.app M118 N119q
  refine Go.st st119 ?_
  obtain ⟨G119, Y119, M119⟩ : ∃ L, Stand p l e room_1 s m #[(.int v0), (.long v1)] below meth c T119 L 4 106 ∧ Fr n0 L := ⟨_, X119, N119⟩
  clear X119 N119
  show Go p e below s _ _ _ T119 (mkF m 312 #[.val (.int v0), .val (.long v1), .second, .val (.ref b96), .val (.ref b0_98), .val (.ref b0_100), .val (.long key), .second, .val (.int (f_lenOf key)), .val (.int (f_lenOf v1)), .unset, .unset, .unset] [(.int (1 : Int32))])
  refine G_ifNo Y119 hx (pc' := 315) rfl (hb hby at_312) ((if0 _ _).trans (feq (by decide : ¬ ((1 : Int32) = (0 : Int32)))).1) ?_
  refine G_aload Y119 hx (pc' := 317) rfl (hb hby at_315) rfl rfl ?_
  refine G_bipush Y119 hx (pc' := 319) rfl (hb hby at_317) (z := (17 : Int32)) rfl ?_
  refine G_lload Y119 hx (pc' := 321) rfl (hb hby at_319) rfl ?_
  refine G_iload Y119 hx (pc' := 323) rfl (hb hby at_321) rfl ?_
  refine G_lloadN Y119 hx (pc' := 324) rfl (hb hby at_323) rfl ?_
  obtain ⟨_, _, ⟨T120, L120, k120, n120⟩, -, X120, ⟨Lc120, hQ120, l120, y120, z120⟩, st120⟩ := Jvm.LawKit.callS Y119 hx (y := (⟨"com/example/muster/muster/WriterToByteArrayPinLaw", "check", "([BIJIJ)Z"⟩ : MethodName)) hown (mvT hZ (hw _ (List.mem_of_getElem? (i := 53) rfl))) (mvT hZ (hw _ (List.mem_of_getElem? (i := 54) rfl))) (mvT hZ (hw _ (List.mem_of_getElem? (i := 51) rfl))) (mvT hZ (hw _ (List.mem_of_getElem? (i := 55) rfl))) (by decide) (backOf (W := 0) (rm_check l Z a0 hw [] b0_100 (17 : Int32) key (f_lenOf key) v1 zs T100.heap n0 Z_100 p100_1 hzs rfl (by decide) (by decide)) hZ (hw _ (List.mem_of_getElem? (i := 55) rfl)) (hw _ (List.mem_of_getElem? (i := 51) rfl)) (by decide) (by decide)) (g := (mkF m 324 #[.val (.int v0), .val (.long v1), .second, .val (.ref b96), .val (.ref b0_98), .val (.ref b0_100), .val (.long key), .second, .val (.int (f_lenOf key)), .val (.int (f_lenOf v1)), .unset, .unset, .unset] [(.long v1), (.int (f_lenOf key)), (.long key), (.int (17 : Int32)), (.ref b0_100)])) rfl (by rw [hml]; rfl) (argsL := [(.ref b0_100), (.int (17 : Int32)), (.long key), (.int (f_lenOf key)), (.long v1)]) (rest := []) (lenOf pd_10 rfl) rfl (by show 2 * 0 + _ ≤ _; exact Nat.le_of_eq rfl) (hb hby at_324) (fun _ _ => ⟨rfl, e119, (by decide : 4 + 0 ≤ _), (by decide : 106 + 0 ≤ _)⟩)
  dsimp only [Pt.U, Pt.locs, Pt.cells, Pt.slots] at X120 l120 y120 z120 st120 hQ120
  rw [l120, y120, z120] at X120
  clear l120 y120 z120
  obtain ⟨rfl, N120q, e120⟩ := hQ120
  have N120 := Fr.app M119 N120q
  refine Go.st st120 ?_
  obtain ⟨G120, Y120, M120⟩ : ∃ L, Stand p l e room_1 s m #[(.int v0), (.long v1)] below meth c T120 L 4 106 ∧ Fr n0 L := ⟨_, X120, N120⟩
  clear X120 N120
  show Go p e below s _ _ _ T120 (mkF m 327 #[.val (.int v0), .val (.long v1), .second, .val (.ref b96), .val (.ref b0_98), .val (.ref b0_100), .val (.long key), .second, .val (.int (f_lenOf key)), .val (.int (f_lenOf v1)), .unset, .unset, .unset] [(.int (1 : Int32))])
  refine G_ifNo Y120 hx (pc' := 330) rfl (hb hby at_327) ((if0 _ _).trans (feq (by decide : ¬ ((1 : Int32) = (0 : Int32)))).1) ?_
  refine G_aload Y120 hx (pc' := 332) rfl (hb hby at_330) rfl rfl ?_
  refine G_bipush Y120 hx (pc' := 334) rfl (hb hby at_332) (z := (18 : Int32)) rfl ?_
  refine G_lload Y120 hx (pc' := 336) rfl (hb hby at_334) rfl ?_
  refine G_iload Y120 hx (pc' := 338) rfl (hb hby at_336) rfl ?_
  refine G_lloadN Y120 hx (pc' := 339) rfl (hb hby at_338) rfl ?_
  obtain ⟨_, _, ⟨T121, L121, k121, n121⟩, -, X121, ⟨Lc121, hQ121, l121, y121, z121⟩, st121⟩ := Jvm.LawKit.callS Y120 hx (y := (⟨"com/example/muster/muster/WriterToByteArrayPinLaw", "check", "([BIJIJ)Z"⟩ : MethodName)) hown (mvT hZ (hw _ (List.mem_of_getElem? (i := 53) rfl))) (mvT hZ (hw _ (List.mem_of_getElem? (i := 54) rfl))) (mvT hZ (hw _ (List.mem_of_getElem? (i := 51) rfl))) (mvT hZ (hw _ (List.mem_of_getElem? (i := 55) rfl))) (by decide) (backOf (W := 0) (rm_check l Z a0 hw [] b0_100 (18 : Int32) key (f_lenOf key) v1 zs T100.heap n0 Z_100 p100_1 hzs rfl (by decide) (by decide)) hZ (hw _ (List.mem_of_getElem? (i := 55) rfl)) (hw _ (List.mem_of_getElem? (i := 51) rfl)) (by decide) (by decide)) (g := (mkF m 339 #[.val (.int v0), .val (.long v1), .second, .val (.ref b96), .val (.ref b0_98), .val (.ref b0_100), .val (.long key), .second, .val (.int (f_lenOf key)), .val (.int (f_lenOf v1)), .unset, .unset, .unset] [(.long v1), (.int (f_lenOf key)), (.long key), (.int (18 : Int32)), (.ref b0_100)])) rfl (by rw [hml]; rfl) (argsL := [(.ref b0_100), (.int (18 : Int32)), (.long key), (.int (f_lenOf key)), (.long v1)]) (rest := []) (lenOf pd_10 rfl) rfl (by show 2 * 0 + _ ≤ _; exact Nat.le_of_eq rfl) (hb hby at_339) (fun _ _ => ⟨rfl, e120, (by decide : 4 + 0 ≤ _), (by decide : 106 + 0 ≤ _)⟩)
  dsimp only [Pt.U, Pt.locs, Pt.cells, Pt.slots] at X121 l121 y121 z121 st121 hQ121
  rw [l121, y121, z121] at X121
  clear l121 y121 z121
  obtain ⟨rfl, N121q, e121⟩ := hQ121
  have N121 := Fr.app M120 N121q
  refine Go.st st121 ?_
  obtain ⟨G121, Y121, M121⟩ : ∃ L, Stand p l e room_1 s m #[(.int v0), (.long v1)] below meth c T121 L 4 106 ∧ Fr n0 L := ⟨_, X121, N121⟩
  clear X121 N121
  show Go p e below s _ _ _ T121 (mkF m 342 #[.val (.int v0), .val (.long v1), .second, .val (.ref b96), .val (.ref b0_98), .val (.ref b0_100), .val (.long key), .second, .val (.int (f_lenOf key)), .val (.int (f_lenOf v1)), .unset, .unset, .unset] [(.int (1 : Int32))])
  refine G_ifNo Y121 hx (pc' := 345) rfl (hb hby at_342) ((if0 _ _).trans (feq (by decide : ¬ ((1 : Int32) = (0 : Int32)))).1) ?_
  refine G_aload Y121 hx (pc' := 347) rfl (hb hby at_345) rfl rfl ?_
  refine G_bipush Y121 hx (pc' := 349) rfl (hb hby at_347) (z := (19 : Int32)) rfl ?_
  refine G_lload Y121 hx (pc' := 351) rfl (hb hby at_349) rfl ?_
  refine G_iload Y121 hx (pc' := 353) rfl (hb hby at_351) rfl ?_
  refine G_lloadN Y121 hx (pc' := 354) rfl (hb hby at_353) rfl ?_
  obtain ⟨_, _, ⟨T122, L122, k122, n122⟩, -, X122, ⟨Lc122, hQ122, l122, y122, z122⟩, st122⟩ := Jvm.LawKit.callS Y121 hx (y := (⟨"com/example/muster/muster/WriterToByteArrayPinLaw", "check", "([BIJIJ)Z"⟩ : MethodName)) hown (mvT hZ (hw _ (List.mem_of_getElem? (i := 53) rfl))) (mvT hZ (hw _ (List.mem_of_getElem? (i := 54) rfl))) (mvT hZ (hw _ (List.mem_of_getElem? (i := 51) rfl))) (mvT hZ (hw _ (List.mem_of_getElem? (i := 55) rfl))) (by decide) (backOf (W := 0) (rm_check l Z a0 hw [] b0_100 (19 : Int32) key (f_lenOf key) v1 zs T100.heap n0 Z_100 p100_1 hzs rfl (by decide) (by decide)) hZ (hw _ (List.mem_of_getElem? (i := 55) rfl)) (hw _ (List.mem_of_getElem? (i := 51) rfl)) (by decide) (by decide)) (g := (mkF m 354 #[.val (.int v0), .val (.long v1), .second, .val (.ref b96), .val (.ref b0_98), .val (.ref b0_100), .val (.long key), .second, .val (.int (f_lenOf key)), .val (.int (f_lenOf v1)), .unset, .unset, .unset] [(.long v1), (.int (f_lenOf key)), (.long key), (.int (19 : Int32)), (.ref b0_100)])) rfl (by rw [hml]; rfl) (argsL := [(.ref b0_100), (.int (19 : Int32)), (.long key), (.int (f_lenOf key)), (.long v1)]) (rest := []) (lenOf pd_10 rfl) rfl (by show 2 * 0 + _ ≤ _; exact Nat.le_of_eq rfl) (hb hby at_354) (fun _ _ => ⟨rfl, e121, (by decide : 4 + 0 ≤ _), (by decide : 106 + 0 ≤ _)⟩)
  dsimp only [Pt.U, Pt.locs, Pt.cells, Pt.slots] at X122 l122 y122 z122 st122 hQ122
  rw [l122, y122, z122] at X122
  clear l122 y122 z122
  obtain ⟨rfl, N122q, e122⟩ := hQ122
  have N122 := Fr.app M121 N122q
  refine Go.st st122 ?_
  obtain ⟨G122, Y122, M122⟩ : ∃ L, Stand p l e room_1 s m #[(.int v0), (.long v1)] below meth c T122 L 4 106 ∧ Fr n0 L := ⟨_, X122, N122⟩
  clear X122 N122
  show Go p e below s _ _ _ T122 (mkF m 357 #[.val (.int v0), .val (.long v1), .second, .val (.ref b96), .val (.ref b0_98), .val (.ref b0_100), .val (.long key), .second, .val (.int (f_lenOf key)), .val (.int (f_lenOf v1)), .unset, .unset, .unset] [(.int (1 : Int32))])
  refine G_ifNo Y122 hx (pc' := 360) rfl (hb hby at_357) ((if0 _ _).trans (feq (by decide : ¬ ((1 : Int32) = (0 : Int32)))).1) ?_
  refine G_iconst Y122 hx (pc' := 361) rfl (hb hby at_360) (z := (1 : Int32)) rfl ?_
  refine G_goto Y122 hx (pc' := 365) (hb hby at_361)  (by decide) (by decide) ?_
  refine G_istore Y122 hx (pc' := 367) rfl (hb hby at_365) (L' := #[.val (.int v0), .val (.long v1), .second, .val (.ref b96), .val (.ref b0_98), .val (.ref b0_100), .val (.long key), .second, .val (.int (f_lenOf key)), .val (.int (f_lenOf v1)), .val (.int (1 : Int32)), .unset, .unset]) rfl ?_
  refine G_iload Y122 hx (pc' := 369) rfl (hb hby at_367) rfl ?_
  refine G_ifYes Y122 hx (pc' := 374) (hb hby at_369) ((if0 _ _).trans (feq (by decide : ¬ ((1 : Int32) = (0 : Int32)))).2) (by decide) (by decide) ?_
  refine G_aload Y122 hx (pc' := 376) rfl (hb hby at_374) rfl rfl ?_
  refine G_iconst Y122 hx (pc' := 377) rfl (hb hby at_376) (z := (0 : Int32)) rfl ?_
  refine G_aload Y122 hx (pc' := 379) rfl (hb hby at_377) rfl rfl ?_
  refine G_iconst Y122 hx (pc' := 380) rfl (hb hby at_379) (z := (0 : Int32)) rfl ?_
  refine Go.st (ldAB Y122 hx hZ e122 p100_1 (j := (0 : Int32)) (by decide) (own_z0 hzs) (g := (mkF m 380 #[.val (.int v0), .val (.long v1), .second, .val (.ref b96), .val (.ref b0_98), .val (.ref b0_100), .val (.long key), .second, .val (.int (f_lenOf key)), .val (.int (f_lenOf v1)), .val (.int (1 : Int32)), .unset, .unset] [(.int (0 : Int32)), (.ref b0_100), (.int (0 : Int32)), (.ref b0_100)])) rfl rfl (hb hby at_380)) ?_
  show Go p e below s _ _ _ T122 (mkF m 381 #[.val (.int v0), .val (.long v1), .second, .val (.ref b96), .val (.ref b0_98), .val (.ref b0_100), .val (.long key), .second, .val (.int (f_lenOf key)), .val (.int (f_lenOf v1)), .val (.int (1 : Int32)), .unset, .unset] [(.int (zs.getD 0 0)), (.int (0 : Int32)), (.ref b0_100)])
  refine G_iconst Y122 hx (pc' := 382) rfl (hb hby at_381) (z := (1 : Int32)) rfl ?_
  refine G_ixor Y122 hx (pc' := 383) rfl (hb hby at_382)  ?_
  refine G_i2b Y122 hx (pc' := 384) rfl (hb hby at_383)  ?_
  obtain ⟨T123, h123, X123, e123, W123, A123, st123⟩ := stABn Y122 hx hZ e122 p100_1 (j := (0 : Int32)) (by decide) (own_z0 hzs) (g := (mkF m 384 #[.val (.int v0), .val (.long v1), .second, .val (.ref b96), .val (.ref b0_98), .val (.ref b0_100), .val (.long key), .second, .val (.int (f_lenOf key)), .val (.int (f_lenOf v1)), .val (.int (1 : Int32)), .unset, .unset] [(.int (((zs.getD 0 0) ^^^ (1 : Int32)).toInt8.toInt32)), (.int (0 : Int32)), (.ref b0_100)])) rfl rfl (hb hby at_384)
  refine Go.st st123 ?_
  have E_b0_97_123 := E_b0_97_100.wr W123
  have E_b0_98_123 := E_b0_98_100.wr W123
  have A_b0_98_123 := A_b0_98_100.other W123 ne_b0_98_b0_100
  have E_b96_123 := E_b96_100.wr W123
  have F_b96_bytes_123 := F_b96_bytes_100.other W123 (Or.inl ne_b96_b0_100)
  have F_b96_size_123 := F_b96_size_100.other W123 (Or.inl ne_b96_b0_100)
  have A_b0_97_123 := A_b0_97_100.other W123 ne_b0_97_b0_100
  have E_b0_100_123 := p100_0.wr W123
  have A_b0_100_123 : AI Z h123 b0_100 .byte (zs.set 0 (((zs.getD 0 0) ^^^ (1 : Int32)).toInt8.toInt32)) := A123
  have K_123 : Keep h0 h123 [] := K_100.wr W123 (Or.inr sz_b0_100)
  have Z_123 : n0 ≤ h123.size := Nat.le_trans Z0 K_123.1
  have N123 := Fr.snoc X123 M122 g_b0_100
  clear E_b0_97_100 E_b0_98_100 A_b0_98_100 E_b96_100 F_b96_bytes_100 F_b96_size_100 A_b0_97_100 p100_0 p100_1 W123 st123 A123
  obtain ⟨G123, Y123, M123⟩ : ∃ L, Stand p l e room_1 s m #[(.int v0), (.long v1)] below meth c T123 L 4 106 ∧ Fr n0 L := ⟨_, X123, N123⟩
  clear X123 N123
  show Go p e below s _ _ _ T123 (mkF m 385 #[.val (.int v0), .val (.long v1), .second, .val (.ref b96), .val (.ref b0_98), .val (.ref b0_100), .val (.long key), .second, .val (.int (f_lenOf key)), .val (.int (f_lenOf v1)), .val (.int (1 : Int32)), .unset, .unset] [])
  refine G_aloadN Y123 hx (pc' := 386) rfl (hb hby at_385) rfl rfl ?_
  obtain ⟨cq124, kq124, q124a, q124b, q124c⟩ := isOf hZ e123 E_b96_123
  obtain ⟨_, _, ⟨T124, L124, k124, n124⟩, -, X124, ⟨Lc124, hQ124, l124, y124, z124⟩, st124⟩ := Y123.virtualBack hx (y := (⟨"com/example/muster/muster/Protobuf$Writer", "toByteArray", "()[B"⟩ : MethodName)) (z := (⟨"com/example/muster/muster/Protobuf$Writer", "toByteArray", "()[B"⟩ : MethodName)) hown (mvT hZ (hw _ (List.mem_of_getElem? (i := 12) rfl))) (mvT hZ (hw _ (List.mem_of_getElem? (i := 13) rfl))) (notFace_of_selects (args := #[]) (mvT hZ (hw _ (List.mem_of_getElem? (i := 15) rfl)))) (mvT hZ (hw _ (List.mem_of_getElem? (i := 15) rfl))) (mvT hZ (hw _ (List.mem_of_getElem? (i := 14) rfl))) (by decide) (backOf (W := 0) (rm_toBA l Z a0 hw [] b96 b0_97 zs r2 h123 n0 Z_123 F_b96_bytes_123 F_b96_size_123 A_b0_97_123 hl2 hz20) hZ (hw _ (List.mem_of_getElem? (i := 16) rfl)) (hw _ (List.mem_of_getElem? (i := 2) rfl)) (by decide) (by decide)) q124a q124c (g := (mkF m 386 #[.val (.int v0), .val (.long v1), .second, .val (.ref b96), .val (.ref b0_98), .val (.ref b0_100), .val (.long key), .second, .val (.int (f_lenOf key)), .val (.int (f_lenOf v1)), .val (.int (1 : Int32)), .unset, .unset] [(.ref b96)])) rfl (by rw [hml]; rfl) (Steps.refl _) (argsL := []) (rest := []) (lenOf pd_8 rfl) rfl (by show 2 * 0 + _ ≤ _; exact Nat.le_of_eq rfl) (hb hby at_386) (fun _ _ => ⟨rfl, e123, (by decide : 4 + 1 ≤ _), (by decide : 106 + 20 ≤ _)⟩)
  dsimp only [Pt.U, Pt.locs, Pt.cells, Pt.slots] at X124 l124 y124 z124 st124 hQ124
  rw [l124, y124, z124] at X124
  clear l124 y124 z124
  obtain ⟨b0_124, rfl, N124q, K124, le_b0_124, p124_0, p124_1⟩ := hQ124
  have N124 := Fr.app M123 N124q
  refine Go.st (fun _ k => st124.trans k) ?_
  have ne_b0_100_b0_124 : b0_100 ≠ b0_124 := Nat.ne_of_lt (Nat.lt_of_lt_of_le E_b0_100_123.lt le_b0_124)
  have ne_b0_97_b0_124 : b0_97 ≠ b0_124 := Nat.ne_of_lt (Nat.lt_of_lt_of_le E_b0_97_123.lt le_b0_124)
  have ne_b0_98_b0_124 : b0_98 ≠ b0_124 := Nat.ne_of_lt (Nat.lt_of_lt_of_le E_b0_98_123.lt le_b0_124)
  have ne_b96_b0_124 : b96 ≠ b0_124 := Nat.ne_of_lt (Nat.lt_of_lt_of_le E_b96_123.lt le_b0_124)
  have g_b0_124 : n0 ≤ b0_124 := Nat.le_trans Z_123 le_b0_124
  have sz_b0_124 : h0.size ≤ b0_124 := Nat.le_trans K_123.1 le_b0_124
  have E_b0_97_124 := E_b0_97_123.keep K124
  have E_b0_98_124 := E_b0_98_123.keep K124
  have A_b0_98_124 := A_b0_98_123.keep K124 nin0
  have E_b96_124 := E_b96_123.keep K124
  have F_b96_bytes_124 := F_b96_bytes_123.keep K124 nin0
  have F_b96_size_124 := F_b96_size_123.keep K124 nin0
  have A_b0_97_124 := A_b0_97_123.keep K124 nin0
  have E_b0_100_124 := E_b0_100_123.keep K124
  have A_b0_100_124 := A_b0_100_123.keep K124 nin0
  have K_124 : Keep h0 T124.heap [] := K_123.trans K124 all0
  have Z_124 : n0 ≤ T124.heap.size := Nat.le_trans Z0 K_124.1
  clear E_b0_97_123 E_b0_98_123 A_b0_98_123 E_b96_123 F_b96_bytes_123 F_b96_size_123 A_b0_97_123 E_b0_100_123 A_b0_100_123 st124 K124
  obtain ⟨G124, Y124, M124⟩ : ∃ L, Stand p l e room_1 s m #[(.int v0), (.long v1)] below meth c T124 L 5 126 ∧ Fr n0 L := ⟨_, X124, N124⟩
  clear X124 N124
  show Go p e below s _ _ _ T124 (mkF m 389 #[.val (.int v0), .val (.long v1), .second, .val (.ref b96), .val (.ref b0_98), .val (.ref b0_100), .val (.long key), .second, .val (.int (f_lenOf key)), .val (.int (f_lenOf v1)), .val (.int (1 : Int32)), .unset, .unset] [(.ref b0_124)])
  refine G_astore Y124 hx (pc' := 391) rfl (hb hby at_389) rfl (L' := #[.val (.int v0), .val (.long v1), .second, .val (.ref b96), .val (.ref b0_98), .val (.ref b0_100), .val (.long key), .second, .val (.int (f_lenOf key)), .val (.int (f_lenOf v1)), .val (.int (1 : Int32)), .val (.ref b0_124), .unset]) rfl ?_
  refine G_aload Y124 hx (pc' := 393) rfl (hb hby at_391) rfl rfl ?_
  refine Go.st (lenAI Y124 hx hZ rfl p124_1 (g := (mkF m 393 #[.val (.int v0), .val (.long v1), .second, .val (.ref b96), .val (.ref b0_98), .val (.ref b0_100), .val (.long key), .second, .val (.int (f_lenOf key)), .val (.int (f_lenOf v1)), .val (.int (1 : Int32)), .val (.ref b0_124), .unset] [(.ref b0_124)])) rfl rfl (hb hby at_393)) ?_
  show Go p e below s _ _ _ T124 (mkF m 394 #[.val (.int v0), .val (.long v1), .second, .val (.ref b96), .val (.ref b0_98), .val (.ref b0_100), .val (.long key), .second, .val (.int (f_lenOf key)), .val (.int (f_lenOf v1)), .val (.int (1 : Int32)), .val (.ref b0_124), .unset] [(.int (Int32.ofNat (zs).length))])
  refine G_iload Y124 hx (pc' := 396) rfl (hb hby at_394) rfl ?_
  refine G_iload Y124 hx (pc' := 398) rfl (hb hby at_396) rfl ?_
  refine G_iadd Y124 hx (pc' := 399) rfl (hb hby at_398)  ?_
  refine G_icmpNo Y124 hx (pc' := 402) rfl (hb hby at_399) (teq ((own_tot hzs) : (Int32.ofNat (zs).length) = ((f_lenOf key) + (f_lenOf v1)))).2 ?_
  refine G_aload Y124 hx (pc' := 404) rfl (hb hby at_402) rfl rfl ?_
  refine G_iconst Y124 hx (pc' := 405) rfl (hb hby at_404) (z := (0 : Int32)) rfl ?_
  refine Go.st (ldAB Y124 hx hZ rfl p124_1 (j := (0 : Int32)) (by decide) (own_z0 hzs) (g := (mkF m 405 #[.val (.int v0), .val (.long v1), .second, .val (.ref b96), .val (.ref b0_98), .val (.ref b0_100), .val (.long key), .second, .val (.int (f_lenOf key)), .val (.int (f_lenOf v1)), .val (.int (1 : Int32)), .val (.ref b0_124), .unset] [(.int (0 : Int32)), (.ref b0_124)])) rfl rfl (hb hby at_405)) ?_
  show Go p e below s _ _ _ T124 (mkF m 406 #[.val (.int v0), .val (.long v1), .second, .val (.ref b96), .val (.ref b0_98), .val (.ref b0_100), .val (.long key), .second, .val (.int (f_lenOf key)), .val (.int (f_lenOf v1)), .val (.int (1 : Int32)), .val (.ref b0_124), .unset] [(.int (zs.getD 0 0))])
  refine G_lload Y124 hx (pc' := 408) rfl (hb hby at_406) rfl ?_
  refine G_iconst Y124 hx (pc' := 409) rfl (hb hby at_408) (z := (0 : Int32)) rfl ?_
  obtain ⟨_, _, ⟨T125, L125, k125, n125⟩, -, X125, ⟨Lc125, hQ125, l125, y125, z125⟩, st125⟩ := Jvm.LawKit.callS Y124 hx (y := (⟨"com/example/muster/muster/WriterToByteArrayPinLaw", "encAt", "(JI)I"⟩ : MethodName)) hown (mvT hZ (hw _ (List.mem_of_getElem? (i := 56) rfl))) (mvT hZ (hw _ (List.mem_of_getElem? (i := 57) rfl))) (mvT hZ (hw _ (List.mem_of_getElem? (i := 51) rfl))) (mvT hZ (hw _ (List.mem_of_getElem? (i := 58) rfl))) (by decide) (backOf (W := 1) (rm_encAt l Z a0 hw [] key (0 : Int32) T124.heap n0 Z_124 ) hZ (hw _ (List.mem_of_getElem? (i := 58) rfl)) (hw _ (List.mem_of_getElem? (i := 51) rfl)) (by decide) (by decide)) (g := (mkF m 409 #[.val (.int v0), .val (.long v1), .second, .val (.ref b96), .val (.ref b0_98), .val (.ref b0_100), .val (.long key), .second, .val (.int (f_lenOf key)), .val (.int (f_lenOf v1)), .val (.int (1 : Int32)), .val (.ref b0_124), .unset] [(.int (0 : Int32)), (.long key), (.int (zs.getD 0 0))])) rfl (by rw [hml]; rfl) (argsL := [(.long key), (.int (0 : Int32))]) (rest := [(.int (zs.getD 0 0))]) (lenOf pd_6 rfl) rfl (by show 2 * 0 + _ ≤ _; exact Nat.le_of_eq rfl) (hb hby at_409) (fun _ _ => ⟨rfl, rfl, (by decide : 5 + 0 ≤ _), (by decide : 126 + 0 ≤ _)⟩)
  dsimp only [Pt.U, Pt.locs, Pt.cells, Pt.slots] at X125 l125 y125 z125 st125 hQ125
  rw [l125, y125, z125] at X125
  clear l125 y125 z125
  obtain ⟨rfl, N125q, e125⟩ := hQ125
  have N125 := Fr.app M124 N125q
  refine Go.st st125 ?_
  obtain ⟨G125, Y125, M125⟩ : ∃ L, Stand p l e room_1 s m #[(.int v0), (.long v1)] below meth c T125 L 5 126 ∧ Fr n0 L := ⟨_, X125, N125⟩
  clear X125 N125
  show Go p e below s _ _ _ T125 (mkF m 412 #[.val (.int v0), .val (.long v1), .second, .val (.ref b96), .val (.ref b0_98), .val (.ref b0_100), .val (.long key), .second, .val (.int (f_lenOf key)), .val (.int (f_lenOf v1)), .val (.int (1 : Int32)), .val (.ref b0_124), .unset] [(.int (f_encAt key (0 : Int32))), (.int (zs.getD 0 0))])
  refine G_i2b Y125 hx (pc' := 413) rfl (hb hby at_412)  ?_
  refine G_icmpYes Y125 hx (pc' := 418) (hb hby at_413) (teq ((own_first hzs) : (zs.getD 0 0) = ((f_encAt key (0 : Int32)).toInt8.toInt32))).1 (by decide) (by decide) ?_
  refine G_aloadN Y125 hx (pc' := 419) rfl (hb hby at_418) rfl rfl ?_
  obtain ⟨cq126, kq126, q126a, q126b, q126c⟩ := isOf hZ e125 E_b96_124
  obtain ⟨_, _, ⟨T126, L126, k126, n126⟩, -, X126, ⟨Lc126, hQ126, l126, y126, z126⟩, st126⟩ := Y125.virtualBack hx (y := (⟨"com/example/muster/muster/Protobuf$Writer", "clear", "()V"⟩ : MethodName)) (z := (⟨"com/example/muster/muster/Protobuf$Writer", "clear", "()V"⟩ : MethodName)) hown (mvT hZ (hw _ (List.mem_of_getElem? (i := 60) rfl))) (mvT hZ (hw _ (List.mem_of_getElem? (i := 61) rfl))) (notFace_of_selects (args := #[]) (mvT hZ (hw _ (List.mem_of_getElem? (i := 63) rfl)))) (mvT hZ (hw _ (List.mem_of_getElem? (i := 63) rfl))) (mvT hZ (hw _ (List.mem_of_getElem? (i := 62) rfl))) (by decide) (backOf (W := 0) (rm_wclear l Z a0 hw [] b96 (Int32.ofNat zs.length) b0_97 T124.heap n0 Z_124 E_b96_124 F_b96_bytes_124 F_b96_size_124 g_b96) hZ (hw _ (List.mem_of_getElem? (i := 64) rfl)) (hw _ (List.mem_of_getElem? (i := 2) rfl)) (by decide) (by decide)) q126a q126c (g := (mkF m 419 #[.val (.int v0), .val (.long v1), .second, .val (.ref b96), .val (.ref b0_98), .val (.ref b0_100), .val (.long key), .second, .val (.int (f_lenOf key)), .val (.int (f_lenOf v1)), .val (.int (1 : Int32)), .val (.ref b0_124), .unset] [(.ref b96)])) rfl (by rw [hml]; rfl) (Steps.refl _) (argsL := []) (rest := []) (lenOf pd_7 rfl) rfl (by show 2 * 0 + _ ≤ _; exact Nat.le_of_eq rfl) (hb hby at_419) (fun _ _ => ⟨rfl, e125, (by decide : 5 + 0 ≤ _), (by decide : 126 + 0 ≤ _)⟩)
  dsimp only [Pt.U, Pt.locs, Pt.cells, Pt.slots] at X126 l126 y126 z126 st126 hQ126
  rw [l126, y126, z126] at X126
  clear l126 y126 z126
  obtain ⟨rfl, N126q, K126, p126_0, p126_1, p126_2⟩ := hQ126
  have N126 := Fr.app M125 N126q
  refine Go.st (fun _ k => st126.trans k) ?_
  have E_b0_97_126 := E_b0_97_124.keep K126
  have E_b0_98_126 := E_b0_98_124.keep K126
  have A_b0_98_126 := A_b0_98_124.keep K126 (ninS (Ne.symm ne_b96_b0_98) nin0)
  have A_b0_97_126 := A_b0_97_124.keep K126 (ninS (Ne.symm ne_b96_b0_97) nin0)
  have E_b0_100_126 := E_b0_100_124.keep K126
  have A_b0_100_126 := A_b0_100_124.keep K126 (ninS (Ne.symm ne_b96_b0_100) nin0)
  have E_b0_124_126 := p124_0.keep K126
  have A_b0_124_126 := p124_1.keep K126 (ninS (Ne.symm ne_b96_b0_124) nin0)
  have K_126 : Keep h0 T126.heap [] := K_124.trans K126 (allS (Or.inr sz_b96) all0)
  have Z_126 : n0 ≤ T126.heap.size := Nat.le_trans Z0 K_126.1
  clear E_b0_97_124 E_b0_98_124 A_b0_98_124 E_b96_124 F_b96_bytes_124 F_b96_size_124 A_b0_97_124 E_b0_100_124 A_b0_100_124 p124_0 p124_1 st126 K126
  obtain ⟨G126, Y126, M126⟩ : ∃ L, Stand p l e room_1 s m #[(.int v0), (.long v1)] below meth c T126 L 5 126 ∧ Fr n0 L := ⟨_, X126, N126⟩
  clear X126 N126
  show Go p e below s _ _ _ T126 (mkF m 422 #[.val (.int v0), .val (.long v1), .second, .val (.ref b96), .val (.ref b0_98), .val (.ref b0_100), .val (.long key), .second, .val (.int (f_lenOf key)), .val (.int (f_lenOf v1)), .val (.int (1 : Int32)), .val (.ref b0_124), .unset] [])
  have S9 : Fld Z T126.heap b96 "com/example/muster/muster/Protobuf$Writer" "size" "I" (.int (Int32.ofNat ([] : List Int32).length)) := p126_2
  have A9 : AI Z T126.heap b0_97 .byte (([] : List Int32) ++ (zs ++ r2)) := A_b0_97_126
  refine G_aloadN Y126 hx (pc' := 423) rfl (hb hby at_422) rfl rfl ?_
  obtain ⟨cq127, kq127, q127a, q127b, q127c⟩ := isOf hZ rfl p126_0
  obtain ⟨_, _, ⟨T127, L127, k127, n127⟩, -, X127, ⟨Lc127, hQ127, l127, y127, z127⟩, st127⟩ := Y126.virtualBack hx (y := (⟨"com/example/muster/muster/Protobuf$Writer", "toByteArray", "()[B"⟩ : MethodName)) (z := (⟨"com/example/muster/muster/Protobuf$Writer", "toByteArray", "()[B"⟩ : MethodName)) hown (mvT hZ (hw _ (List.mem_of_getElem? (i := 12) rfl))) (mvT hZ (hw _ (List.mem_of_getElem? (i := 13) rfl))) (notFace_of_selects (args := #[]) (mvT hZ (hw _ (List.mem_of_getElem? (i := 15) rfl)))) (mvT hZ (hw _ (List.mem_of_getElem? (i := 15) rfl))) (mvT hZ (hw _ (List.mem_of_getElem? (i := 14) rfl))) (by decide) (backOf (W := 0) (rm_toBA l Z a0 hw [] b96 b0_97 ([] : List Int32) (zs ++ r2) T126.heap n0 Z_126 p126_1 S9 A9 (by rw [List.length_append]; simp; exact hl2) (by decide)) hZ (hw _ (List.mem_of_getElem? (i := 16) rfl)) (hw _ (List.mem_of_getElem? (i := 2) rfl)) (by decide) (by decide)) q127a q127c (g := (mkF m 423 #[.val (.int v0), .val (.long v1), .second, .val (.ref b96), .val (.ref b0_98), .val (.ref b0_100), .val (.long key), .second, .val (.int (f_lenOf key)), .val (.int (f_lenOf v1)), .val (.int (1 : Int32)), .val (.ref b0_124), .unset] [(.ref b96)])) rfl (by rw [hml]; rfl) (Steps.refl _) (argsL := []) (rest := []) (lenOf pd_8 rfl) rfl (by show 2 * 0 + _ ≤ _; exact Nat.le_of_eq rfl) (hb hby at_423) (fun _ _ => ⟨rfl, rfl, (by decide : 5 + 1 ≤ _), (by decide : 126 + 20 ≤ _)⟩)
  dsimp only [Pt.U, Pt.locs, Pt.cells, Pt.slots] at X127 l127 y127 z127 st127 hQ127
  rw [l127, y127, z127] at X127
  clear l127 y127 z127
  obtain ⟨b0_127, rfl, N127q, K127, le_b0_127, p127_0, p127_1⟩ := hQ127
  have N127 := Fr.app M126 N127q
  refine Go.st (fun _ k => st127.trans k) ?_
  have ne_b0_100_b0_127 : b0_100 ≠ b0_127 := Nat.ne_of_lt (Nat.lt_of_lt_of_le E_b0_100_126.lt le_b0_127)
  have ne_b0_124_b0_127 : b0_124 ≠ b0_127 := Nat.ne_of_lt (Nat.lt_of_lt_of_le E_b0_124_126.lt le_b0_127)
  have ne_b0_97_b0_127 : b0_97 ≠ b0_127 := Nat.ne_of_lt (Nat.lt_of_lt_of_le E_b0_97_126.lt le_b0_127)
  have ne_b0_98_b0_127 : b0_98 ≠ b0_127 := Nat.ne_of_lt (Nat.lt_of_lt_of_le E_b0_98_126.lt le_b0_127)
  have ne_b96_b0_127 : b96 ≠ b0_127 := Nat.ne_of_lt (Nat.lt_of_lt_of_le p126_0.lt le_b0_127)
  have g_b0_127 : n0 ≤ b0_127 := Nat.le_trans Z_126 le_b0_127
  have sz_b0_127 : h0.size ≤ b0_127 := Nat.le_trans K_126.1 le_b0_127
  have E_b0_97_127 := E_b0_97_126.keep K127
  have E_b0_98_127 := E_b0_98_126.keep K127
  have A_b0_98_127 := A_b0_98_126.keep K127 nin0
  have A_b0_97_127 := A9.keep K127 nin0
  have E_b0_100_127 := E_b0_100_126.keep K127
  have A_b0_100_127 := A_b0_100_126.keep K127 nin0
  have E_b0_124_127 := E_b0_124_126.keep K127
  have A_b0_124_127 := A_b0_124_126.keep K127 nin0
  have E_b96_127 := p126_0.keep K127
  have F_b96_bytes_127 := p126_1.keep K127 nin0
  have F_b96_size_127 := S9.keep K127 nin0
  have K_127 : Keep h0 T127.heap [] := K_126.trans K127 all0
  have Z_127 : n0 ≤ T127.heap.size := Nat.le_trans Z0 K_127.1
  clear E_b0_97_126 E_b0_98_126 A_b0_98_126 A9 E_b0_100_126 A_b0_100_126 E_b0_124_126 A_b0_124_126 p126_0 p126_1 S9 st127 K127
  obtain ⟨G127, Y127, M127⟩ : ∃ L, Stand p l e room_1 s m #[(.int v0), (.long v1)] below meth c T127 L 6 146 ∧ Fr n0 L := ⟨_, X127, N127⟩
  clear X127 N127
  show Go p e below s _ _ _ T127 (mkF m 426 #[.val (.int v0), .val (.long v1), .second, .val (.ref b96), .val (.ref b0_98), .val (.ref b0_100), .val (.long key), .second, .val (.int (f_lenOf key)), .val (.int (f_lenOf v1)), .val (.int (1 : Int32)), .val (.ref b0_124), .unset] [(.ref b0_127)])
  refine G_astore Y127 hx (pc' := 428) rfl (hb hby at_426) rfl (L' := #[.val (.int v0), .val (.long v1), .second, .val (.ref b96), .val (.ref b0_98), .val (.ref b0_100), .val (.long key), .second, .val (.int (f_lenOf key)), .val (.int (f_lenOf v1)), .val (.int (1 : Int32)), .val (.ref b0_124), .val (.ref b0_127)]) rfl ?_
  refine G_aload Y127 hx (pc' := 430) rfl (hb hby at_428) rfl rfl ?_
  refine Go.st (lenAI Y127 hx hZ rfl p127_1 (g := (mkF m 430 #[.val (.int v0), .val (.long v1), .second, .val (.ref b96), .val (.ref b0_98), .val (.ref b0_100), .val (.long key), .second, .val (.int (f_lenOf key)), .val (.int (f_lenOf v1)), .val (.int (1 : Int32)), .val (.ref b0_124), .val (.ref b0_127)] [(.ref b0_127)])) rfl rfl (hb hby at_430)) ?_
  show Go p e below s _ _ _ T127 (mkF m 431 #[.val (.int v0), .val (.long v1), .second, .val (.ref b96), .val (.ref b0_98), .val (.ref b0_100), .val (.long key), .second, .val (.int (f_lenOf key)), .val (.int (f_lenOf v1)), .val (.int (1 : Int32)), .val (.ref b0_124), .val (.ref b0_127)] [(.int (Int32.ofNat (([] : List Int32)).length))])
  refine G_ifNo Y127 hx (pc' := 434) rfl (hb hby at_431) ((if0 _ _).trans (teq (rfl : (Int32.ofNat (([] : List Int32)).length) = (0 : Int32))).2) ?_
  refine G_iconst Y127 hx (pc' := 435) rfl (hb hby at_434) (z := (1 : Int32)) rfl ?_
  refine G_goto Y127 hx (pc' := 439) (hb hby at_435)  (by decide) (by decide) ?_
  refine Go.fin Y127 hlk (v := some (.int (1 : Int32))) (fun h => by rw [Bd.returns] at h; cases h) (by decide) (by decide) ?_ (fun fs hr => retN Y127 hx (t := .boolean) Bd.returns (by simp) (hb hby at_439) hr)
  show Q_law Z v0 v1 h0 n0 _ T127.heap _
  exact ⟨rfl, M127⟩
set_option maxRecDepth 65536 in
set_option maxHeartbeats 40000000 in
theorem comes_1 {Post : Tables → Env → Array Value → State → Outcome → State → Prop} (hpost : ∀ tb e args s v u, (limb_1_1.after args s (.returned v) u = true ∧ limb_1_2.after args s (.returned v) u = true ∧ True) → FrameEnd s (.returned v) u (Jvm.fieldLocs frame_1_writes args s ++ Jvm.arrayLocs frame_1_arrays args s ++ Jvm.staticLocs frame_1_statics s) 24 320 → Post tb e args s (.returned v) u) :
    ArmFor flags0 classFile x code maxLocals ret World_1 tables_1 room_1 Calls_1 rest_1 Pre_1 Post := by
  intro l hfl _ _ p e ha hc hk s m args below hf hA hF happ hP
  obtain ⟨hcalls, hrest, hpre⟩ := hP
  obtain ⟨-, -, -, hnamed, -, -, -, hat⟩ := (Spec.applies_iff hf).mp happ
  obtain ⟨hg, hn⟩ := and_e (Cond.before_iff.mp (show (Jvm.Cond.and given_1 narrow_1).before args s = true from hpre))
  obtain ⟨hcnt, hg0⟩ := and_e hg
  obtain ⟨ha0, hg1⟩ := and_e hg0
  have ha1 := hg1
  obtain ⟨w0, w1, rfl⟩ : ∃ w0 w1 : Value, args = #[w0, w1] := by
    have hs : args.size = 2 := by simpa [Cond.value, given_1] using hcnt
    obtain ⟨L⟩ := args
    match L, hs with
    | [w0, w1], _ => exact ⟨w0, w1, rfl⟩
  have hw := fun d (hd : d ∈ tables_1) => atoms_spec (ws := Jvm.Cond.code x code maxLocals ret :: tables_1) hat d (List.mem_cons_of_mem _ hd)
  have hfit : Fit s := fun {y c} hc i hi => by
    obtain ⟨ha, rfl⟩ := Array.getElem?_eq_some_iff.mp hc
    have q := List.all_eq_true.mp ((Array.all_eq_true_iff_forall_mem.mp hF) _ (Array.getElem_mem ha)) i (List.mem_range.mpr hi)
    simpa [Array.getElem?_eq_getElem hi] using q
  obtain ⟨i0, ei0⟩ := is_v ha0
  obtain rfl : w0 = (.int i0) := Option.some.inj ei0
  obtain ⟨i1, ei1⟩ := isL_v ha1
  obtain rfl : w1 = (.long i1) := Option.some.inj ei1
  obtain ⟨n, o, h1, h2, h3, v, L, rfl, ⟨hv, N⟩, hq⟩ := rm_law l s _ hw tables_1 i0 i1  s.heap s.heap.size (Nat.le_refl _)  p e ha hc hk s m _ below hf ((Spec.applies_iff_loose hf).mp happ).1 ⟨rfl, State.Warmed39.refl s, rfl⟩ trivial
  subst hv
  refine ⟨n, _, h1, h2, h3, hpost _ _ _ _ _ _ ⟨Cond.after_iff.mpr rfl, Cond.after_iff.mpr (eq_i res_at (Term.int_eval (1)) rfl), trivial⟩ ⟨hq.1, hq.2.1, (hq.2.2.sift fun y hy => Or.inr (N y hy)).mono (by decide) (by decide)⟩⟩
theorem main_1_1 : Claimed_1_1 := comes_1 fun _ _ _ _ _ _ h hF => ⟨h.1, hF⟩
theorem main_1_2 : Claimed_1_2 := comes_1 fun _ _ _ _ _ _ h hF => ⟨h.2.1, hF⟩
end Jvm.Pilot.@@N@@
namespace Jvm.Pilot.@@N@@
open Jvm Jvm.ClassFile Sem Op Lib Jvm.Free Jvm.Stand Jvm.Pilot.@@N@@.Jvm.D
/-! MADE BY PROGRAM (witnessworld.py) out of the Statement's table words and the real class files: 12 classes; the members and pool entries that the words name. The judged class is class 1, her method 4. -/
namespace start1
open Jvm.ClassFile
def u (s : String) : CpInfo := .utf8 (stringToUtf16 s)
/-- a pool by its gaps: so many unusable entries, then the entry; so many at the end -/
def gap : Nat → List CpInfo → List CpInfo
  | 0, r => r
  | n + 1, r => .unusable :: gap n r
def poolList (es : List (Nat × CpInfo)) (last : Nat) : List CpInfo := es.foldr (fun e r => gap e.1 (e.2 :: r)) (gap last [])
def pool (es : List (Nat × CpInfo)) (last : Nat) : Array CpInfo := ⟨poolList es last⟩
def fileOf (pool : Array CpInfo) (this : Nat) (attrs : Array Attribute := #[]) (ms : Array MethodInfo := #[]) (fl : Nat := 33) (sup : Nat := 0) (ifs : Array Nat := #[]) (fds : Array FieldInfo := #[]) : ClassFile where
  minorVersion := 0
  majorVersion := 65
  constantPool := pool
  accessFlags := fl
  thisClass := this
  superClass := sup
  interfaces := ifs
  fields := fds
  methods := ms
  attributes := attrs
def plain (name : String) (sup : Option ClassId) : Class where
  name := name
  kind := .ordinary
  loader := none
  accessFlags := 33
  super := sup
  interfaces := #[]
  cf := none
  fields := #[]
  methods := #[]
  instanceTypes := #[]
  staticTypes := #[]
  resolved := #[]
  callSites := []
  init := .initialized
  statics := none
  mirror := none

def pool0 : Array CpInfo := pool [(5, u "<init>"), (0, u "()V"), (1, .class_ 10), (1, u "java/lang/Object")] 113

def k0c0 : Code := { maxStack := 0, maxLocals := 1, code := object_method_1_code, exceptionTable := #[], attributes := #[] }
def k0m0 : Method := { name := "<init>", desc := "()V", sig := { parameters := [], returnType := none }, accessFlags := 1, code := some k0c0 }
/-- java/lang/Object -/
def k0 : Class := { plain "java/lang/Object" none with
  accessFlags := 33
  interfaces := #[]
  cf := some (fileOf pool0 8 #[] #[{ accessFlags := 1, nameIndex := 5, descriptorIndex := 6, attributes := #[] }] 33 0 #[] #[])
  fields := #[]
  methods := #[k0m0]
  instanceTypes := #[]
  staticTypes := #[]
  resolved := Array.replicate 124 none
  statics := none }

def pool1 : Array CpInfo := pool [(2, .class_ 4), (0, .nameAndType 5 6), (0, u "java/lang/Object"), (0, u "<init>"), (0, u "()V"), (0, .long 127), (1, .methodref 10 11), (0, .class_ 12), (0, .nameAndType 13 14), (0, u "com/example/muster/muster/WriterToByteArrayPinLaw"), (0, u "lenOf"), (0, u "(J)I"), (0, .long 128), (1, .methodref 10 18), (0, .nameAndType 19 20), (0, u "encAt"), (0, u "(JI)I"), (0, .class_ 22), (0, u "com/example/muster/muster/Protobuf$Writer"), (0, .methodref 21 3), (0, .methodref 21 25), (0, .nameAndType 26 27), (0, u "toByteArray"), (0, u "()[B"), (0, .methodref 21 29), (0, .nameAndType 30 31), (0, u "int64"), (0, u "(IJ)V"), (0, .methodref 10 33), (0, .nameAndType 34 35), (0, u "check"), (0, u "([BIJIJ)Z"), (0, .methodref 21 37), (0, .nameAndType 38 6), (0, u "clear"), (3, u "law"), (0, u "(IJ)Z")] 8

def k1m0 : Method := { name := "<init>", desc := "()V", sig := { parameters := [], returnType := none }, accessFlags := 1, code := none }
def k1c1 : Code := { maxStack := 4, maxLocals := 2, code := method_2_code, exceptionTable := #[], attributes := #[] }
def k1m1 : Method := { name := "lenOf", desc := "(J)I", sig := { parameters := [.long], returnType := some .int }, accessFlags := 10, code := some k1c1 }
def k1c2 : Code := { maxStack := 4, maxLocals := 5, code := method_3_code, exceptionTable := #[], attributes := #[] }
def k1m2 : Method := { name := "encAt", desc := "(JI)I", sig := { parameters := [.long, .int], returnType := some .int }, accessFlags := 10, code := some k1c2 }
def k1c3 : Code := { maxStack := 4, maxLocals := 8, code := method_4_code, exceptionTable := #[], attributes := #[] }
def k1m3 : Method := { name := "check", desc := "([BIJIJ)Z", sig := { parameters := [(.array .byte), .int, .long, .int, .long], returnType := some .boolean }, accessFlags := 10, code := some k1c3 }
def k1c4 : Code := { maxStack := 7, maxLocals := 13, code := code, exceptionTable := #[], attributes := #[] }
def k1m4 : Method := { name := "law", desc := "(IJ)Z", sig := { parameters := [.int, .long], returnType := some .boolean }, accessFlags := 9, code := some k1c4 }
/-- com/example/muster/muster/WriterToByteArrayPinLaw -/
def k1 : Class := { plain "com/example/muster/muster/WriterToByteArrayPinLaw" (some 0) with
  accessFlags := 49
  interfaces := #[]
  cf := some (fileOf pool1 10 #[] #[{ accessFlags := 1, nameIndex := 5, descriptorIndex := 6, attributes := #[] }, { accessFlags := 10, nameIndex := 13, descriptorIndex := 14, attributes := #[] }, { accessFlags := 10, nameIndex := 19, descriptorIndex := 20, attributes := #[] }, { accessFlags := 10, nameIndex := 34, descriptorIndex := 35, attributes := #[] }, { accessFlags := 9, nameIndex := 42, descriptorIndex := 43, attributes := #[] }] 49 2 #[] #[])
  fields := #[]
  methods := #[k1m0, k1m1, k1m2, k1m3, k1m4]
  instanceTypes := #[]
  staticTypes := #[]
  resolved := Array.replicate 52 none
  statics := none }

def pool2 : Array CpInfo := pool [(1, .class_ 2), (0, u "com/example/muster/muster/Protobuf"), (0, .methodref 4 5), (0, .class_ 6), (0, .nameAndType 7 8), (0, u "java/lang/Object"), (0, u "<init>"), (0, u "()V"), (0, .fieldref 10 11), (0, .class_ 12), (0, .nameAndType 13 14), (0, u "com/example/muster/muster/Protobuf$Writer"), (0, u "bytes"), (0, u "[B"), (0, .methodref 10 16), (0, .nameAndType 17 18), (0, u "key"), (0, u "(II)V"), (0, .methodref 10 20), (0, .nameAndType 21 22), (0, u "varint"), (0, u "(J)V"), (2, .methodref 10 26), (0, .nameAndType 27 28), (0, u "room"), (0, u "(I)V"), (6, .fieldref 10 36), (0, .nameAndType 37 38), (0, u "size"), (0, u "I"), (16, .methodref 56 57), (0, .class_ 58), (0, .nameAndType 59 60), (0, u "java/util/Arrays"), (0, u "copyOf"), (0, u "([BI)[B"), (6, .long 18446744073709551488), (1, .long 127), (1, .long 128), (9, u "int64"), (0, u "(IJ)V"), (7, u "clear"), (0, u "toByteArray"), (0, u "()[B")] 5

def k2c0 : Code := { maxStack := 2, maxLocals := 1, code := prog_35_method_1_code, exceptionTable := #[], attributes := #[] }
def k2m0 : Method := { name := "<init>", desc := "()V", sig := { parameters := [], returnType := none }, accessFlags := 0, code := some k2c0 }
def k2c1 : Code := { maxStack := 3, maxLocals := 4, code := prog_35_method_2_code, exceptionTable := #[], attributes := #[] }
def k2m1 : Method := { name := "int64", desc := "(IJ)V", sig := { parameters := [.int, .long], returnType := none }, accessFlags := 0, code := some k2c1 }
def k2c2 : Code := { maxStack := 2, maxLocals := 1, code := prog_35_method_6_code, exceptionTable := #[], attributes := #[] }
def k2m2 : Method := { name := "clear", desc := "()V", sig := { parameters := [], returnType := none }, accessFlags := 0, code := some k2c2 }
def k2c3 : Code := { maxStack := 2, maxLocals := 1, code := prog_35_method_7_code, exceptionTable := #[], attributes := #[] }
def k2m3 : Method := { name := "toByteArray", desc := "()[B", sig := { parameters := [], returnType := some (.array .byte) }, accessFlags := 0, code := some k2c3 }
def k2c4 : Code := { maxStack := 5, maxLocals := 3, code := prog_35_method_9_code, exceptionTable := #[], attributes := #[] }
def k2m4 : Method := { name := "key", desc := "(II)V", sig := { parameters := [.int, .int], returnType := none }, accessFlags := 2, code := some k2c4 }
def k2c5 : Code := { maxStack := 6, maxLocals := 5, code := prog_35_method_10_code, exceptionTable := #[], attributes := #[] }
def k2m5 : Method := { name := "varint", desc := "(J)V", sig := { parameters := [.long], returnType := none }, accessFlags := 2, code := some k2c5 }
def k2c6 : Code := { maxStack := 5, maxLocals := 2, code := prog_35_method_11_code, exceptionTable := #[], attributes := #[] }
def k2m6 : Method := { name := "room", desc := "(I)V", sig := { parameters := [.int], returnType := none }, accessFlags := 2, code := some k2c6 }
/-- com/example/muster/muster/Protobuf$Writer -/
def k2 : Class := { plain "com/example/muster/muster/Protobuf$Writer" (some 0) with
  accessFlags := 48
  interfaces := #[]
  cf := some (fileOf pool2 10 #[.nestHost 1] #[{ accessFlags := 0, nameIndex := 7, descriptorIndex := 8, attributes := #[] }, { accessFlags := 0, nameIndex := 81, descriptorIndex := 82, attributes := #[] }, { accessFlags := 0, nameIndex := 90, descriptorIndex := 8, attributes := #[] }, { accessFlags := 0, nameIndex := 91, descriptorIndex := 92, attributes := #[] }, { accessFlags := 2, nameIndex := 17, descriptorIndex := 18, attributes := #[] }, { accessFlags := 2, nameIndex := 21, descriptorIndex := 22, attributes := #[] }, { accessFlags := 2, nameIndex := 27, descriptorIndex := 28, attributes := #[] }] 48 4 #[] #[{ accessFlags := 2, nameIndex := 13, descriptorIndex := 14, attributes := #[] }, { accessFlags := 2, nameIndex := 37, descriptorIndex := 38, attributes := #[] }])
  fields := #[{ name := "bytes", type := (.array .byte), accessFlags := 2, slot := 0, constantValue := 0 }, { name := "size", type := .int, accessFlags := 2, slot := 1, constantValue := 0 }]
  methods := #[k2m0, k2m1, k2m2, k2m3, k2m4, k2m5, k2m6]
  instanceTypes := #[(.array .byte), .int]
  staticTypes := #[]
  resolved := Array.replicate 98 none
  statics := none }

def pool3 : Array CpInfo := pool [(2, .class_ 4), (1, u "java/lang/Object"), (0, u "<init>"), (0, u "()V"), (7, .class_ 16), (1, u "java/util/Arrays"), (57, .class_ 76), (1, u "java/util/Arrays$NaturalOrder"), (36, .class_ 115), (1, u "java/util/Arrays$LegacyMergeSort"), (1, u "Z"), (32, .methodref 151 152), (0, .class_ 153), (0, .nameAndType 154 155), (0, u "java/lang/System"), (0, u "arraycopy"), (0, u "(Ljava/lang/Object;ILjava/lang/Object;II)V"), (146, u "copyOf"), (1, .methodref 305 306), (0, .class_ 307), (0, .nameAndType 308 309), (0, u "java/lang/Math"), (0, u "min"), (0, u "(II)I"), (65, .class_ 376), (0, u "java/util/Arrays$ArrayList"), (68, u "$assertionsDisabled"), (269, u "MIN_ARRAY_SORT_GRAN"), (0, u "I"), (2, u "INSERTIONSORT_THRESHOLD"), (149, u "([BI)[B"), (105, .class_ 976), (0, u "java/util/Arrays$ArrayItr")] 52

def k3m0 : Method := { name := "<init>", desc := "()V", sig := { parameters := [], returnType := none }, accessFlags := 2, code := none }
def k3c1 : Code := { maxStack := 6, maxLocals := 3, code := jdk_65_method_121_code, exceptionTable := #[], attributes := #[] }
def k3m1 : Method := { name := "copyOf", desc := "([BI)[B", sig := { parameters := [(.array .byte), .int], returnType := some (.array .byte) }, accessFlags := 9, code := some k3c1 }
/-- java/util/Arrays -/
def k3 : Class := { plain "java/util/Arrays" (some 0) with
  accessFlags := 49
  interfaces := #[]
  cf := some (fileOf pool3 14 #[.nestMembers #[975, 375, 113, 74]] #[{ accessFlags := 2, nameIndex := 5, descriptorIndex := 6, attributes := #[] }, { accessFlags := 9, nameIndex := 302, descriptorIndex := 869, attributes := #[] }] 49 2 #[] #[{ accessFlags := 26, nameIndex := 715, descriptorIndex := 716, attributes := #[] }, { accessFlags := 26, nameIndex := 719, descriptorIndex := 716, attributes := #[] }, { accessFlags := 4120, nameIndex := 445, descriptorIndex := 117, attributes := #[] }])
  fields := #[{ name := "MIN_ARRAY_SORT_GRAN", type := .int, accessFlags := 26, slot := 0, constantValue := 0 }, { name := "INSERTIONSORT_THRESHOLD", type := .int, accessFlags := 26, slot := 1, constantValue := 0 }, { name := "$assertionsDisabled", type := .boolean, accessFlags := 4120, slot := 2, constantValue := 0 }]
  methods := #[k3m0, k3m1]
  instanceTypes := #[]
  staticTypes := #[.int, .int, .boolean]
  resolved := Array.replicate 1029 none
  statics := none }

def pool4 : Array CpInfo := pool [(1, .class_ 2), (0, u "java/lang/Math"), (1, .class_ 6), (1, u "java/lang/Object"), (0, u "<init>"), (0, u "()V"), (89, .class_ 100), (1, u "java/lang/Math$RandomNumberGeneratorHolder"), (71, u "negativeZeroFloatBits"), (0, u "J"), (2, u "negativeZeroDoubleBits"), (24, u "min"), (43, u "$assertionsDisabled"), (0, u "Z"), (88, u "(II)I"), (2, u "twoToTheDoubleScaleDown"), (0, u "D"), (4, u "twoToTheDoubleScaleUp"), (9, u "E"), (3, u "PI"), (2, u "TAU"), (2, u "DEGREES_TO_RADIANS"), (0, u "RADIANS_TO_DEGREES")] 94

def k4m0 : Method := { name := "<init>", desc := "()V", sig := { parameters := [], returnType := none }, accessFlags := 2, code := none }
def k4c1 : Code := { maxStack := 2, maxLocals := 2, code := jdk_29_method_69_code, exceptionTable := #[], attributes := #[] }
def k4m1 : Method := { name := "min", desc := "(II)I", sig := { parameters := [.int, .int], returnType := some .int }, accessFlags := 9, code := some k4c1 }
/-- java/lang/Math -/
def k4 : Class := { plain "java/lang/Math" (some 0) with
  accessFlags := 49
  interfaces := #[]
  cf := some (fileOf pool4 1 #[.nestMembers #[98]] #[{ accessFlags := 2, nameIndex := 7, descriptorIndex := 8, attributes := #[] }, { accessFlags := 9, nameIndex := 201, descriptorIndex := 335, attributes := #[] }] 49 4 #[] #[{ accessFlags := 25, nameIndex := 354, descriptorIndex := 339, attributes := #[] }, { accessFlags := 25, nameIndex := 358, descriptorIndex := 339, attributes := #[] }, { accessFlags := 25, nameIndex := 361, descriptorIndex := 339, attributes := #[] }, { accessFlags := 26, nameIndex := 364, descriptorIndex := 339, attributes := #[] }, { accessFlags := 26, nameIndex := 365, descriptorIndex := 339, attributes := #[] }, { accessFlags := 26, nameIndex := 172, descriptorIndex := 173, attributes := #[] }, { accessFlags := 26, nameIndex := 176, descriptorIndex := 173, attributes := #[] }, { accessFlags := 8, nameIndex := 344, descriptorIndex := 339, attributes := #[] }, { accessFlags := 8, nameIndex := 338, descriptorIndex := 339, attributes := #[] }, { accessFlags := 4120, nameIndex := 245, descriptorIndex := 246, attributes := #[] }])
  fields := #[{ name := "E", type := .double, accessFlags := 25, slot := 0, constantValue := 0 }, { name := "PI", type := .double, accessFlags := 25, slot := 1, constantValue := 0 }, { name := "TAU", type := .double, accessFlags := 25, slot := 2, constantValue := 0 }, { name := "DEGREES_TO_RADIANS", type := .double, accessFlags := 26, slot := 3, constantValue := 0 }, { name := "RADIANS_TO_DEGREES", type := .double, accessFlags := 26, slot := 4, constantValue := 0 }, { name := "negativeZeroFloatBits", type := .long, accessFlags := 26, slot := 5, constantValue := 0 }, { name := "negativeZeroDoubleBits", type := .long, accessFlags := 26, slot := 6, constantValue := 0 }, { name := "twoToTheDoubleScaleUp", type := .double, accessFlags := 8, slot := 7, constantValue := 0 }, { name := "twoToTheDoubleScaleDown", type := .double, accessFlags := 8, slot := 8, constantValue := 0 }, { name := "$assertionsDisabled", type := .boolean, accessFlags := 4120, slot := 9, constantValue := 0 }]
  methods := #[k4m0, k4m1]
  instanceTypes := #[]
  staticTypes := #[.double, .double, .double, .double, .double, .long, .long, .double, .double, .boolean]
  resolved := Array.replicate 460 none
  statics := none }

def pool5 : Array CpInfo := pool [(2, .class_ 4), (1, u "java/lang/Object"), (0, u "<init>"), (0, u "()V"), (1, .class_ 10), (1, u "java/lang/System"), (0, u "allowSecurityManager"), (0, u "I"), (16, u "cons"), (0, u "Ljava/io/Console;"), (77, .class_ 110), (1, u "java/lang/System$CallersHolder"), (43, u "initialErrStream"), (0, u "Ljava/io/PrintStream;"), (19, u "security"), (0, u "Ljava/lang/SecurityManager;"), (31, .class_ 209), (0, u "java/lang/System$1"), (7, u "props"), (0, u "Ljava/util/Properties;"), (2, u "lineSeparator"), (0, u "Ljava/lang/String;"), (96, .class_ 321), (1, u "java/lang/System$LoggerFinder"), (5, .class_ 328), (0, u "java/lang/System$Logger"), (67, u "err"), (2, u "out"), (91, u "notSupportedJnuEncoding"), (15, u "in"), (17, u "initialIn"), (0, u "Ljava/io/InputStream;"), (35, u "bootLayer"), (0, u "Ljava/lang/ModuleLayer;"), (99, .class_ 664), (0, u "java/lang/System$2"), (9, u "NEVER"), (2, u "MAYBE"), (49, u "arraycopy"), (0, u "(Ljava/lang/Object;ILjava/lang/Object;II)V"), (72, .class_ 802), (0, u "java/lang/System$Logger$Level")] 31

def k5m0 : Method := { name := "<init>", desc := "()V", sig := { parameters := [], returnType := none }, accessFlags := 2, code := none }
def k5m1 : Method := { name := "arraycopy", desc := "(Ljava/lang/Object;ILjava/lang/Object;II)V", sig := { parameters := [(.object "java/lang/Object"), .int, (.object "java/lang/Object"), .int, .int], returnType := none }, accessFlags := 265, code := none }
/-- java/lang/System -/
def k5 : Class := { plain "java/lang/System" (some 0) with
  accessFlags := 49
  interfaces := #[]
  cf := some (fileOf pool5 8 #[.nestMembers #[319, 327, 801, 108, 663, 208]] #[{ accessFlags := 2, nameIndex := 5, descriptorIndex := 6, attributes := #[] }, { accessFlags := 265, nameIndex := 727, descriptorIndex := 728, attributes := #[] }] 49 2 #[] #[{ accessFlags := 25, nameIndex := 507, descriptorIndex := 526, attributes := #[] }, { accessFlags := 25, nameIndex := 399, descriptorIndex := 155, attributes := #[] }, { accessFlags := 25, nameIndex := 396, descriptorIndex := 155, attributes := #[] }, { accessFlags := 10, nameIndex := 525, descriptorIndex := 526, attributes := #[] }, { accessFlags := 26, nameIndex := 674, descriptorIndex := 12, attributes := #[] }, { accessFlags := 26, nameIndex := 677, descriptorIndex := 12, attributes := #[] }, { accessFlags := 10, nameIndex := 11, descriptorIndex := 12, attributes := #[] }, { accessFlags := 74, nameIndex := 175, descriptorIndex := 176, attributes := #[] }, { accessFlags := 10, nameIndex := 491, descriptorIndex := 222, attributes := #[] }, { accessFlags := 74, nameIndex := 29, descriptorIndex := 30, attributes := #[] }, { accessFlags := 74, nameIndex := 154, descriptorIndex := 155, attributes := #[] }, { accessFlags := 10, nameIndex := 217, descriptorIndex := 218, attributes := #[] }, { accessFlags := 10, nameIndex := 221, descriptorIndex := 222, attributes := #[] }, { accessFlags := 8, nameIndex := 562, descriptorIndex := 563, attributes := #[] }])
  fields := #[{ name := "in", type := (.object "java/io/InputStream"), accessFlags := 25, slot := 0, constantValue := 0 }, { name := "out", type := (.object "java/io/PrintStream"), accessFlags := 25, slot := 1, constantValue := 0 }, { name := "err", type := (.object "java/io/PrintStream"), accessFlags := 25, slot := 2, constantValue := 0 }, { name := "initialIn", type := (.object "java/io/InputStream"), accessFlags := 10, slot := 3, constantValue := 0 }, { name := "NEVER", type := .int, accessFlags := 26, slot := 4, constantValue := 0 }, { name := "MAYBE", type := .int, accessFlags := 26, slot := 5, constantValue := 0 }, { name := "allowSecurityManager", type := .int, accessFlags := 10, slot := 6, constantValue := 0 }, { name := "security", type := (.object "java/lang/SecurityManager"), accessFlags := 74, slot := 7, constantValue := 0 }, { name := "notSupportedJnuEncoding", type := (.object "java/lang/String"), accessFlags := 10, slot := 8, constantValue := 0 }, { name := "cons", type := (.object "java/io/Console"), accessFlags := 74, slot := 9, constantValue := 0 }, { name := "initialErrStream", type := (.object "java/io/PrintStream"), accessFlags := 74, slot := 10, constantValue := 0 }, { name := "props", type := (.object "java/util/Properties"), accessFlags := 10, slot := 11, constantValue := 0 }, { name := "lineSeparator", type := (.object "java/lang/String"), accessFlags := 10, slot := 12, constantValue := 0 }, { name := "bootLayer", type := (.object "java/lang/ModuleLayer"), accessFlags := 8, slot := 13, constantValue := 0 }]
  methods := #[k5m0, k5m1]
  instanceTypes := #[]
  staticTypes := #[(.object "java/io/InputStream"), (.object "java/io/PrintStream"), (.object "java/io/PrintStream"), (.object "java/io/InputStream"), .int, .int, .int, (.object "java/lang/SecurityManager"), (.object "java/lang/String"), (.object "java/io/Console"), (.object "java/io/PrintStream"), (.object "java/util/Properties"), (.object "java/lang/String"), (.object "java/lang/ModuleLayer")]
  resolved := Array.replicate 834 none
  statics := none }

def pool6 : Array CpInfo := pool [(1, u "java/lang/Cloneable"), (0, .class_ 1), (0, u "java/lang/Object"), (0, .class_ 3)] 3

/-- java/lang/Cloneable -/
def k6 : Class := { plain "java/lang/Cloneable" (some 0) with
  accessFlags := 1537
  interfaces := #[]
  cf := some (fileOf pool6 2 #[] #[] 1537 4 #[] #[])
  fields := #[]
  methods := #[]
  instanceTypes := #[]
  staticTypes := #[]
  resolved := Array.replicate 8 none
  statics := none }

def pool7 : Array CpInfo := pool [(1, u "java/io/Serializable"), (0, .class_ 1), (0, u "java/lang/Object"), (0, .class_ 3)] 3

/-- java/io/Serializable -/
def k7 : Class := { plain "java/io/Serializable" (some 0) with
  accessFlags := 1537
  interfaces := #[]
  cf := some (fileOf pool7 2 #[] #[] 1537 4 #[] #[])
  fields := #[]
  methods := #[]
  instanceTypes := #[]
  staticTypes := #[]
  resolved := Array.replicate 8 none
  statics := none }

/-- the primitive byte -/
def k8 : Class := { plain "byte" none with kind := .primitive 'B', accessFlags := 0x411 }
/-- [B -/
def k9 : Class := { plain "[B" (some 0) with kind := .array 8 .byte, interfaces := #[6, 7], accessFlags := 1041 }

/-- the primitive int -/
def k10 : Class := { plain "int" none with kind := .primitive 'I', accessFlags := 0x411 }
/-- [I -/
def k11 : Class := { plain "[I" (some 0) with kind := .array 10 .int, interfaces := #[6, 7], accessFlags := 1041 }

def heap : Heap := #[]
def classes : Array Class := #[k0, k1, k2, k3, k4, k5, k6, k7, k8, k9, k10, k11]
def interned : List (Array UInt16 × Addr) := []
def slotsUsed : Nat := 0
def theMethod : MethodId := ⟨1, 4⟩
def args0 : Array Value := #[.int 5, .long 9]
def aboutOver (below : List Frame) : State where
  vm := { classes := classes, interned := interned.toArray }
  heap := heap
  slotsUsed := slotsUsed
  threads := #[{ frames := .invoking theMethod args0 :: below }]
def below0 : List Frame := [.native { method := ⟨0, 0⟩, args := #[] }]
def about1 : State := aboutOver below0
def p0 : Program := .bare "" "" ""
def e0 : Env := launch0.env 0 0 0
theorem w_frames : about1.frames = Frame.invoking theMethod args0 :: below0 := rfl
set_option maxRecDepth 65536 in
theorem w_args : argsFit about1.vm theMethod args0 = true := by decide +kernel
set_option maxRecDepth 65536 in
theorem w_heap : heapFits about1 = true := by decide +kernel
set_option maxRecDepth 65536 in
theorem w_runnable : about1.curStatus? = some .runnable := by decide +kernel
set_option maxRecDepth 65536 in
theorem w_alone : about1.alone = true := by decide +kernel
set_option maxRecDepth 65536 in
theorem w_named : about1.methodNamed? x = some theMethod := by decide +kernel
set_option maxRecDepth 65536 in
theorem w_hears : about1.hears theMethod below0 = true := by decide +kernel
set_option maxRecDepth 65536 in
theorem w_ripe : about1.ripe theMethod args0 below0 = true := by decide +kernel
theorem w_running : about1.status = .running := rfl
set_option maxRecDepth 65536 in
theorem w_room : about1.hasRoom e0.platform room_1 = true :=
  launch0.hasRoom_least _ room_1 (by decide +kernel) (by decide +kernel) (by decide +kernel) (by decide +kernel) (by decide +kernel) (by decide +kernel)
theorem allAtoms_all (ts : List Jvm.Cond) (a : Array Jvm.Value) (st : Jvm.State) : (allAtoms ts).before a st = ts.all (fun c => c.before a st) := by
  induction ts with
  | nil => rfl
  | cons c t ih =>
    show (Jvm.Cond.and c (allAtoms t)).before a st = _
    rw [Jvm.Cond.before_and, ih, List.all_cons]
def words1 : List Jvm.Cond := Jvm.Cond.code x code maxLocals ret :: tables_1
/-- a 'code' word, met by the world's own term for the bytes: nothing is compared byte by byte -/
theorem code_word {y : MethodName} {bytes : ByteArray} {mx : Nat} {rt : Option FieldType} {a : Array Value} {s : State} {m : MethodId} {meth : Method} {c : Code} (h1 : s.methodNamed? y = some m) (h2 : s.vm.method? m = some meth) (h3 : meth.code = some c) (h4 : c.code = bytes)
    (h5 : (c.maxLocals == mx && c.exceptionTable.isEmpty && decide (c.maxStack ≤ mostOperands) && decide (meth.sig.returnType = rt) && !meth.locks && decide (parseMethodDescriptor y.desc = some meth.sig)) = true) : (Jvm.Cond.code y bytes mx rt).before a s = true := by
  simp only [Bool.and_eq_true, beq_iff_eq, Bool.not_eq_true', decide_eq_true_eq] at h5
  obtain ⟨⟨⟨⟨⟨g1, g2⟩, g3⟩, g4⟩, g5⟩, g6⟩ := h5
  simp [Cond.before, Cond.holds, Cond.value, h1, h2, h3, h4, g1, g2, g3, g4, g5, g6]
def isCode : Jvm.Cond → Bool
  | .code _ _ _ _ => true
  | _ => false
theorem all_split {L : List Jvm.Cond} {P : Jvm.Cond → Bool} (h1 : L.all (fun c => isCode c || P c) = true) (h2 : ∀ c ∈ L.filter isCode, P c = true) : L.all P = true := by
  refine List.all_eq_true.mpr fun c hc => ?_
  have h := List.all_eq_true.mp h1 c hc
  rcases Bool.eq_false_or_eq_true (isCode c) with hi | hi
  · exact h2 c (List.mem_filter.mpr ⟨hc, hi⟩)
  · simpa [hi] using h
set_option maxRecDepth 65536 in
theorem w_c0 : (Jvm.Cond.code x code maxLocals ret).before args0 about1 = true := code_word (m := ⟨1, 4⟩) (meth := k1m4) (c := k1c4) (by decide +kernel) rfl rfl rfl (by decide +kernel)
set_option maxRecDepth 65536 in
theorem w_c1 : (Jvm.Cond.code ({ cls := "com/example/muster/muster/Protobuf$Writer", name := "<init>", desc := "()V" } : Jvm.MethodName) prog_35_method_1_code (1 : Nat) (Option.none : Option Jvm.ClassFile.FieldType)).before args0 about1 = true := code_word (m := ⟨2, 0⟩) (meth := k2m0) (c := k2c0) (by decide +kernel) rfl rfl rfl (by decide +kernel)
set_option maxRecDepth 65536 in
theorem w_c2 : (Jvm.Cond.code ({ cls := "java/lang/Object", name := "<init>", desc := "()V" } : Jvm.MethodName) object_method_1_code (1 : Nat) (Option.none : Option Jvm.ClassFile.FieldType)).before args0 about1 = true := code_word (m := ⟨0, 0⟩) (meth := k0m0) (c := k0c0) (by decide +kernel) rfl rfl rfl (by decide +kernel)
set_option maxRecDepth 65536 in
theorem w_c3 : (Jvm.Cond.code ({ cls := "com/example/muster/muster/Protobuf$Writer", name := "toByteArray", desc := "()[B" } : Jvm.MethodName) prog_35_method_7_code (1 : Nat) (Option.some (Jvm.ClassFile.FieldType.array Jvm.ClassFile.FieldType.byte))).before args0 about1 = true := code_word (m := ⟨2, 3⟩) (meth := k2m3) (c := k2c3) (by decide +kernel) rfl rfl rfl (by decide +kernel)
set_option maxRecDepth 65536 in
theorem w_c4 : (Jvm.Cond.code ({ cls := "java/util/Arrays", name := "copyOf", desc := "([BI)[B" } : Jvm.MethodName) jdk_65_method_121_code (3 : Nat) (Option.some (Jvm.ClassFile.FieldType.array Jvm.ClassFile.FieldType.byte))).before args0 about1 = true := code_word (m := ⟨3, 1⟩) (meth := k3m1) (c := k3c1) (by decide +kernel) rfl rfl rfl (by decide +kernel)
set_option maxRecDepth 65536 in
theorem w_c5 : (Jvm.Cond.code ({ cls := "java/lang/Math", name := "min", desc := "(II)I" } : Jvm.MethodName) jdk_29_method_69_code (2 : Nat) (Option.some Jvm.ClassFile.FieldType.int)).before args0 about1 = true := code_word (m := ⟨4, 1⟩) (meth := k4m1) (c := k4c1) (by decide +kernel) rfl rfl rfl (by decide +kernel)
set_option maxRecDepth 65536 in
theorem w_c6 : (Jvm.Cond.code ({ cls := "com/example/muster/muster/Protobuf$Writer", name := "int64", desc := "(IJ)V" } : Jvm.MethodName) prog_35_method_2_code (4 : Nat) (Option.none : Option Jvm.ClassFile.FieldType)).before args0 about1 = true := code_word (m := ⟨2, 1⟩) (meth := k2m1) (c := k2c1) (by decide +kernel) rfl rfl rfl (by decide +kernel)
set_option maxRecDepth 65536 in
theorem w_c7 : (Jvm.Cond.code ({ cls := "com/example/muster/muster/Protobuf$Writer", name := "key", desc := "(II)V" } : Jvm.MethodName) prog_35_method_9_code (3 : Nat) (Option.none : Option Jvm.ClassFile.FieldType)).before args0 about1 = true := code_word (m := ⟨2, 4⟩) (meth := k2m4) (c := k2c4) (by decide +kernel) rfl rfl rfl (by decide +kernel)
set_option maxRecDepth 65536 in
theorem w_c8 : (Jvm.Cond.code ({ cls := "com/example/muster/muster/Protobuf$Writer", name := "varint", desc := "(J)V" } : Jvm.MethodName) prog_35_method_10_code (5 : Nat) (Option.none : Option Jvm.ClassFile.FieldType)).before args0 about1 = true := code_word (m := ⟨2, 5⟩) (meth := k2m5) (c := k2c5) (by decide +kernel) rfl rfl rfl (by decide +kernel)
set_option maxRecDepth 65536 in
theorem w_c9 : (Jvm.Cond.code ({ cls := "com/example/muster/muster/Protobuf$Writer", name := "room", desc := "(I)V" } : Jvm.MethodName) prog_35_method_11_code (2 : Nat) (Option.none : Option Jvm.ClassFile.FieldType)).before args0 about1 = true := code_word (m := ⟨2, 6⟩) (meth := k2m6) (c := k2c6) (by decide +kernel) rfl rfl rfl (by decide +kernel)
set_option maxRecDepth 65536 in
theorem w_c10 : (Jvm.Cond.code ({ cls := "com/example/muster/muster/WriterToByteArrayPinLaw", name := "lenOf", desc := "(J)I" } : Jvm.MethodName) method_2_code (2 : Nat) (Option.some Jvm.ClassFile.FieldType.int)).before args0 about1 = true := code_word (m := ⟨1, 1⟩) (meth := k1m1) (c := k1c1) (by decide +kernel) rfl rfl rfl (by decide +kernel)
set_option maxRecDepth 65536 in
theorem w_c11 : (Jvm.Cond.code ({ cls := "com/example/muster/muster/WriterToByteArrayPinLaw", name := "check", desc := "([BIJIJ)Z" } : Jvm.MethodName) method_4_code (8 : Nat) (Option.some Jvm.ClassFile.FieldType.boolean)).before args0 about1 = true := code_word (m := ⟨1, 3⟩) (meth := k1m3) (c := k1c3) (by decide +kernel) rfl rfl rfl (by decide +kernel)
set_option maxRecDepth 65536 in
theorem w_c12 : (Jvm.Cond.code ({ cls := "com/example/muster/muster/WriterToByteArrayPinLaw", name := "encAt", desc := "(JI)I" } : Jvm.MethodName) method_3_code (5 : Nat) (Option.some Jvm.ClassFile.FieldType.int)).before args0 about1 = true := code_word (m := ⟨1, 2⟩) (meth := k1m2) (c := k1c2) (by decide +kernel) rfl rfl rfl (by decide +kernel)
set_option maxRecDepth 65536 in
theorem w_c13 : (Jvm.Cond.code ({ cls := "com/example/muster/muster/Protobuf$Writer", name := "clear", desc := "()V" } : Jvm.MethodName) prog_35_method_6_code (1 : Nat) (Option.none : Option Jvm.ClassFile.FieldType)).before args0 about1 = true := code_word (m := ⟨2, 2⟩) (meth := k2m2) (c := k2c2) (by decide +kernel) rfl rfl rfl (by decide +kernel)
def codes1 : List Jvm.Cond := [Jvm.Cond.code x code maxLocals ret, Jvm.Cond.code ({ cls := "com/example/muster/muster/Protobuf$Writer", name := "<init>", desc := "()V" } : Jvm.MethodName) prog_35_method_1_code (1 : Nat) (Option.none : Option Jvm.ClassFile.FieldType), Jvm.Cond.code ({ cls := "java/lang/Object", name := "<init>", desc := "()V" } : Jvm.MethodName) object_method_1_code (1 : Nat) (Option.none : Option Jvm.ClassFile.FieldType), Jvm.Cond.code ({ cls := "com/example/muster/muster/Protobuf$Writer", name := "toByteArray", desc := "()[B" } : Jvm.MethodName) prog_35_method_7_code (1 : Nat) (Option.some (Jvm.ClassFile.FieldType.array Jvm.ClassFile.FieldType.byte)), Jvm.Cond.code ({ cls := "java/util/Arrays", name := "copyOf", desc := "([BI)[B" } : Jvm.MethodName) jdk_65_method_121_code (3 : Nat) (Option.some (Jvm.ClassFile.FieldType.array Jvm.ClassFile.FieldType.byte)), Jvm.Cond.code ({ cls := "java/lang/Math", name := "min", desc := "(II)I" } : Jvm.MethodName) jdk_29_method_69_code (2 : Nat) (Option.some Jvm.ClassFile.FieldType.int), Jvm.Cond.code ({ cls := "com/example/muster/muster/Protobuf$Writer", name := "int64", desc := "(IJ)V" } : Jvm.MethodName) prog_35_method_2_code (4 : Nat) (Option.none : Option Jvm.ClassFile.FieldType), Jvm.Cond.code ({ cls := "com/example/muster/muster/Protobuf$Writer", name := "key", desc := "(II)V" } : Jvm.MethodName) prog_35_method_9_code (3 : Nat) (Option.none : Option Jvm.ClassFile.FieldType), Jvm.Cond.code ({ cls := "com/example/muster/muster/Protobuf$Writer", name := "varint", desc := "(J)V" } : Jvm.MethodName) prog_35_method_10_code (5 : Nat) (Option.none : Option Jvm.ClassFile.FieldType), Jvm.Cond.code ({ cls := "com/example/muster/muster/Protobuf$Writer", name := "room", desc := "(I)V" } : Jvm.MethodName) prog_35_method_11_code (2 : Nat) (Option.none : Option Jvm.ClassFile.FieldType), Jvm.Cond.code ({ cls := "com/example/muster/muster/WriterToByteArrayPinLaw", name := "lenOf", desc := "(J)I" } : Jvm.MethodName) method_2_code (2 : Nat) (Option.some Jvm.ClassFile.FieldType.int), Jvm.Cond.code ({ cls := "com/example/muster/muster/WriterToByteArrayPinLaw", name := "check", desc := "([BIJIJ)Z" } : Jvm.MethodName) method_4_code (8 : Nat) (Option.some Jvm.ClassFile.FieldType.boolean), Jvm.Cond.code ({ cls := "com/example/muster/muster/WriterToByteArrayPinLaw", name := "encAt", desc := "(JI)I" } : Jvm.MethodName) method_3_code (5 : Nat) (Option.some Jvm.ClassFile.FieldType.int), Jvm.Cond.code ({ cls := "com/example/muster/muster/Protobuf$Writer", name := "clear", desc := "()V" } : Jvm.MethodName) prog_35_method_6_code (1 : Nat) (Option.none : Option Jvm.ClassFile.FieldType)]
set_option maxRecDepth 65536 in
theorem codes_eq : words1.filter isCode = codes1 := rfl
theorem w_codes : ∀ c ∈ words1.filter isCode, c.before args0 about1 = true := by
  rw [codes_eq]
  intro c hc
  simp only [codes1, List.mem_cons, List.not_mem_nil, or_false] at hc
  rcases hc with rfl | rfl | rfl | rfl | rfl | rfl | rfl | rfl | rfl | rfl | rfl | rfl | rfl | rfl
  · exact w_c0
  · exact w_c1
  · exact w_c2
  · exact w_c3
  · exact w_c4
  · exact w_c5
  · exact w_c6
  · exact w_c7
  · exact w_c8
  · exact w_c9
  · exact w_c10
  · exact w_c11
  · exact w_c12
  · exact w_c13
set_option maxRecDepth 65536 in
theorem w_t1 : (words1.take 24).all (fun c => isCode c || c.before args0 about1) = true := by decide +kernel
set_option maxRecDepth 65536 in
theorem w_t2 : ((words1.drop 24).take 24).all (fun c => isCode c || c.before args0 about1) = true := by decide +kernel
set_option maxRecDepth 65536 in
theorem w_t3 : ((words1.drop 24).drop 24).all (fun c => isCode c || c.before args0 about1) = true := by decide +kernel
theorem w_tables : (allAtoms (Jvm.Cond.code x code maxLocals ret :: tables_1)).before args0 about1 = true := by
  rw [allAtoms_all]
  show words1.all (fun c => c.before args0 about1) = true
  refine all_split ?_ w_codes
  rw [← List.take_append_drop 24 words1, List.all_append, w_t1, ← List.take_append_drop 24 (words1.drop 24), List.all_append, w_t2, w_t3]
  rfl
set_option maxRecDepth 65536 in
theorem w_case : (Jvm.Cond.and given_1 narrow_1).before args0 about1 = true := by decide +kernel
theorem w_applies : (headSpec (Jvm.Cond.code x code maxLocals ret :: tables_1) room_1).applies x e0.platform about1 = true :=
  (Spec.applies_iff w_frames).mpr ⟨w_running, w_runnable, w_alone, w_named, w_hears, w_ripe, w_room, w_tables⟩
theorem atStart : AtStart classFile x code maxLocals ret World_1 tables_1 room_1 Calls_1 rest_1 Pre_1 launch0 p0 e0 about1 theMethod args0 below0 :=
  ⟨lists_1, trivial, launch0.admits_env _ _ _, launch0.least_env, fairChoices_fair.cas, fairChoices_fair.clock, w_frames, w_args, w_heap, w_applies, trivial, trivial, w_case⟩
end start1
theorem witness_1 : WitnessClaimed_1 := ⟨start1.p0, start1.e0, start1.about1, start1.theMethod, start1.args0, start1.below0, start1.atStart⟩
end Jvm.Pilot.@@N@@
