import JvmDerived
import JvmDerived.Pilot.@@N@@Statement
import JvmDerived.Pilot.@@N@@Code
set_option linter.unusedVariables false
set_option linter.unusedSimpArgs false
namespace Jvm.Pilot.@@N@@
open Jvm Jvm.ClassFile Sem Op Lib Jvm.Free Jvm.Stand Jvm.LawKit Jvm.RoadKit Bundle Jvm.Pilot.@@N@@.Jvm.D
section Own
variable {p : Program} {l : Launch} {e : Env} {R : Room} {s : State} {m : MethodId} {args : Array Value} {below : List Frame} {meth : Method} {c : Code} {T T' : State} {locs : List Loc} {cells slots C N : Nat} {Q : Option Value → Heap → List Loc → Prop} {g g' : JFrame}
/-- from T with the frame g on top the invocation of s comes to its end: it returns, and Q holds of what it returns, of the heap and of the places written -/
def Go (p : Program) (e : Env) (below : List Frame) (s : State) (C N : Nat) (Q : Option Value → Heap → List Loc → Prop) (T : State) (g : JFrame) : Prop :=
  ∃ s₂ o, Steps p.tables e below (T.setTop g) s₂ ∧ s₂.status = .running ∧ Ended s₂ below o ∧ ∃ v L, o = .returned v ∧ Q v s₂.heap L ∧ FrameEnd s o s₂ L C N
theorem Go.st (h : ∀ t, Steps p.tables e below (T'.setTop g') t → Steps p.tables e below (T.setTop g) t) (k : Go p e below s C N Q T' g') : Go p e below s C N Q T g := by
  obtain ⟨s2, o, h1, h2⟩ := k
  exact ⟨s2, o, h _ h1, h2⟩
theorem Go.enter (q : g = g') (k : Go p e below s C N Q T g') : ∃ s₂ o, Steps p.tables e below (T.setTop g) s₂ ∧ s₂.status = .running ∧ Ended s₂ below o ∧ ∃ v L, o = .returned v ∧ Q v s₂.heap L ∧ FrameEnd s o s₂ L C N := by
  subst q; exact k
theorem Go.fin (X : Stand p l e R s m args below meth c T locs cells slots) (hlk : meth.locks = false) {v : Option Value} (hv : meth.sig.returnType = none → v = none) (hC : cells ≤ C) (hN : slots ≤ N) (hq : Q v T.heap locs)
    (hs : ∀ fs, (∀ (f : JFrame) (acts : List Action), f.method = m → f.locked = none → f.entered = [] → (doReturn e (T.setTop f) acts v).1 = T.setFrames fs) → Steps p.tables e below (T.setTop g) (T.setFrames fs)) : Go p e below s C N Q T g := by
  obtain ⟨fs, hr, hrun, hended, hW, hsame⟩ := X.leave hv hlk
  exact ⟨_, _, hs fs hr, hrun, hended, _, _, rfl, hq, ⟨_, rfl⟩, hW, hsame.mono hC hN⟩
end Own
theorem own_selp {s : State} {args : Array Value} {y : MethodName} {n : Nat} (wi : (Cond.instantiable y.cls n).before args s = true) (wp : (Cond.privateMethod y).before args s = true) (hinst : (Cond.instanceMethod y).before args s = true) (hy : y.cls ≠ "java/lang/invoke/MethodHandle" ∧ y.cls ≠ "java/lang/invoke/VarHandle") : (Cond.selects y.cls y y).before args s = true := by
  obtain ⟨c, k, h1, h2, -, h4, -⟩ := Cond.instantiable_spec wi
  exact Jvm.Stand.selects_self_of_private h1 h2 (by simp only [Bool.or_eq_false_iff] at h4; exact h4.1) (Cond.privateMethod_at wp) hinst hy

section OwnG
variable {p : Program} {l : Launch} {e : Env} {R : Room} {s : State} {m : MethodId} {args : Array Value} {below : List Frame} {meth : Method} {c : Code} {T : State} {locs : List Loc} {cells slots C N : Nat} {Q : Option Value → Heap → List Loc → Prop} {pc pc' : Nat} {L L' : Array Slot} {S : List Value}
theorem G_iloadN (X : Stand p l e R s m args below meth c T locs cells slots) (hx : p.tables.exec = Jvm.exec) {k : Fin 4} {v : Int32} (hp : pc + 1 = pc') (hd : decode c.code pc = .ok (.iload_n k, 1)) (hl : L[k.val]? = some (.val (.int v))) (h : Go p e below s C N Q T (mkF m pc' L (.int v :: S))) : Go p e below s C N Q T (mkF m pc L S) := by
  subst hp; exact Go.st (fun _ k => XS.iloadN X.here hx rfl hd hl k) h
theorem G_iload (X : Stand p l e R s m args below meth c T locs cells slots) (hx : p.tables.exec = Jvm.exec) {k : Nat} {v : Int32} (hp : pc + 2 = pc') (hd : decode c.code pc = .ok (.iload k, 2)) (hl : L[k]? = some (.val (.int v))) (h : Go p e below s C N Q T (mkF m pc' L (.int v :: S))) : Go p e below s C N Q T (mkF m pc L S) := by
  subst hp; exact Go.st (fun _ k => XS.iload X.here hx rfl hd hl k) h
theorem G_istoreN (X : Stand p l e R s m args below meth c T locs cells slots) (hx : p.tables.exec = Jvm.exec) {k : Fin 4} {v : Int32} (hp : pc + 1 = pc') (hd : decode c.code pc = .ok (.istore_n k, 1)) (hl : storeLocals L k.val (.int v) = some L') (h : Go p e below s C N Q T (mkF m pc' L' S)) : Go p e below s C N Q T (mkF m pc L (.int v :: S)) := by
  subst hp; exact Go.st (fun _ k => XS.istoreN X.here hx rfl hd rfl hl k) h
theorem G_istore (X : Stand p l e R s m args below meth c T locs cells slots) (hx : p.tables.exec = Jvm.exec) {k : Nat} {v : Int32} (hp : pc + 2 = pc') (hd : decode c.code pc = .ok (.istore k, 2)) (hl : storeLocals L k (.int v) = some L') (h : Go p e below s C N Q T (mkF m pc' L' S)) : Go p e below s C N Q T (mkF m pc L (.int v :: S)) := by
  subst hp; exact Go.st (fun _ k => XS.istore X.here hx rfl hd rfl hl k) h
theorem G_lloadN (X : Stand p l e R s m args below meth c T locs cells slots) (hx : p.tables.exec = Jvm.exec) {k : Fin 4} {v : Int64} (hp : pc + 1 = pc') (hd : decode c.code pc = .ok (.lload_n k, 1)) (hl : L[k.val]? = some (.val (.long v))) (h : Go p e below s C N Q T (mkF m pc' L (.long v :: S))) : Go p e below s C N Q T (mkF m pc L S) := by
  subst hp; exact Go.st (fun _ k => XS.lloadN X.here hx rfl hd hl k) h
theorem G_lload (X : Stand p l e R s m args below meth c T locs cells slots) (hx : p.tables.exec = Jvm.exec) {k : Nat} {v : Int64} (hp : pc + 2 = pc') (hd : decode c.code pc = .ok (.lload k, 2)) (hl : L[k]? = some (.val (.long v))) (h : Go p e below s C N Q T (mkF m pc' L (.long v :: S))) : Go p e below s C N Q T (mkF m pc L S) := by
  subst hp; exact Go.st (fun _ k => XS.lload X.here hx rfl hd hl k) h
theorem G_lstoreN (X : Stand p l e R s m args below meth c T locs cells slots) (hx : p.tables.exec = Jvm.exec) {k : Fin 4} {v : Int64} (hp : pc + 1 = pc') (hd : decode c.code pc = .ok (.lstore_n k, 1)) (hl : storeLocals L k.val (.long v) = some L') (h : Go p e below s C N Q T (mkF m pc' L' S)) : Go p e below s C N Q T (mkF m pc L (.long v :: S)) := by
  subst hp; exact Go.st (fun _ k => XS.lstoreN X.here hx rfl hd rfl hl k) h
theorem G_lstore (X : Stand p l e R s m args below meth c T locs cells slots) (hx : p.tables.exec = Jvm.exec) {k : Nat} {v : Int64} (hp : pc + 2 = pc') (hd : decode c.code pc = .ok (.lstore k, 2)) (hl : storeLocals L k (.long v) = some L') (h : Go p e below s C N Q T (mkF m pc' L' S)) : Go p e below s C N Q T (mkF m pc L (.long v :: S)) := by
  subst hp; exact Go.st (fun _ k => XS.lstore X.here hx rfl hd rfl hl k) h
theorem G_aloadN (X : Stand p l e R s m args below meth c T locs cells slots) (hx : p.tables.exec = Jvm.exec) {k : Fin 4} {v : Value} (hp : pc + 1 = pc') (hd : decode c.code pc = .ok (.aload_n k, 1)) (hl : L[k.val]? = some (.val v)) (hv : v.isRef = true) (h : Go p e below s C N Q T (mkF m pc' L (v :: S))) : Go p e below s C N Q T (mkF m pc L S) := by
  subst hp; exact Go.st (fun _ k => XS.aloadN X.here hx rfl hd hl hv k) h
theorem G_aload (X : Stand p l e R s m args below meth c T locs cells slots) (hx : p.tables.exec = Jvm.exec) {k : Nat} {v : Value} (hp : pc + 2 = pc') (hd : decode c.code pc = .ok (.aload k, 2)) (hl : L[k]? = some (.val v)) (hv : v.isRef = true) (h : Go p e below s C N Q T (mkF m pc' L (v :: S))) : Go p e below s C N Q T (mkF m pc L S) := by
  subst hp; exact Go.st (fun _ k => XS.aload X.here hx rfl hd hl hv k) h
theorem G_astoreN (X : Stand p l e R s m args below meth c T locs cells slots) (hx : p.tables.exec = Jvm.exec) {k : Fin 4} {v : Value} (hp : pc + 1 = pc') (hd : decode c.code pc = .ok (.astore_n k, 1)) (hv : v.isRef = true) (hl : storeLocals L k.val v = some L') (h : Go p e below s C N Q T (mkF m pc' L' S)) : Go p e below s C N Q T (mkF m pc L (v :: S)) := by
  subst hp; exact Go.st (fun _ k => XS.astoreN X.here hx rfl hd rfl hv hl k) h
theorem G_astore (X : Stand p l e R s m args below meth c T locs cells slots) (hx : p.tables.exec = Jvm.exec) {k : Nat} {v : Value} (hp : pc + 2 = pc') (hd : decode c.code pc = .ok (.astore k, 2)) (hv : v.isRef = true) (hl : storeLocals L k v = some L') (h : Go p e below s C N Q T (mkF m pc' L' S)) : Go p e below s C N Q T (mkF m pc L (v :: S)) := by
  subst hp; exact Go.st (fun _ k => XS.astore X.here hx rfl hd rfl hv hl k) h
theorem G_iconst (X : Stand p l e R s m args below meth c T locs cells slots) (hx : p.tables.exec = Jvm.exec) {i : Int} {z : Int32} (hp : pc + 1 = pc') (hd : decode c.code pc = .ok (.iconst i, 1)) (hz : Int32.ofInt i = z) (h : Go p e below s C N Q T (mkF m pc' L (.int z :: S))) : Go p e below s C N Q T (mkF m pc L S) := by
  subst hp; exact Go.st (fun _ k => XS.iconst X.here hx rfl hd (by rw [hz]; exact k)) h
theorem G_bipush (X : Stand p l e R s m args below meth c T locs cells slots) (hx : p.tables.exec = Jvm.exec) {i : Int} {z : Int32} (hp : pc + 2 = pc') (hd : decode c.code pc = .ok (.bipush i, 2)) (hz : (Int8.ofInt i).toInt32 = z) (h : Go p e below s C N Q T (mkF m pc' L (.int z :: S))) : Go p e below s C N Q T (mkF m pc L S) := by
  subst hp; exact Go.st (fun _ k => XS.bipush X.here hx rfl hd (by rw [hz]; exact k)) h
theorem G_sipush (X : Stand p l e R s m args below meth c T locs cells slots) (hx : p.tables.exec = Jvm.exec) {i : Int} {z : Int32} (hp : pc + 3 = pc') (hd : decode c.code pc = .ok (.sipush i, 3)) (hz : (Int16.ofInt i).toInt32 = z) (h : Go p e below s C N Q T (mkF m pc' L (.int z :: S))) : Go p e below s C N Q T (mkF m pc L S) := by
  subst hp; exact Go.st (fun _ k => XS.sipush X.here hx rfl hd (by rw [hz]; exact k)) h
theorem G_lconst (X : Stand p l e R s m args below meth c T locs cells slots) (hx : p.tables.exec = Jvm.exec) {i : Fin 2} {z : Int64} (hp : pc + 1 = pc') (hd : decode c.code pc = .ok (.lconst i, 1)) (hz : Int64.ofNat i = z) (h : Go p e below s C N Q T (mkF m pc' L (.long z :: S))) : Go p e below s C N Q T (mkF m pc L S) := by
  subst hp; exact Go.st (fun _ k => XS.lconst X.here hx rfl hd (by rw [hz]; exact k)) h
theorem G_aconstNull (X : Stand p l e R s m args below meth c T locs cells slots) (hx : p.tables.exec = Jvm.exec)  (hp : pc + 1 = pc') (hd : decode c.code pc = .ok (.aconst_null, 1))  (h : Go p e below s C N Q T (mkF m pc' L (.null :: S))) : Go p e below s C N Q T (mkF m pc L S) := by
  subst hp; exact Go.st (fun _ k => XS.aconstNull X.here hx rfl hd k) h
theorem G_iadd (X : Stand p l e R s m args below meth c T locs cells slots) (hx : p.tables.exec = Jvm.exec) {x y : Int32} (hp : pc + 1 = pc') (hd : decode c.code pc = .ok (.iadd, 1))  (h : Go p e below s C N Q T (mkF m pc' L (.int (x + y) :: S))) : Go p e below s C N Q T (mkF m pc L (.int y :: .int x :: S)) := by
  subst hp; exact Go.st (fun _ k => XS.iadd X.here hx rfl hd rfl k) h
theorem G_isub (X : Stand p l e R s m args below meth c T locs cells slots) (hx : p.tables.exec = Jvm.exec) {x y : Int32} (hp : pc + 1 = pc') (hd : decode c.code pc = .ok (.isub, 1))  (h : Go p e below s C N Q T (mkF m pc' L (.int (x - y) :: S))) : Go p e below s C N Q T (mkF m pc L (.int y :: .int x :: S)) := by
  subst hp; exact Go.st (fun _ k => XS.isub X.here hx rfl hd rfl k) h
theorem G_imul (X : Stand p l e R s m args below meth c T locs cells slots) (hx : p.tables.exec = Jvm.exec) {x y : Int32} (hp : pc + 1 = pc') (hd : decode c.code pc = .ok (.imul, 1))  (h : Go p e below s C N Q T (mkF m pc' L (.int (x * y) :: S))) : Go p e below s C N Q T (mkF m pc L (.int y :: .int x :: S)) := by
  subst hp; exact Go.st (fun _ k => XS.imul X.here hx rfl hd rfl k) h
theorem G_iand (X : Stand p l e R s m args below meth c T locs cells slots) (hx : p.tables.exec = Jvm.exec) {x y : Int32} (hp : pc + 1 = pc') (hd : decode c.code pc = .ok (.iand, 1))  (h : Go p e below s C N Q T (mkF m pc' L (.int (x &&& y) :: S))) : Go p e below s C N Q T (mkF m pc L (.int y :: .int x :: S)) := by
  subst hp; exact Go.st (fun _ k => XS.iand X.here hx rfl hd rfl k) h
theorem G_ior (X : Stand p l e R s m args below meth c T locs cells slots) (hx : p.tables.exec = Jvm.exec) {x y : Int32} (hp : pc + 1 = pc') (hd : decode c.code pc = .ok (.ior, 1))  (h : Go p e below s C N Q T (mkF m pc' L (.int (x ||| y) :: S))) : Go p e below s C N Q T (mkF m pc L (.int y :: .int x :: S)) := by
  subst hp; exact Go.st (fun _ k => XS.ior X.here hx rfl hd rfl k) h
theorem G_ixor (X : Stand p l e R s m args below meth c T locs cells slots) (hx : p.tables.exec = Jvm.exec) {x y : Int32} (hp : pc + 1 = pc') (hd : decode c.code pc = .ok (.ixor, 1))  (h : Go p e below s C N Q T (mkF m pc' L (.int (x ^^^ y) :: S))) : Go p e below s C N Q T (mkF m pc L (.int y :: .int x :: S)) := by
  subst hp; exact Go.st (fun _ k => XS.ixor X.here hx rfl hd rfl k) h
theorem G_ishl (X : Stand p l e R s m args below meth c T locs cells slots) (hx : p.tables.exec = Jvm.exec) {x y : Int32} (hp : pc + 1 = pc') (hd : decode c.code pc = .ok (.ishl, 1))  (h : Go p e below s C N Q T (mkF m pc' L (.int (x <<< (y &&& 31)) :: S))) : Go p e below s C N Q T (mkF m pc L (.int y :: .int x :: S)) := by
  subst hp; exact Go.st (fun _ k => XS.ishl X.here hx rfl hd rfl k) h
theorem G_ishr (X : Stand p l e R s m args below meth c T locs cells slots) (hx : p.tables.exec = Jvm.exec) {x y : Int32} (hp : pc + 1 = pc') (hd : decode c.code pc = .ok (.ishr, 1))  (h : Go p e below s C N Q T (mkF m pc' L (.int (x >>> (y &&& 31)) :: S))) : Go p e below s C N Q T (mkF m pc L (.int y :: .int x :: S)) := by
  subst hp; exact Go.st (fun _ k => XS.ishr X.here hx rfl hd rfl k) h
theorem G_iushr (X : Stand p l e R s m args below meth c T locs cells slots) (hx : p.tables.exec = Jvm.exec) {x y : Int32} (hp : pc + 1 = pc') (hd : decode c.code pc = .ok (.iushr, 1))  (h : Go p e below s C N Q T (mkF m pc' L (.int ((x.toUInt32 >>> (y &&& 31).toUInt32).toInt32) :: S))) : Go p e below s C N Q T (mkF m pc L (.int y :: .int x :: S)) := by
  subst hp; exact Go.st (fun _ k => XS.iushr X.here hx rfl hd rfl k) h
theorem G_ladd (X : Stand p l e R s m args below meth c T locs cells slots) (hx : p.tables.exec = Jvm.exec) {x y : Int64} (hp : pc + 1 = pc') (hd : decode c.code pc = .ok (.ladd, 1))  (h : Go p e below s C N Q T (mkF m pc' L (.long (x + y) :: S))) : Go p e below s C N Q T (mkF m pc L (.long y :: .long x :: S)) := by
  subst hp; exact Go.st (fun _ k => XS.ladd X.here hx rfl hd rfl k) h
theorem G_lsub (X : Stand p l e R s m args below meth c T locs cells slots) (hx : p.tables.exec = Jvm.exec) {x y : Int64} (hp : pc + 1 = pc') (hd : decode c.code pc = .ok (.lsub, 1))  (h : Go p e below s C N Q T (mkF m pc' L (.long (x - y) :: S))) : Go p e below s C N Q T (mkF m pc L (.long y :: .long x :: S)) := by
  subst hp; exact Go.st (fun _ k => XS.lsub X.here hx rfl hd rfl k) h
theorem G_lmul (X : Stand p l e R s m args below meth c T locs cells slots) (hx : p.tables.exec = Jvm.exec) {x y : Int64} (hp : pc + 1 = pc') (hd : decode c.code pc = .ok (.lmul, 1))  (h : Go p e below s C N Q T (mkF m pc' L (.long (x * y) :: S))) : Go p e below s C N Q T (mkF m pc L (.long y :: .long x :: S)) := by
  subst hp; exact Go.st (fun _ k => XS.lmul X.here hx rfl hd rfl k) h
theorem G_land (X : Stand p l e R s m args below meth c T locs cells slots) (hx : p.tables.exec = Jvm.exec) {x y : Int64} (hp : pc + 1 = pc') (hd : decode c.code pc = .ok (.land, 1))  (h : Go p e below s C N Q T (mkF m pc' L (.long (x &&& y) :: S))) : Go p e below s C N Q T (mkF m pc L (.long y :: .long x :: S)) := by
  subst hp; exact Go.st (fun _ k => XS.land X.here hx rfl hd rfl k) h
theorem G_lor (X : Stand p l e R s m args below meth c T locs cells slots) (hx : p.tables.exec = Jvm.exec) {x y : Int64} (hp : pc + 1 = pc') (hd : decode c.code pc = .ok (.lor, 1))  (h : Go p e below s C N Q T (mkF m pc' L (.long (x ||| y) :: S))) : Go p e below s C N Q T (mkF m pc L (.long y :: .long x :: S)) := by
  subst hp; exact Go.st (fun _ k => XS.lor X.here hx rfl hd rfl k) h
theorem G_lxor (X : Stand p l e R s m args below meth c T locs cells slots) (hx : p.tables.exec = Jvm.exec) {x y : Int64} (hp : pc + 1 = pc') (hd : decode c.code pc = .ok (.lxor, 1))  (h : Go p e below s C N Q T (mkF m pc' L (.long (x ^^^ y) :: S))) : Go p e below s C N Q T (mkF m pc L (.long y :: .long x :: S)) := by
  subst hp; exact Go.st (fun _ k => XS.lxor X.here hx rfl hd rfl k) h
theorem G_lshl (X : Stand p l e R s m args below meth c T locs cells slots) (hx : p.tables.exec = Jvm.exec) {x : Int64} {y : Int32} (hp : pc + 1 = pc') (hd : decode c.code pc = .ok (.lshl, 1))  (h : Go p e below s C N Q T (mkF m pc' L (.long (x <<< (y &&& 0x3f).toInt64) :: S))) : Go p e below s C N Q T (mkF m pc L (.int y :: .long x :: S)) := by
  subst hp; exact Go.st (fun _ k => XS.lshl X.here hx rfl hd rfl k) h
theorem G_lshr (X : Stand p l e R s m args below meth c T locs cells slots) (hx : p.tables.exec = Jvm.exec) {x : Int64} {y : Int32} (hp : pc + 1 = pc') (hd : decode c.code pc = .ok (.lshr, 1))  (h : Go p e below s C N Q T (mkF m pc' L (.long (x >>> (y &&& 0x3f).toInt64) :: S))) : Go p e below s C N Q T (mkF m pc L (.int y :: .long x :: S)) := by
  subst hp; exact Go.st (fun _ k => XS.lshr X.here hx rfl hd rfl k) h
theorem G_lushr (X : Stand p l e R s m args below meth c T locs cells slots) (hx : p.tables.exec = Jvm.exec) {x : Int64} {y : Int32} (hp : pc + 1 = pc') (hd : decode c.code pc = .ok (.lushr, 1))  (h : Go p e below s C N Q T (mkF m pc' L (.long ((x.toUInt64 >>> (y &&& 0x3f).toInt64.toUInt64).toInt64) :: S))) : Go p e below s C N Q T (mkF m pc L (.int y :: .long x :: S)) := by
  subst hp; exact Go.st (fun _ k => XS.lushr X.here hx rfl hd rfl k) h
theorem G_idiv (X : Stand p l e R s m args below meth c T locs cells slots) (hx : p.tables.exec = Jvm.exec) {x y : Int32} (hp : pc + 1 = pc') (hd : decode c.code pc = .ok (.idiv, 1)) (hy : y ≠ 0) (h : Go p e below s C N Q T (mkF m pc' L (.int (x / y) :: S))) : Go p e below s C N Q T (mkF m pc L (.int y :: .int x :: S)) := by
  subst hp; exact Go.st (fun _ k => XS.idiv X.here hx rfl hd rfl hy k) h
theorem G_irem (X : Stand p l e R s m args below meth c T locs cells slots) (hx : p.tables.exec = Jvm.exec) {x y : Int32} (hp : pc + 1 = pc') (hd : decode c.code pc = .ok (.irem, 1)) (hy : y ≠ 0) (h : Go p e below s C N Q T (mkF m pc' L (.int (x % y) :: S))) : Go p e below s C N Q T (mkF m pc L (.int y :: .int x :: S)) := by
  subst hp; exact Go.st (fun _ k => iremM X hx rfl hd rfl hy k) h
theorem G_ldiv (X : Stand p l e R s m args below meth c T locs cells slots) (hx : p.tables.exec = Jvm.exec) {x y : Int64} (hp : pc + 1 = pc') (hd : decode c.code pc = .ok (.ldiv, 1)) (hy : y ≠ 0) (h : Go p e below s C N Q T (mkF m pc' L (.long (x / y) :: S))) : Go p e below s C N Q T (mkF m pc L (.long y :: .long x :: S)) := by
  subst hp; exact Go.st (fun _ k => XS.ldiv X.here hx rfl hd rfl hy k) h
theorem G_lrem (X : Stand p l e R s m args below meth c T locs cells slots) (hx : p.tables.exec = Jvm.exec) {x y : Int64} (hp : pc + 1 = pc') (hd : decode c.code pc = .ok (.lrem, 1)) (hy : y ≠ 0) (h : Go p e below s C N Q T (mkF m pc' L (.long (x % y) :: S))) : Go p e below s C N Q T (mkF m pc L (.long y :: .long x :: S)) := by
  subst hp; exact Go.st (fun _ k => XS.lrem X.here hx rfl hd rfl hy (by rw [lrem_mod]; exact k)) h
theorem G_ineg (X : Stand p l e R s m args below meth c T locs cells slots) (hx : p.tables.exec = Jvm.exec) {x : Int32} (hp : pc + 1 = pc') (hd : decode c.code pc = .ok (.ineg, 1))  (h : Go p e below s C N Q T (mkF m pc' L (.int (-x) :: S))) : Go p e below s C N Q T (mkF m pc L (.int x :: S)) := by
  subst hp; exact Go.st (fun _ k => XS.ineg X.here hx rfl hd rfl k) h
theorem G_lneg (X : Stand p l e R s m args below meth c T locs cells slots) (hx : p.tables.exec = Jvm.exec) {x : Int64} (hp : pc + 1 = pc') (hd : decode c.code pc = .ok (.lneg, 1))  (h : Go p e below s C N Q T (mkF m pc' L (.long (-x) :: S))) : Go p e below s C N Q T (mkF m pc L (.long x :: S)) := by
  subst hp; exact Go.st (fun _ k => XS.lneg X.here hx rfl hd rfl k) h
theorem G_i2l (X : Stand p l e R s m args below meth c T locs cells slots) (hx : p.tables.exec = Jvm.exec) {x : Int32} (hp : pc + 1 = pc') (hd : decode c.code pc = .ok (.i2l, 1))  (h : Go p e below s C N Q T (mkF m pc' L (.long (x.toInt64) :: S))) : Go p e below s C N Q T (mkF m pc L (.int x :: S)) := by
  subst hp; exact Go.st (fun _ k => XS.i2l X.here hx rfl hd rfl k) h
theorem G_l2i (X : Stand p l e R s m args below meth c T locs cells slots) (hx : p.tables.exec = Jvm.exec) {x : Int64} (hp : pc + 1 = pc') (hd : decode c.code pc = .ok (.l2i, 1))  (h : Go p e below s C N Q T (mkF m pc' L (.int (x.toInt32) :: S))) : Go p e below s C N Q T (mkF m pc L (.long x :: S)) := by
  subst hp; exact Go.st (fun _ k => XS.l2i X.here hx rfl hd rfl k) h
theorem G_i2b (X : Stand p l e R s m args below meth c T locs cells slots) (hx : p.tables.exec = Jvm.exec) {x : Int32} (hp : pc + 1 = pc') (hd : decode c.code pc = .ok (.i2b, 1))  (h : Go p e below s C N Q T (mkF m pc' L (.int (x.toInt8.toInt32) :: S))) : Go p e below s C N Q T (mkF m pc L (.int x :: S)) := by
  subst hp; exact Go.st (fun _ k => XS.i2b X.here hx rfl hd rfl k) h
theorem G_i2s (X : Stand p l e R s m args below meth c T locs cells slots) (hx : p.tables.exec = Jvm.exec) {x : Int32} (hp : pc + 1 = pc') (hd : decode c.code pc = .ok (.i2s, 1))  (h : Go p e below s C N Q T (mkF m pc' L (.int (x.toInt16.toInt32) :: S))) : Go p e below s C N Q T (mkF m pc L (.int x :: S)) := by
  subst hp; exact Go.st (fun _ k => XS.i2s X.here hx rfl hd rfl k) h
theorem G_i2c (X : Stand p l e R s m args below meth c T locs cells slots) (hx : p.tables.exec = Jvm.exec) {x : Int32} (hp : pc + 1 = pc') (hd : decode c.code pc = .ok (.i2c, 1))  (h : Go p e below s C N Q T (mkF m pc' L (.int (x.toUInt32.toUInt16.toUInt32.toInt32) :: S))) : Go p e below s C N Q T (mkF m pc L (.int x :: S)) := by
  subst hp; exact Go.st (fun _ k => XS.i2c X.here hx rfl hd rfl k) h
theorem G_lcmp (X : Stand p l e R s m args below meth c T locs cells slots) (hx : p.tables.exec = Jvm.exec) {x y : Int64} (hp : pc + 1 = pc') (hd : decode c.code pc = .ok (.lcmp, 1))  (h : Go p e below s C N Q T (mkF m pc' L (.int (lcmpW x y) :: S))) : Go p e below s C N Q T (mkF m pc L (.long y :: .long x :: S)) := by
  subst hp; exact Go.st (fun _ k => XS.lcmp X.here hx rfl hd rfl k) h
theorem G_iinc (X : Stand p l e R s m args below meth c T locs cells slots) (hx : p.tables.exec = Jvm.exec) {k : Nat} {cst : Int} {x z : Int32} (hp : pc + 3 = pc') (hd : decode c.code pc = .ok (.iinc k cst, 3)) (hl : L[k]? = some (.val (.int x))) (hz : x + Int32.ofInt cst = z) (hl' : storeLocals L k (.int z) = some L') (h : Go p e below s C N Q T (mkF m pc' L' S)) : Go p e below s C N Q T (mkF m pc L S) := by
  subst hp; exact Go.st (fun _ k => XS.iinc X.here hx rfl hd hl (by rw [hz]; exact hl') k) h
theorem G_dup (X : Stand p l e R s m args below meth c T locs cells slots) (hx : p.tables.exec = Jvm.exec) {x : Value} (hp : pc + 1 = pc') (hd : decode c.code pc = .ok (.dup, 1)) (hc : x.category = 1) (h : Go p e below s C N Q T (mkF m pc' L (x :: x :: S))) : Go p e below s C N Q T (mkF m pc L (x :: S)) := by
  subst hp; exact Go.st (fun _ k => XS.dup X.here hx rfl hd rfl hc k) h
theorem G_pop (X : Stand p l e R s m args below meth c T locs cells slots) (hx : p.tables.exec = Jvm.exec) {x : Value} (hp : pc + 1 = pc') (hd : decode c.code pc = .ok (.pop, 1)) (hc : x.category = 1) (h : Go p e below s C N Q T (mkF m pc' L S)) : Go p e below s C N Q T (mkF m pc L (x :: S)) := by
  subst hp; exact Go.st (fun _ k => XS.pop X.here hx rfl hd rfl hc k) h
theorem G_dupX1 (X : Stand p l e R s m args below meth c T locs cells slots) (hx : p.tables.exec = Jvm.exec) {x y : Value} (hp : pc + 1 = pc') (hd : decode c.code pc = .ok (.dup_x1, 1)) (hc : x.category = 1) (hc' : y.category = 1) (h : Go p e below s C N Q T (mkF m pc' L (x :: y :: x :: S))) : Go p e below s C N Q T (mkF m pc L (x :: y :: S)) := by
  subst hp; exact Go.st (fun _ k => XS.dupX1 X.here hx rfl hd rfl hc hc' k) h
theorem G_goto (X : Stand p l e R s m args below meth c T locs cells slots) (hx : p.tables.exec = Jvm.exec)  {o : Int} (hd : decode c.code pc = .ok (.goto o, 3))  (ho : 0 ≤ (pc : Int) + o) (hp : ((pc : Int) + o).toNat = pc') (h : Go p e below s C N Q T (mkF m pc' L S)) : Go p e below s C N Q T (mkF m pc L S) :=
  Go.st (fun _ k => XS.goto X.here hx rfl rfl hd ho hp k) h
theorem G_ifYes (X : Stand p l e R s m args below meth c T locs cells slots) (hx : p.tables.exec = Jvm.exec) {cd : ClassFile.Cond} {x : Int32} {o : Int} (hd : decode c.code pc = .ok (.ifCond cd o, 3)) (hc : ifCond.holds cd x = true) (ho : 0 ≤ (pc : Int) + o) (hp : ((pc : Int) + o).toNat = pc') (h : Go p e below s C N Q T (mkF m pc' L S)) : Go p e below s C N Q T (mkF m pc L (.int x :: S)) :=
  Go.st (fun _ k => XS.ifYes X.here hx rfl rfl hd rfl hc ho hp k) h
theorem G_icmpYes (X : Stand p l e R s m args below meth c T locs cells slots) (hx : p.tables.exec = Jvm.exec) {cd : ClassFile.Cond} {x y : Int32} {o : Int} (hd : decode c.code pc = .ok (.if_icmp cd o, 3)) (hc : if_icmp.holds cd x y = true) (ho : 0 ≤ (pc : Int) + o) (hp : ((pc : Int) + o).toNat = pc') (h : Go p e below s C N Q T (mkF m pc' L S)) : Go p e below s C N Q T (mkF m pc L (.int y :: .int x :: S)) :=
  Go.st (fun _ k => XS.icmpYes X.here hx rfl rfl hd rfl hc ho hp k) h
theorem G_ifnullYes (X : Stand p l e R s m args below meth c T locs cells slots) (hx : p.tables.exec = Jvm.exec)  {o : Int} (hd : decode c.code pc = .ok (.ifnull o, 3))  (ho : 0 ≤ (pc : Int) + o) (hp : ((pc : Int) + o).toNat = pc') (h : Go p e below s C N Q T (mkF m pc' L S)) : Go p e below s C N Q T (mkF m pc L (.null :: S)) :=
  Go.st (fun _ k => XS.ifnullYes X.here hx rfl rfl hd rfl ho hp k) h
theorem G_ifnonnullYes (X : Stand p l e R s m args below meth c T locs cells slots) (hx : p.tables.exec = Jvm.exec) {b : Addr} {o : Int} (hd : decode c.code pc = .ok (.ifnonnull o, 3))  (ho : 0 ≤ (pc : Int) + o) (hp : ((pc : Int) + o).toNat = pc') (h : Go p e below s C N Q T (mkF m pc' L S)) : Go p e below s C N Q T (mkF m pc L (.ref b :: S)) :=
  Go.st (fun _ k => XS.ifnonnullYes X.here hx rfl rfl hd rfl ho hp k) h
theorem G_ifNo (X : Stand p l e R s m args below meth c T locs cells slots) (hx : p.tables.exec = Jvm.exec) {cd : ClassFile.Cond} {x : Int32} {o : Int} (hp : pc + 3 = pc') (hd : decode c.code pc = .ok (.ifCond cd o, 3)) (hc : ifCond.holds cd x = false) (h : Go p e below s C N Q T (mkF m pc' L S)) : Go p e below s C N Q T (mkF m pc L (.int x :: S)) := by
  subst hp; exact Go.st (fun _ k => XS.ifNo X.here hx rfl hd rfl hc k) h
theorem G_icmpNo (X : Stand p l e R s m args below meth c T locs cells slots) (hx : p.tables.exec = Jvm.exec) {cd : ClassFile.Cond} {x y : Int32} {o : Int} (hp : pc + 3 = pc') (hd : decode c.code pc = .ok (.if_icmp cd o, 3)) (hc : if_icmp.holds cd x y = false) (h : Go p e below s C N Q T (mkF m pc' L S)) : Go p e below s C N Q T (mkF m pc L (.int y :: .int x :: S)) := by
  subst hp; exact Go.st (fun _ k => XS.icmpNo X.here hx rfl hd rfl hc k) h
theorem G_ifnullNo (X : Stand p l e R s m args below meth c T locs cells slots) (hx : p.tables.exec = Jvm.exec) {b : Addr} {o : Int} (hp : pc + 3 = pc') (hd : decode c.code pc = .ok (.ifnull o, 3))  (h : Go p e below s C N Q T (mkF m pc' L S)) : Go p e below s C N Q T (mkF m pc L (.ref b :: S)) := by
  subst hp; exact Go.st (fun _ k => XS.ifnullNo X.here hx rfl hd rfl k) h
theorem G_ifnonnullNo (X : Stand p l e R s m args below meth c T locs cells slots) (hx : p.tables.exec = Jvm.exec) {o : Int} (hp : pc + 3 = pc') (hd : decode c.code pc = .ok (.ifnonnull o, 3))  (h : Go p e below s C N Q T (mkF m pc' L S)) : Go p e below s C N Q T (mkF m pc L (.null :: S)) := by
  subst hp; exact Go.st (fun _ k => XS.ifnonnullNo X.here hx rfl hd rfl k) h
theorem G_ldc (X : Stand p l e R s m args below meth c T locs cells slots) (hx : p.tables.exec = Jvm.exec) (hp : pc + 2 = pc') {own : String} {index : Nat} {v : Int32} (hown : s.vm.findClass own = some m.cls) (hw : (Cond.constant own index v).before args s = true) (hd : decode c.code pc = .ok (.ldc index, 2)) (h : Go p e below s C N Q T (mkF m pc' L (.int v :: S))) : Go p e below s C N Q T (mkF m pc L S) := by
  subst hp; exact Go.st (X.ldcInt hx hown hw (g := mkF m pc L S) rfl hd) h
theorem G_ldc2 (X : Stand p l e R s m args below meth c T locs cells slots) (hx : p.tables.exec = Jvm.exec) (hp : pc + 3 = pc') {own : String} {index : Nat} {v : Int64} (hown : s.vm.findClass own = some m.cls) (hw : (Cond.constantLong own index v).before args s = true) (hd : decode c.code pc = .ok (.ldc2_w index, 3)) (h : Go p e below s C N Q T (mkF m pc' L (.long v :: S))) : Go p e below s C N Q T (mkF m pc L S) := by
  subst hp; exact Go.st (X.ldc2Long hx hown hw (g := mkF m pc L S) rfl hd) h
end OwnG

section OwnArr
variable {p : Program} {l : Launch} {e : Env} {R : Room} {s : State} {m : MethodId} {args : Array Value} {below : List Frame} {meth : Method} {c : Code} {T T' : State} {locs : List Loc} {cells slots : Nat} {Z : State} {a0 : Array Value} {h h' : Heap} {a b : Addr} {ty : FieldType} {vs : List Value} {xs : List Int32} {ys : List Int64} {v : Value} {sl : Nat} {ws : List Addr}
/-- the array at a, of components ty, holds just these values -/
def AV (Z : State) (h : Heap) (a : Addr) (ty : FieldType) (vs : List Value) : Prop := ∃ c : Cell, Arr Z h a c ty ∧ c.slots = vs.toArray ∧ vs.length < 2147483648 ∧ ∀ v ∈ vs, fits ty v = true
def AI (Z : State) (h : Heap) (a : Addr) (ty : FieldType) (xs : List Int32) : Prop := AV Z h a ty (xs.map Value.int)
def AJ (Z : State) (h : Heap) (a : Addr) (ys : List Int64) : Prop := AV Z h a .long (ys.map Value.long)
theorem AV.lt (F : AV Z h a ty vs) : a < h.size := by obtain ⟨c, A, -⟩ := F; exact A.lt
theorem AV.ext (F : AV Z h a ty vs) (E : Ext h h') : AV Z h' a ty vs := by obtain ⟨c, A, r⟩ := F; exact ⟨c, A.ext E, r⟩
theorem AV.other (F : AV Z h b ty vs) (W : Wr h h' a sl v) (q : b ≠ a) : AV Z h' b ty vs := by obtain ⟨c, A, r⟩ := F; exact ⟨c, A.other W q, r⟩
theorem AV.keep (F : AV Z h a ty vs) (K : Keep h h' ws) (q : a ∉ ws) : AV Z h' a ty vs := by obtain ⟨c, A, r⟩ := F; exact ⟨c, ⟨K.2.1 a c A.1 q, A.2⟩, r⟩
theorem AI.lt (F : AI Z h a ty xs) : a < h.size := AV.lt F
theorem AI.ext (F : AI Z h a ty xs) (E : Ext h h') : AI Z h' a ty xs := AV.ext F E
theorem AI.other (F : AI Z h b ty xs) (W : Wr h h' a sl v) (q : b ≠ a) : AI Z h' b ty xs := AV.other F W q
theorem AI.keep (F : AI Z h a ty xs) (K : Keep h h' ws) (q : a ∉ ws) : AI Z h' a ty xs := AV.keep F K q
theorem AJ.lt (F : AJ Z h a ys) : a < h.size := AV.lt F
theorem AJ.ext (F : AJ Z h a ys) (E : Ext h h') : AJ Z h' a ys := AV.ext F E
theorem AJ.other (F : AJ Z h b ys) (W : Wr h h' a sl v) (q : b ≠ a) : AJ Z h' b ys := AV.other F W q
theorem AJ.keep (F : AJ Z h a ys) (K : Keep h h' ws) (q : a ∉ ws) : AJ Z h' a ys := AV.keep F K q
theorem own_in {j : Int32} {n : Nat} (h1 : ¬ j < 0) (h2 : j.toNatClampNeg < n) : ¬ (j < 0 ∨ n ≤ j.toNatClampNeg) := fun q => q.elim h1 (fun r => by omega)
theorem AV.new {k : ClassId} {n : Int32} (A : Arr Z h a (newA k ty n) ty) (q : ¬ n < 0) (hf : fits ty (defaultValue ty) = true) : AV Z h a ty (List.replicate n.toNatClampNeg (defaultValue ty)) := by
  refine ⟨_, A, by simp [newA], ?_, fun v hv => ?_⟩
  · rw [List.length_replicate]; exact (back32 q).2
  · rw [List.eq_of_mem_replicate hv]; exact hf
theorem AV.set {cl : Cell} {jn : Nat} (A : Arr Z h a cl ty) (e1 : cl.slots = vs.toArray) (e2 : vs.length < 2147483648) (e3 : ∀ v ∈ vs, fits ty v = true) (hv : fits ty v = true) (W : Wr h h' a jn v) : AV Z h' a ty (vs.set jn v) := by
  refine ⟨cl.setSlot jn v, A.same W, ?_, by rw [List.length_set]; exact e2, fun w hw => ?_⟩
  · simp [Cell.setSlot, e1]
  · rcases List.mem_or_eq_of_mem_set hw with q | q
    · exact e3 w q
    · rw [q]; exact hv
theorem newAI (X : Stand p l e R s m args below meth c T locs cells slots) (hx : p.tables.exec = Jvm.exec) (hZ : Z.Warmed39 s.vm) {aty : ArrayType} (w : (Cond.arrayClass (newarray.typeOf aty)).before a0 Z = true) (eT : T.heap = h) {g : JFrame} (hg : g.method = m) (hd : decode c.code g.pc = .ok (.newarray aty, 2)) {n : Int32} {rest : List Value} (hs : g.stack = .int n :: rest)
    (hn : ¬ n < 0) {ty : FieldType} (hty : newarray.typeOf aty = ty) (hdv : defaultValue ty = .int 0 ∧ fits ty (.int 0) = true) {cap : Nat} (hcap : n.toNatClampNeg ≤ cap) (hb : cap * 8 ≤ 536870912) (hc : cells + 1 ≤ R.cells) (hl : slots + cap ≤ R.slots) {ad : String} (had : "[" ++ (newarray.typeOf aty).toString = ad) :
    ∃ T' h', Stand p l e R s m args below meth c T' locs (cells + 1) (slots + cap) ∧ T'.heap = h' ∧ Ext h h' ∧ Exa Z h' h.size ad ∧ AI Z h' h.size ty (List.replicate n.toNatClampNeg 0) ∧
      ∀ target, Steps p.tables e below (T'.setTop { g with pc := g.pc + 2, stack := .ref h.size :: rest }) target → Steps p.tables e below (T.setTop g) target := by
  subst hty
  obtain ⟨T', h', cA, X', e', E', A', B', st⟩ := newPE X hx hZ w eT hg hd hs hn hcap hb hc hl had
  have V := AV.new A' hn (by rw [hdv.1]; exact hdv.2)
  refine ⟨T', h', X', e', E', B', ?_, st⟩
  unfold AI
  rw [List.map_replicate, ← hdv.1]
  exact V
theorem newAJ (X : Stand p l e R s m args below meth c T locs cells slots) (hx : p.tables.exec = Jvm.exec) (hZ : Z.Warmed39 s.vm) (w : (Cond.arrayClass .long).before a0 Z = true) (eT : T.heap = h) {g : JFrame} (hg : g.method = m) (hd : decode c.code g.pc = .ok (.newarray .long, 2)) {n : Int32} {rest : List Value} (hs : g.stack = .int n :: rest)
    (hn : ¬ n < 0) {cap : Nat} (hcap : n.toNatClampNeg ≤ cap) (hb : cap * 8 ≤ 536870912) (hc : cells + 1 ≤ R.cells) (hl : slots + cap ≤ R.slots) {ad : String} (had : "[" ++ (newarray.typeOf .long).toString = ad) :
    ∃ T' h', Stand p l e R s m args below meth c T' locs (cells + 1) (slots + cap) ∧ T'.heap = h' ∧ Ext h h' ∧ Exa Z h' h.size ad ∧ AJ Z h' h.size (List.replicate n.toNatClampNeg 0) ∧
      ∀ target, Steps p.tables e below (T'.setTop { g with pc := g.pc + 2, stack := .ref h.size :: rest }) target → Steps p.tables e below (T.setTop g) target := by
  obtain ⟨T', h', cA, X', e', E', A', B', st⟩ := newPE X hx hZ (aty := .long) w eT hg hd hs hn hcap hb hc hl had
  have V := AV.new A' hn rfl
  refine ⟨T', h', X', e', E', B', ?_, st⟩
  unfold AJ
  rw [List.map_replicate]
  exact V
theorem own_len {n : Nat} (h : n < 2147483648) : n.toInt32 = Int32.ofNat n := rfl
theorem lenAV (X : Stand p l e R s m args below meth c T locs cells slots) (hx : p.tables.exec = Jvm.exec) (hZ : Z.Warmed39 s.vm) (eT : T.heap = h) (A : AV Z h a ty vs) {g : JFrame} (hg : g.method = m) {rest : List Value} (hs : g.stack = .ref a :: rest) (hd : decode c.code g.pc = .ok (.arraylength, 1)) :
    ∀ target, Steps p.tables e below (T.setTop { g with pc := g.pc + 1, stack := .int (Int32.ofNat vs.length) :: rest }) target → Steps p.tables e below (T.setTop g) target := by
  obtain ⟨cl, A, e1, e2, e3⟩ := A
  intro target k
  have hl : cl.slots.size.toInt32 = Int32.ofNat vs.length := by rw [e1]; rfl
  refine X.arraylength hx (cell := cl) (by rw [eT]; exact A.1) (State.isArrayOf_alike hZ.alike A.2.1) hg hs hd _ ?_
  rw [hl]; exact k
theorem lenAI (X : Stand p l e R s m args below meth c T locs cells slots) (hx : p.tables.exec = Jvm.exec) (hZ : Z.Warmed39 s.vm) (eT : T.heap = h) (A : AI Z h a ty xs) {g : JFrame} (hg : g.method = m) {rest : List Value} (hs : g.stack = .ref a :: rest) (hd : decode c.code g.pc = .ok (.arraylength, 1)) :
    ∀ target, Steps p.tables e below (T.setTop { g with pc := g.pc + 1, stack := .int (Int32.ofNat xs.length) :: rest }) target → Steps p.tables e below (T.setTop g) target := by
  have k := lenAV X hx hZ eT A hg hs hd
  rw [List.length_map] at k; exact k
theorem lenAJ (X : Stand p l e R s m args below meth c T locs cells slots) (hx : p.tables.exec = Jvm.exec) (hZ : Z.Warmed39 s.vm) (eT : T.heap = h) (A : AJ Z h a ys) {g : JFrame} (hg : g.method = m) {rest : List Value} (hs : g.stack = .ref a :: rest) (hd : decode c.code g.pc = .ok (.arraylength, 1)) :
    ∀ target, Steps p.tables e below (T.setTop { g with pc := g.pc + 1, stack := .int (Int32.ofNat ys.length) :: rest }) target → Steps p.tables e below (T.setTop g) target := by
  have k := lenAV X hx hZ eT A hg hs hd
  rw [List.length_map] at k; exact k
theorem own_getI {jn : Nat} (h2 : jn < xs.length) : (xs.map Value.int).toArray[jn]? = some (.int (xs.getD jn 0)) := by
  simp [List.getD_eq_getElem?_getD, h2]
theorem own_getJ {jn : Nat} (h2 : jn < ys.length) : (ys.map Value.long).toArray[jn]? = some (.long (ys.getD jn 0)) := by
  simp [List.getD_eq_getElem?_getD, h2]
theorem ldAI (X : Stand p l e R s m args below meth c T locs cells slots) (hx : p.tables.exec = Jvm.exec) (hZ : Z.Warmed39 s.vm) (eT : T.heap = h) (A : AI Z h a .int xs) {j : Int32} (h1 : ¬ j < 0) (h2 : j.toNatClampNeg < xs.length) {g : JFrame} (hg : g.method = m) {rest : List Value} (hs : g.stack = .int j :: .ref a :: rest) (hd : decode c.code g.pc = .ok (.iaload, 1)) :
    ∀ target, Steps p.tables e below (T.setTop { g with pc := g.pc + 1, stack := .int (xs.getD j.toNatClampNeg 0) :: rest }) target → Steps p.tables e below (T.setTop g) target := by
  obtain ⟨cl, A, e1, e2, e3⟩ := A
  intro target k
  refine X.iaload hx (cell := cl) (by rw [eT]; exact A.1) (State.isArrayOf_alike hZ.alike A.2.1) A.2.2 (own_in h1 (by rw [e1]; simpa using h2)) (by rw [e1]; exact own_getI h2) hg hs hd _ k
theorem ldAB (X : Stand p l e R s m args below meth c T locs cells slots) (hx : p.tables.exec = Jvm.exec) (hZ : Z.Warmed39 s.vm) (eT : T.heap = h) (A : AI Z h a .byte xs) {j : Int32} (h1 : ¬ j < 0) (h2 : j.toNatClampNeg < xs.length) {g : JFrame} (hg : g.method = m) {rest : List Value} (hs : g.stack = .int j :: .ref a :: rest) (hd : decode c.code g.pc = .ok (.baload, 1)) :
    ∀ target, Steps p.tables e below (T.setTop { g with pc := g.pc + 1, stack := .int (xs.getD j.toNatClampNeg 0) :: rest }) target → Steps p.tables e below (T.setTop g) target := by
  obtain ⟨cl, A, e1, e2, e3⟩ := A
  intro target k
  refine X.baloadBytes hx (cell := cl) (by rw [eT]; exact A.1) (State.isArrayOf_alike hZ.alike A.2.1) A.2.2 (own_in h1 (by rw [e1]; simpa using h2)) (by rw [e1]; exact own_getI h2) hg hs hd _ k
theorem ldAJ (X : Stand p l e R s m args below meth c T locs cells slots) (hx : p.tables.exec = Jvm.exec) (hZ : Z.Warmed39 s.vm) (eT : T.heap = h) (A : AJ Z h a ys) {j : Int32} (h1 : ¬ j < 0) (h2 : j.toNatClampNeg < ys.length) {g : JFrame} (hg : g.method = m) {rest : List Value} (hs : g.stack = .int j :: .ref a :: rest) (hd : decode c.code g.pc = .ok (.laload, 1)) :
    ∀ target, Steps p.tables e below (T.setTop { g with pc := g.pc + 1, stack := .long (ys.getD j.toNatClampNeg 0) :: rest }) target → Steps p.tables e below (T.setTop g) target := by
  obtain ⟨cl, A, e1, e2, e3⟩ := A
  intro target k
  refine X.laload hx (cell := cl) (by rw [eT]; exact A.1) (State.isArrayOf_alike hZ.alike A.2.1) A.2.2 (own_in h1 (by rw [e1]; simpa using h2)) (by rw [e1]; exact own_getJ h2) hg hs hd _ k
theorem stAI (X : Stand p l e R s m args below meth c T locs cells slots) (hx : p.tables.exec = Jvm.exec) (hZ : Z.Warmed39 s.vm) (eT : T.heap = h) (A : AI Z h a .int xs) {j x : Int32} (h1 : ¬ j < 0) (h2 : j.toNatClampNeg < xs.length) {g : JFrame} (hg : g.method = m) {rest : List Value} (hs : g.stack = .int x :: .int j :: .ref a :: rest) (hd : decode c.code g.pc = .ok (.iastore, 1)) :
    ∃ T' h', Stand p l e R s m args below meth c T' (locs ++ [⟨a, j.toNatClampNeg⟩]) cells slots ∧ T'.heap = h' ∧ Wr h h' a j.toNatClampNeg (.int x) ∧ AI Z h' a .int (xs.set j.toNatClampNeg x) ∧ ∀ target, Steps p.tables e below (T'.setTop { g with pc := g.pc + 1, stack := rest }) target → Steps p.tables e below (T.setTop g) target := by
  obtain ⟨cl, A, e1, e2, e3⟩ := A
  obtain ⟨T', h', X', e', W', st⟩ := stI X hx hZ eT A (own_in h1 (by rw [e1]; simpa using h2)) hg hs hd
  refine ⟨T', h', X', e', W', ?_, st⟩
  unfold AI
  rw [List.map_set]
  exact AV.set A e1 e2 e3 rfl W'
theorem stAB (X : Stand p l e R s m args below meth c T locs cells slots) (hx : p.tables.exec = Jvm.exec) (hZ : Z.Warmed39 s.vm) (eT : T.heap = h) (A : AI Z h a .byte xs) {j x : Int32} (h1 : ¬ j < 0) (h2 : j.toNatClampNeg < xs.length) {g : JFrame} (hg : g.method = m) {rest : List Value} (hs : g.stack = .int x :: .int j :: .ref a :: rest) (hd : decode c.code g.pc = .ok (.bastore, 1)) :
    ∃ T' h', Stand p l e R s m args below meth c T' (locs ++ [⟨a, j.toNatClampNeg⟩]) cells slots ∧ T'.heap = h' ∧ Wr h h' a j.toNatClampNeg (.int (x.toInt8.toInt32)) ∧ AI Z h' a .byte (xs.set j.toNatClampNeg (x.toInt8.toInt32)) ∧ ∀ target, Steps p.tables e below (T'.setTop { g with pc := g.pc + 1, stack := rest }) target → Steps p.tables e below (T.setTop g) target := by
  obtain ⟨cl, A, e1, e2, e3⟩ := A
  obtain ⟨T', h', X', e', W', st⟩ := stB X hx hZ eT A (own_in h1 (by rw [e1]; simpa using h2)) hg hs hd
  refine ⟨T', h', X', e', W', ?_, st⟩
  unfold AI
  rw [List.map_set]
  exact AV.set A e1 e2 e3 (fits_nar_byte x) W'
theorem own_b2 (y : Int32) : (y.toInt8.toInt32).toInt8.toInt32 = y.toInt8.toInt32 := by simp
theorem stABn (X : Stand p l e R s m args below meth c T locs cells slots) (hx : p.tables.exec = Jvm.exec) (hZ : Z.Warmed39 s.vm) (eT : T.heap = h) (A : AI Z h a .byte xs) {j y : Int32} (h1 : ¬ j < 0) (h2 : j.toNatClampNeg < xs.length) {g : JFrame} (hg : g.method = m) {rest : List Value} (hs : g.stack = .int (y.toInt8.toInt32) :: .int j :: .ref a :: rest) (hd : decode c.code g.pc = .ok (.bastore, 1)) :
    ∃ T' h', Stand p l e R s m args below meth c T' (locs ++ [⟨a, j.toNatClampNeg⟩]) cells slots ∧ T'.heap = h' ∧ Wr h h' a j.toNatClampNeg (.int (y.toInt8.toInt32)) ∧ AI Z h' a .byte (xs.set j.toNatClampNeg (y.toInt8.toInt32)) ∧ ∀ target, Steps p.tables e below (T'.setTop { g with pc := g.pc + 1, stack := rest }) target → Steps p.tables e below (T.setTop g) target := by
  have k := stAB X hx hZ eT A h1 h2 hg hs hd
  rw [own_b2] at k
  exact k
theorem stAJ (X : Stand p l e R s m args below meth c T locs cells slots) (hx : p.tables.exec = Jvm.exec) (hZ : Z.Warmed39 s.vm) (eT : T.heap = h) (A : AJ Z h a ys) {j : Int32} {x : Int64} (h1 : ¬ j < 0) (h2 : j.toNatClampNeg < ys.length) {g : JFrame} (hg : g.method = m) {rest : List Value} (hs : g.stack = .long x :: .int j :: .ref a :: rest) (hd : decode c.code g.pc = .ok (.lastore, 1)) :
    ∃ T' h', Stand p l e R s m args below meth c T' (locs ++ [⟨a, j.toNatClampNeg⟩]) cells slots ∧ T'.heap = h' ∧ Wr h h' a j.toNatClampNeg (.long x) ∧ AJ Z h' a (ys.set j.toNatClampNeg x) ∧ ∀ target, Steps p.tables e below (T'.setTop { g with pc := g.pc + 1, stack := rest }) target → Steps p.tables e below (T.setTop g) target := by
  obtain ⟨cl, A, e1, e2, e3⟩ := A
  obtain ⟨T', h', X', e', W', st⟩ := stJ X hx hZ eT A (own_in h1 (by rw [e1]; simpa using h2)) hg hs hd
  refine ⟨T', h', X', e', W', ?_, st⟩
  unfold AJ
  rw [List.map_set]
  exact AV.set A e1 e2 e3 rfl W'
theorem ldAIL (X : Stand p l e R s m args below meth c T locs cells slots) (hx : p.tables.exec = Jvm.exec) (hZ : Z.Warmed39 s.vm) (eT : T.heap = h) (A : AI Z h a .int xs) {j : Int32} (h1 : ¬ j < 0) {jn : Nat} (hj : j.toNatClampNeg = jn) (h2 : jn < xs.length) {g : JFrame} (hg : g.method = m) {rest : List Value} (hs : g.stack = .int j :: .ref a :: rest) (hd : decode c.code g.pc = .ok (.iaload, 1)) :
    ∀ target, Steps p.tables e below (T.setTop { g with pc := g.pc + 1, stack := .int (xs.getD jn 0) :: rest }) target → Steps p.tables e below (T.setTop g) target := by
  subst hj; exact ldAI X hx hZ eT A h1 h2 hg hs hd
theorem ldABL (X : Stand p l e R s m args below meth c T locs cells slots) (hx : p.tables.exec = Jvm.exec) (hZ : Z.Warmed39 s.vm) (eT : T.heap = h) (A : AI Z h a .byte xs) {j : Int32} (h1 : ¬ j < 0) {jn : Nat} (hj : j.toNatClampNeg = jn) (h2 : jn < xs.length) {g : JFrame} (hg : g.method = m) {rest : List Value} (hs : g.stack = .int j :: .ref a :: rest) (hd : decode c.code g.pc = .ok (.baload, 1)) :
    ∀ target, Steps p.tables e below (T.setTop { g with pc := g.pc + 1, stack := .int (xs.getD jn 0) :: rest }) target → Steps p.tables e below (T.setTop g) target := by
  subst hj; exact ldAB X hx hZ eT A h1 h2 hg hs hd
theorem ldAJL (X : Stand p l e R s m args below meth c T locs cells slots) (hx : p.tables.exec = Jvm.exec) (hZ : Z.Warmed39 s.vm) (eT : T.heap = h) (A : AJ Z h a ys) {j : Int32} (h1 : ¬ j < 0) {jn : Nat} (hj : j.toNatClampNeg = jn) (h2 : jn < ys.length) {g : JFrame} (hg : g.method = m) {rest : List Value} (hs : g.stack = .int j :: .ref a :: rest) (hd : decode c.code g.pc = .ok (.laload, 1)) :
    ∀ target, Steps p.tables e below (T.setTop { g with pc := g.pc + 1, stack := .long (ys.getD jn 0) :: rest }) target → Steps p.tables e below (T.setTop g) target := by
  subst hj; exact ldAJ X hx hZ eT A h1 h2 hg hs hd
theorem stAIL (X : Stand p l e R s m args below meth c T locs cells slots) (hx : p.tables.exec = Jvm.exec) (hZ : Z.Warmed39 s.vm) (eT : T.heap = h) (A : AI Z h a .int xs) {j x : Int32} (h1 : ¬ j < 0) {jn : Nat} (hj : j.toNatClampNeg = jn) (h2 : jn < xs.length) {g : JFrame} (hg : g.method = m) {rest : List Value} (hs : g.stack = .int x :: .int j :: .ref a :: rest) (hd : decode c.code g.pc = .ok (.iastore, 1)) :
    ∃ T' h', Stand p l e R s m args below meth c T' (locs ++ [⟨a, j.toNatClampNeg⟩]) cells slots ∧ T'.heap = h' ∧ Wr h h' a j.toNatClampNeg (.int x) ∧ AI Z h' a .int (xs.set jn x) ∧ ∀ target, Steps p.tables e below (T'.setTop { g with pc := g.pc + 1, stack := rest }) target → Steps p.tables e below (T.setTop g) target := by
  subst hj; exact stAI X hx hZ eT A h1 h2 hg hs hd
theorem stABL (X : Stand p l e R s m args below meth c T locs cells slots) (hx : p.tables.exec = Jvm.exec) (hZ : Z.Warmed39 s.vm) (eT : T.heap = h) (A : AI Z h a .byte xs) {j x : Int32} (h1 : ¬ j < 0) {jn : Nat} (hj : j.toNatClampNeg = jn) (h2 : jn < xs.length) {g : JFrame} (hg : g.method = m) {rest : List Value} (hs : g.stack = .int x :: .int j :: .ref a :: rest) (hd : decode c.code g.pc = .ok (.bastore, 1)) :
    ∃ T' h', Stand p l e R s m args below meth c T' (locs ++ [⟨a, j.toNatClampNeg⟩]) cells slots ∧ T'.heap = h' ∧ Wr h h' a j.toNatClampNeg (.int (x.toInt8.toInt32)) ∧ AI Z h' a .byte (xs.set jn (x.toInt8.toInt32)) ∧ ∀ target, Steps p.tables e below (T'.setTop { g with pc := g.pc + 1, stack := rest }) target → Steps p.tables e below (T.setTop g) target := by
  subst hj; exact stAB X hx hZ eT A h1 h2 hg hs hd
theorem stABnL (X : Stand p l e R s m args below meth c T locs cells slots) (hx : p.tables.exec = Jvm.exec) (hZ : Z.Warmed39 s.vm) (eT : T.heap = h) (A : AI Z h a .byte xs) {j y : Int32} (h1 : ¬ j < 0) {jn : Nat} (hj : j.toNatClampNeg = jn) (h2 : jn < xs.length) {g : JFrame} (hg : g.method = m) {rest : List Value} (hs : g.stack = .int (y.toInt8.toInt32) :: .int j :: .ref a :: rest) (hd : decode c.code g.pc = .ok (.bastore, 1)) :
    ∃ T' h', Stand p l e R s m args below meth c T' (locs ++ [⟨a, j.toNatClampNeg⟩]) cells slots ∧ T'.heap = h' ∧ Wr h h' a j.toNatClampNeg (.int (y.toInt8.toInt32)) ∧ AI Z h' a .byte (xs.set jn (y.toInt8.toInt32)) ∧ ∀ target, Steps p.tables e below (T'.setTop { g with pc := g.pc + 1, stack := rest }) target → Steps p.tables e below (T.setTop g) target := by
  subst hj; exact stABn X hx hZ eT A h1 h2 hg hs hd
theorem stAJL (X : Stand p l e R s m args below meth c T locs cells slots) (hx : p.tables.exec = Jvm.exec) (hZ : Z.Warmed39 s.vm) (eT : T.heap = h) (A : AJ Z h a ys) {j : Int32} {x : Int64} (h1 : ¬ j < 0) {jn : Nat} (hj : j.toNatClampNeg = jn) (h2 : jn < ys.length) {g : JFrame} (hg : g.method = m) {rest : List Value} (hs : g.stack = .long x :: .int j :: .ref a :: rest) (hd : decode c.code g.pc = .ok (.lastore, 1)) :
    ∃ T' h', Stand p l e R s m args below meth c T' (locs ++ [⟨a, j.toNatClampNeg⟩]) cells slots ∧ T'.heap = h' ∧ Wr h h' a j.toNatClampNeg (.long x) ∧ AJ Z h' a (ys.set jn x) ∧ ∀ target, Steps p.tables e below (T'.setTop { g with pc := g.pc + 1, stack := rest }) target → Steps p.tables e below (T.setTop g) target := by
  subst hj; exact stAJ X hx hZ eT A h1 h2 hg hs hd
end OwnArr
section OwnClone
variable {p : Program} {l : Launch} {e : Env} {R : Room} {s : State} {m : MethodId} {args : Array Value} {below : List Frame} {meth : Method} {c : Code} {T T' : State} {locs : List Loc} {cells slots : Nat} {Z : State} {a0 : Array Value} {h h' : Heap} {a b : Addr} {ty : FieldType} {xs : List Int32}
theorem cloneAI (X : Stand p l e R s m args below meth c T locs cells slots) (hx : p.tables.exec = Jvm.exec) (hZ : Z.Warmed39 s.vm) {own ad : String} {index : Nat} (hown : s.vm.findClass own = some m.cls)
    (w1 : (Cond.methodLink own index ⟨ad, "clone", "()Ljava/lang/Object;"⟩).before a0 Z = true) (w2 : (Cond.sameMethod ad "java/lang/Object" "clone" "()Ljava/lang/Object;").before a0 Z = true) (w3 : (Cond.native ⟨"java/lang/Object", "clone", "()Ljava/lang/Object;"⟩).before a0 Z = true)
    (w4 : (Cond.instanceMethod ⟨"java/lang/Object", "clone", "()Ljava/lang/Object;"⟩).before a0 Z = true) (w5 : (Cond.selects ad ⟨ad, "clone", "()Ljava/lang/Object;"⟩ ⟨"java/lang/Object", "clone", "()Ljava/lang/Object;"⟩).before a0 Z = true) (w6 : (Cond.castable ad "java/lang/Cloneable").before a0 Z = true)
    (eT : T.heap = h) (A : AI Z h a ty xs) (E : Exa Z h a ad) {g : JFrame} (hg : g.method = m) (hsize : g.locals.size = c.maxLocals) {rest : List Value} (hst : g.stack = .ref a :: rest) (hd : decode c.code g.pc = .ok (.invokevirtual index, 3))
    (hf : 1 ≤ R.frames) {W cap : Nat} (hW : 2 * g.monitorRoom + (rest.map fun v => v.category).sum ≤ W) (hl : W + 14 ≤ R.locals) (hcap : xs.length ≤ cap) (hc : cells + 1 ≤ R.cells) (hsl : slots + cap ≤ R.slots) :
    ∃ T' h', Stand p l e R s m args below meth c T' locs (cells + 1) (slots + cap) ∧ T'.heap = h' ∧ Ext h h' ∧ Exa Z h' h.size ad ∧ AI Z h' h.size ty xs ∧
      ∀ target, Steps p.tables e below (T'.setTop { g with pc := g.pc + 3, stack := .ref h.size :: rest }) target → Steps p.tables e below (T.setTop g) target := by
  obtain ⟨cl, A, e1, e2, e3⟩ := A
  have FC : FitC Z cl := fitC_of A fun i hi v hv => by
    rw [e1] at hv
    exact e3 v (by simpa using Array.mem_of_getElem? hv)
  obtain ⟨T', h', X', e', ex, A', E', st⟩ := cloneA X hx hZ hown w1 w2 w3 w4 w5 w6 eT A E FC hg hsize hst hd hf hW hl (by rw [e1]; simpa using hcap) hc hsl
  exact ⟨T', h', X', e', ex, E', ⟨_, A', e1, e2, e3⟩, st⟩
end OwnClone

section OwnCopy
variable {p : Program} {l : Launch} {e : Env} {R : Room} {s : State} {m : MethodId} {args : Array Value} {below : List Frame} {meth : Method} {c : Code} {T T' : State} {locs : List Loc} {cells slots : Nat} {Z : State} {a0 : Array Value} {h h' : Heap} {a b : Addr} {ty : FieldType} {xs ys : List Int32}
theorem own_ofNat {n : Nat} (h : n < 2147483648) : (Int32.ofNat n).toNatClampNeg = n ∧ ¬ Int32.ofNat n < 0 := by
  have e : (Int32.ofNat n).toInt = n := Int32.toInt_ofNat_of_lt (by omega)
  refine ⟨by rw [Int32.toNatClampNeg, e]; rfl, ?_⟩
  rw [Int32.lt_iff_toInt_lt, e, show (0 : Int32).toInt = 0 from rfl]
  omega
theorem AI.arv (A : AI Z h a ty xs) : ∃ k, Arv Z h a k ty (Int32.ofNat xs.length) (xs.map Value.int) (.int 0) := by
  obtain ⟨c, A, e1, e2, e3⟩ := A
  rw [List.length_map] at e2
  obtain ⟨n1, n2⟩ := own_ofNat e2
  have sz : c.slots.size = xs.length := by rw [e1]; simp
  refine ⟨c.cls, c, A, rfl, by rw [n1, sz], n2, fun k hk => ?_, fun i hi => ?_⟩
  · rw [e1]
    rw [sz] at hk
    simp [List.getD_eq_getElem?_getD, hk]
  · rw [sz] at hi
    apply e3
    rw [List.getD_eq_getElem?_getD, List.getElem?_eq_getElem (by simpa using hi)]
    exact List.getElem_mem _
theorem AI.of_arv {k : ClassId} {n : Int32} {d : Value} (F : Arv Z h a k ty n (xs.map Value.int) d) (hl : xs.length = n.toNatClampNeg) : AI Z h a ty xs := by
  obtain ⟨c, A, -, S, q, H, G⟩ := F
  have sz : c.slots.size = xs.length := by rw [S, hl]
  refine ⟨c, A, ?_, by rw [List.length_map, hl]; exact (back32 q).2, fun v hv => ?_⟩
  · apply Array.ext_getElem?
    intro i
    by_cases hi : i < c.slots.size
    · rw [H i hi]
      rw [sz] at hi
      simp [List.getD_eq_getElem?_getD, hi]
    · rw [Array.getElem?_eq_none (by omega), Array.getElem?_eq_none (by simp; omega)]
  · obtain ⟨i, hi, rfl⟩ := List.mem_iff_getElem.mp hv
    have q2 := G i (by rw [sz]; simpa using hi)
    rw [List.getD_eq_getElem?_getD, List.getElem?_eq_getElem hi] at q2
    exact q2
theorem cpAI (X : Stand p l e R s m args below meth c T locs cells slots) (hx : p.tables.exec = Jvm.exec) (hZ : Z.Warmed39 s.vm) {own : String} {index : Nat} (hown : s.vm.findClass own = some m.cls)
    (w1 : (Cond.methodLink own index Jvm.Stand.acN).before a0 Z = true) (w2 : (Cond.native Jvm.Stand.acN).before a0 Z = true) (w3 : (Cond.static Jvm.Stand.acN).before a0 Z = true) (w4 : (Cond.initialized "java/lang/System").before a0 Z = true) (eT : T.heap = h)
    {sp dp nn : Int32} (A : AI Z h a ty xs) (B : AI Z h b ty ys) (hty : refKind ty = false)
    (h1 : ¬ sp < 0) (h2 : ¬ dp < 0) (h3 : ¬ nn < 0) (h4 : sp.toNatClampNeg + nn.toNatClampNeg ≤ xs.length) (h5 : dp.toNatClampNeg + nn.toNatClampNeg ≤ ys.length) {n0 : Nat} (N : Fr n0 locs) (ge : n0 ≤ b)
    {g : JFrame} (hg : g.method = m) (hsize : g.locals.size = c.maxLocals) {rest : List Value} (hs : g.stack = .int nn :: .int dp :: .ref b :: .int sp :: .ref a :: rest) (hd : decode c.code g.pc = .ok (.invokestatic index, 3))
    (hf : 1 ≤ R.frames) {W : Nat} (hW : 2 * g.monitorRoom + (rest.map fun v => v.category).sum ≤ W) (hlo : W + (nativeFrameWords "java/lang/System" "arraycopy" 5 + 11) ≤ R.locals) :
    ∃ T' h' L, Stand p l e R s m args below meth c T' L cells slots ∧ T'.heap = h' ∧ Fr n0 L ∧ Keep h h' [b] ∧ AI Z h' b ty (ys.take dp.toNatClampNeg ++ (xs.drop sp.toNatClampNeg).take nn.toNatClampNeg ++ ys.drop (dp.toNatClampNeg + nn.toNatClampNeg)) ∧
      ∀ target, Steps p.tables e below (T'.setTop { g with pc := g.pc + 3, stack := rest }) target → Steps p.tables e below (T.setTop g) target := by
  have lx : xs.length < 2147483648 := by obtain ⟨_, _, _, q, _⟩ := A; rwa [List.length_map] at q
  have ly : ys.length < 2147483648 := by obtain ⟨_, _, _, q, _⟩ := B; rwa [List.length_map] at q
  obtain ⟨k1, A1⟩ := A.arv
  obtain ⟨k2, B1⟩ := B.arv
  have hus : (((xs.drop sp.toNatClampNeg).take nn.toNatClampNeg).map Value.int) = (List.range nn.toNatClampNeg).map fun i => (xs.map Value.int).getD (sp.toNatClampNeg + i) (.int 0) := by
    apply List.ext_getElem?
    intro i
    by_cases hi : i < nn.toNatClampNeg
    · rw [List.getElem?_map, List.getElem?_take_of_lt hi, List.getElem?_drop, List.getElem?_map, List.getElem?_range hi]
      show _ = some ((xs.map Value.int).getD (sp.toNatClampNeg + i) (.int 0))
      rw [List.getD_eq_getElem?_getD, List.getElem?_map, List.getElem?_eq_getElem (by omega)]
      rfl
    · rw [List.getElem?_eq_none (by simp; omega), List.getElem?_eq_none (by simp; omega)]
  obtain ⟨T', h', L, X', e', N', K', B', st⟩ := cpA X hx hZ hown w1 w2 w3 w4 eT A1 B1 (Or.inl ⟨rfl, hty⟩) h1 h2 h3 (by rw [(own_ofNat lx).1]; exact h4) (by rw [(own_ofNat ly).1]; exact h5) hus (by simpa using h5) N ge hg hsize hs hd hf hW hlo
  refine ⟨T', h', L, X', e', N', K', ?_, st⟩
  have e : (ys.map Value.int).take dp.toNatClampNeg ++ ((xs.drop sp.toNatClampNeg).take nn.toNatClampNeg).map Value.int ++ (ys.map Value.int).drop (dp.toNatClampNeg + nn.toNatClampNeg) = (ys.take dp.toNatClampNeg ++ (xs.drop sp.toNatClampNeg).take nn.toNatClampNeg ++ ys.drop (dp.toNatClampNeg + nn.toNatClampNeg)).map Value.int := by simp
  rw [e] at B'
  refine AI.of_arv B' ?_
  rw [(own_ofNat ly).1]
  simp only [List.length_append, List.length_take, List.length_drop]
  omega
end OwnCopy

theorem d_pcheck_0 : decode jdk_41_method_13_code 0 = .ok (.iload_n 2, 1) := by decide +kernel
theorem d_pcheck_1 : decode jdk_41_method_13_code 1 = .ok (.iload_n 0, 1) := by decide +kernel
theorem d_pcheck_2 : decode jdk_41_method_13_code 2 = .ok (.ior, 1) := by decide +kernel
theorem d_pcheck_3 : decode jdk_41_method_13_code 3 = .ok (.iload_n 1, 1) := by decide +kernel
theorem d_pcheck_4 : decode jdk_41_method_13_code 4 = .ok (.ior, 1) := by decide +kernel
theorem d_pcheck_5 : decode jdk_41_method_13_code 5 = .ok (.ifCond .lt 10, 3) := by decide +kernel
theorem d_pcheck_8 : decode jdk_41_method_13_code 8 = .ok (.iload_n 1, 1) := by decide +kernel
theorem d_pcheck_9 : decode jdk_41_method_13_code 9 = .ok (.iload_n 2, 1) := by decide +kernel
theorem d_pcheck_10 : decode jdk_41_method_13_code 10 = .ok (.iload_n 0, 1) := by decide +kernel
theorem d_pcheck_11 : decode jdk_41_method_13_code 11 = .ok (.isub, 1) := by decide +kernel
theorem d_pcheck_12 : decode jdk_41_method_13_code 12 = .ok (.if_icmp .le 11, 3) := by decide +kernel
theorem d_pcheck_23 : decode jdk_41_method_13_code 23 = .ok (.iload_n 0, 1) := by decide +kernel
theorem d_pcheck_24 : decode jdk_41_method_13_code 24 = .ok (.ireturn, 1) := by decide +kernel
theorem ef_pcheck (m : MethodId) (v0 : Int32) (v1 : Int32) (v2 : Int32) : entryFrame m #[(.int v0), (.int v1), (.int v2), .null] 4 = mkF m 0 #[.val (.int v0), .val (.int v1), .val (.int v2), .val .null] [] := by first | (simp [entryFrame, mkF, argsToLocals, Value.category]; done) | rfl
def Q_pcheck (Z : State) (v0 : Int32) (v1 : Int32) (v2 : Int32) (h0 : Heap) (n0 : Nat) (v : Option Value) (h : Heap) (L : List Loc) : Prop := v = some (.int v0) ∧ Fr n0 L ∧ h = h0
set_option maxRecDepth 65536 in
set_option maxHeartbeats 40000000 in
theorem rm_pcheck (l : Launch) (Z : State) (a0 : Array Value) (hw : ∀ d ∈ tables_1, d.before a0 Z = true) (ws : List Jvm.Cond) (v0 : Int32) (v1 : Int32) (v2 : Int32) (h0 : Heap) (n0 : Nat) (Z0 : n0 ≤ h0.size) (h1 : ¬ (((v2 ||| v0) ||| v1) < (0 : Int32))) (h2 : ¬ ((v2 - v0) < v1)) :
    MetFree l (⟨"jdk/internal/util/Preconditions", "checkFromIndexSize", "(IIILjava/util/function/BiFunction;)I"⟩ : MethodName) (head1 (Jvm.Cond.code (⟨"jdk/internal/util/Preconditions", "checkFromIndexSize", "(IIILjava/util/function/BiFunction;)I"⟩ : MethodName) jdk_41_method_13_code 4 (some .int) :: ws) ({ frames := 0, cells := 0, slots := 0, locals := 0 } : Room)) (fun a U => a = #[(.int v0), (.int v1), (.int v2), .null] ∧ Z.Warmed39 U.vm ∧ U.heap = h0) (fun _ _ _ _ _ => True) (fun _ U o U' => ∃ v L, o = .returned v ∧ Q_pcheck Z v0 v1 v2 h0 n0 v U'.heap L ∧ FrameEnd U o U' L ({ frames := 0, cells := 0, slots := 0, locals := 0 } : Room).cells ({ frames := 0, cells := 0, slots := 0, locals := 0 } : Room).slots) := by
  refine MetFree.of_bodySF (plainFor_of_name (by first | (simp [plainName, overriddenIn]; done) | decide +kernel)) hisR ?_
  intro p e s m args below meth c s₁ Bd hml0 hP hK
  obtain ⟨rfl, hZ, hh⟩ := hP
  have hx := Bd.exec
  have hby := Bd.bytes
  have hml : c.maxLocals = 4 := hml0
  have hown : s.vm.findClass "jdk/internal/util/Preconditions" = some m.cls := findClass_of_methodNamed Bd.named
  have hnm := (name_of_methodNamed Bd.named Bd.method).1
  have hlk : meth.locks = false := Bd.notSynchronized
  have X0 : Stand p l e ({ frames := 0, cells := 0, slots := 0, locals := 0 } : Room) s m #[(.int v0), (.int v1), (.int v2), .null] below meth c s₁ [] 0 0 := Stand.of_body Bd
  have e0 : s₁.heap = h0 := by rw [← hh, Bd.state]; rfl
  have N0 := Fr.nil n0
  refine Go.enter (Q := Q_pcheck Z v0 v1 v2 h0 n0) (C := ({ frames := 0, cells := 0, slots := 0, locals := 0 } : Room).cells) (N := ({ frames := 0, cells := 0, slots := 0, locals := 0 } : Room).slots) (ef_pcheck m v0 v1 v2) ?_
  show Go p e below s _ _ _ s₁ (mkF m 0 #[.val (.int v0), .val (.int v1), .val (.int v2), .val .null] [])
  refine G_iloadN X0 hx (pc' := 1) rfl (hb hby d_pcheck_0) rfl ?_
  refine G_iloadN X0 hx (pc' := 2) rfl (hb hby d_pcheck_1) rfl ?_
  refine G_ior X0 hx (pc' := 3) rfl (hb hby d_pcheck_2)  ?_
  refine G_iloadN X0 hx (pc' := 4) rfl (hb hby d_pcheck_3) rfl ?_
  refine G_ior X0 hx (pc' := 5) rfl (hb hby d_pcheck_4)  ?_
  refine G_ifNo X0 hx (pc' := 8) rfl (hb hby d_pcheck_5) ((if0 _ _).trans (flt (h1 : ¬ (((v2 ||| v0) ||| v1) < (0 : Int32)))).1) ?_
  refine G_iloadN X0 hx (pc' := 9) rfl (hb hby d_pcheck_8) rfl ?_
  refine G_iloadN X0 hx (pc' := 10) rfl (hb hby d_pcheck_9) rfl ?_
  refine G_iloadN X0 hx (pc' := 11) rfl (hb hby d_pcheck_10) rfl ?_
  refine G_isub X0 hx (pc' := 12) rfl (hb hby d_pcheck_11)  ?_
  refine G_icmpYes X0 hx (pc' := 23) (hb hby d_pcheck_12) (flt (h2 : ¬ ((v2 - v0) < v1))).2.2.2 (by decide) (by decide) ?_
  refine G_iloadN X0 hx (pc' := 24) rfl (hb hby d_pcheck_23) rfl ?_
  refine Go.fin X0 hlk (v := some (.int v0)) (fun h => by rw [Bd.returns] at h; cases h) (by decide) (by decide) ?_ (fun fs hr => retOut X0 hx Bd.returns rfl (Or.inl ⟨rfl, Or.inl rfl, _, rfl⟩) (hb hby d_pcheck_24) hr)
  show Q_pcheck Z v0 v1 v2 h0 n0 _ s₁.heap _
  rw [e0]
  exact ⟨rfl, N0, rfl⟩
theorem d_ocheck_0 : decode jdk_31_method_19_code 0 = .ok (.iload_n 0, 1) := by decide +kernel
theorem d_ocheck_1 : decode jdk_31_method_19_code 1 = .ok (.iload_n 1, 1) := by decide +kernel
theorem d_ocheck_2 : decode jdk_31_method_19_code 2 = .ok (.iload_n 2, 1) := by decide +kernel
theorem d_ocheck_3 : decode jdk_31_method_19_code 3 = .ok (.aconst_null, 1) := by decide +kernel
theorem d_ocheck_4 : decode jdk_31_method_19_code 4 = .ok (.invokestatic 115, 3) := by decide +kernel
theorem pd_0 : parseMethodDescriptor "(IIILjava/util/function/BiFunction;)I" = some ⟨[.int, .int, .int, (.object "java/util/function/BiFunction")], some .int⟩ := by decide +kernel
theorem d_ocheck_7 : decode jdk_31_method_19_code 7 = .ok (.ireturn, 1) := by decide +kernel
theorem ef_ocheck (m : MethodId) (v0 : Int32) (v1 : Int32) (v2 : Int32) : entryFrame m #[(.int v0), (.int v1), (.int v2)] 3 = mkF m 0 #[.val (.int v0), .val (.int v1), .val (.int v2)] [] := by first | (simp [entryFrame, mkF, argsToLocals, Value.category]; done) | rfl
def Q_ocheck (Z : State) (v0 : Int32) (v1 : Int32) (v2 : Int32) (h0 : Heap) (n0 : Nat) (v : Option Value) (h : Heap) (L : List Loc) : Prop := v = some (.int v0) ∧ Fr n0 L ∧ h = h0
set_option maxRecDepth 65536 in
set_option maxHeartbeats 40000000 in
theorem rm_ocheck (l : Launch) (Z : State) (a0 : Array Value) (hw : ∀ d ∈ tables_1, d.before a0 Z = true) (ws : List Jvm.Cond) (v0 : Int32) (v1 : Int32) (v2 : Int32) (h0 : Heap) (n0 : Nat) (Z0 : n0 ≤ h0.size) (h1 : ¬ (((v2 ||| v0) ||| v1) < (0 : Int32))) (h2 : ¬ ((v2 - v0) < v1)) :
    MetFree l (⟨"java/util/Objects", "checkFromIndexSize", "(III)I"⟩ : MethodName) (head1 (Jvm.Cond.code (⟨"java/util/Objects", "checkFromIndexSize", "(III)I"⟩ : MethodName) jdk_31_method_19_code 3 (some .int) :: ws) ({ frames := 1, cells := 0, slots := 0, locals := 15 } : Room)) (fun a U => a = #[(.int v0), (.int v1), (.int v2)] ∧ Z.Warmed39 U.vm ∧ U.heap = h0) (fun _ _ _ _ _ => True) (fun _ U o U' => ∃ v L, o = .returned v ∧ Q_ocheck Z v0 v1 v2 h0 n0 v U'.heap L ∧ FrameEnd U o U' L ({ frames := 1, cells := 0, slots := 0, locals := 15 } : Room).cells ({ frames := 1, cells := 0, slots := 0, locals := 15 } : Room).slots) := by
  refine MetFree.of_bodySF (plainFor_of_name (by first | (simp [plainName, overriddenIn]; done) | decide +kernel)) hisR ?_
  intro p e s m args below meth c s₁ Bd hml0 hP hK
  obtain ⟨rfl, hZ, hh⟩ := hP
  have hx := Bd.exec
  have hby := Bd.bytes
  have hml : c.maxLocals = 3 := hml0
  have hown : s.vm.findClass "java/util/Objects" = some m.cls := findClass_of_methodNamed Bd.named
  have hnm := (name_of_methodNamed Bd.named Bd.method).1
  have hlk : meth.locks = false := Bd.notSynchronized
  have X0 : Stand p l e ({ frames := 1, cells := 0, slots := 0, locals := 15 } : Room) s m #[(.int v0), (.int v1), (.int v2)] below meth c s₁ [] 0 0 := Stand.of_body Bd
  have e0 : s₁.heap = h0 := by rw [← hh, Bd.state]; rfl
  have N0 := Fr.nil n0
  refine Go.enter (Q := Q_ocheck Z v0 v1 v2 h0 n0) (C := ({ frames := 1, cells := 0, slots := 0, locals := 15 } : Room).cells) (N := ({ frames := 1, cells := 0, slots := 0, locals := 15 } : Room).slots) (ef_ocheck m v0 v1 v2) ?_
  show Go p e below s _ _ _ s₁ (mkF m 0 #[.val (.int v0), .val (.int v1), .val (.int v2)] [])
  refine G_iloadN X0 hx (pc' := 1) rfl (hb hby d_ocheck_0) rfl ?_
  refine G_iloadN X0 hx (pc' := 2) rfl (hb hby d_ocheck_1) rfl ?_
  refine G_iloadN X0 hx (pc' := 3) rfl (hb hby d_ocheck_2) rfl ?_
  refine G_aconstNull X0 hx (pc' := 4) rfl (hb hby d_ocheck_3)  ?_
  obtain ⟨_, _, ⟨T1, L1, k1, n1⟩, -, X1, ⟨Lc1, hQ1, l1, y1, z1⟩, st1⟩ := Jvm.LawKit.callS X0 hx (y := (⟨"jdk/internal/util/Preconditions", "checkFromIndexSize", "(IIILjava/util/function/BiFunction;)I"⟩ : MethodName)) hown (mvT hZ (hw _ (List.mem_of_getElem? (i := 15) rfl))) (mvT hZ (hw _ (List.mem_of_getElem? (i := 16) rfl))) (mvT hZ (hw _ (List.mem_of_getElem? (i := 17) rfl))) (mvT hZ (hw _ (List.mem_of_getElem? (i := 18) rfl))) (by decide) (backOf (W := 0) (rm_pcheck l Z a0 hw [] v0 v1 v2 h0 n0 Z0 h1 h2) hZ (hw _ (List.mem_of_getElem? (i := 18) rfl)) (hw _ (List.mem_of_getElem? (i := 17) rfl)) (by decide) (by decide)) (g := (mkF m 4 #[.val (.int v0), .val (.int v1), .val (.int v2)] [.null, (.int v2), (.int v1), (.int v0)])) rfl (by rw [hml]; rfl) (argsL := [(.int v0), (.int v1), (.int v2), .null]) (rest := []) (lenOf pd_0 rfl) rfl (by show 2 * 0 + _ ≤ _; exact Nat.le_of_eq rfl) (hb hby d_ocheck_4) (fun _ _ => ⟨rfl, e0, (by decide : 0 + 0 ≤ _), (by decide : 0 + 0 ≤ _)⟩)
  dsimp only [Pt.U, Pt.locs, Pt.cells, Pt.slots] at X1 l1 y1 z1 st1 hQ1
  subst l1 y1 z1
  obtain ⟨rfl, N1q, e1⟩ := hQ1
  have N1 := Fr.app N0 N1q
  refine Go.st st1 ?_
  show Go p e below s _ _ _ T1 (mkF m 7 #[.val (.int v0), .val (.int v1), .val (.int v2)] [(.int v0)])
  refine Go.fin X1 hlk (v := some (.int v0)) (fun h => by rw [Bd.returns] at h; cases h) (by decide) (by decide) ?_ (fun fs hr => retOut X1 hx Bd.returns rfl (Or.inl ⟨rfl, Or.inl rfl, _, rfl⟩) (hb hby d_ocheck_7) hr)
  show Q_ocheck Z v0 v1 v2 h0 n0 _ T1.heap _
  rw [e1]
  exact ⟨rfl, N1, rfl⟩
theorem d_rinit_0 : decode prog_59_method_1_code 0 = .ok (.aload_n 0, 1) := by decide +kernel
theorem d_rinit_1 : decode prog_59_method_1_code 1 = .ok (.invokespecial 3, 3) := by decide +kernel
theorem d_rinit_4 : decode prog_59_method_1_code 4 = .ok (.iload_n 2, 1) := by decide +kernel
theorem d_rinit_5 : decode prog_59_method_1_code 5 = .ok (.iload_n 3, 1) := by decide +kernel
theorem d_rinit_6 : decode prog_59_method_1_code 6 = .ok (.aload_n 1, 1) := by decide +kernel
theorem d_rinit_7 : decode prog_59_method_1_code 7 = .ok (.arraylength, 1) := by decide +kernel
theorem d_rinit_8 : decode prog_59_method_1_code 8 = .ok (.invokestatic 9, 3) := by decide +kernel
theorem pd_1 : parseMethodDescriptor "(III)I" = some ⟨[.int, .int, .int], some .int⟩ := by decide +kernel
theorem d_rinit_11 : decode prog_59_method_1_code 11 = .ok (.pop, 1) := by decide +kernel
theorem d_rinit_12 : decode prog_59_method_1_code 12 = .ok (.aload_n 0, 1) := by decide +kernel
theorem d_rinit_13 : decode prog_59_method_1_code 13 = .ok (.aload_n 1, 1) := by decide +kernel
theorem d_rinit_14 : decode prog_59_method_1_code 14 = .ok (.putfield 15, 3) := by decide +kernel
theorem d_rinit_17 : decode prog_59_method_1_code 17 = .ok (.aload_n 0, 1) := by decide +kernel
theorem d_rinit_18 : decode prog_59_method_1_code 18 = .ok (.iload_n 2, 1) := by decide +kernel
theorem d_rinit_19 : decode prog_59_method_1_code 19 = .ok (.putfield 21, 3) := by decide +kernel
theorem d_rinit_22 : decode prog_59_method_1_code 22 = .ok (.aload_n 0, 1) := by decide +kernel
theorem d_rinit_23 : decode prog_59_method_1_code 23 = .ok (.iload_n 2, 1) := by decide +kernel
theorem d_rinit_24 : decode prog_59_method_1_code 24 = .ok (.iload_n 3, 1) := by decide +kernel
theorem d_rinit_25 : decode prog_59_method_1_code 25 = .ok (.iadd, 1) := by decide +kernel
theorem d_rinit_26 : decode prog_59_method_1_code 26 = .ok (.putfield 25, 3) := by decide +kernel
theorem d_rinit_29 : decode prog_59_method_1_code 29 = .ok (.return_, 1) := by decide +kernel
theorem ef_rinit (m : MethodId) (v0 : Addr) (v1 : Addr) (v2 : Int32) (v3 : Int32) : entryFrame m #[(.ref v0), (.ref v1), (.int v2), (.int v3)] 4 = mkF m 0 #[.val (.ref v0), .val (.ref v1), .val (.int v2), .val (.int v3)] [] := by first | (simp [entryFrame, mkF, argsToLocals, Value.category]; done) | rfl
def Q_rinit (Z : State) (v0 : Addr) (v1 : Addr) (v2 : Int32) (v3 : Int32) (xs : List Int32) (h0 : Heap) (n0 : Nat) (v : Option Value) (h : Heap) (L : List Loc) : Prop := v = none ∧ Fr n0 L ∧ Keep h0 h [v0] ∧ Exa Z h v0 "managerie/snmp/Ber$Reader" ∧ Fld Z h v0 "managerie/snmp/Ber$Reader" "data" "[B" (.ref v1) ∧ Fld Z h v0 "managerie/snmp/Ber$Reader" "position" "I" (.int v2) ∧ Fld Z h v0 "managerie/snmp/Ber$Reader" "end" "I" (.int (v2 + v3))
set_option maxRecDepth 65536 in
set_option maxHeartbeats 40000000 in
theorem rm_rinit (l : Launch) (Z : State) (a0 : Array Value) (hw : ∀ d ∈ tables_1, d.before a0 Z = true) (ws : List Jvm.Cond) (v0 : Addr) (v1 : Addr) (v2 : Int32) (v3 : Int32) (xs : List Int32) (h0 : Heap) (n0 : Nat) (Z0 : n0 ≤ h0.size) (f0_E_v0 : Exa Z h0 v0 "managerie/snmp/Ber$Reader") (f1_F_v0 : Fld Z h0 v0 "managerie/snmp/Ber$Reader" "data" "[B" .null) (f2_F_v0 : Fld Z h0 v0 "managerie/snmp/Ber$Reader" "position" "I" (.int (0 : Int32))) (f3_F_v0 : Fld Z h0 v0 "managerie/snmp/Ber$Reader" "end" "I" (.int (0 : Int32))) (f4_A_v1 : AI Z h0 v1 .byte xs) (g_v0 : n0 ≤ v0) (ne_v1_v0 : v1 ≠ v0) (h1 : ¬ ((((Int32.ofNat (xs).length) ||| v2) ||| v3) < (0 : Int32))) (h2 : ¬ (((Int32.ofNat (xs).length) - v2) < v3)) :
    MetFree l (⟨"managerie/snmp/Ber$Reader", "<init>", "([BII)V"⟩ : MethodName) (head1 (Jvm.Cond.code (⟨"managerie/snmp/Ber$Reader", "<init>", "([BII)V"⟩ : MethodName) prog_59_method_1_code 4 none :: ws) ({ frames := 2, cells := 0, slots := 0, locals := 29 } : Room)) (fun a U => a = #[(.ref v0), (.ref v1), (.int v2), (.int v3)] ∧ Z.Warmed39 U.vm ∧ U.heap = h0) (fun _ _ _ _ _ => True) (fun _ U o U' => ∃ v L, o = .returned v ∧ Q_rinit Z v0 v1 v2 v3 xs h0 n0 v U'.heap L ∧ FrameEnd U o U' L ({ frames := 2, cells := 0, slots := 0, locals := 29 } : Room).cells ({ frames := 2, cells := 0, slots := 0, locals := 29 } : Room).slots) := by
  refine MetFree.of_bodySF (plainFor_of_name (by first | (simp [plainName, overriddenIn]; done) | decide +kernel)) hisR ?_
  intro p e s m args below meth c s₁ Bd hml0 hP hK
  obtain ⟨rfl, hZ, hh⟩ := hP
  have hx := Bd.exec
  have hby := Bd.bytes
  have hml : c.maxLocals = 4 := hml0
  have hown : s.vm.findClass "managerie/snmp/Ber$Reader" = some m.cls := findClass_of_methodNamed Bd.named
  have hnm := (name_of_methodNamed Bd.named Bd.method).1
  have hlk : meth.locks = false := Bd.notSynchronized
  have X0 : Stand p l e ({ frames := 2, cells := 0, slots := 0, locals := 29 } : Room) s m #[(.ref v0), (.ref v1), (.int v2), (.int v3)] below meth c s₁ [] 0 0 := Stand.of_body Bd
  have e0 : s₁.heap = h0 := by rw [← hh, Bd.state]; rfl
  have N0 := Fr.nil n0
  refine Go.enter (Q := Q_rinit Z v0 v1 v2 v3 xs h0 n0) (C := ({ frames := 2, cells := 0, slots := 0, locals := 29 } : Room).cells) (N := ({ frames := 2, cells := 0, slots := 0, locals := 29 } : Room).slots) (ef_rinit m v0 v1 v2 v3) ?_
  show Go p e below s _ _ _ s₁ (mkF m 0 #[.val (.ref v0), .val (.ref v1), .val (.int v2), .val (.int v3)] [])
  refine G_aloadN X0 hx (pc' := 1) rfl (hb hby d_rinit_0) rfl rfl ?_
  obtain ⟨T2, X2, e2, st2⟩ := initO X0 hx hZ hown (hw _ (List.mem_of_getElem? (i := 8) rfl)) (hw _ (List.mem_of_getElem? (i := 9) rfl)) (hw _ (List.mem_of_getElem? (i := 10) rfl)) e0 (g := (mkF m 1 #[.val (.ref v0), .val (.ref v1), .val (.int v2), .val (.int v3)] [(.ref v0)])) rfl (by rw [hml]; rfl) rfl (hb hby d_rinit_1) (by decide) (W := 0) (by show 2 * 0 + _ ≤ _; exact Nat.le_of_eq rfl) (by decide)
  refine Go.st st2 ?_
  show Go p e below s _ _ _ T2 (mkF m 4 #[.val (.ref v0), .val (.ref v1), .val (.int v2), .val (.int v3)] [])
  refine G_iloadN X2 hx (pc' := 5) rfl (hb hby d_rinit_4) rfl ?_
  refine G_iloadN X2 hx (pc' := 6) rfl (hb hby d_rinit_5) rfl ?_
  refine G_aloadN X2 hx (pc' := 7) rfl (hb hby d_rinit_6) rfl rfl ?_
  refine Go.st (lenAI X2 hx hZ e2 f4_A_v1 (g := (mkF m 7 #[.val (.ref v0), .val (.ref v1), .val (.int v2), .val (.int v3)] [(.ref v1), (.int v3), (.int v2)])) rfl rfl (hb hby d_rinit_7)) ?_
  show Go p e below s _ _ _ T2 (mkF m 8 #[.val (.ref v0), .val (.ref v1), .val (.int v2), .val (.int v3)] [(.int (Int32.ofNat (xs).length)), (.int v3), (.int v2)])
  obtain ⟨_, _, ⟨T3, L3, k3, n3⟩, -, X3, ⟨Lc3, hQ3, l3, y3, z3⟩, st3⟩ := Jvm.LawKit.callS X2 hx (y := (⟨"java/util/Objects", "checkFromIndexSize", "(III)I"⟩ : MethodName)) hown (mvT hZ (hw _ (List.mem_of_getElem? (i := 11) rfl))) (mvT hZ (hw _ (List.mem_of_getElem? (i := 12) rfl))) (mvT hZ (hw _ (List.mem_of_getElem? (i := 13) rfl))) (mvT hZ (hw _ (List.mem_of_getElem? (i := 14) rfl))) (by decide) (backOf (W := 0) (rm_ocheck l Z a0 hw [] v2 v3 (Int32.ofNat (xs).length) h0 n0 Z0 h1 h2) hZ (hw _ (List.mem_of_getElem? (i := 14) rfl)) (hw _ (List.mem_of_getElem? (i := 13) rfl)) (by decide) (by decide)) (g := (mkF m 8 #[.val (.ref v0), .val (.ref v1), .val (.int v2), .val (.int v3)] [(.int (Int32.ofNat (xs).length)), (.int v3), (.int v2)])) rfl (by rw [hml]; rfl) (argsL := [(.int v2), (.int v3), (.int (Int32.ofNat (xs).length))]) (rest := []) (lenOf pd_1 rfl) rfl (by show 2 * 0 + _ ≤ _; exact Nat.le_of_eq rfl) (hb hby d_rinit_8) (fun _ _ => ⟨rfl, e2, (by decide : 0 + 0 ≤ _), (by decide : 0 + 0 ≤ _)⟩)
  dsimp only [Pt.U, Pt.locs, Pt.cells, Pt.slots] at X3 l3 y3 z3 st3 hQ3
  subst l3 y3 z3
  obtain ⟨rfl, N3q, e3⟩ := hQ3
  have N3 := Fr.app N0 N3q
  refine Go.st st3 ?_
  show Go p e below s _ _ _ T3 (mkF m 11 #[.val (.ref v0), .val (.ref v1), .val (.int v2), .val (.int v3)] [(.int v2)])
  refine G_pop X3 hx (pc' := 12) rfl (hb hby d_rinit_11) rfl ?_
  refine G_aloadN X3 hx (pc' := 13) rfl (hb hby d_rinit_12) rfl rfl ?_
  refine G_aloadN X3 hx (pc' := 14) rfl (hb hby d_rinit_13) rfl rfl ?_
  obtain ⟨T4, h4, X4, e4, W4, st4⟩ := putF X3 hx hZ hown (host := "") (Or.inl (hw _ (List.mem_of_getElem? (i := 19) rfl))) Via.refl e3 f1_F_v0 f0_E_v0 (Or.inr ⟨(hw _ (List.mem_of_getElem? (i := 20) rfl)), rfl, hnm⟩) (hw _ (List.mem_of_getElem? (i := 3) rfl)) (ty := (.array .byte)) (by decide) rfl rfl (g := (mkF m 14 #[.val (.ref v0), .val (.ref v1), .val (.int v2), .val (.int v3)] [(.ref v1), (.ref v0)])) rfl rfl (hb hby d_rinit_14)
  refine Go.st st4 ?_
  have F_v0_w4 := f1_F_v0.same W4
  have E_v0_4 := f0_E_v0.wr W4
  have F_v0_position_4 := f2_F_v0.other W4 (Or.inr (slot_ne (Or.inl (hw _ (List.mem_of_getElem? (i := 22) rfl))) (Or.inr (hw _ (List.mem_of_getElem? (i := 20) rfl))) (by decide) (t := .int) (t' := (.array .byte)) (by decide) (by decide)))
  have F_v0_end_4 := f3_F_v0.other W4 (Or.inr (slot_ne (Or.inr (hw _ (List.mem_of_getElem? (i := 24) rfl))) (Or.inr (hw _ (List.mem_of_getElem? (i := 20) rfl))) (by decide) (t := .int) (t' := (.array .byte)) (by decide) (by decide)))
  have A_v1_4 := f4_A_v1.other W4 ne_v1_v0
  have K_4 : Keep h0 h4 [v0] := (Keep.refl h0 [v0]).wr W4 (Or.inl (List.mem_of_getElem? (i := 0) rfl))
  have Z_4 : n0 ≤ h4.size := Nat.le_trans Z0 K_4.1
  have N4 := Fr.snoc X4 N3 g_v0
  show Go p e below s _ _ _ T4 (mkF m 17 #[.val (.ref v0), .val (.ref v1), .val (.int v2), .val (.int v3)] [])
  refine G_aloadN X4 hx (pc' := 18) rfl (hb hby d_rinit_17) rfl rfl ?_
  refine G_iloadN X4 hx (pc' := 19) rfl (hb hby d_rinit_18) rfl ?_
  obtain ⟨T5, h5, X5, e5, W5, st5⟩ := putF X4 hx hZ hown (host := "") (Or.inl (hw _ (List.mem_of_getElem? (i := 21) rfl))) Via.refl e4 F_v0_position_4 E_v0_4 (Or.inl (hw _ (List.mem_of_getElem? (i := 22) rfl))) (hw _ (List.mem_of_getElem? (i := 3) rfl)) (ty := .int) (by decide) rfl rfl (g := (mkF m 19 #[.val (.ref v0), .val (.ref v1), .val (.int v2), .val (.int v3)] [(.int v2), (.ref v0)])) rfl rfl (hb hby d_rinit_19)
  refine Go.st st5 ?_
  have F_v0_w5 := F_v0_position_4.same W5
  have E_v0_5 := E_v0_4.wr W5
  have F_v0_end_5 := F_v0_end_4.other W5 (Or.inr (slot_ne (Or.inr (hw _ (List.mem_of_getElem? (i := 24) rfl))) (Or.inl (hw _ (List.mem_of_getElem? (i := 22) rfl))) (by decide) (t := .int) (t' := .int) (by decide) (by decide)))
  have A_v1_5 := A_v1_4.other W5 ne_v1_v0
  have F_v0_data_5 := F_v0_w4.other W5 (Or.inr (slot_ne (Or.inr (hw _ (List.mem_of_getElem? (i := 20) rfl))) (Or.inl (hw _ (List.mem_of_getElem? (i := 22) rfl))) (by decide) (t := (.array .byte)) (t' := .int) (by decide) (by decide)))
  have K_5 : Keep h0 h5 [v0] := K_4.wr W5 (Or.inl (List.mem_of_getElem? (i := 0) rfl))
  have Z_5 : n0 ≤ h5.size := Nat.le_trans Z0 K_5.1
  have N5 := Fr.snoc X5 N4 g_v0
  show Go p e below s _ _ _ T5 (mkF m 22 #[.val (.ref v0), .val (.ref v1), .val (.int v2), .val (.int v3)] [])
  refine G_aloadN X5 hx (pc' := 23) rfl (hb hby d_rinit_22) rfl rfl ?_
  refine G_iloadN X5 hx (pc' := 24) rfl (hb hby d_rinit_23) rfl ?_
  refine G_iloadN X5 hx (pc' := 25) rfl (hb hby d_rinit_24) rfl ?_
  refine G_iadd X5 hx (pc' := 26) rfl (hb hby d_rinit_25)  ?_
  obtain ⟨T6, h6, X6, e6, W6, st6⟩ := putF X5 hx hZ hown (host := "") (Or.inl (hw _ (List.mem_of_getElem? (i := 23) rfl))) Via.refl e5 F_v0_end_5 E_v0_5 (Or.inr ⟨(hw _ (List.mem_of_getElem? (i := 24) rfl)), rfl, hnm⟩) (hw _ (List.mem_of_getElem? (i := 3) rfl)) (ty := .int) (by decide) rfl rfl (g := (mkF m 26 #[.val (.ref v0), .val (.ref v1), .val (.int v2), .val (.int v3)] [(.int (v2 + v3)), (.ref v0)])) rfl rfl (hb hby d_rinit_26)
  refine Go.st st6 ?_
  have F_v0_w6 := F_v0_end_5.same W6
  have E_v0_6 := E_v0_5.wr W6
  have A_v1_6 := A_v1_5.other W6 ne_v1_v0
  have F_v0_data_6 := F_v0_data_5.other W6 (Or.inr (slot_ne (Or.inr (hw _ (List.mem_of_getElem? (i := 20) rfl))) (Or.inr (hw _ (List.mem_of_getElem? (i := 24) rfl))) (by decide) (t := (.array .byte)) (t' := .int) (by decide) (by decide)))
  have F_v0_position_6 := F_v0_w5.other W6 (Or.inr (slot_ne (Or.inl (hw _ (List.mem_of_getElem? (i := 22) rfl))) (Or.inr (hw _ (List.mem_of_getElem? (i := 24) rfl))) (by decide) (t := .int) (t' := .int) (by decide) (by decide)))
  have K_6 : Keep h0 h6 [v0] := K_5.wr W6 (Or.inl (List.mem_of_getElem? (i := 0) rfl))
  have Z_6 : n0 ≤ h6.size := Nat.le_trans Z0 K_6.1
  have N6 := Fr.snoc X6 N5 g_v0
  show Go p e below s _ _ _ T6 (mkF m 29 #[.val (.ref v0), .val (.ref v1), .val (.int v2), .val (.int v3)] [])
  refine Go.fin X6 hlk (v := none) (fun _ => rfl) (by decide) (by decide) ?_ (fun fs hr => X6.returnOut hx Bd.returns (hb hby d_rinit_29) hr)
  show Q_rinit Z v0 v1 v2 v3 xs h0 n0 _ T6.heap _
  rw [e6]
  exact ⟨rfl, N6, K_6, E_v0_6, F_v0_data_6, F_v0_position_6, F_v0_w6⟩
theorem d_hasMore_0 : decode prog_59_method_2_code 0 = .ok (.aload_n 0, 1) := by decide +kernel
theorem d_hasMore_1 : decode prog_59_method_2_code 1 = .ok (.getfield 21, 3) := by decide +kernel
theorem d_hasMore_4 : decode prog_59_method_2_code 4 = .ok (.aload_n 0, 1) := by decide +kernel
theorem d_hasMore_5 : decode prog_59_method_2_code 5 = .ok (.getfield 25, 3) := by decide +kernel
theorem d_hasMore_8 : decode prog_59_method_2_code 8 = .ok (.if_icmp .ge 7, 3) := by decide +kernel
theorem d_hasMore_11 : decode prog_59_method_2_code 11 = .ok (.iconst 1, 1) := by decide +kernel
theorem d_hasMore_12 : decode prog_59_method_2_code 12 = .ok (.goto 4, 3) := by decide +kernel
theorem d_hasMore_16 : decode prog_59_method_2_code 16 = .ok (.ireturn, 1) := by decide +kernel
theorem d_hasMore_15 : decode prog_59_method_2_code 15 = .ok (.iconst 0, 1) := by decide +kernel
def f_hasMore (pos : Int32) (e_ : Int32) : Int32 := (if pos < e_ then (1 : Int32) else (0 : Int32))
theorem ef_hasMore (m : MethodId) (v0 : Addr) : entryFrame m #[(.ref v0)] 1 = mkF m 0 #[.val (.ref v0)] [] := by first | (simp [entryFrame, mkF, argsToLocals, Value.category]; done) | rfl
def Q_hasMore (Z : State) (v0 : Addr) (pos : Int32) (e_ : Int32) (h0 : Heap) (n0 : Nat) (v : Option Value) (h : Heap) (L : List Loc) : Prop := v = some (.int (f_hasMore pos e_)) ∧ Fr n0 L ∧ h = h0
set_option maxRecDepth 65536 in
set_option maxHeartbeats 40000000 in
theorem rm_hasMore (l : Launch) (Z : State) (a0 : Array Value) (hw : ∀ d ∈ tables_1, d.before a0 Z = true) (ws : List Jvm.Cond) (v0 : Addr) (pos : Int32) (e_ : Int32) (h0 : Heap) (n0 : Nat) (Z0 : n0 ≤ h0.size) (f0_E_v0 : Exa Z h0 v0 "managerie/snmp/Ber$Reader") (f1_F_v0 : Fld Z h0 v0 "managerie/snmp/Ber$Reader" "position" "I" (.int pos)) (f2_F_v0 : Fld Z h0 v0 "managerie/snmp/Ber$Reader" "end" "I" (.int e_)) :
    MetFree l (⟨"managerie/snmp/Ber$Reader", "hasMore", "()Z"⟩ : MethodName) (head1 (Jvm.Cond.code (⟨"managerie/snmp/Ber$Reader", "hasMore", "()Z"⟩ : MethodName) prog_59_method_2_code 1 (some .boolean) :: ws) ({ frames := 0, cells := 0, slots := 0, locals := 0 } : Room)) (fun a U => a = #[(.ref v0)] ∧ Z.Warmed39 U.vm ∧ U.heap = h0) (fun _ _ _ _ _ => True) (fun _ U o U' => ∃ v L, o = .returned v ∧ Q_hasMore Z v0 pos e_ h0 n0 v U'.heap L ∧ FrameEnd U o U' L ({ frames := 0, cells := 0, slots := 0, locals := 0 } : Room).cells ({ frames := 0, cells := 0, slots := 0, locals := 0 } : Room).slots) := by
  refine MetFree.of_bodySF (plainFor_of_name (by first | (simp [plainName, overriddenIn]; done) | decide +kernel)) hisR ?_
  intro p e s m args below meth c s₁ Bd hml0 hP hK
  obtain ⟨rfl, hZ, hh⟩ := hP
  have hx := Bd.exec
  have hby := Bd.bytes
  have hml : c.maxLocals = 1 := hml0
  have hown : s.vm.findClass "managerie/snmp/Ber$Reader" = some m.cls := findClass_of_methodNamed Bd.named
  have hnm := (name_of_methodNamed Bd.named Bd.method).1
  have hlk : meth.locks = false := Bd.notSynchronized
  have X0 : Stand p l e ({ frames := 0, cells := 0, slots := 0, locals := 0 } : Room) s m #[(.ref v0)] below meth c s₁ [] 0 0 := Stand.of_body Bd
  have e0 : s₁.heap = h0 := by rw [← hh, Bd.state]; rfl
  have N0 := Fr.nil n0
  refine Go.enter (Q := Q_hasMore Z v0 pos e_ h0 n0) (C := ({ frames := 0, cells := 0, slots := 0, locals := 0 } : Room).cells) (N := ({ frames := 0, cells := 0, slots := 0, locals := 0 } : Room).slots) (ef_hasMore m v0) ?_
  show Go p e below s _ _ _ s₁ (mkF m 0 #[.val (.ref v0)] [])
  refine G_aloadN X0 hx (pc' := 1) rfl (hb hby d_hasMore_0) rfl rfl ?_
  obtain ⟨T7, X7, e7, st7⟩ := getF X0 hx hZ hown (host := "") (Or.inl (hw _ (List.mem_of_getElem? (i := 21) rfl))) Via.refl e0 f1_F_v0 (g := (mkF m 1 #[.val (.ref v0)] [(.ref v0)])) rfl rfl (hb hby d_hasMore_1)
  refine Go.st st7 ?_
  show Go p e below s _ _ _ T7 (mkF m 4 #[.val (.ref v0)] [(.int pos)])
  refine G_aloadN X7 hx (pc' := 5) rfl (hb hby d_hasMore_4) rfl rfl ?_
  obtain ⟨T8, X8, e8, st8⟩ := getF X7 hx hZ hown (host := "") (Or.inl (hw _ (List.mem_of_getElem? (i := 23) rfl))) Via.refl e7 f2_F_v0 (g := (mkF m 5 #[.val (.ref v0)] [(.ref v0), (.int pos)])) rfl rfl (hb hby d_hasMore_5)
  refine Go.st st8 ?_
  show Go p e below s _ _ _ T8 (mkF m 8 #[.val (.ref v0)] [(.int e_), (.int pos)])
  by_cases hc8_1 : pos < e_
  · refine G_icmpNo X8 hx (pc' := 11) rfl (hb hby d_hasMore_8) (tlt hc8_1).2.1 ?_
    refine G_iconst X8 hx (pc' := 12) rfl (hb hby d_hasMore_11) (z := (1 : Int32)) rfl ?_
    refine G_goto X8 hx (pc' := 16) (hb hby d_hasMore_12)  (by decide) (by decide) ?_
    refine Go.fin X8 hlk (v := some (.int (1 : Int32))) (fun h => by rw [Bd.returns] at h; cases h) (by decide) (by decide) ?_ (fun fs hr => retN X8 hx (t := .boolean) Bd.returns (by simp) (hb hby d_hasMore_16) hr)
    show Q_hasMore Z v0 pos e_ h0 n0 _ T8.heap _
    rw [e8]
    exact ⟨congrArg (fun z => some (Value.int z)) (Eq.symm ((if_pos hc8_1).trans rfl)), N0, rfl⟩
  · refine G_icmpYes X8 hx (pc' := 15) (hb hby d_hasMore_8) (flt hc8_1).2.1 (by decide) (by decide) ?_
    refine G_iconst X8 hx (pc' := 16) rfl (hb hby d_hasMore_15) (z := (0 : Int32)) rfl ?_
    refine Go.fin X8 hlk (v := some (.int (0 : Int32))) (fun h => by rw [Bd.returns] at h; cases h) (by decide) (by decide) ?_ (fun fs hr => retN X8 hx (t := .boolean) Bd.returns (by simp) (hb hby d_hasMore_16) hr)
    show Q_hasMore Z v0 pos e_ h0 n0 _ T8.heap _
    rw [e8]
    exact ⟨congrArg (fun z => some (Value.int z)) (Eq.symm ((if_neg hc8_1).trans rfl)), N0, rfl⟩
theorem d_position_0 : decode prog_59_method_3_code 0 = .ok (.aload_n 0, 1) := by decide +kernel
theorem d_position_1 : decode prog_59_method_3_code 1 = .ok (.getfield 21, 3) := by decide +kernel
theorem d_position_4 : decode prog_59_method_3_code 4 = .ok (.ireturn, 1) := by decide +kernel
theorem ef_position (m : MethodId) (v0 : Addr) : entryFrame m #[(.ref v0)] 1 = mkF m 0 #[.val (.ref v0)] [] := by first | (simp [entryFrame, mkF, argsToLocals, Value.category]; done) | rfl
def Q_position (Z : State) (v0 : Addr) (pos : Int32) (h0 : Heap) (n0 : Nat) (v : Option Value) (h : Heap) (L : List Loc) : Prop := v = some (.int pos) ∧ Fr n0 L ∧ h = h0
set_option maxRecDepth 65536 in
set_option maxHeartbeats 40000000 in
theorem rm_position (l : Launch) (Z : State) (a0 : Array Value) (hw : ∀ d ∈ tables_1, d.before a0 Z = true) (ws : List Jvm.Cond) (v0 : Addr) (pos : Int32) (h0 : Heap) (n0 : Nat) (Z0 : n0 ≤ h0.size) (f0_F_v0 : Fld Z h0 v0 "managerie/snmp/Ber$Reader" "position" "I" (.int pos)) :
    MetFree l (⟨"managerie/snmp/Ber$Reader", "position", "()I"⟩ : MethodName) (head1 (Jvm.Cond.code (⟨"managerie/snmp/Ber$Reader", "position", "()I"⟩ : MethodName) prog_59_method_3_code 1 (some .int) :: ws) ({ frames := 0, cells := 0, slots := 0, locals := 0 } : Room)) (fun a U => a = #[(.ref v0)] ∧ Z.Warmed39 U.vm ∧ U.heap = h0) (fun _ _ _ _ _ => True) (fun _ U o U' => ∃ v L, o = .returned v ∧ Q_position Z v0 pos h0 n0 v U'.heap L ∧ FrameEnd U o U' L ({ frames := 0, cells := 0, slots := 0, locals := 0 } : Room).cells ({ frames := 0, cells := 0, slots := 0, locals := 0 } : Room).slots) := by
  refine MetFree.of_bodySF (plainFor_of_name (by first | (simp [plainName, overriddenIn]; done) | decide +kernel)) hisR ?_
  intro p e s m args below meth c s₁ Bd hml0 hP hK
  obtain ⟨rfl, hZ, hh⟩ := hP
  have hx := Bd.exec
  have hby := Bd.bytes
  have hml : c.maxLocals = 1 := hml0
  have hown : s.vm.findClass "managerie/snmp/Ber$Reader" = some m.cls := findClass_of_methodNamed Bd.named
  have hnm := (name_of_methodNamed Bd.named Bd.method).1
  have hlk : meth.locks = false := Bd.notSynchronized
  have X0 : Stand p l e ({ frames := 0, cells := 0, slots := 0, locals := 0 } : Room) s m #[(.ref v0)] below meth c s₁ [] 0 0 := Stand.of_body Bd
  have e0 : s₁.heap = h0 := by rw [← hh, Bd.state]; rfl
  have N0 := Fr.nil n0
  refine Go.enter (Q := Q_position Z v0 pos h0 n0) (C := ({ frames := 0, cells := 0, slots := 0, locals := 0 } : Room).cells) (N := ({ frames := 0, cells := 0, slots := 0, locals := 0 } : Room).slots) (ef_position m v0) ?_
  show Go p e below s _ _ _ s₁ (mkF m 0 #[.val (.ref v0)] [])
  refine G_aloadN X0 hx (pc' := 1) rfl (hb hby d_position_0) rfl rfl ?_
  obtain ⟨T9, X9, e9, st9⟩ := getF X0 hx hZ hown (host := "") (Or.inl (hw _ (List.mem_of_getElem? (i := 21) rfl))) Via.refl e0 f0_F_v0 (g := (mkF m 1 #[.val (.ref v0)] [(.ref v0)])) rfl rfl (hb hby d_position_1)
  refine Go.st st9 ?_
  show Go p e below s _ _ _ T9 (mkF m 4 #[.val (.ref v0)] [(.int pos)])
  refine Go.fin X9 hlk (v := some (.int pos)) (fun h => by rw [Bd.returns] at h; cases h) (by decide) (by decide) ?_ (fun fs hr => retOut X9 hx Bd.returns rfl (Or.inl ⟨rfl, Or.inl rfl, _, rfl⟩) (hb hby d_position_4) hr)
  show Q_position Z v0 pos h0 n0 _ T9.heap _
  rw [e9]
  exact ⟨rfl, N0, rfl⟩
theorem d_peekTag_0 : decode prog_59_method_4_code 0 = .ok (.aload_n 0, 1) := by decide +kernel
theorem d_peekTag_1 : decode prog_59_method_4_code 1 = .ok (.invokevirtual 28, 3) := by decide +kernel
theorem pd_2 : parseMethodDescriptor "()Z" = some ⟨[], some .boolean⟩ := by decide +kernel
theorem d_peekTag_4 : decode prog_59_method_4_code 4 = .ok (.ifCond .ne 13, 3) := by decide +kernel
theorem d_peekTag_17 : decode prog_59_method_4_code 17 = .ok (.aload_n 0, 1) := by decide +kernel
theorem d_peekTag_18 : decode prog_59_method_4_code 18 = .ok (.getfield 15, 3) := by decide +kernel
theorem d_peekTag_21 : decode prog_59_method_4_code 21 = .ok (.aload_n 0, 1) := by decide +kernel
theorem d_peekTag_22 : decode prog_59_method_4_code 22 = .ok (.getfield 21, 3) := by decide +kernel
theorem d_peekTag_25 : decode prog_59_method_4_code 25 = .ok (.baload, 1) := by decide +kernel
theorem d_peekTag_26 : decode prog_59_method_4_code 26 = .ok (.sipush 255, 3) := by decide +kernel
theorem d_peekTag_29 : decode prog_59_method_4_code 29 = .ok (.iand, 1) := by decide +kernel
theorem d_peekTag_30 : decode prog_59_method_4_code 30 = .ok (.ireturn, 1) := by decide +kernel
theorem ef_peekTag (m : MethodId) (v0 : Addr) : entryFrame m #[(.ref v0)] 1 = mkF m 0 #[.val (.ref v0)] [] := by first | (simp [entryFrame, mkF, argsToLocals, Value.category]; done) | rfl
def Q_peekTag (Z : State) (v0 : Addr) (pos : Int32) (e_ : Int32) (dd : Addr) (xs : List Int32) (h0 : Heap) (n0 : Nat) (v : Option Value) (h : Heap) (L : List Loc) : Prop := v = some (.int ((xs.getD pos.toNatClampNeg 0) &&& (255 : Int32))) ∧ Fr n0 L ∧ h = h0
set_option maxRecDepth 65536 in
set_option maxHeartbeats 40000000 in
theorem rm_peekTag (l : Launch) (Z : State) (a0 : Array Value) (hw : ∀ d ∈ tables_1, d.before a0 Z = true) (ws : List Jvm.Cond) (v0 : Addr) (pos : Int32) (e_ : Int32) (dd : Addr) (xs : List Int32) (h0 : Heap) (n0 : Nat) (Z0 : n0 ≤ h0.size) (f0_E_v0 : Exa Z h0 v0 "managerie/snmp/Ber$Reader") (f1_F_v0 : Fld Z h0 v0 "managerie/snmp/Ber$Reader" "position" "I" (.int pos)) (f2_F_v0 : Fld Z h0 v0 "managerie/snmp/Ber$Reader" "end" "I" (.int e_)) (f3_F_v0 : Fld Z h0 v0 "managerie/snmp/Ber$Reader" "data" "[B" (.ref dd)) (f4_A_dd : AI Z h0 dd .byte xs) (hm : ¬ ((f_hasMore pos e_) = (0 : Int32))) (i1 : ¬ (pos < 0)) (i2 : pos.toNatClampNeg < xs.length) :
    MetFree l (⟨"managerie/snmp/Ber$Reader", "peekTag", "()I"⟩ : MethodName) (head1 (Jvm.Cond.code (⟨"managerie/snmp/Ber$Reader", "peekTag", "()I"⟩ : MethodName) prog_59_method_4_code 1 (some .int) :: ws) ({ frames := 1, cells := 0, slots := 0, locals := 12 } : Room)) (fun a U => a = #[(.ref v0)] ∧ Z.Warmed39 U.vm ∧ U.heap = h0) (fun _ _ _ _ _ => True) (fun _ U o U' => ∃ v L, o = .returned v ∧ Q_peekTag Z v0 pos e_ dd xs h0 n0 v U'.heap L ∧ FrameEnd U o U' L ({ frames := 1, cells := 0, slots := 0, locals := 12 } : Room).cells ({ frames := 1, cells := 0, slots := 0, locals := 12 } : Room).slots) := by
  refine MetFree.of_bodySF (plainFor_of_name (by first | (simp [plainName, overriddenIn]; done) | decide +kernel)) hisR ?_
  intro p e s m args below meth c s₁ Bd hml0 hP hK
  obtain ⟨rfl, hZ, hh⟩ := hP
  have hx := Bd.exec
  have hby := Bd.bytes
  have hml : c.maxLocals = 1 := hml0
  have hown : s.vm.findClass "managerie/snmp/Ber$Reader" = some m.cls := findClass_of_methodNamed Bd.named
  have hnm := (name_of_methodNamed Bd.named Bd.method).1
  have hlk : meth.locks = false := Bd.notSynchronized
  have X0 : Stand p l e ({ frames := 1, cells := 0, slots := 0, locals := 12 } : Room) s m #[(.ref v0)] below meth c s₁ [] 0 0 := Stand.of_body Bd
  have e0 : s₁.heap = h0 := by rw [← hh, Bd.state]; rfl
  have N0 := Fr.nil n0
  refine Go.enter (Q := Q_peekTag Z v0 pos e_ dd xs h0 n0) (C := ({ frames := 1, cells := 0, slots := 0, locals := 12 } : Room).cells) (N := ({ frames := 1, cells := 0, slots := 0, locals := 12 } : Room).slots) (ef_peekTag m v0) ?_
  show Go p e below s _ _ _ s₁ (mkF m 0 #[.val (.ref v0)] [])
  refine G_aloadN X0 hx (pc' := 1) rfl (hb hby d_peekTag_0) rfl rfl ?_
  obtain ⟨cq10, kq10, q10a, q10b, q10c⟩ := isOf hZ e0 f0_E_v0
  obtain ⟨_, _, ⟨T10, L10, k10, n10⟩, -, X10, ⟨Lc10, hQ10, l10, y10, z10⟩, st10⟩ := X0.virtualBack hx (y := (⟨"managerie/snmp/Ber$Reader", "hasMore", "()Z"⟩ : MethodName)) (z := (⟨"managerie/snmp/Ber$Reader", "hasMore", "()Z"⟩ : MethodName)) hown (mvT hZ (hw _ (List.mem_of_getElem? (i := 44) rfl))) (mvT hZ (hw _ (List.mem_of_getElem? (i := 26) rfl))) (notFace_of_selects (args := #[]) (mvT hZ (hw _ (List.mem_of_getElem? (i := 28) rfl)))) (mvT hZ (hw _ (List.mem_of_getElem? (i := 28) rfl))) (mvT hZ (hw _ (List.mem_of_getElem? (i := 27) rfl))) (by decide) (backOf (W := 0) (rm_hasMore l Z a0 hw [] v0 pos e_ h0 n0 Z0 f0_E_v0 f1_F_v0 f2_F_v0) hZ (hw _ (List.mem_of_getElem? (i := 29) rfl)) (hw _ (List.mem_of_getElem? (i := 4) rfl)) (by decide) (by decide)) q10a q10c (g := (mkF m 1 #[.val (.ref v0)] [(.ref v0)])) rfl (by rw [hml]; rfl) (Steps.refl _) (argsL := []) (rest := []) (lenOf pd_2 rfl) rfl (by show 2 * 0 + _ ≤ _; exact Nat.le_of_eq rfl) (hb hby d_peekTag_1) (fun _ _ => ⟨rfl, e0, (by decide : 0 + 0 ≤ _), (by decide : 0 + 0 ≤ _)⟩)
  dsimp only [Pt.U, Pt.locs, Pt.cells, Pt.slots] at X10 l10 y10 z10 st10 hQ10
  subst l10 y10 z10
  obtain ⟨rfl, N10q, e10⟩ := hQ10
  have N10 := Fr.app N0 N10q
  refine Go.st (fun _ k => st10.trans k) ?_
  show Go p e below s _ _ _ T10 (mkF m 4 #[.val (.ref v0)] [(.int (f_hasMore pos e_))])
  refine G_ifYes X10 hx (pc' := 17) (hb hby d_peekTag_4) ((if0 _ _).trans (feq (hm : ¬ ((f_hasMore pos e_) = (0 : Int32)))).2) (by decide) (by decide) ?_
  refine G_aloadN X10 hx (pc' := 18) rfl (hb hby d_peekTag_17) rfl rfl ?_
  obtain ⟨T11, X11, e11, st11⟩ := getF X10 hx hZ hown (host := "") (Or.inl (hw _ (List.mem_of_getElem? (i := 19) rfl))) Via.refl e10 f3_F_v0 (g := (mkF m 18 #[.val (.ref v0)] [(.ref v0)])) rfl rfl (hb hby d_peekTag_18)
  refine Go.st st11 ?_
  show Go p e below s _ _ _ T11 (mkF m 21 #[.val (.ref v0)] [(.ref dd)])
  refine G_aloadN X11 hx (pc' := 22) rfl (hb hby d_peekTag_21) rfl rfl ?_
  obtain ⟨T12, X12, e12, st12⟩ := getF X11 hx hZ hown (host := "") (Or.inl (hw _ (List.mem_of_getElem? (i := 21) rfl))) Via.refl e11 f1_F_v0 (g := (mkF m 22 #[.val (.ref v0)] [(.ref v0), (.ref dd)])) rfl rfl (hb hby d_peekTag_22)
  refine Go.st st12 ?_
  show Go p e below s _ _ _ T12 (mkF m 25 #[.val (.ref v0)] [(.int pos), (.ref dd)])
  refine Go.st (ldAB X12 hx hZ e12 f4_A_dd (j := pos) i1 i2 (g := (mkF m 25 #[.val (.ref v0)] [(.int pos), (.ref dd)])) rfl rfl (hb hby d_peekTag_25)) ?_
  show Go p e below s _ _ _ T12 (mkF m 26 #[.val (.ref v0)] [(.int (xs.getD pos.toNatClampNeg 0))])
  refine G_sipush X12 hx (pc' := 29) rfl (hb hby d_peekTag_26) (z := (255 : Int32)) rfl ?_
  refine G_iand X12 hx (pc' := 30) rfl (hb hby d_peekTag_29)  ?_
  refine Go.fin X12 hlk (v := some (.int ((xs.getD pos.toNatClampNeg 0) &&& (255 : Int32)))) (fun h => by rw [Bd.returns] at h; cases h) (by decide) (by decide) ?_ (fun fs hr => retOut X12 hx Bd.returns rfl (Or.inl ⟨rfl, Or.inl rfl, _, rfl⟩) (hb hby d_peekTag_30) hr)
  show Q_peekTag Z v0 pos e_ dd xs h0 n0 _ T12.heap _
  rw [e12]
  exact ⟨rfl, N10, rfl⟩
/-- what copyOfRange copies -/
def own_cut (xs : List Int32) (a b : Int32) : List Int32 := (xs.drop a.toNatClampNeg).take (b - a).toNatClampNeg
theorem own_sub32 {a b : Int32} (h0 : 0 ≤ a.toInt) (h1 : a.toInt ≤ b.toInt) : (b - a).toInt = b.toInt - a.toInt := by
  have k := c_isub b a
  have r := rng32 (b - a)
  have rb := rng32 b
  omega
theorem own_cr1 {a b : Int32} (h : a.toInt ≤ b.toInt) : ¬ (b < a) := by rw [Int32.lt_iff_toInt_lt]; omega
theorem own_nn {a : Int32} (h : 0 ≤ a.toInt) : ¬ a < 0 := by
  rw [Int32.lt_iff_toInt_lt, show (0 : Int32).toInt = 0 from rfl]; omega
theorem own_cr2 {a b : Int32} {xs : List Int32} (h0 : 0 ≤ a.toInt) (h1 : a.toInt ≤ b.toInt) (h2 : b.toInt ≤ xs.length) (h3 : xs.length ≤ 8) : ¬ (b - a) < 0 := own_nn (by rw [own_sub32 h0 h1]; omega)
theorem own_cr3 {a b : Int32} {xs : List Int32} (h0 : 0 ≤ a.toInt) (h1 : a.toInt ≤ b.toInt) (h2 : b.toInt ≤ xs.length) (h3 : xs.length ≤ 8) : (b - a).toNatClampNeg ≤ 8 := by
  show (b - a).toInt.toNat ≤ 8
  rw [own_sub32 h0 h1]; omega
theorem own_cr4 {a : Int32} (h0 : 0 ≤ a.toInt) : ¬ a < 0 := own_nn h0

theorem d_min_0 : decode jdk_29_method_69_code 0 = .ok (.iload_n 0, 1) := by decide +kernel
theorem d_min_1 : decode jdk_29_method_69_code 1 = .ok (.iload_n 1, 1) := by decide +kernel
theorem d_min_2 : decode jdk_29_method_69_code 2 = .ok (.if_icmp .gt 7, 3) := by decide +kernel
theorem d_min_9 : decode jdk_29_method_69_code 9 = .ok (.iload_n 1, 1) := by decide +kernel
theorem d_min_10 : decode jdk_29_method_69_code 10 = .ok (.ireturn, 1) := by decide +kernel
theorem d_min_5 : decode jdk_29_method_69_code 5 = .ok (.iload_n 0, 1) := by decide +kernel
theorem d_min_6 : decode jdk_29_method_69_code 6 = .ok (.goto 4, 3) := by decide +kernel
def f_min (v0 : Int32) (v1 : Int32) : Int32 := (if v1 < v0 then v1 else v0)
theorem ef_min (m : MethodId) (v0 : Int32) (v1 : Int32) : entryFrame m #[(.int v0), (.int v1)] 2 = mkF m 0 #[.val (.int v0), .val (.int v1)] [] := by first | (simp [entryFrame, mkF, argsToLocals, Value.category]; done) | rfl
def Q_min (Z : State) (v0 : Int32) (v1 : Int32) (h0 : Heap) (n0 : Nat) (v : Option Value) (h : Heap) (L : List Loc) : Prop := v = some (.int (f_min v0 v1)) ∧ Fr n0 L ∧ h = h0
set_option maxRecDepth 65536 in
set_option maxHeartbeats 40000000 in
theorem rm_min (l : Launch) (Z : State) (a0 : Array Value) (hw : ∀ d ∈ tables_1, d.before a0 Z = true) (ws : List Jvm.Cond) (v0 : Int32) (v1 : Int32) (h0 : Heap) (n0 : Nat) (Z0 : n0 ≤ h0.size) :
    MetFree l (⟨"java/lang/Math", "min", "(II)I"⟩ : MethodName) (head1 (Jvm.Cond.code (⟨"java/lang/Math", "min", "(II)I"⟩ : MethodName) jdk_29_method_69_code 2 (some .int) :: ws) ({ frames := 0, cells := 0, slots := 0, locals := 0 } : Room)) (fun a U => a = #[(.int v0), (.int v1)] ∧ Z.Warmed39 U.vm ∧ U.heap = h0) (fun _ _ _ _ _ => True) (fun _ U o U' => ∃ v L, o = .returned v ∧ Q_min Z v0 v1 h0 n0 v U'.heap L ∧ FrameEnd U o U' L ({ frames := 0, cells := 0, slots := 0, locals := 0 } : Room).cells ({ frames := 0, cells := 0, slots := 0, locals := 0 } : Room).slots) := by
  refine MetFree.of_bodySF (Jvm.Free.JP.mathPlain rfl (by decide +kernel)) hisR ?_
  intro p e s m args below meth c s₁ Bd hml0 hP hK
  obtain ⟨rfl, hZ, hh⟩ := hP
  have hx := Bd.exec
  have hby := Bd.bytes
  have hml : c.maxLocals = 2 := hml0
  have hown : s.vm.findClass "java/lang/Math" = some m.cls := findClass_of_methodNamed Bd.named
  have hnm := (name_of_methodNamed Bd.named Bd.method).1
  have hlk : meth.locks = false := Bd.notSynchronized
  have X0 : Stand p l e ({ frames := 0, cells := 0, slots := 0, locals := 0 } : Room) s m #[(.int v0), (.int v1)] below meth c s₁ [] 0 0 := Stand.of_body Bd
  have e0 : s₁.heap = h0 := by rw [← hh, Bd.state]; rfl
  have N0 := Fr.nil n0
  refine Go.enter (Q := Q_min Z v0 v1 h0 n0) (C := ({ frames := 0, cells := 0, slots := 0, locals := 0 } : Room).cells) (N := ({ frames := 0, cells := 0, slots := 0, locals := 0 } : Room).slots) (ef_min m v0 v1) ?_
  show Go p e below s _ _ _ s₁ (mkF m 0 #[.val (.int v0), .val (.int v1)] [])
  refine G_iloadN X0 hx (pc' := 1) rfl (hb hby d_min_0) rfl ?_
  refine G_iloadN X0 hx (pc' := 2) rfl (hb hby d_min_1) rfl ?_
  by_cases hc2_1 : v1 < v0
  · refine G_icmpYes X0 hx (pc' := 9) (hb hby d_min_2) (tlt hc2_1).2.2.1 (by decide) (by decide) ?_
    refine G_iloadN X0 hx (pc' := 10) rfl (hb hby d_min_9) rfl ?_
    refine Go.fin X0 hlk (v := some (.int v1)) (fun h => by rw [Bd.returns] at h; cases h) (by decide) (by decide) ?_ (fun fs hr => retOut X0 hx Bd.returns rfl (Or.inl ⟨rfl, Or.inl rfl, _, rfl⟩) (hb hby d_min_10) hr)
    show Q_min Z v0 v1 h0 n0 _ s₁.heap _
    rw [e0]
    exact ⟨congrArg (fun z => some (Value.int z)) (Eq.symm ((if_pos hc2_1).trans rfl)), N0, rfl⟩
  · refine G_icmpNo X0 hx (pc' := 5) rfl (hb hby d_min_2) (flt hc2_1).2.2.1 ?_
    refine G_iloadN X0 hx (pc' := 6) rfl (hb hby d_min_5) rfl ?_
    refine G_goto X0 hx (pc' := 10) (hb hby d_min_6)  (by decide) (by decide) ?_
    refine Go.fin X0 hlk (v := some (.int v0)) (fun h => by rw [Bd.returns] at h; cases h) (by decide) (by decide) ?_ (fun fs hr => retOut X0 hx Bd.returns rfl (Or.inl ⟨rfl, Or.inl rfl, _, rfl⟩) (hb hby d_min_10) hr)
    show Q_min Z v0 v1 h0 n0 _ s₁.heap _
    rw [e0]
    exact ⟨congrArg (fun z => some (Value.int z)) (Eq.symm ((if_neg hc2_1).trans rfl)), N0, rfl⟩
theorem own_mn {a b : Int32} {xs : List Int32} (h0 : 0 ≤ a.toInt) (h1 : a.toInt ≤ b.toInt) (h2 : b.toInt ≤ xs.length) (hl : xs.length ≤ 8) : f_min ((Int32.ofNat (xs).length) - a) (b - a) = b - a := by
  have e : (Int32.ofNat xs.length).toInt = xs.length := Int32.toInt_ofNat_of_lt (by omega)
  have s1 := own_sub32 (a := a) (b := Int32.ofNat xs.length) h0 (by omega)
  have s2 := own_sub32 h0 h1
  unfold f_min
  by_cases q : b - a < (Int32.ofNat xs.length) - a
  · rw [if_pos q]
  · rw [if_neg q]
    rw [Int32.lt_iff_toInt_lt, s1, s2] at q
    apply Int32.toInt_inj.mp
    rw [s1, s2]; omega
theorem own_cr5 {a b : Int32} {xs : List Int32} (h0 : 0 ≤ a.toInt) (h1 : a.toInt ≤ b.toInt) (h2 : b.toInt ≤ xs.length) (hl : xs.length ≤ 8) : ¬ f_min ((Int32.ofNat (xs).length) - a) (b - a) < 0 := by
  rw [own_mn h0 h1 h2 hl]; exact own_nn (by rw [own_sub32 h0 h1]; omega)
theorem own_cr6 {a b : Int32} {xs : List Int32} (h0 : 0 ≤ a.toInt) (h1 : a.toInt ≤ b.toInt) (h2 : b.toInt ≤ xs.length) (hl : xs.length ≤ 8) : a.toNatClampNeg + (f_min ((Int32.ofNat (xs).length) - a) (b - a)).toNatClampNeg ≤ xs.length := by
  rw [own_mn h0 h1 h2 hl]
  show a.toInt.toNat + (b - a).toInt.toNat ≤ _
  rw [own_sub32 h0 h1]; omega
theorem own_cr7 {a b : Int32} {xs : List Int32} (h0 : 0 ≤ a.toInt) (h1 : a.toInt ≤ b.toInt) (h2 : b.toInt ≤ xs.length) (hl : xs.length ≤ 8) : (0 : Int32).toNatClampNeg + (f_min ((Int32.ofNat (xs).length) - a) (b - a)).toNatClampNeg ≤ (List.replicate (b - a).toNatClampNeg (0 : Int32)).length := by
  rw [own_mn h0 h1 h2 hl, List.length_replicate]
  show 0 + _ ≤ _
  omega
theorem own_cr8 {a b : Int32} {xs : List Int32} (h0 : 0 ≤ a.toInt) (h1 : a.toInt ≤ b.toInt) (h2 : b.toInt ≤ xs.length) (hl : xs.length ≤ 8) : (List.replicate (b - a).toNatClampNeg (0 : Int32)).take (0 : Int32).toNatClampNeg ++ (xs.drop a.toNatClampNeg).take (f_min ((Int32.ofNat (xs).length) - a) (b - a)).toNatClampNeg ++ (List.replicate (b - a).toNatClampNeg (0 : Int32)).drop ((0 : Int32).toNatClampNeg + (f_min ((Int32.ofNat (xs).length) - a) (b - a)).toNatClampNeg) = own_cut xs a b := by
  rw [own_mn h0 h1 h2 hl]
  have z : (0 : Int32).toNatClampNeg = 0 := by decide
  rw [z, List.take_zero, List.nil_append, Nat.zero_add, List.drop_replicate, Nat.sub_self]
  simp [own_cut]

theorem d_chkLen_0 : decode jdk_65_method_131_code 0 = .ok (.iload_n 1, 1) := by decide +kernel
theorem d_chkLen_1 : decode jdk_65_method_131_code 1 = .ok (.iload_n 0, 1) := by decide +kernel
theorem d_chkLen_2 : decode jdk_65_method_131_code 2 = .ok (.if_icmp .ge 35, 3) := by decide +kernel
theorem d_chkLen_37 : decode jdk_65_method_131_code 37 = .ok (.return_, 1) := by decide +kernel
theorem ef_chkLen (m : MethodId) (v0 : Int32) (v1 : Int32) : entryFrame m #[(.int v0), (.int v1)] 2 = mkF m 0 #[.val (.int v0), .val (.int v1)] [] := by first | (simp [entryFrame, mkF, argsToLocals, Value.category]; done) | rfl
def Q_chkLen (Z : State) (v0 : Int32) (v1 : Int32) (h0 : Heap) (n0 : Nat) (v : Option Value) (h : Heap) (L : List Loc) : Prop := v = none ∧ Fr n0 L ∧ h = h0
set_option maxRecDepth 65536 in
set_option maxHeartbeats 40000000 in
theorem rm_chkLen (l : Launch) (Z : State) (a0 : Array Value) (hw : ∀ d ∈ tables_1, d.before a0 Z = true) (ws : List Jvm.Cond) (v0 : Int32) (v1 : Int32) (h0 : Heap) (n0 : Nat) (Z0 : n0 ≤ h0.size) (hcl : ¬ (v1 < v0)) :
    MetFree l (⟨"java/util/Arrays", "checkLength", "(II)V"⟩ : MethodName) (head1 (Jvm.Cond.code (⟨"java/util/Arrays", "checkLength", "(II)V"⟩ : MethodName) jdk_65_method_131_code 2 none :: ws) ({ frames := 0, cells := 0, slots := 0, locals := 0 } : Room)) (fun a U => a = #[(.int v0), (.int v1)] ∧ Z.Warmed39 U.vm ∧ U.heap = h0) (fun _ _ _ _ _ => True) (fun _ U o U' => ∃ v L, o = .returned v ∧ Q_chkLen Z v0 v1 h0 n0 v U'.heap L ∧ FrameEnd U o U' L ({ frames := 0, cells := 0, slots := 0, locals := 0 } : Room).cells ({ frames := 0, cells := 0, slots := 0, locals := 0 } : Room).slots) := by
  refine MetFree.of_bodySF (plainFor_of_name (by first | (simp [plainName, overriddenIn]; done) | decide +kernel)) hisR ?_
  intro p e s m args below meth c s₁ Bd hml0 hP hK
  obtain ⟨rfl, hZ, hh⟩ := hP
  have hx := Bd.exec
  have hby := Bd.bytes
  have hml : c.maxLocals = 2 := hml0
  have hown : s.vm.findClass "java/util/Arrays" = some m.cls := findClass_of_methodNamed Bd.named
  have hnm := (name_of_methodNamed Bd.named Bd.method).1
  have hlk : meth.locks = false := Bd.notSynchronized
  have X0 : Stand p l e ({ frames := 0, cells := 0, slots := 0, locals := 0 } : Room) s m #[(.int v0), (.int v1)] below meth c s₁ [] 0 0 := Stand.of_body Bd
  have e0 : s₁.heap = h0 := by rw [← hh, Bd.state]; rfl
  have N0 := Fr.nil n0
  refine Go.enter (Q := Q_chkLen Z v0 v1 h0 n0) (C := ({ frames := 0, cells := 0, slots := 0, locals := 0 } : Room).cells) (N := ({ frames := 0, cells := 0, slots := 0, locals := 0 } : Room).slots) (ef_chkLen m v0 v1) ?_
  show Go p e below s _ _ _ s₁ (mkF m 0 #[.val (.int v0), .val (.int v1)] [])
  refine G_iloadN X0 hx (pc' := 1) rfl (hb hby d_chkLen_0) rfl ?_
  refine G_iloadN X0 hx (pc' := 2) rfl (hb hby d_chkLen_1) rfl ?_
  refine G_icmpYes X0 hx (pc' := 37) (hb hby d_chkLen_2) (flt (hcl : ¬ (v1 < v0))).2.1 (by decide) (by decide) ?_
  refine Go.fin X0 hlk (v := none) (fun _ => rfl) (by decide) (by decide) ?_ (fun fs hr => X0.returnOut hx Bd.returns (hb hby d_chkLen_37) hr)
  show Q_chkLen Z v0 v1 h0 n0 _ s₁.heap _
  rw [e0]
  exact ⟨rfl, N0, rfl⟩
theorem d_cpyB_0 : decode jdk_65_method_133_code 0 = .ok (.iload_n 1, 1) := by decide +kernel
theorem d_cpyB_1 : decode jdk_65_method_133_code 1 = .ok (.iload_n 2, 1) := by decide +kernel
theorem d_cpyB_2 : decode jdk_65_method_133_code 2 = .ok (.invokestatic 343, 3) := by decide +kernel
theorem pd_3 : parseMethodDescriptor "(II)V" = some ⟨[.int, .int], none⟩ := by decide +kernel
theorem d_cpyB_5 : decode jdk_65_method_133_code 5 = .ok (.iload_n 2, 1) := by decide +kernel
theorem d_cpyB_6 : decode jdk_65_method_133_code 6 = .ok (.iload_n 1, 1) := by decide +kernel
theorem d_cpyB_7 : decode jdk_65_method_133_code 7 = .ok (.isub, 1) := by decide +kernel
theorem d_cpyB_8 : decode jdk_65_method_133_code 8 = .ok (.istore_n 3, 1) := by decide +kernel
theorem d_cpyB_9 : decode jdk_65_method_133_code 9 = .ok (.iload_n 3, 1) := by decide +kernel
theorem d_cpyB_10 : decode jdk_65_method_133_code 10 = .ok (.newarray .byte, 2) := by decide +kernel
theorem d_cpyB_12 : decode jdk_65_method_133_code 12 = .ok (.astore 4, 2) := by decide +kernel
theorem d_cpyB_14 : decode jdk_65_method_133_code 14 = .ok (.aload_n 0, 1) := by decide +kernel
theorem d_cpyB_15 : decode jdk_65_method_133_code 15 = .ok (.iload_n 1, 1) := by decide +kernel
theorem d_cpyB_16 : decode jdk_65_method_133_code 16 = .ok (.aload 4, 2) := by decide +kernel
theorem d_cpyB_18 : decode jdk_65_method_133_code 18 = .ok (.iconst 0, 1) := by decide +kernel
theorem d_cpyB_19 : decode jdk_65_method_133_code 19 = .ok (.aload_n 0, 1) := by decide +kernel
theorem d_cpyB_20 : decode jdk_65_method_133_code 20 = .ok (.arraylength, 1) := by decide +kernel
theorem d_cpyB_21 : decode jdk_65_method_133_code 21 = .ok (.iload_n 1, 1) := by decide +kernel
theorem d_cpyB_22 : decode jdk_65_method_133_code 22 = .ok (.isub, 1) := by decide +kernel
theorem d_cpyB_23 : decode jdk_65_method_133_code 23 = .ok (.iload_n 3, 1) := by decide +kernel
theorem d_cpyB_24 : decode jdk_65_method_133_code 24 = .ok (.invokestatic 304, 3) := by decide +kernel
theorem pd_4 : parseMethodDescriptor "(II)I" = some ⟨[.int, .int], some .int⟩ := by decide +kernel
theorem d_cpyB_27 : decode jdk_65_method_133_code 27 = .ok (.invokestatic 150, 3) := by decide +kernel
theorem d_cpyB_30 : decode jdk_65_method_133_code 30 = .ok (.aload 4, 2) := by decide +kernel
theorem d_cpyB_32 : decode jdk_65_method_133_code 32 = .ok (.areturn, 1) := by decide +kernel
theorem ef_cpyB (m : MethodId) (v0 : Addr) (v1 : Int32) (v2 : Int32) : entryFrame m #[(.ref v0), (.int v1), (.int v2)] 5 = mkF m 0 #[.val (.ref v0), .val (.int v1), .val (.int v2), .unset, .unset] [] := by first | (simp [entryFrame, mkF, argsToLocals, Value.category]; done) | rfl
def Q_cpyB (Z : State) (v0 : Addr) (v1 : Int32) (v2 : Int32) (xs : List Int32) (h0 : Heap) (n0 : Nat) (v : Option Value) (h : Heap) (L : List Loc) : Prop := ∃ b0 : Addr, v = some (.ref b0) ∧ Fr n0 L ∧ Keep h0 h [] ∧ h0.size ≤ b0 ∧ Exa Z h b0 "[B" ∧ AI Z h b0 .byte (own_cut xs v1 v2)
set_option maxRecDepth 65536 in
set_option maxHeartbeats 40000000 in
theorem rm_cpyB (l : Launch) (Z : State) (a0 : Array Value) (hw : ∀ d ∈ tables_1, d.before a0 Z = true) (ws : List Jvm.Cond) (v0 : Addr) (v1 : Int32) (v2 : Int32) (xs : List Int32) (h0 : Heap) (n0 : Nat) (Z0 : n0 ≤ h0.size) (f0_A_v0 : AI Z h0 v0 .byte xs) (c1 : 0 ≤ v1.toInt) (c2 : v1.toInt ≤ v2.toInt) (c3 : v2.toInt ≤ xs.length) (c4 : xs.length ≤ 8) :
    MetFree l (⟨"java/util/Arrays", "copyOfRangeByte", "([BII)[B"⟩ : MethodName) (head1 (Jvm.Cond.code (⟨"java/util/Arrays", "copyOfRangeByte", "([BII)[B"⟩ : MethodName) jdk_65_method_133_code 5 (some (.array .byte)) :: ws) ({ frames := 1, cells := 1, slots := 8, locals := 18 } : Room)) (fun a U => a = #[(.ref v0), (.int v1), (.int v2)] ∧ Z.Warmed39 U.vm ∧ U.heap = h0) (fun _ _ _ _ _ => True) (fun _ U o U' => ∃ v L, o = .returned v ∧ Q_cpyB Z v0 v1 v2 xs h0 n0 v U'.heap L ∧ FrameEnd U o U' L ({ frames := 1, cells := 1, slots := 8, locals := 18 } : Room).cells ({ frames := 1, cells := 1, slots := 8, locals := 18 } : Room).slots) := by
  refine MetFree.of_bodySF (plainFor_of_name (by first | (simp [plainName, overriddenIn]; done) | decide +kernel)) hisR ?_
  intro p e s m args below meth c s₁ Bd hml0 hP hK
  obtain ⟨rfl, hZ, hh⟩ := hP
  have hx := Bd.exec
  have hby := Bd.bytes
  have hml : c.maxLocals = 5 := hml0
  have hown : s.vm.findClass "java/util/Arrays" = some m.cls := findClass_of_methodNamed Bd.named
  have hnm := (name_of_methodNamed Bd.named Bd.method).1
  have hlk : meth.locks = false := Bd.notSynchronized
  have X0 : Stand p l e ({ frames := 1, cells := 1, slots := 8, locals := 18 } : Room) s m #[(.ref v0), (.int v1), (.int v2)] below meth c s₁ [] 0 0 := Stand.of_body Bd
  have e0 : s₁.heap = h0 := by rw [← hh, Bd.state]; rfl
  have N0 := Fr.nil n0
  refine Go.enter (Q := Q_cpyB Z v0 v1 v2 xs h0 n0) (C := ({ frames := 1, cells := 1, slots := 8, locals := 18 } : Room).cells) (N := ({ frames := 1, cells := 1, slots := 8, locals := 18 } : Room).slots) (ef_cpyB m v0 v1 v2) ?_
  show Go p e below s _ _ _ s₁ (mkF m 0 #[.val (.ref v0), .val (.int v1), .val (.int v2), .unset, .unset] [])
  refine G_iloadN X0 hx (pc' := 1) rfl (hb hby d_cpyB_0) rfl ?_
  refine G_iloadN X0 hx (pc' := 2) rfl (hb hby d_cpyB_1) rfl ?_
  obtain ⟨_, _, ⟨T13, L13, k13, n13⟩, -, X13, ⟨Lc13, hQ13, l13, y13, z13⟩, st13⟩ := Jvm.LawKit.callS X0 hx (y := (⟨"java/util/Arrays", "checkLength", "(II)V"⟩ : MethodName)) hown (mvT hZ (hw _ (List.mem_of_getElem? (i := 52) rfl))) (mvT hZ (hw _ (List.mem_of_getElem? (i := 53) rfl))) (mvT hZ (hw _ (List.mem_of_getElem? (i := 47) rfl))) (mvT hZ (hw _ (List.mem_of_getElem? (i := 54) rfl))) (by decide) (backOf (W := 0) (rm_chkLen l Z a0 hw [] v1 v2 h0 n0 Z0 (own_cr1 c2)) hZ (hw _ (List.mem_of_getElem? (i := 54) rfl)) (hw _ (List.mem_of_getElem? (i := 47) rfl)) (by decide) (by decide)) (g := (mkF m 2 #[.val (.ref v0), .val (.int v1), .val (.int v2), .unset, .unset] [(.int v2), (.int v1)])) rfl (by rw [hml]; rfl) (argsL := [(.int v1), (.int v2)]) (rest := []) (lenOf pd_3 rfl) rfl (by show 2 * 0 + _ ≤ _; exact Nat.le_of_eq rfl) (hb hby d_cpyB_2) (fun _ _ => ⟨rfl, e0, (by decide : 0 + 0 ≤ _), (by decide : 0 + 0 ≤ _)⟩)
  dsimp only [Pt.U, Pt.locs, Pt.cells, Pt.slots] at X13 l13 y13 z13 st13 hQ13
  subst l13 y13 z13
  obtain ⟨rfl, N13q, e13⟩ := hQ13
  have N13 := Fr.app N0 N13q
  refine Go.st st13 ?_
  show Go p e below s _ _ _ T13 (mkF m 5 #[.val (.ref v0), .val (.int v1), .val (.int v2), .unset, .unset] [])
  refine G_iloadN X13 hx (pc' := 6) rfl (hb hby d_cpyB_5) rfl ?_
  refine G_iloadN X13 hx (pc' := 7) rfl (hb hby d_cpyB_6) rfl ?_
  refine G_isub X13 hx (pc' := 8) rfl (hb hby d_cpyB_7)  ?_
  refine G_istoreN X13 hx (pc' := 9) rfl (hb hby d_cpyB_8) (L' := #[.val (.ref v0), .val (.int v1), .val (.int v2), .val (.int (v2 - v1)), .unset]) rfl ?_
  refine G_iloadN X13 hx (pc' := 10) rfl (hb hby d_cpyB_9) rfl ?_
  obtain ⟨T14, h14, X14, e14, E14, B14, A14, st14⟩ := newAI X13 hx hZ (hw _ (List.mem_of_getElem? (i := 1) rfl)) e13 (g := (mkF m 10 #[.val (.ref v0), .val (.int v1), .val (.int v2), .val (.int (v2 - v1)), .unset] [(.int (v2 - v1))])) rfl (hb hby d_cpyB_10) rfl (own_cr2 c1 c2 c3 c4) (ty := .byte) rfl ⟨rfl, rfl⟩ (cap := 8) (own_cr3 c1 c2 c3 c4) (by decide) (by decide) (by decide) (ad := "[B") (by decide)
  obtain ⟨b14, q14⟩ : ∃ z, z = h0.size := ⟨_, rfl⟩
  rw [← q14] at A14 B14 st14
  refine Go.st st14 ?_
  have ne_v0_b14 : v0 ≠ b14 := Nat.ne_of_lt (Nat.lt_of_lt_of_le f0_A_v0.lt (Nat.le_of_eq q14.symm))
  have g_b14 : n0 ≤ b14 := Nat.le_trans Z0 (Nat.le_of_eq q14.symm)
  have sz_b14 : h0.size ≤ b14 := Nat.le_trans (Nat.le_refl _) (Nat.le_of_eq q14.symm)
  have A_v0_14 := f0_A_v0.ext E14
  have A_b14 : AI Z h14 b14 .byte (List.replicate ((v2 - v1)).toNatClampNeg (0 : Int32)) := A14
  have K_14 : Keep h0 h14 [] := (Keep.refl h0 []).ext E14
  have Z_14 : n0 ≤ h14.size := Nat.le_trans Z0 K_14.1
  show Go p e below s _ _ _ T14 (mkF m 12 #[.val (.ref v0), .val (.int v1), .val (.int v2), .val (.int (v2 - v1)), .unset] [(.ref b14)])
  refine G_astore X14 hx (pc' := 14) rfl (hb hby d_cpyB_12) rfl (L' := #[.val (.ref v0), .val (.int v1), .val (.int v2), .val (.int (v2 - v1)), .val (.ref b14)]) rfl ?_
  refine G_aloadN X14 hx (pc' := 15) rfl (hb hby d_cpyB_14) rfl rfl ?_
  refine G_iloadN X14 hx (pc' := 16) rfl (hb hby d_cpyB_15) rfl ?_
  refine G_aload X14 hx (pc' := 18) rfl (hb hby d_cpyB_16) rfl rfl ?_
  refine G_iconst X14 hx (pc' := 19) rfl (hb hby d_cpyB_18) (z := (0 : Int32)) rfl ?_
  refine G_aloadN X14 hx (pc' := 20) rfl (hb hby d_cpyB_19) rfl rfl ?_
  refine Go.st (lenAI X14 hx hZ e14 A_v0_14 (g := (mkF m 20 #[.val (.ref v0), .val (.int v1), .val (.int v2), .val (.int (v2 - v1)), .val (.ref b14)] [(.ref v0), (.int (0 : Int32)), (.ref b14), (.int v1), (.ref v0)])) rfl rfl (hb hby d_cpyB_20)) ?_
  show Go p e below s _ _ _ T14 (mkF m 21 #[.val (.ref v0), .val (.int v1), .val (.int v2), .val (.int (v2 - v1)), .val (.ref b14)] [(.int (Int32.ofNat (xs).length)), (.int (0 : Int32)), (.ref b14), (.int v1), (.ref v0)])
  refine G_iloadN X14 hx (pc' := 22) rfl (hb hby d_cpyB_21) rfl ?_
  refine G_isub X14 hx (pc' := 23) rfl (hb hby d_cpyB_22)  ?_
  refine G_iloadN X14 hx (pc' := 24) rfl (hb hby d_cpyB_23) rfl ?_
  obtain ⟨_, _, ⟨T15, L15, k15, n15⟩, -, X15, ⟨Lc15, hQ15, l15, y15, z15⟩, st15⟩ := Jvm.LawKit.callS X14 hx (y := (⟨"java/lang/Math", "min", "(II)I"⟩ : MethodName)) hown (mvT hZ (hw _ (List.mem_of_getElem? (i := 55) rfl))) (mvT hZ (hw _ (List.mem_of_getElem? (i := 56) rfl))) (mvT hZ (hw _ (List.mem_of_getElem? (i := 57) rfl))) (mvT hZ (hw _ (List.mem_of_getElem? (i := 58) rfl))) (by decide) (backOf (W := 4) (rm_min l Z a0 hw [] ((Int32.ofNat (xs).length) - v1) (v2 - v1) h14 n0 Z_14 ) hZ (hw _ (List.mem_of_getElem? (i := 58) rfl)) (hw _ (List.mem_of_getElem? (i := 57) rfl)) (by decide) (by decide)) (g := (mkF m 24 #[.val (.ref v0), .val (.int v1), .val (.int v2), .val (.int (v2 - v1)), .val (.ref b14)] [(.int (v2 - v1)), (.int ((Int32.ofNat (xs).length) - v1)), (.int (0 : Int32)), (.ref b14), (.int v1), (.ref v0)])) rfl (by rw [hml]; rfl) (argsL := [(.int ((Int32.ofNat (xs).length) - v1)), (.int (v2 - v1))]) (rest := [(.int (0 : Int32)), (.ref b14), (.int v1), (.ref v0)]) (lenOf pd_4 rfl) rfl (by show 2 * 0 + _ ≤ _; exact Nat.le_of_eq rfl) (hb hby d_cpyB_24) (fun _ _ => ⟨rfl, e14, (by decide : 1 + 0 ≤ _), (by decide : 8 + 0 ≤ _)⟩)
  dsimp only [Pt.U, Pt.locs, Pt.cells, Pt.slots] at X15 l15 y15 z15 st15 hQ15
  subst l15 y15 z15
  obtain ⟨rfl, N15q, e15⟩ := hQ15
  have N15 := Fr.app N13 N15q
  refine Go.st st15 ?_
  show Go p e below s _ _ _ T15 (mkF m 27 #[.val (.ref v0), .val (.int v1), .val (.int v2), .val (.int (v2 - v1)), .val (.ref b14)] [(.int (f_min ((Int32.ofNat (xs).length) - v1) (v2 - v1))), (.int (0 : Int32)), (.ref b14), (.int v1), (.ref v0)])
  obtain ⟨T16, h16, L16, X16, e16, N16, K16, A16, st16⟩ := cpAI X15 hx hZ hown (hw _ (List.mem_of_getElem? (i := 59) rfl)) (hw _ (List.mem_of_getElem? (i := 62) rfl)) (hw _ (List.mem_of_getElem? (i := 60) rfl)) (hw _ (List.mem_of_getElem? (i := 61) rfl)) e15 A_v0_14 A_b14 rfl (own_cr4 c1) (by decide) (own_cr5 c1 c2 c3 c4) (own_cr6 c1 c2 c3 c4) (own_cr7 c1 c2 c3 c4) N15 g_b14 (g := (mkF m 27 #[.val (.ref v0), .val (.int v1), .val (.int v2), .val (.int (v2 - v1)), .val (.ref b14)] [(.int (f_min ((Int32.ofNat (xs).length) - v1) (v2 - v1))), (.int (0 : Int32)), (.ref b14), (.int v1), (.ref v0)])) rfl (by rw [hml]; rfl) rfl (hb hby d_cpyB_27) (by decide) (W := 0) (by show 2 * 0 + _ ≤ _; exact Nat.le_of_eq rfl) (by decide)
  refine Go.st st16 ?_
  have A_v0_16 := A_v0_14.keep K16 (ninS ne_v0_b14 nin0)
  have E_b14_16 := B14.keep K16
  have C16 : AI Z h16 b14 .byte (own_cut xs v1 v2) := own_cr8 c1 c2 c3 c4 ▸ A16
  have K_16 : Keep h0 h16 [] := K_14.trans K16 (allS (Or.inr sz_b14) all0)
  have Z_16 : n0 ≤ h16.size := Nat.le_trans Z0 K_16.1
  show Go p e below s _ _ _ T16 (mkF m 30 #[.val (.ref v0), .val (.int v1), .val (.int v2), .val (.int (v2 - v1)), .val (.ref b14)] [])
  refine G_aload X16 hx (pc' := 32) rfl (hb hby d_cpyB_30) rfl rfl ?_
  refine Go.fin X16 hlk (v := some (.ref b14)) (fun h => by rw [Bd.returns] at h; cases h) (by decide) (by decide) ?_ (fun fs hr => retOut X16 hx Bd.returns rfl (Or.inr (Or.inr (Or.inr (Or.inr ⟨rfl, rfl, rfl⟩)))) (hb hby d_cpyB_32) hr)
  show Q_cpyB Z v0 v1 v2 xs h0 n0 _ T16.heap _
  rw [e16]
  exact ⟨b14, rfl, N16, K_16, sz_b14, E_b14_16, C16⟩
theorem d_cpy_0 : decode jdk_65_method_132_code 0 = .ok (.iload_n 1, 1) := by decide +kernel
theorem d_cpy_1 : decode jdk_65_method_132_code 1 = .ok (.ifCond .ne 9, 3) := by decide +kernel
theorem d_cpy_10 : decode jdk_65_method_132_code 10 = .ok (.aload_n 0, 1) := by decide +kernel
theorem d_cpy_11 : decode jdk_65_method_132_code 11 = .ok (.iload_n 1, 1) := by decide +kernel
theorem d_cpy_12 : decode jdk_65_method_132_code 12 = .ok (.iload_n 2, 1) := by decide +kernel
theorem d_cpy_13 : decode jdk_65_method_132_code 13 = .ok (.invokestatic 339, 3) := by decide +kernel
theorem pd_5 : parseMethodDescriptor "([BII)[B" = some ⟨[(.array .byte), .int, .int], some (.array .byte)⟩ := by decide +kernel
theorem d_cpy_16 : decode jdk_65_method_132_code 16 = .ok (.areturn, 1) := by decide +kernel
theorem ef_cpy (m : MethodId) (v0 : Addr) (v1 : Int32) (v2 : Int32) : entryFrame m #[(.ref v0), (.int v1), (.int v2)] 3 = mkF m 0 #[.val (.ref v0), .val (.int v1), .val (.int v2)] [] := by first | (simp [entryFrame, mkF, argsToLocals, Value.category]; done) | rfl
def Q_cpy (Z : State) (v0 : Addr) (v1 : Int32) (v2 : Int32) (xs : List Int32) (h0 : Heap) (n0 : Nat) (v : Option Value) (h : Heap) (L : List Loc) : Prop := ∃ b0 : Addr, v = some (.ref b0) ∧ Fr n0 L ∧ Keep h0 h [] ∧ h0.size ≤ b0 ∧ Exa Z h b0 "[B" ∧ AI Z h b0 .byte (own_cut xs v1 v2)
set_option maxRecDepth 65536 in
set_option maxHeartbeats 40000000 in
theorem rm_cpy (l : Launch) (Z : State) (a0 : Array Value) (hw : ∀ d ∈ tables_1, d.before a0 Z = true) (ws : List Jvm.Cond) (v0 : Addr) (v1 : Int32) (v2 : Int32) (xs : List Int32) (h0 : Heap) (n0 : Nat) (Z0 : n0 ≤ h0.size) (f0_A_v0 : AI Z h0 v0 .byte xs) (c1 : 0 ≤ v1.toInt) (c2 : v1.toInt ≤ v2.toInt) (c3 : v2.toInt ≤ xs.length) (c4 : xs.length ≤ 8) (c0 : ¬ (v1 = (0 : Int32))) :
    MetFree l (⟨"java/util/Arrays", "copyOfRange", "([BII)[B"⟩ : MethodName) (head1 (Jvm.Cond.code (⟨"java/util/Arrays", "copyOfRange", "([BII)[B"⟩ : MethodName) jdk_65_method_132_code 3 (some (.array .byte)) :: ws) ({ frames := 2, cells := 1, slots := 8, locals := 34 } : Room)) (fun a U => a = #[(.ref v0), (.int v1), (.int v2)] ∧ Z.Warmed39 U.vm ∧ U.heap = h0) (fun _ _ _ _ _ => True) (fun _ U o U' => ∃ v L, o = .returned v ∧ Q_cpy Z v0 v1 v2 xs h0 n0 v U'.heap L ∧ FrameEnd U o U' L ({ frames := 2, cells := 1, slots := 8, locals := 34 } : Room).cells ({ frames := 2, cells := 1, slots := 8, locals := 34 } : Room).slots) := by
  refine MetFree.of_bodySF (plainFor_of_name (by first | (simp [plainName, overriddenIn]; done) | decide +kernel)) hisR ?_
  intro p e s m args below meth c s₁ Bd hml0 hP hK
  obtain ⟨rfl, hZ, hh⟩ := hP
  have hx := Bd.exec
  have hby := Bd.bytes
  have hml : c.maxLocals = 3 := hml0
  have hown : s.vm.findClass "java/util/Arrays" = some m.cls := findClass_of_methodNamed Bd.named
  have hnm := (name_of_methodNamed Bd.named Bd.method).1
  have hlk : meth.locks = false := Bd.notSynchronized
  have X0 : Stand p l e ({ frames := 2, cells := 1, slots := 8, locals := 34 } : Room) s m #[(.ref v0), (.int v1), (.int v2)] below meth c s₁ [] 0 0 := Stand.of_body Bd
  have e0 : s₁.heap = h0 := by rw [← hh, Bd.state]; rfl
  have N0 := Fr.nil n0
  refine Go.enter (Q := Q_cpy Z v0 v1 v2 xs h0 n0) (C := ({ frames := 2, cells := 1, slots := 8, locals := 34 } : Room).cells) (N := ({ frames := 2, cells := 1, slots := 8, locals := 34 } : Room).slots) (ef_cpy m v0 v1 v2) ?_
  show Go p e below s _ _ _ s₁ (mkF m 0 #[.val (.ref v0), .val (.int v1), .val (.int v2)] [])
  refine G_iloadN X0 hx (pc' := 1) rfl (hb hby d_cpy_0) rfl ?_
  refine G_ifYes X0 hx (pc' := 10) (hb hby d_cpy_1) ((if0 _ _).trans (feq (c0 : ¬ (v1 = (0 : Int32)))).2) (by decide) (by decide) ?_
  refine G_aloadN X0 hx (pc' := 11) rfl (hb hby d_cpy_10) rfl rfl ?_
  refine G_iloadN X0 hx (pc' := 12) rfl (hb hby d_cpy_11) rfl ?_
  refine G_iloadN X0 hx (pc' := 13) rfl (hb hby d_cpy_12) rfl ?_
  obtain ⟨_, _, ⟨T17, L17, k17, n17⟩, -, X17, ⟨Lc17, hQ17, l17, y17, z17⟩, st17⟩ := Jvm.LawKit.callS X0 hx (y := (⟨"java/util/Arrays", "copyOfRangeByte", "([BII)[B"⟩ : MethodName)) hown (mvT hZ (hw _ (List.mem_of_getElem? (i := 49) rfl))) (mvT hZ (hw _ (List.mem_of_getElem? (i := 50) rfl))) (mvT hZ (hw _ (List.mem_of_getElem? (i := 47) rfl))) (mvT hZ (hw _ (List.mem_of_getElem? (i := 51) rfl))) (by decide) (backOf (W := 0) (rm_cpyB l Z a0 hw [] v0 v1 v2 xs h0 n0 Z0 f0_A_v0 c1 c2 c3 c4) hZ (hw _ (List.mem_of_getElem? (i := 51) rfl)) (hw _ (List.mem_of_getElem? (i := 47) rfl)) (by decide) (by decide)) (g := (mkF m 13 #[.val (.ref v0), .val (.int v1), .val (.int v2)] [(.int v2), (.int v1), (.ref v0)])) rfl (by rw [hml]; rfl) (argsL := [(.ref v0), (.int v1), (.int v2)]) (rest := []) (lenOf pd_5 rfl) rfl (by show 2 * 0 + _ ≤ _; exact Nat.le_of_eq rfl) (hb hby d_cpy_13) (fun _ _ => ⟨rfl, e0, (by decide : 0 + 1 ≤ _), (by decide : 0 + 8 ≤ _)⟩)
  dsimp only [Pt.U, Pt.locs, Pt.cells, Pt.slots] at X17 l17 y17 z17 st17 hQ17
  subst l17 y17 z17
  obtain ⟨b0_17, rfl, N17q, K17, le_b0_17, p17_0, p17_1⟩ := hQ17
  have N17 := Fr.app N0 N17q
  refine Go.st st17 ?_
  have ne_v0_b0_17 : v0 ≠ b0_17 := Nat.ne_of_lt (Nat.lt_of_lt_of_le f0_A_v0.lt le_b0_17)
  have g_b0_17 : n0 ≤ b0_17 := Nat.le_trans Z0 le_b0_17
  have sz_b0_17 : h0.size ≤ b0_17 := Nat.le_trans (Nat.le_refl _) le_b0_17
  have A_v0_17 := f0_A_v0.keep K17 nin0
  have K_17 : Keep h0 T17.heap [] := (Keep.refl h0 []).trans K17 all0
  have Z_17 : n0 ≤ T17.heap.size := Nat.le_trans Z0 K_17.1
  show Go p e below s _ _ _ T17 (mkF m 16 #[.val (.ref v0), .val (.int v1), .val (.int v2)] [(.ref b0_17)])
  refine Go.fin X17 hlk (v := some (.ref b0_17)) (fun h => by rw [Bd.returns] at h; cases h) (by decide) (by decide) ?_ (fun fs hr => retOut X17 hx Bd.returns rfl (Or.inr (Or.inr (Or.inr (Or.inr ⟨rfl, rfl, rfl⟩)))) (hb hby d_cpy_16) hr)
  show Q_cpy Z v0 v1 v2 xs h0 n0 _ T17.heap _
  exact ⟨b0_17, rfl, N17, K_17, sz_b0_17, p17_0, p17_1⟩
theorem d_open_0 : decode prog_59_method_17_code 0 = .ok (.aload_n 0, 1) := by decide +kernel
theorem d_open_1 : decode prog_59_method_17_code 1 = .ok (.invokevirtual 140, 3) := by decide +kernel
theorem pd_6 : parseMethodDescriptor "()I" = some ⟨[], some .int⟩ := by decide +kernel
theorem d_open_4 : decode prog_59_method_17_code 4 = .ok (.iload_n 1, 1) := by decide +kernel
theorem d_open_5 : decode prog_59_method_17_code 5 = .ok (.if_icmp .eq 27, 3) := by decide +kernel
theorem d_open_32 : decode prog_59_method_17_code 32 = .ok (.aload_n 0, 1) := by decide +kernel
theorem d_open_33 : decode prog_59_method_17_code 33 = .ok (.dup, 1) := by decide +kernel
theorem d_open_34 : decode prog_59_method_17_code 34 = .ok (.getfield 21, 3) := by decide +kernel
theorem d_open_37 : decode prog_59_method_17_code 37 = .ok (.iconst 1, 1) := by decide +kernel
theorem d_open_38 : decode prog_59_method_17_code 38 = .ok (.iadd, 1) := by decide +kernel
theorem d_open_39 : decode prog_59_method_17_code 39 = .ok (.putfield 21, 3) := by decide +kernel
theorem d_open_42 : decode prog_59_method_17_code 42 = .ok (.aload_n 0, 1) := by decide +kernel
theorem d_open_43 : decode prog_59_method_17_code 43 = .ok (.invokevirtual 28, 3) := by decide +kernel
theorem d_open_46 : decode prog_59_method_17_code 46 = .ok (.ifCond .ne 13, 3) := by decide +kernel
theorem d_open_59 : decode prog_59_method_17_code 59 = .ok (.aload_n 0, 1) := by decide +kernel
theorem d_open_60 : decode prog_59_method_17_code 60 = .ok (.getfield 15, 3) := by decide +kernel
theorem d_open_63 : decode prog_59_method_17_code 63 = .ok (.aload_n 0, 1) := by decide +kernel
theorem d_open_64 : decode prog_59_method_17_code 64 = .ok (.dup, 1) := by decide +kernel
theorem d_open_65 : decode prog_59_method_17_code 65 = .ok (.getfield 21, 3) := by decide +kernel
theorem d_open_68 : decode prog_59_method_17_code 68 = .ok (.dup_x1, 1) := by decide +kernel
theorem d_open_69 : decode prog_59_method_17_code 69 = .ok (.iconst 1, 1) := by decide +kernel
theorem d_open_70 : decode prog_59_method_17_code 70 = .ok (.iadd, 1) := by decide +kernel
theorem d_open_71 : decode prog_59_method_17_code 71 = .ok (.putfield 21, 3) := by decide +kernel
theorem d_open_74 : decode prog_59_method_17_code 74 = .ok (.baload, 1) := by decide +kernel
theorem d_open_75 : decode prog_59_method_17_code 75 = .ok (.sipush 255, 3) := by decide +kernel
theorem d_open_78 : decode prog_59_method_17_code 78 = .ok (.iand, 1) := by decide +kernel
theorem d_open_79 : decode prog_59_method_17_code 79 = .ok (.istore_n 2, 1) := by decide +kernel
theorem d_open_80 : decode prog_59_method_17_code 80 = .ok (.iload_n 2, 1) := by decide +kernel
theorem d_open_81 : decode prog_59_method_17_code 81 = .ok (.i2l, 1) := by decide +kernel
theorem d_open_82 : decode prog_59_method_17_code 82 = .ok (.lstore_n 3, 1) := by decide +kernel
theorem d_open_83 : decode prog_59_method_17_code 83 = .ok (.iload_n 2, 1) := by decide +kernel
theorem d_open_84 : decode prog_59_method_17_code 84 = .ok (.sipush 128, 3) := by decide +kernel
theorem d_open_87 : decode prog_59_method_17_code 87 = .ok (.if_icmp .lt 104, 3) := by decide +kernel
theorem d_open_191 : decode prog_59_method_17_code 191 = .ok (.lload_n 3, 1) := by decide +kernel
theorem d_open_192 : decode prog_59_method_17_code 192 = .ok (.aload_n 0, 1) := by decide +kernel
theorem d_open_193 : decode prog_59_method_17_code 193 = .ok (.getfield 25, 3) := by decide +kernel
theorem d_open_196 : decode prog_59_method_17_code 196 = .ok (.aload_n 0, 1) := by decide +kernel
theorem d_open_197 : decode prog_59_method_17_code 197 = .ok (.getfield 21, 3) := by decide +kernel
theorem d_open_200 : decode prog_59_method_17_code 200 = .ok (.isub, 1) := by decide +kernel
theorem d_open_201 : decode prog_59_method_17_code 201 = .ok (.i2l, 1) := by decide +kernel
theorem d_open_202 : decode prog_59_method_17_code 202 = .ok (.lcmp, 1) := by decide +kernel
theorem d_open_203 : decode prog_59_method_17_code 203 = .ok (.ifCond .le 13, 3) := by decide +kernel
theorem d_open_216 : decode prog_59_method_17_code 216 = .ok (.lload_n 3, 1) := by decide +kernel
theorem d_open_217 : decode prog_59_method_17_code 217 = .ok (.l2i, 1) := by decide +kernel
theorem d_open_218 : decode prog_59_method_17_code 218 = .ok (.ireturn, 1) := by decide +kernel
theorem ef_open (m : MethodId) (v0 : Addr) (v1 : Int32) : entryFrame m #[(.ref v0), (.int v1)] 7 = mkF m 0 #[.val (.ref v0), .val (.int v1), .unset, .unset, .unset, .unset, .unset] [] := by first | (simp [entryFrame, mkF, argsToLocals, Value.category]; done) | rfl
def Q_open (Z : State) (v0 : Addr) (v1 : Int32) (pos : Int32) (en_ : Int32) (dd : Addr) (xs : List Int32) (h0 : Heap) (n0 : Nat) (v : Option Value) (h : Heap) (L : List Loc) : Prop := v = some (.int ((((xs.getD (pos + (1 : Int32)).toNatClampNeg 0) &&& (255 : Int32)).toInt64).toInt32)) ∧ Fr n0 L ∧ Keep h0 h [v0] ∧ Exa Z h v0 "managerie/snmp/Ber$Reader" ∧ Fld Z h v0 "managerie/snmp/Ber$Reader" "position" "I" (.int ((pos + (1 : Int32)) + (1 : Int32))) ∧ Fld Z h v0 "managerie/snmp/Ber$Reader" "end" "I" (.int en_) ∧ Fld Z h v0 "managerie/snmp/Ber$Reader" "data" "[B" (.ref dd)
set_option maxRecDepth 65536 in
set_option maxHeartbeats 40000000 in
theorem rm_open (l : Launch) (Z : State) (a0 : Array Value) (hw : ∀ d ∈ tables_1, d.before a0 Z = true) (ws : List Jvm.Cond) (v0 : Addr) (v1 : Int32) (pos : Int32) (en_ : Int32) (dd : Addr) (xs : List Int32) (h0 : Heap) (n0 : Nat) (Z0 : n0 ≤ h0.size) (f0_E_v0 : Exa Z h0 v0 "managerie/snmp/Ber$Reader") (f1_F_v0 : Fld Z h0 v0 "managerie/snmp/Ber$Reader" "position" "I" (.int pos)) (f2_F_v0 : Fld Z h0 v0 "managerie/snmp/Ber$Reader" "end" "I" (.int en_)) (f3_F_v0 : Fld Z h0 v0 "managerie/snmp/Ber$Reader" "data" "[B" (.ref dd)) (f4_A_dd : AI Z h0 dd .byte xs) (g_v0 : n0 ≤ v0) (ne_dd_v0 : dd ≠ v0) (hm : ¬ ((f_hasMore pos en_) = (0 : Int32))) (i1 : ¬ (pos < 0)) (i2 : pos.toNatClampNeg < xs.length) (tg : ((xs.getD pos.toNatClampNeg 0) &&& (255 : Int32)) = v1) (m2 : ¬ ((f_hasMore (pos + (1 : Int32)) en_) = (0 : Int32))) (j1 : ¬ ((pos + (1 : Int32)) < 0)) (j2 : (pos + (1 : Int32)).toNatClampNeg < xs.length) (lt : ((xs.getD (pos + (1 : Int32)).toNatClampNeg 0) &&& (255 : Int32)) < (128 : Int32)) (le : ¬ (((en_ - ((pos + (1 : Int32)) + (1 : Int32))).toInt64) < (((xs.getD (pos + (1 : Int32)).toNatClampNeg 0) &&& (255 : Int32)).toInt64))) :
    MetFree l (⟨"managerie/snmp/Ber$Reader", "open", "(I)I"⟩ : MethodName) (head1 (Jvm.Cond.code (⟨"managerie/snmp/Ber$Reader", "open", "(I)I"⟩ : MethodName) prog_59_method_17_code 7 (some .int) :: ws) ({ frames := 2, cells := 0, slots := 0, locals := 24 } : Room)) (fun a U => a = #[(.ref v0), (.int v1)] ∧ Z.Warmed39 U.vm ∧ U.heap = h0) (fun _ _ _ _ _ => True) (fun _ U o U' => ∃ v L, o = .returned v ∧ Q_open Z v0 v1 pos en_ dd xs h0 n0 v U'.heap L ∧ FrameEnd U o U' L ({ frames := 2, cells := 0, slots := 0, locals := 24 } : Room).cells ({ frames := 2, cells := 0, slots := 0, locals := 24 } : Room).slots) := by
  refine MetFree.of_bodySF (plainFor_of_name (by first | (simp [plainName, overriddenIn]; done) | decide +kernel)) hisR ?_
  intro p e s m args below meth c s₁ Bd hml0 hP hK
  obtain ⟨rfl, hZ, hh⟩ := hP
  have hx := Bd.exec
  have hby := Bd.bytes
  have hml : c.maxLocals = 7 := hml0
  have hown : s.vm.findClass "managerie/snmp/Ber$Reader" = some m.cls := findClass_of_methodNamed Bd.named
  have hnm := (name_of_methodNamed Bd.named Bd.method).1
  have hlk : meth.locks = false := Bd.notSynchronized
  have X0 : Stand p l e ({ frames := 2, cells := 0, slots := 0, locals := 24 } : Room) s m #[(.ref v0), (.int v1)] below meth c s₁ [] 0 0 := Stand.of_body Bd
  have e0 : s₁.heap = h0 := by rw [← hh, Bd.state]; rfl
  have N0 := Fr.nil n0
  refine Go.enter (Q := Q_open Z v0 v1 pos en_ dd xs h0 n0) (C := ({ frames := 2, cells := 0, slots := 0, locals := 24 } : Room).cells) (N := ({ frames := 2, cells := 0, slots := 0, locals := 24 } : Room).slots) (ef_open m v0 v1) ?_
  show Go p e below s _ _ _ s₁ (mkF m 0 #[.val (.ref v0), .val (.int v1), .unset, .unset, .unset, .unset, .unset] [])
  refine G_aloadN X0 hx (pc' := 1) rfl (hb hby d_open_0) rfl rfl ?_
  obtain ⟨cq18, kq18, q18a, q18b, q18c⟩ := isOf hZ e0 f0_E_v0
  obtain ⟨_, _, ⟨T18, L18, k18, n18⟩, -, X18, ⟨Lc18, hQ18, l18, y18, z18⟩, st18⟩ := X0.virtualBack hx (y := (⟨"managerie/snmp/Ber$Reader", "peekTag", "()I"⟩ : MethodName)) (z := (⟨"managerie/snmp/Ber$Reader", "peekTag", "()I"⟩ : MethodName)) hown (mvT hZ (hw _ (List.mem_of_getElem? (i := 39) rfl))) (mvT hZ (hw _ (List.mem_of_getElem? (i := 40) rfl))) (notFace_of_selects (args := #[]) (mvT hZ (hw _ (List.mem_of_getElem? (i := 42) rfl)))) (mvT hZ (hw _ (List.mem_of_getElem? (i := 42) rfl))) (mvT hZ (hw _ (List.mem_of_getElem? (i := 41) rfl))) (by decide) (backOf (W := 0) (rm_peekTag l Z a0 hw [] v0 pos en_ dd xs h0 n0 Z0 f0_E_v0 f1_F_v0 f2_F_v0 f3_F_v0 f4_A_dd hm i1 i2) hZ (hw _ (List.mem_of_getElem? (i := 43) rfl)) (hw _ (List.mem_of_getElem? (i := 4) rfl)) (by decide) (by decide)) q18a q18c (g := (mkF m 1 #[.val (.ref v0), .val (.int v1), .unset, .unset, .unset, .unset, .unset] [(.ref v0)])) rfl (by rw [hml]; rfl) (Steps.refl _) (argsL := []) (rest := []) (lenOf pd_6 rfl) rfl (by show 2 * 0 + _ ≤ _; exact Nat.le_of_eq rfl) (hb hby d_open_1) (fun _ _ => ⟨rfl, e0, (by decide : 0 + 0 ≤ _), (by decide : 0 + 0 ≤ _)⟩)
  dsimp only [Pt.U, Pt.locs, Pt.cells, Pt.slots] at X18 l18 y18 z18 st18 hQ18
  subst l18 y18 z18
  obtain ⟨rfl, N18q, e18⟩ := hQ18
  have N18 := Fr.app N0 N18q
  refine Go.st (fun _ k => st18.trans k) ?_
  show Go p e below s _ _ _ T18 (mkF m 4 #[.val (.ref v0), .val (.int v1), .unset, .unset, .unset, .unset, .unset] [(.int ((xs.getD pos.toNatClampNeg 0) &&& (255 : Int32)))])
  refine G_iloadN X18 hx (pc' := 5) rfl (hb hby d_open_4) rfl ?_
  refine G_icmpYes X18 hx (pc' := 32) (hb hby d_open_5) (teq (tg : ((xs.getD pos.toNatClampNeg 0) &&& (255 : Int32)) = v1)).1 (by decide) (by decide) ?_
  refine G_aloadN X18 hx (pc' := 33) rfl (hb hby d_open_32) rfl rfl ?_
  refine G_dup X18 hx (pc' := 34) rfl (hb hby d_open_33) rfl ?_
  obtain ⟨T19, X19, e19, st19⟩ := getF X18 hx hZ hown (host := "") (Or.inl (hw _ (List.mem_of_getElem? (i := 21) rfl))) Via.refl e18 f1_F_v0 (g := (mkF m 34 #[.val (.ref v0), .val (.int v1), .unset, .unset, .unset, .unset, .unset] [(.ref v0), (.ref v0)])) rfl rfl (hb hby d_open_34)
  refine Go.st st19 ?_
  show Go p e below s _ _ _ T19 (mkF m 37 #[.val (.ref v0), .val (.int v1), .unset, .unset, .unset, .unset, .unset] [(.int pos), (.ref v0)])
  refine G_iconst X19 hx (pc' := 38) rfl (hb hby d_open_37) (z := (1 : Int32)) rfl ?_
  refine G_iadd X19 hx (pc' := 39) rfl (hb hby d_open_38)  ?_
  obtain ⟨T20, h20, X20, e20, W20, st20⟩ := putF X19 hx hZ hown (host := "") (Or.inl (hw _ (List.mem_of_getElem? (i := 21) rfl))) Via.refl e19 f1_F_v0 f0_E_v0 (Or.inl (hw _ (List.mem_of_getElem? (i := 22) rfl))) (hw _ (List.mem_of_getElem? (i := 3) rfl)) (ty := .int) (by decide) rfl rfl (g := (mkF m 39 #[.val (.ref v0), .val (.int v1), .unset, .unset, .unset, .unset, .unset] [(.int (pos + (1 : Int32))), (.ref v0)])) rfl rfl (hb hby d_open_39)
  refine Go.st st20 ?_
  have F_v0_w20 := f1_F_v0.same W20
  have E_v0_20 := f0_E_v0.wr W20
  have F_v0_end_20 := f2_F_v0.other W20 (Or.inr (slot_ne (Or.inr (hw _ (List.mem_of_getElem? (i := 24) rfl))) (Or.inl (hw _ (List.mem_of_getElem? (i := 22) rfl))) (by decide) (t := .int) (t' := .int) (by decide) (by decide)))
  have F_v0_data_20 := f3_F_v0.other W20 (Or.inr (slot_ne (Or.inr (hw _ (List.mem_of_getElem? (i := 20) rfl))) (Or.inl (hw _ (List.mem_of_getElem? (i := 22) rfl))) (by decide) (t := (.array .byte)) (t' := .int) (by decide) (by decide)))
  have A_dd_20 := f4_A_dd.other W20 ne_dd_v0
  have K_20 : Keep h0 h20 [v0] := (Keep.refl h0 [v0]).wr W20 (Or.inl (List.mem_of_getElem? (i := 0) rfl))
  have Z_20 : n0 ≤ h20.size := Nat.le_trans Z0 K_20.1
  have N20 := Fr.snoc X20 N18 g_v0
  show Go p e below s _ _ _ T20 (mkF m 42 #[.val (.ref v0), .val (.int v1), .unset, .unset, .unset, .unset, .unset] [])
  refine G_aloadN X20 hx (pc' := 43) rfl (hb hby d_open_42) rfl rfl ?_
  obtain ⟨cq21, kq21, q21a, q21b, q21c⟩ := isOf hZ e20 E_v0_20
  obtain ⟨_, _, ⟨T21, L21, k21, n21⟩, -, X21, ⟨Lc21, hQ21, l21, y21, z21⟩, st21⟩ := X20.virtualBack hx (y := (⟨"managerie/snmp/Ber$Reader", "hasMore", "()Z"⟩ : MethodName)) (z := (⟨"managerie/snmp/Ber$Reader", "hasMore", "()Z"⟩ : MethodName)) hown (mvT hZ (hw _ (List.mem_of_getElem? (i := 44) rfl))) (mvT hZ (hw _ (List.mem_of_getElem? (i := 26) rfl))) (notFace_of_selects (args := #[]) (mvT hZ (hw _ (List.mem_of_getElem? (i := 28) rfl)))) (mvT hZ (hw _ (List.mem_of_getElem? (i := 28) rfl))) (mvT hZ (hw _ (List.mem_of_getElem? (i := 27) rfl))) (by decide) (backOf (W := 0) (rm_hasMore l Z a0 hw [] v0 (pos + (1 : Int32)) en_ h20 n0 Z_20 E_v0_20 F_v0_w20 F_v0_end_20) hZ (hw _ (List.mem_of_getElem? (i := 29) rfl)) (hw _ (List.mem_of_getElem? (i := 4) rfl)) (by decide) (by decide)) q21a q21c (g := (mkF m 43 #[.val (.ref v0), .val (.int v1), .unset, .unset, .unset, .unset, .unset] [(.ref v0)])) rfl (by rw [hml]; rfl) (Steps.refl _) (argsL := []) (rest := []) (lenOf pd_2 rfl) rfl (by show 2 * 0 + _ ≤ _; exact Nat.le_of_eq rfl) (hb hby d_open_43) (fun _ _ => ⟨rfl, e20, (by decide : 0 + 0 ≤ _), (by decide : 0 + 0 ≤ _)⟩)
  dsimp only [Pt.U, Pt.locs, Pt.cells, Pt.slots] at X21 l21 y21 z21 st21 hQ21
  subst l21 y21 z21
  obtain ⟨rfl, N21q, e21⟩ := hQ21
  have N21 := Fr.app N20 N21q
  refine Go.st (fun _ k => st21.trans k) ?_
  show Go p e below s _ _ _ T21 (mkF m 46 #[.val (.ref v0), .val (.int v1), .unset, .unset, .unset, .unset, .unset] [(.int (f_hasMore (pos + (1 : Int32)) en_))])
  refine G_ifYes X21 hx (pc' := 59) (hb hby d_open_46) ((if0 _ _).trans (feq (m2 : ¬ ((f_hasMore (pos + (1 : Int32)) en_) = (0 : Int32)))).2) (by decide) (by decide) ?_
  refine G_aloadN X21 hx (pc' := 60) rfl (hb hby d_open_59) rfl rfl ?_
  obtain ⟨T22, X22, e22, st22⟩ := getF X21 hx hZ hown (host := "") (Or.inl (hw _ (List.mem_of_getElem? (i := 19) rfl))) Via.refl e21 F_v0_data_20 (g := (mkF m 60 #[.val (.ref v0), .val (.int v1), .unset, .unset, .unset, .unset, .unset] [(.ref v0)])) rfl rfl (hb hby d_open_60)
  refine Go.st st22 ?_
  show Go p e below s _ _ _ T22 (mkF m 63 #[.val (.ref v0), .val (.int v1), .unset, .unset, .unset, .unset, .unset] [(.ref dd)])
  refine G_aloadN X22 hx (pc' := 64) rfl (hb hby d_open_63) rfl rfl ?_
  refine G_dup X22 hx (pc' := 65) rfl (hb hby d_open_64) rfl ?_
  obtain ⟨T23, X23, e23, st23⟩ := getF X22 hx hZ hown (host := "") (Or.inl (hw _ (List.mem_of_getElem? (i := 21) rfl))) Via.refl e22 F_v0_w20 (g := (mkF m 65 #[.val (.ref v0), .val (.int v1), .unset, .unset, .unset, .unset, .unset] [(.ref v0), (.ref v0), (.ref dd)])) rfl rfl (hb hby d_open_65)
  refine Go.st st23 ?_
  show Go p e below s _ _ _ T23 (mkF m 68 #[.val (.ref v0), .val (.int v1), .unset, .unset, .unset, .unset, .unset] [(.int (pos + (1 : Int32))), (.ref v0), (.ref dd)])
  refine G_dupX1 X23 hx (pc' := 69) rfl (hb hby d_open_68) rfl rfl ?_
  refine G_iconst X23 hx (pc' := 70) rfl (hb hby d_open_69) (z := (1 : Int32)) rfl ?_
  refine G_iadd X23 hx (pc' := 71) rfl (hb hby d_open_70)  ?_
  obtain ⟨T24, h24, X24, e24, W24, st24⟩ := putF X23 hx hZ hown (host := "") (Or.inl (hw _ (List.mem_of_getElem? (i := 21) rfl))) Via.refl e23 F_v0_w20 E_v0_20 (Or.inl (hw _ (List.mem_of_getElem? (i := 22) rfl))) (hw _ (List.mem_of_getElem? (i := 3) rfl)) (ty := .int) (by decide) rfl rfl (g := (mkF m 71 #[.val (.ref v0), .val (.int v1), .unset, .unset, .unset, .unset, .unset] [(.int ((pos + (1 : Int32)) + (1 : Int32))), (.ref v0), (.int (pos + (1 : Int32))), (.ref dd)])) rfl rfl (hb hby d_open_71)
  refine Go.st st24 ?_
  have F_v0_w24 := F_v0_w20.same W24
  have E_v0_24 := E_v0_20.wr W24
  have F_v0_end_24 := F_v0_end_20.other W24 (Or.inr (slot_ne (Or.inr (hw _ (List.mem_of_getElem? (i := 24) rfl))) (Or.inl (hw _ (List.mem_of_getElem? (i := 22) rfl))) (by decide) (t := .int) (t' := .int) (by decide) (by decide)))
  have F_v0_data_24 := F_v0_data_20.other W24 (Or.inr (slot_ne (Or.inr (hw _ (List.mem_of_getElem? (i := 20) rfl))) (Or.inl (hw _ (List.mem_of_getElem? (i := 22) rfl))) (by decide) (t := (.array .byte)) (t' := .int) (by decide) (by decide)))
  have A_dd_24 := A_dd_20.other W24 ne_dd_v0
  have K_24 : Keep h0 h24 [v0] := K_20.wr W24 (Or.inl (List.mem_of_getElem? (i := 0) rfl))
  have Z_24 : n0 ≤ h24.size := Nat.le_trans Z0 K_24.1
  have N24 := Fr.snoc X24 N21 g_v0
  show Go p e below s _ _ _ T24 (mkF m 74 #[.val (.ref v0), .val (.int v1), .unset, .unset, .unset, .unset, .unset] [(.int (pos + (1 : Int32))), (.ref dd)])
  refine Go.st (ldAB X24 hx hZ e24 A_dd_24 (j := (pos + (1 : Int32))) j1 j2 (g := (mkF m 74 #[.val (.ref v0), .val (.int v1), .unset, .unset, .unset, .unset, .unset] [(.int (pos + (1 : Int32))), (.ref dd)])) rfl rfl (hb hby d_open_74)) ?_
  show Go p e below s _ _ _ T24 (mkF m 75 #[.val (.ref v0), .val (.int v1), .unset, .unset, .unset, .unset, .unset] [(.int (xs.getD (pos + (1 : Int32)).toNatClampNeg 0))])
  refine G_sipush X24 hx (pc' := 78) rfl (hb hby d_open_75) (z := (255 : Int32)) rfl ?_
  refine G_iand X24 hx (pc' := 79) rfl (hb hby d_open_78)  ?_
  refine G_istoreN X24 hx (pc' := 80) rfl (hb hby d_open_79) (L' := #[.val (.ref v0), .val (.int v1), .val (.int ((xs.getD (pos + (1 : Int32)).toNatClampNeg 0) &&& (255 : Int32))), .unset, .unset, .unset, .unset]) rfl ?_
  refine G_iloadN X24 hx (pc' := 81) rfl (hb hby d_open_80) rfl ?_
  refine G_i2l X24 hx (pc' := 82) rfl (hb hby d_open_81)  ?_
  refine G_lstoreN X24 hx (pc' := 83) rfl (hb hby d_open_82) (L' := #[.val (.ref v0), .val (.int v1), .val (.int ((xs.getD (pos + (1 : Int32)).toNatClampNeg 0) &&& (255 : Int32))), .val (.long (((xs.getD (pos + (1 : Int32)).toNatClampNeg 0) &&& (255 : Int32)).toInt64)), .second, .unset, .unset]) rfl ?_
  refine G_iloadN X24 hx (pc' := 84) rfl (hb hby d_open_83) rfl ?_
  refine G_sipush X24 hx (pc' := 87) rfl (hb hby d_open_84) (z := (128 : Int32)) rfl ?_
  refine G_icmpYes X24 hx (pc' := 191) (hb hby d_open_87) (tlt (lt : ((xs.getD (pos + (1 : Int32)).toNatClampNeg 0) &&& (255 : Int32)) < (128 : Int32))).1 (by decide) (by decide) ?_
  refine G_lloadN X24 hx (pc' := 192) rfl (hb hby d_open_191) rfl ?_
  refine G_aloadN X24 hx (pc' := 193) rfl (hb hby d_open_192) rfl rfl ?_
  obtain ⟨T25, X25, e25, st25⟩ := getF X24 hx hZ hown (host := "") (Or.inl (hw _ (List.mem_of_getElem? (i := 23) rfl))) Via.refl e24 F_v0_end_24 (g := (mkF m 193 #[.val (.ref v0), .val (.int v1), .val (.int ((xs.getD (pos + (1 : Int32)).toNatClampNeg 0) &&& (255 : Int32))), .val (.long (((xs.getD (pos + (1 : Int32)).toNatClampNeg 0) &&& (255 : Int32)).toInt64)), .second, .unset, .unset] [(.ref v0), (.long (((xs.getD (pos + (1 : Int32)).toNatClampNeg 0) &&& (255 : Int32)).toInt64))])) rfl rfl (hb hby d_open_193)
  refine Go.st st25 ?_
  show Go p e below s _ _ _ T25 (mkF m 196 #[.val (.ref v0), .val (.int v1), .val (.int ((xs.getD (pos + (1 : Int32)).toNatClampNeg 0) &&& (255 : Int32))), .val (.long (((xs.getD (pos + (1 : Int32)).toNatClampNeg 0) &&& (255 : Int32)).toInt64)), .second, .unset, .unset] [(.int en_), (.long (((xs.getD (pos + (1 : Int32)).toNatClampNeg 0) &&& (255 : Int32)).toInt64))])
  refine G_aloadN X25 hx (pc' := 197) rfl (hb hby d_open_196) rfl rfl ?_
  obtain ⟨T26, X26, e26, st26⟩ := getF X25 hx hZ hown (host := "") (Or.inl (hw _ (List.mem_of_getElem? (i := 21) rfl))) Via.refl e25 F_v0_w24 (g := (mkF m 197 #[.val (.ref v0), .val (.int v1), .val (.int ((xs.getD (pos + (1 : Int32)).toNatClampNeg 0) &&& (255 : Int32))), .val (.long (((xs.getD (pos + (1 : Int32)).toNatClampNeg 0) &&& (255 : Int32)).toInt64)), .second, .unset, .unset] [(.ref v0), (.int en_), (.long (((xs.getD (pos + (1 : Int32)).toNatClampNeg 0) &&& (255 : Int32)).toInt64))])) rfl rfl (hb hby d_open_197)
  refine Go.st st26 ?_
  show Go p e below s _ _ _ T26 (mkF m 200 #[.val (.ref v0), .val (.int v1), .val (.int ((xs.getD (pos + (1 : Int32)).toNatClampNeg 0) &&& (255 : Int32))), .val (.long (((xs.getD (pos + (1 : Int32)).toNatClampNeg 0) &&& (255 : Int32)).toInt64)), .second, .unset, .unset] [(.int ((pos + (1 : Int32)) + (1 : Int32))), (.int en_), (.long (((xs.getD (pos + (1 : Int32)).toNatClampNeg 0) &&& (255 : Int32)).toInt64))])
  refine G_isub X26 hx (pc' := 201) rfl (hb hby d_open_200)  ?_
  refine G_i2l X26 hx (pc' := 202) rfl (hb hby d_open_201)  ?_
  refine G_lcmp X26 hx (pc' := 203) rfl (hb hby d_open_202)  ?_
  refine G_ifYes X26 hx (pc' := 216) (hb hby d_open_203) ((if0 _ _).trans (flt (fun q => (le : ¬ (((en_ - ((pos + (1 : Int32)) + (1 : Int32))).toInt64) < (((xs.getD (pos + (1 : Int32)).toNatClampNeg 0) &&& (255 : Int32)).toInt64))) ((lw_gt _ _).1 q))).2.2.2) (by decide) (by decide) ?_
  refine G_lloadN X26 hx (pc' := 217) rfl (hb hby d_open_216) rfl ?_
  refine G_l2i X26 hx (pc' := 218) rfl (hb hby d_open_217)  ?_
  refine Go.fin X26 hlk (v := some (.int ((((xs.getD (pos + (1 : Int32)).toNatClampNeg 0) &&& (255 : Int32)).toInt64).toInt32))) (fun h => by rw [Bd.returns] at h; cases h) (by decide) (by decide) ?_ (fun fs hr => retOut X26 hx Bd.returns rfl (Or.inl ⟨rfl, Or.inl rfl, _, rfl⟩) (hb hby d_open_218) hr)
  show Q_open Z v0 v1 pos en_ dd xs h0 n0 _ T26.heap _
  rw [e26]
  exact ⟨rfl, N24, K_24, E_v0_24, F_v0_w24, F_v0_end_24, F_v0_data_24⟩
theorem d_octets_0 : decode prog_59_method_12_code 0 = .ok (.aload_n 0, 1) := by decide +kernel
theorem d_octets_1 : decode prog_59_method_12_code 1 = .ok (.iload_n 1, 1) := by decide +kernel
theorem d_octets_2 : decode prog_59_method_12_code 2 = .ok (.invokevirtual 41, 3) := by decide +kernel
theorem pd_7 : parseMethodDescriptor "(I)I" = some ⟨[.int], some .int⟩ := by decide +kernel
theorem d_octets_5 : decode prog_59_method_12_code 5 = .ok (.istore_n 2, 1) := by decide +kernel
theorem d_octets_6 : decode prog_59_method_12_code 6 = .ok (.aload_n 0, 1) := by decide +kernel
theorem d_octets_7 : decode prog_59_method_12_code 7 = .ok (.getfield 15, 3) := by decide +kernel
theorem d_octets_10 : decode prog_59_method_12_code 10 = .ok (.aload_n 0, 1) := by decide +kernel
theorem d_octets_11 : decode prog_59_method_12_code 11 = .ok (.getfield 21, 3) := by decide +kernel
theorem d_octets_14 : decode prog_59_method_12_code 14 = .ok (.aload_n 0, 1) := by decide +kernel
theorem d_octets_15 : decode prog_59_method_12_code 15 = .ok (.getfield 21, 3) := by decide +kernel
theorem d_octets_18 : decode prog_59_method_12_code 18 = .ok (.iload_n 2, 1) := by decide +kernel
theorem d_octets_19 : decode prog_59_method_12_code 19 = .ok (.iadd, 1) := by decide +kernel
theorem d_octets_20 : decode prog_59_method_12_code 20 = .ok (.invokestatic 98, 3) := by decide +kernel
theorem d_octets_23 : decode prog_59_method_12_code 23 = .ok (.astore_n 3, 1) := by decide +kernel
theorem d_octets_24 : decode prog_59_method_12_code 24 = .ok (.aload_n 0, 1) := by decide +kernel
theorem d_octets_25 : decode prog_59_method_12_code 25 = .ok (.dup, 1) := by decide +kernel
theorem d_octets_26 : decode prog_59_method_12_code 26 = .ok (.getfield 21, 3) := by decide +kernel
theorem d_octets_29 : decode prog_59_method_12_code 29 = .ok (.iload_n 2, 1) := by decide +kernel
theorem d_octets_30 : decode prog_59_method_12_code 30 = .ok (.iadd, 1) := by decide +kernel
theorem d_octets_31 : decode prog_59_method_12_code 31 = .ok (.putfield 21, 3) := by decide +kernel
theorem d_octets_34 : decode prog_59_method_12_code 34 = .ok (.aload_n 3, 1) := by decide +kernel
theorem d_octets_35 : decode prog_59_method_12_code 35 = .ok (.areturn, 1) := by decide +kernel
theorem ef_octets (m : MethodId) (v0 : Addr) (v1 : Int32) : entryFrame m #[(.ref v0), (.int v1)] 4 = mkF m 0 #[.val (.ref v0), .val (.int v1), .unset, .unset] [] := by first | (simp [entryFrame, mkF, argsToLocals, Value.category]; done) | rfl
def Q_octets (Z : State) (v0 : Addr) (v1 : Int32) (pos : Int32) (en_ : Int32) (dd : Addr) (xs : List Int32) (h0 : Heap) (n0 : Nat) (v : Option Value) (h : Heap) (L : List Loc) : Prop := ∃ b0 : Addr, v = some (.ref b0) ∧ Fr n0 L ∧ Keep h0 h [v0] ∧ h0.size ≤ b0 ∧ Exa Z h v0 "managerie/snmp/Ber$Reader" ∧ Fld Z h v0 "managerie/snmp/Ber$Reader" "position" "I" (.int (((pos + (1 : Int32)) + (1 : Int32)) + ((((xs.getD (pos + (1 : Int32)).toNatClampNeg 0) &&& (255 : Int32)).toInt64).toInt32))) ∧ Fld Z h v0 "managerie/snmp/Ber$Reader" "end" "I" (.int en_) ∧ Fld Z h v0 "managerie/snmp/Ber$Reader" "data" "[B" (.ref dd) ∧ Exa Z h b0 "[B" ∧ AI Z h b0 .byte (own_cut xs ((pos + (1 : Int32)) + (1 : Int32)) (((pos + (1 : Int32)) + (1 : Int32)) + ((((xs.getD (pos + (1 : Int32)).toNatClampNeg 0) &&& (255 : Int32)).toInt64).toInt32)))
set_option maxRecDepth 65536 in
set_option maxHeartbeats 40000000 in
theorem rm_octets (l : Launch) (Z : State) (a0 : Array Value) (hw : ∀ d ∈ tables_1, d.before a0 Z = true) (ws : List Jvm.Cond) (v0 : Addr) (v1 : Int32) (pos : Int32) (en_ : Int32) (dd : Addr) (xs : List Int32) (h0 : Heap) (n0 : Nat) (Z0 : n0 ≤ h0.size) (f0_E_v0 : Exa Z h0 v0 "managerie/snmp/Ber$Reader") (f1_F_v0 : Fld Z h0 v0 "managerie/snmp/Ber$Reader" "position" "I" (.int pos)) (f2_F_v0 : Fld Z h0 v0 "managerie/snmp/Ber$Reader" "end" "I" (.int en_)) (f3_F_v0 : Fld Z h0 v0 "managerie/snmp/Ber$Reader" "data" "[B" (.ref dd)) (f4_A_dd : AI Z h0 dd .byte xs) (g_v0 : n0 ≤ v0) (ne_dd_v0 : dd ≠ v0) (hm : ¬ ((f_hasMore pos en_) = (0 : Int32))) (i1 : ¬ (pos < 0)) (i2 : pos.toNatClampNeg < xs.length) (tg : ((xs.getD pos.toNatClampNeg 0) &&& (255 : Int32)) = v1) (m2 : ¬ ((f_hasMore (pos + (1 : Int32)) en_) = (0 : Int32))) (j1 : ¬ ((pos + (1 : Int32)) < 0)) (j2 : (pos + (1 : Int32)).toNatClampNeg < xs.length) (lt : ((xs.getD (pos + (1 : Int32)).toNatClampNeg 0) &&& (255 : Int32)) < (128 : Int32)) (le : ¬ (((en_ - ((pos + (1 : Int32)) + (1 : Int32))).toInt64) < (((xs.getD (pos + (1 : Int32)).toNatClampNeg 0) &&& (255 : Int32)).toInt64))) (c0 : ¬ (((pos + (1 : Int32)) + (1 : Int32)) = (0 : Int32))) (c1 : 0 ≤ ((pos + (1 : Int32)) + (1 : Int32)).toInt) (c2 : ((pos + (1 : Int32)) + (1 : Int32)).toInt ≤ (((pos + (1 : Int32)) + (1 : Int32)) + ((((xs.getD (pos + (1 : Int32)).toNatClampNeg 0) &&& (255 : Int32)).toInt64).toInt32)).toInt) (c3 : (((pos + (1 : Int32)) + (1 : Int32)) + ((((xs.getD (pos + (1 : Int32)).toNatClampNeg 0) &&& (255 : Int32)).toInt64).toInt32)).toInt ≤ xs.length) (c4 : xs.length ≤ 8) :
    MetFree l (⟨"managerie/snmp/Ber$Reader", "octets", "(I)[B"⟩ : MethodName) (head1 (Jvm.Cond.code (⟨"managerie/snmp/Ber$Reader", "octets", "(I)[B"⟩ : MethodName) prog_59_method_12_code 4 (some (.array .byte)) :: ws) ({ frames := 3, cells := 1, slots := 8, locals := 48 } : Room)) (fun a U => a = #[(.ref v0), (.int v1)] ∧ Z.Warmed39 U.vm ∧ U.heap = h0) (fun _ _ _ _ _ => True) (fun _ U o U' => ∃ v L, o = .returned v ∧ Q_octets Z v0 v1 pos en_ dd xs h0 n0 v U'.heap L ∧ FrameEnd U o U' L ({ frames := 3, cells := 1, slots := 8, locals := 48 } : Room).cells ({ frames := 3, cells := 1, slots := 8, locals := 48 } : Room).slots) := by
  refine MetFree.of_bodySF (plainFor_of_name (by first | (simp [plainName, overriddenIn]; done) | decide +kernel)) hisR ?_
  intro p e s m args below meth c s₁ Bd hml0 hP hK
  obtain ⟨rfl, hZ, hh⟩ := hP
  have hx := Bd.exec
  have hby := Bd.bytes
  have hml : c.maxLocals = 4 := hml0
  have hown : s.vm.findClass "managerie/snmp/Ber$Reader" = some m.cls := findClass_of_methodNamed Bd.named
  have hnm := (name_of_methodNamed Bd.named Bd.method).1
  have hlk : meth.locks = false := Bd.notSynchronized
  have X0 : Stand p l e ({ frames := 3, cells := 1, slots := 8, locals := 48 } : Room) s m #[(.ref v0), (.int v1)] below meth c s₁ [] 0 0 := Stand.of_body Bd
  have e0 : s₁.heap = h0 := by rw [← hh, Bd.state]; rfl
  have N0 := Fr.nil n0
  refine Go.enter (Q := Q_octets Z v0 v1 pos en_ dd xs h0 n0) (C := ({ frames := 3, cells := 1, slots := 8, locals := 48 } : Room).cells) (N := ({ frames := 3, cells := 1, slots := 8, locals := 48 } : Room).slots) (ef_octets m v0 v1) ?_
  show Go p e below s _ _ _ s₁ (mkF m 0 #[.val (.ref v0), .val (.int v1), .unset, .unset] [])
  refine G_aloadN X0 hx (pc' := 1) rfl (hb hby d_octets_0) rfl rfl ?_
  refine G_iloadN X0 hx (pc' := 2) rfl (hb hby d_octets_1) rfl ?_
  obtain ⟨cq27, q27, q27'⟩ := f0_E_v0.cell
  obtain ⟨_, _, ⟨T27, L27, k27, n27⟩, -, X27, ⟨Lc27, hQ27, l27, y27, z27⟩, st27⟩ := X0.privateBack hx (y := (⟨"managerie/snmp/Ber$Reader", "open", "(I)I"⟩ : MethodName)) hown (mvT hZ (hw _ (List.mem_of_getElem? (i := 35) rfl))) (mvT hZ (hw _ (List.mem_of_getElem? (i := 36) rfl))) (own_selp (mv hZ (hw _ (List.mem_of_getElem? (i := 3) rfl))) (mvP hZ (hw _ (List.mem_of_getElem? (i := 37) rfl))) (mvT hZ (hw _ (List.mem_of_getElem? (i := 36) rfl))) (by decide)) (Cond.privateMethod_at (mvP hZ (hw _ (List.mem_of_getElem? (i := 37) rfl)) (args := #[]))) (mvT hZ (hw _ (List.mem_of_getElem? (i := 38) rfl))) (by decide) (backOf (W := 0) (rm_open l Z a0 hw [] v0 v1 pos en_ dd xs h0 n0 Z0 f0_E_v0 f1_F_v0 f2_F_v0 f3_F_v0 f4_A_dd g_v0 ne_dd_v0 hm i1 i2 tg m2 j1 j2 lt le) hZ (hw _ (List.mem_of_getElem? (i := 38) rfl)) (hw _ (List.mem_of_getElem? (i := 4) rfl)) (by decide) (by decide)) (g := (mkF m 2 #[.val (.ref v0), .val (.int v1), .unset, .unset] [(.int v1), (.ref v0)])) rfl (by rw [hml]; rfl) (Steps.refl _) (a := v0) (by rw [e0]; exact q27) q27' (argsL := [(.int v1)]) (rest := []) (lenOf pd_7 rfl) rfl (by show 2 * 0 + _ ≤ _; exact Nat.le_of_eq rfl) (hb hby d_octets_2) (fun _ _ => ⟨rfl, e0, (by decide : 0 + 0 ≤ _), (by decide : 0 + 0 ≤ _)⟩)
  dsimp only [Pt.U, Pt.locs, Pt.cells, Pt.slots] at X27 l27 y27 z27 st27 hQ27
  subst l27 y27 z27
  obtain ⟨rfl, N27q, K27, p27_0, p27_1, p27_2, p27_3⟩ := hQ27
  have N27 := Fr.app N0 N27q
  refine Go.st (fun _ k => st27.trans k) ?_
  have A_dd_27 := f4_A_dd.keep K27 (ninS ne_dd_v0 nin0)
  have K_27 : Keep h0 T27.heap [v0] := (Keep.refl h0 [v0]).trans K27 (allS (Or.inl (List.mem_of_getElem? (i := 0) rfl)) all0)
  have Z_27 : n0 ≤ T27.heap.size := Nat.le_trans Z0 K_27.1
  show Go p e below s _ _ _ T27 (mkF m 5 #[.val (.ref v0), .val (.int v1), .unset, .unset] [(.int ((((xs.getD (pos + (1 : Int32)).toNatClampNeg 0) &&& (255 : Int32)).toInt64).toInt32))])
  refine G_istoreN X27 hx (pc' := 6) rfl (hb hby d_octets_5) (L' := #[.val (.ref v0), .val (.int v1), .val (.int ((((xs.getD (pos + (1 : Int32)).toNatClampNeg 0) &&& (255 : Int32)).toInt64).toInt32)), .unset]) rfl ?_
  refine G_aloadN X27 hx (pc' := 7) rfl (hb hby d_octets_6) rfl rfl ?_
  obtain ⟨T28, X28, e28, st28⟩ := getF X27 hx hZ hown (host := "") (Or.inl (hw _ (List.mem_of_getElem? (i := 19) rfl))) Via.refl rfl p27_3 (g := (mkF m 7 #[.val (.ref v0), .val (.int v1), .val (.int ((((xs.getD (pos + (1 : Int32)).toNatClampNeg 0) &&& (255 : Int32)).toInt64).toInt32)), .unset] [(.ref v0)])) rfl rfl (hb hby d_octets_7)
  refine Go.st st28 ?_
  show Go p e below s _ _ _ T28 (mkF m 10 #[.val (.ref v0), .val (.int v1), .val (.int ((((xs.getD (pos + (1 : Int32)).toNatClampNeg 0) &&& (255 : Int32)).toInt64).toInt32)), .unset] [(.ref dd)])
  refine G_aloadN X28 hx (pc' := 11) rfl (hb hby d_octets_10) rfl rfl ?_
  obtain ⟨T29, X29, e29, st29⟩ := getF X28 hx hZ hown (host := "") (Or.inl (hw _ (List.mem_of_getElem? (i := 21) rfl))) Via.refl e28 p27_1 (g := (mkF m 11 #[.val (.ref v0), .val (.int v1), .val (.int ((((xs.getD (pos + (1 : Int32)).toNatClampNeg 0) &&& (255 : Int32)).toInt64).toInt32)), .unset] [(.ref v0), (.ref dd)])) rfl rfl (hb hby d_octets_11)
  refine Go.st st29 ?_
  show Go p e below s _ _ _ T29 (mkF m 14 #[.val (.ref v0), .val (.int v1), .val (.int ((((xs.getD (pos + (1 : Int32)).toNatClampNeg 0) &&& (255 : Int32)).toInt64).toInt32)), .unset] [(.int ((pos + (1 : Int32)) + (1 : Int32))), (.ref dd)])
  refine G_aloadN X29 hx (pc' := 15) rfl (hb hby d_octets_14) rfl rfl ?_
  obtain ⟨T30, X30, e30, st30⟩ := getF X29 hx hZ hown (host := "") (Or.inl (hw _ (List.mem_of_getElem? (i := 21) rfl))) Via.refl e29 p27_1 (g := (mkF m 15 #[.val (.ref v0), .val (.int v1), .val (.int ((((xs.getD (pos + (1 : Int32)).toNatClampNeg 0) &&& (255 : Int32)).toInt64).toInt32)), .unset] [(.ref v0), (.int ((pos + (1 : Int32)) + (1 : Int32))), (.ref dd)])) rfl rfl (hb hby d_octets_15)
  refine Go.st st30 ?_
  show Go p e below s _ _ _ T30 (mkF m 18 #[.val (.ref v0), .val (.int v1), .val (.int ((((xs.getD (pos + (1 : Int32)).toNatClampNeg 0) &&& (255 : Int32)).toInt64).toInt32)), .unset] [(.int ((pos + (1 : Int32)) + (1 : Int32))), (.int ((pos + (1 : Int32)) + (1 : Int32))), (.ref dd)])
  refine G_iloadN X30 hx (pc' := 19) rfl (hb hby d_octets_18) rfl ?_
  refine G_iadd X30 hx (pc' := 20) rfl (hb hby d_octets_19)  ?_
  obtain ⟨_, _, ⟨T31, L31, k31, n31⟩, -, X31, ⟨Lc31, hQ31, l31, y31, z31⟩, st31⟩ := Jvm.LawKit.callS X30 hx (y := (⟨"java/util/Arrays", "copyOfRange", "([BII)[B"⟩ : MethodName)) hown (mvT hZ (hw _ (List.mem_of_getElem? (i := 45) rfl))) (mvT hZ (hw _ (List.mem_of_getElem? (i := 46) rfl))) (mvT hZ (hw _ (List.mem_of_getElem? (i := 47) rfl))) (mvT hZ (hw _ (List.mem_of_getElem? (i := 48) rfl))) (by decide) (backOf (W := 0) (rm_cpy l Z a0 hw [] dd ((pos + (1 : Int32)) + (1 : Int32)) (((pos + (1 : Int32)) + (1 : Int32)) + ((((xs.getD (pos + (1 : Int32)).toNatClampNeg 0) &&& (255 : Int32)).toInt64).toInt32)) xs T27.heap n0 Z_27 A_dd_27 c1 c2 c3 c4 c0) hZ (hw _ (List.mem_of_getElem? (i := 48) rfl)) (hw _ (List.mem_of_getElem? (i := 47) rfl)) (by decide) (by decide)) (g := (mkF m 20 #[.val (.ref v0), .val (.int v1), .val (.int ((((xs.getD (pos + (1 : Int32)).toNatClampNeg 0) &&& (255 : Int32)).toInt64).toInt32)), .unset] [(.int (((pos + (1 : Int32)) + (1 : Int32)) + ((((xs.getD (pos + (1 : Int32)).toNatClampNeg 0) &&& (255 : Int32)).toInt64).toInt32))), (.int ((pos + (1 : Int32)) + (1 : Int32))), (.ref dd)])) rfl (by rw [hml]; rfl) (argsL := [(.ref dd), (.int ((pos + (1 : Int32)) + (1 : Int32))), (.int (((pos + (1 : Int32)) + (1 : Int32)) + ((((xs.getD (pos + (1 : Int32)).toNatClampNeg 0) &&& (255 : Int32)).toInt64).toInt32)))]) (rest := []) (lenOf pd_5 rfl) rfl (by show 2 * 0 + _ ≤ _; exact Nat.le_of_eq rfl) (hb hby d_octets_20) (fun _ _ => ⟨rfl, e30, (by decide : 0 + 1 ≤ _), (by decide : 0 + 8 ≤ _)⟩)
  dsimp only [Pt.U, Pt.locs, Pt.cells, Pt.slots] at X31 l31 y31 z31 st31 hQ31
  subst l31 y31 z31
  obtain ⟨b0_31, rfl, N31q, K31, le_b0_31, p31_0, p31_1⟩ := hQ31
  have N31 := Fr.app N27 N31q
  refine Go.st st31 ?_
  have ne_dd_b0_31 : dd ≠ b0_31 := Nat.ne_of_lt (Nat.lt_of_lt_of_le A_dd_27.lt le_b0_31)
  have ne_v0_b0_31 : v0 ≠ b0_31 := Nat.ne_of_lt (Nat.lt_of_lt_of_le p27_0.lt le_b0_31)
  have g_b0_31 : n0 ≤ b0_31 := Nat.le_trans Z_27 le_b0_31
  have sz_b0_31 : h0.size ≤ b0_31 := Nat.le_trans K_27.1 le_b0_31
  have A_dd_31 := A_dd_27.keep K31 nin0
  have E_v0_31 := p27_0.keep K31
  have F_v0_position_31 := p27_1.keep K31 nin0
  have F_v0_end_31 := p27_2.keep K31 nin0
  have F_v0_data_31 := p27_3.keep K31 nin0
  have K_31 : Keep h0 T31.heap [v0] := K_27.trans K31 all0
  have Z_31 : n0 ≤ T31.heap.size := Nat.le_trans Z0 K_31.1
  show Go p e below s _ _ _ T31 (mkF m 23 #[.val (.ref v0), .val (.int v1), .val (.int ((((xs.getD (pos + (1 : Int32)).toNatClampNeg 0) &&& (255 : Int32)).toInt64).toInt32)), .unset] [(.ref b0_31)])
  refine G_astoreN X31 hx (pc' := 24) rfl (hb hby d_octets_23) rfl (L' := #[.val (.ref v0), .val (.int v1), .val (.int ((((xs.getD (pos + (1 : Int32)).toNatClampNeg 0) &&& (255 : Int32)).toInt64).toInt32)), .val (.ref b0_31)]) rfl ?_
  refine G_aloadN X31 hx (pc' := 25) rfl (hb hby d_octets_24) rfl rfl ?_
  refine G_dup X31 hx (pc' := 26) rfl (hb hby d_octets_25) rfl ?_
  obtain ⟨T32, X32, e32, st32⟩ := getF X31 hx hZ hown (host := "") (Or.inl (hw _ (List.mem_of_getElem? (i := 21) rfl))) Via.refl rfl F_v0_position_31 (g := (mkF m 26 #[.val (.ref v0), .val (.int v1), .val (.int ((((xs.getD (pos + (1 : Int32)).toNatClampNeg 0) &&& (255 : Int32)).toInt64).toInt32)), .val (.ref b0_31)] [(.ref v0), (.ref v0)])) rfl rfl (hb hby d_octets_26)
  refine Go.st st32 ?_
  show Go p e below s _ _ _ T32 (mkF m 29 #[.val (.ref v0), .val (.int v1), .val (.int ((((xs.getD (pos + (1 : Int32)).toNatClampNeg 0) &&& (255 : Int32)).toInt64).toInt32)), .val (.ref b0_31)] [(.int ((pos + (1 : Int32)) + (1 : Int32))), (.ref v0)])
  refine G_iloadN X32 hx (pc' := 30) rfl (hb hby d_octets_29) rfl ?_
  refine G_iadd X32 hx (pc' := 31) rfl (hb hby d_octets_30)  ?_
  obtain ⟨T33, h33, X33, e33, W33, st33⟩ := putF X32 hx hZ hown (host := "") (Or.inl (hw _ (List.mem_of_getElem? (i := 21) rfl))) Via.refl e32 F_v0_position_31 E_v0_31 (Or.inl (hw _ (List.mem_of_getElem? (i := 22) rfl))) (hw _ (List.mem_of_getElem? (i := 3) rfl)) (ty := .int) (by decide) rfl rfl (g := (mkF m 31 #[.val (.ref v0), .val (.int v1), .val (.int ((((xs.getD (pos + (1 : Int32)).toNatClampNeg 0) &&& (255 : Int32)).toInt64).toInt32)), .val (.ref b0_31)] [(.int (((pos + (1 : Int32)) + (1 : Int32)) + ((((xs.getD (pos + (1 : Int32)).toNatClampNeg 0) &&& (255 : Int32)).toInt64).toInt32))), (.ref v0)])) rfl rfl (hb hby d_octets_31)
  refine Go.st st33 ?_
  have F_v0_w33 := F_v0_position_31.same W33
  have A_dd_33 := A_dd_31.other W33 ne_dd_v0
  have E_v0_33 := E_v0_31.wr W33
  have F_v0_end_33 := F_v0_end_31.other W33 (Or.inr (slot_ne (Or.inr (hw _ (List.mem_of_getElem? (i := 24) rfl))) (Or.inl (hw _ (List.mem_of_getElem? (i := 22) rfl))) (by decide) (t := .int) (t' := .int) (by decide) (by decide)))
  have F_v0_data_33 := F_v0_data_31.other W33 (Or.inr (slot_ne (Or.inr (hw _ (List.mem_of_getElem? (i := 20) rfl))) (Or.inl (hw _ (List.mem_of_getElem? (i := 22) rfl))) (by decide) (t := (.array .byte)) (t' := .int) (by decide) (by decide)))
  have E_b0_31_33 := p31_0.wr W33
  have A_b0_31_33 := p31_1.other W33 (Ne.symm ne_v0_b0_31)
  have K_33 : Keep h0 h33 [v0] := K_31.wr W33 (Or.inl (List.mem_of_getElem? (i := 0) rfl))
  have Z_33 : n0 ≤ h33.size := Nat.le_trans Z0 K_33.1
  have N33 := Fr.snoc X33 N31 g_v0
  show Go p e below s _ _ _ T33 (mkF m 34 #[.val (.ref v0), .val (.int v1), .val (.int ((((xs.getD (pos + (1 : Int32)).toNatClampNeg 0) &&& (255 : Int32)).toInt64).toInt32)), .val (.ref b0_31)] [])
  refine G_aloadN X33 hx (pc' := 35) rfl (hb hby d_octets_34) rfl rfl ?_
  refine Go.fin X33 hlk (v := some (.ref b0_31)) (fun h => by rw [Bd.returns] at h; cases h) (by decide) (by decide) ?_ (fun fs hr => retOut X33 hx Bd.returns rfl (Or.inr (Or.inr (Or.inr (Or.inr ⟨rfl, rfl, rfl⟩)))) (hb hby d_octets_35) hr)
  show Q_octets Z v0 v1 pos en_ dd xs h0 n0 _ T33.heap _
  rw [e33]
  exact ⟨b0_31, rfl, N33, K_33, sz_b0_31, E_v0_33, F_v0_w33, F_v0_end_33, F_v0_data_33, E_b0_31_33, A_b0_31_33⟩
theorem own_off (x : Int32) : 0 ≤ (x &&& (7 : Int32)).toInt ∧ (x &&& (7 : Int32)).toInt < 8 := by
  rw [c_mask x 7 3 (by decide) (by decide)]; omega
theorem own_s9 {off : Int32} (h0 : 0 ≤ off.toInt) (h1 : off.toInt < 8) : ((9 : Int32) - off).toInt = 9 - off.toInt := by
  have a := c_isub 9 off
  have l : (9 : Int32).toInt = 9 := by decide
  have r := rng32 ((9 : Int32) - off)
  rw [l] at a
  omega
theorem own_nz1 {off : Int32} (h0 : 0 ≤ off.toInt) (h1 : off.toInt < 8) : (9 : Int32) - off ≠ 0 := by
  intro q
  have a := own_s9 h0 h1
  rw [q] at a
  have l : (0 : Int32).toInt = 0 := by decide
  omega
theorem own_m31 (x : Int32) : 0 ≤ (x &&& (2147483647 : Int32)).toInt := by
  rw [c_mask x 2147483647 31 (by decide) (by decide)]; omega
theorem own_len1 (x : Int32) {off : Int32} (h0 : 0 ≤ off.toInt) (h1 : off.toInt < 8) : 0 ≤ ((x &&& (2147483647 : Int32)) % ((9 : Int32) - off)).toInt ∧ off.toInt + ((x &&& (2147483647 : Int32)) % ((9 : Int32) - off)).toInt ≤ 8 := by
  have a := own_s9 h0 h1
  have h4 := (c_iremV (x &&& (2147483647 : Int32)) ((9 : Int32) - off)).1 (own_m31 x) (by omega)
  obtain ⟨b1, b2, -⟩ := h4
  constructor <;> omega
theorem own_l2 {len : Int32} (h : ¬ len < (2 : Int32)) : 2 ≤ len.toInt := by
  rw [Int32.lt_iff_toInt_lt, show (2 : Int32).toInt = 2 from by decide] at h; omega
theorem own_s1 {len : Int32} (h : 2 ≤ len.toInt) : (len - (1 : Int32)).toInt = len.toInt - 1 := by
  have a := c_isub len 1
  have l : (1 : Int32).toInt = 1 := by decide
  have r := rng32 (len - 1)
  have r2 := rng32 len
  rw [l] at a
  omega
theorem own_nz2 {off len : Int32} (hlA : 0 ≤ len.toInt) (hlB : off.toInt + len.toInt ≤ 8) (h0 : 0 ≤ off.toInt) (h : ¬ len < (2 : Int32)) : len - (1 : Int32) ≠ 0 := by
  intro q
  have a := own_s1 (own_l2 h)
  have b := own_l2 h
  rw [q] at a
  have l : (0 : Int32).toInt = 0 := by decide
  omega
theorem own_cc (x : Int32) {off len : Int32} (hlA : 0 ≤ len.toInt) (hlB : off.toInt + len.toInt ≤ 8) (h0 : 0 ≤ off.toInt) (h : ¬ len < (2 : Int32)) : 0 ≤ ((x &&& (2147483647 : Int32)) % (len - (1 : Int32))).toInt ∧ ((x &&& (2147483647 : Int32)) % (len - (1 : Int32))).toInt + 2 ≤ len.toInt ∧ off.toInt + 2 ≤ 8 ∧ 2 ≤ len.toInt := by
  have b := own_l2 h
  have a := own_s1 b
  have h4 := (c_iremV (x &&& (2147483647 : Int32)) (len - (1 : Int32))).1 (own_m31 x) (by omega)
  obtain ⟨b1, b2, -⟩ := h4
  refine ⟨?_, ?_, ?_, ?_⟩ <;> omega
theorem own_i1 {off : Int32} (h0 : 0 ≤ off.toInt) : ¬ off < 0 := own_nn h0
theorem own_i2 {off : Int32} {xs : List Int32} (h0 : 0 ≤ off.toInt) (h1 : off.toInt < 8) (hl : xs.length = 8) : off.toNatClampNeg < xs.length := by
  rw [hl]; show off.toInt.toNat < 8; omega
theorem own_p1 {off : Int32} (h0 : 0 ≤ off.toInt) (h1 : off.toInt < 8) : (off + (1 : Int32)).toInt = off.toInt + 1 := by
  have a := c_iadd off 1
  have l : (1 : Int32).toInt = 1 := by decide
  have r := rng32 (off + 1)
  rw [l] at a
  omega
theorem own_j1 {off : Int32} (h0 : 0 ≤ off.toInt) (h1 : off.toInt < 8) : ¬ (off + (1 : Int32)) < 0 := own_nn (by rw [own_p1 h0 h1]; omega)
theorem own_j2 {off : Int32} {xs : List Int32} (h0 : 0 ≤ off.toInt) (h1 : off.toInt + 2 ≤ 8) (hl : xs.length = 8) : (off + (1 : Int32)).toNatClampNeg < xs.length := by
  rw [hl]; show (off + (1 : Int32)).toInt.toNat < 8; rw [own_p1 h0 (by omega)]; omega
theorem own_byte (a : Int32) : (a.toInt8.toInt32 &&& (255 : Int32)) = (a &&& (255 : Int32)) := by
  apply Int32.toInt_inj.mp
  rw [c_mask _ 255 8 (by decide) (by decide), c_mask _ 255 8 (by decide) (by decide)]
  have h := c_i2b a
  omega
theorem own_y1 {off v : Int32} {xs : List Int32} (h0 : 0 ≤ off.toInt) (h1 : off.toInt + 2 ≤ 8) (hl : xs.length = 8) : ((((xs.set off.toNatClampNeg (4 : Int32)).set (off + (1 : Int32)).toNatClampNeg v).getD off.toNatClampNeg 0) &&& (255 : Int32)) = (4 : Int32) := by
  have e1 : off.toNatClampNeg = off.toInt.toNat := rfl
  have e2 : (off + (1 : Int32)).toNatClampNeg = off.toInt.toNat + 1 := by show (off + (1 : Int32)).toInt.toNat = _; rw [own_p1 h0 (by omega)]; omega
  rw [e1, e2, List.getD_eq_getElem?_getD, List.getElem?_set_ne (by omega), List.getElem?_set_self (by omega)]
  decide
theorem own_y2 {off cc len : Int32} {xs : List Int32} (h0 : 0 ≤ off.toInt) (h1 : off.toInt + 2 ≤ 8) (hcA : 0 ≤ cc.toInt) (hcB : cc.toInt + 2 ≤ len.toInt) (hlB : off.toInt + len.toInt ≤ 8) (hl : xs.length = 8) : ((((xs.set off.toNatClampNeg (4 : Int32)).set (off + (1 : Int32)).toNatClampNeg (cc.toInt8.toInt32)).getD (off + (1 : Int32)).toNatClampNeg 0) &&& (255 : Int32)) = cc := by
  have e2 : (off + (1 : Int32)).toNatClampNeg = off.toInt.toNat + 1 := by show (off + (1 : Int32)).toInt.toNat = _; rw [own_p1 h0 (by omega)]; omega
  rw [e2, List.getD_eq_getElem?_getD, List.getElem?_set_self (by rw [List.length_set]; omega)]
  show (cc.toInt8.toInt32 &&& (255 : Int32)) = cc
  rw [own_byte]
  apply Int32.toInt_inj.mp
  rw [c_mask _ 255 8 (by decide) (by decide)]
  omega
theorem own_back (c : Int32) : (c.toInt64).toInt32 = c := by simp
theorem own_or_nn {x y : Int32} (hx : ¬ x < 0) (hy : ¬ y < 0) : ¬ (x ||| y) < 0 := by
  rw [Jvm.Free.XT.neg32] at *
  rw [Int32.toBitVec_or, BitVec.msb_or]
  simp_all
theorem own_chk1 {off len : Int32} {xs : List Int32} (h0 : 0 ≤ off.toInt) (h1 : 0 ≤ len.toInt) (hl : xs.length = 8) : ¬ (((Int32.ofNat (xs).length) ||| off) ||| len) < (0 : Int32) := by
  rw [hl]
  exact own_or_nn (own_or_nn (by decide) (own_nn h0)) (own_nn h1)
theorem own_chk2 {off len : Int32} {xs : List Int32} (h0 : 0 ≤ off.toInt) (h1 : 0 ≤ len.toInt) (h2 : off.toInt + len.toInt ≤ 8) (hl : xs.length = 8) : ¬ (((Int32.ofNat (xs).length) - off) < len) := by
  rw [hl]
  have e : (Int32.ofNat 8).toInt = 8 := by decide
  rw [Int32.lt_iff_toInt_lt, own_sub32 h0 (by omega), e]
  omega
theorem own_addL {off len : Int32} (h0 : 0 ≤ off.toInt) (h1 : 0 ≤ len.toInt) (h2 : off.toInt + len.toInt ≤ 8) : (off + len).toInt = off.toInt + len.toInt := by
  have a := c_iadd off len
  have r := rng32 (off + len)
  omega
theorem own_hmore {p q : Int32} (h : p.toInt < q.toInt) : f_hasMore p q = 1 := by
  unfold f_hasMore
  rw [if_pos (by rw [Int32.lt_iff_toInt_lt]; exact h)]
theorem own_hless {p q : Int32} (h : ¬ p.toInt < q.toInt) : f_hasMore p q = 0 := by
  unfold f_hasMore
  rw [if_neg (by rw [Int32.lt_iff_toInt_lt]; exact h)]
theorem own_h1 {off len : Int32} (h0 : 0 ≤ off.toInt) (h2 : off.toInt + len.toInt ≤ 8) (h : (0 : Int32) < len) : f_hasMore off (off + len) = (1 : Int32) := by
  rw [Int32.lt_iff_toInt_lt, show (0 : Int32).toInt = 0 from rfl] at h
  exact own_hmore (by rw [own_addL h0 (by omega) h2]; omega)
theorem own_h0 {off len : Int32} (h0 : 0 ≤ off.toInt) (h1 : 0 ≤ len.toInt) (h2 : off.toInt + len.toInt ≤ 8) (h : ¬ (0 : Int32) < len) : f_hasMore off (off + len) = (0 : Int32) := by
  rw [Int32.lt_iff_toInt_lt, show (0 : Int32).toInt = 0 from rfl] at h
  exact own_hless (by rw [own_addL h0 (by omega) h2]; omega)
theorem own_hm {off len : Int32} (h0 : 0 ≤ off.toInt) (h1 : 0 ≤ len.toInt) (h2 : off.toInt + len.toInt ≤ 8) (h3 : 2 ≤ len.toInt) : ¬ (f_hasMore off (off + len) = (0 : Int32)) := by
  rw [own_hmore (by rw [own_addL h0 h1 h2]; omega)]; decide
theorem own_hm2 {off len : Int32} (h0 : 0 ≤ off.toInt) (h2 : off.toInt + len.toInt ≤ 8) (h3 : 2 ≤ len.toInt) : ¬ (f_hasMore (off + (1 : Int32)) (off + len) = (0 : Int32)) := by
  rw [own_hmore (by rw [own_addL h0 (by omega) h2, own_p1 h0 (by omega)]; omega)]; decide
theorem own_lt {off len cc : Int32} (hcA : 0 ≤ cc.toInt) (hcB : cc.toInt + 2 ≤ len.toInt) (hlB : off.toInt + len.toInt ≤ 8) (h0 : 0 ≤ off.toInt) : cc < (128 : Int32) := by
  rw [Int32.lt_iff_toInt_lt, show (128 : Int32).toInt = 128 from by decide]; omega
theorem own_p2 {off : Int32} (h0 : 0 ≤ off.toInt) (h1 : off.toInt + 2 ≤ 8) : ((off + (1 : Int32)) + (1 : Int32)).toInt = off.toInt + 2 := by
  have e := own_p1 h0 (by omega)
  have a := c_iadd (off + 1) 1
  have l : (1 : Int32).toInt = 1 := by decide
  have r := rng32 (off + 1 + 1)
  rw [l] at a
  omega
theorem own_le {off len cc : Int32} (h0 : 0 ≤ off.toInt) (hcA : 0 ≤ cc.toInt) (hcB : cc.toInt + 2 ≤ len.toInt) (hlB : off.toInt + len.toInt ≤ 8) : ¬ ((((off + len) - ((off + (1 : Int32)) + (1 : Int32))).toInt64) < (cc.toInt64)) := by
  rw [Int64.lt_iff_toInt_lt, c_i2l, c_i2l, own_sub32 (by rw [own_p2 h0 (by omega)]; omega) (by rw [own_p2 h0 (by omega), own_addL h0 (by omega) hlB]; omega), own_p2 h0 (by omega), own_addL h0 (by omega) hlB]
  omega
theorem own_c0 {off : Int32} (h0 : 0 ≤ off.toInt) (h1 : off.toInt + 2 ≤ 8) : ¬ (((off + (1 : Int32)) + (1 : Int32)) = (0 : Int32)) := by
  intro q
  have e := own_p2 h0 h1
  rw [q] at e
  have l : (0 : Int32).toInt = 0 := by decide
  omega
theorem own_c1 {off : Int32} (h0 : 0 ≤ off.toInt) (h1 : off.toInt + 2 ≤ 8) : 0 ≤ ((off + (1 : Int32)) + (1 : Int32)).toInt := by rw [own_p2 h0 h1]; omega
theorem own_pc {off len cc : Int32} (h0 : 0 ≤ off.toInt) (hcA : 0 ≤ cc.toInt) (hcB : cc.toInt + 2 ≤ len.toInt) (hlB : off.toInt + len.toInt ≤ 8) : (((off + (1 : Int32)) + (1 : Int32)) + cc).toInt = off.toInt + 2 + cc.toInt := by
  have e := own_p2 h0 (by omega)
  have a := c_iadd (off + 1 + 1) cc
  have r := rng32 (off + 1 + 1 + cc)
  omega
theorem own_c2 {off len cc : Int32} (h0 : 0 ≤ off.toInt) (hcA : 0 ≤ cc.toInt) (hcB : cc.toInt + 2 ≤ len.toInt) (hlB : off.toInt + len.toInt ≤ 8) : ((off + (1 : Int32)) + (1 : Int32)).toInt ≤ (((off + (1 : Int32)) + (1 : Int32)) + cc).toInt := by
  rw [own_pc h0 hcA hcB hlB, own_p2 h0 (by omega)]; omega
theorem own_c3 {off len cc : Int32} (h0 : 0 ≤ off.toInt) (hcA : 0 ≤ cc.toInt) (hcB : cc.toInt + 2 ≤ len.toInt) (hlB : off.toInt + len.toInt ≤ 8) : (((off + (1 : Int32)) + (1 : Int32)) + cc).toInt ≤ ((8 : Nat) : Int) := by
  rw [own_pc h0 hcA hcB hlB]; omega
theorem own_d1 {off len cc : Int32} {ys : List Int32} (h0 : 0 ≤ off.toInt) (hcA : 0 ≤ cc.toInt) (hcB : cc.toInt + 2 ≤ len.toInt) (hlB : off.toInt + len.toInt ≤ 8) (hl : ys.length = 8) : (Int32.ofNat ((own_cut ys ((off + (1 : Int32)) + (1 : Int32)) (((off + (1 : Int32)) + (1 : Int32)) + cc))).length) = cc := by
  have e2 := own_p2 h0 (by omega)
  have e3 := own_pc h0 hcA hcB hlB
  have e4 := own_sub32 (a := off + (1 : Int32) + (1 : Int32)) (b := off + (1 : Int32) + (1 : Int32) + cc) (by omega) (by omega)
  have k : (own_cut ys ((off + (1 : Int32)) + (1 : Int32)) (((off + (1 : Int32)) + (1 : Int32)) + cc)).length = cc.toInt.toNat := by
    unfold own_cut
    rw [List.length_take, List.length_drop, hl]
    show min ((off + (1 : Int32) + (1 : Int32) + cc - (off + (1 : Int32) + (1 : Int32))).toInt.toNat) (8 - (off + (1 : Int32) + (1 : Int32)).toInt.toNat) = _
    rw [e4, e3, e2]
    omega
  rw [k]
  apply Int32.toInt_inj.mp
  rw [Int32.toInt_ofNat_of_lt (by omega)]
  omega
theorem own_d2 (off cc : Int32) : (((off + (1 : Int32)) + (1 : Int32)) + cc) = ((off + (2 : Int32)) + cc) := by
  rw [Int32.add_assoc off 1 1]; rfl
theorem own_2c {len cc : Int32} (hcA : 0 ≤ cc.toInt) (hcB : cc.toInt + 2 ≤ len.toInt) : ((2 : Int32) + cc).toInt = 2 + cc.toInt := by
  have a := c_iadd 2 cc
  have l : (2 : Int32).toInt = 2 := by decide
  have r := rng32 ((2 : Int32) + cc)
  have r2 := rng32 len
  rw [l] at a
  omega
theorem own_d3 {off len cc : Int32} (h0 : 0 ≤ off.toInt) (hcA : 0 ≤ cc.toInt) (hcB : cc.toInt + 2 ≤ len.toInt) (hlB : off.toInt + len.toInt ≤ 8) (h : ((2 : Int32) + cc) < len) : f_hasMore (((off + (1 : Int32)) + (1 : Int32)) + cc) (off + len) = (1 : Int32) := by
  rw [Int32.lt_iff_toInt_lt, own_2c hcA hcB] at h
  exact own_hmore (by rw [own_pc h0 hcA hcB hlB, own_addL h0 (by omega) hlB]; omega)
theorem own_d4 {off len cc : Int32} (h0 : 0 ≤ off.toInt) (hcA : 0 ≤ cc.toInt) (hcB : cc.toInt + 2 ≤ len.toInt) (hlB : off.toInt + len.toInt ≤ 8) (h : ¬ ((2 : Int32) + cc) < len) : f_hasMore (((off + (1 : Int32)) + (1 : Int32)) + cc) (off + len) = (0 : Int32) := by
  rw [Int32.lt_iff_toInt_lt, own_2c hcA hcB] at h
  exact own_hless (by rw [own_pc h0 hcA hcB hlB, own_addL h0 (by omega) hlB]; omega)

theorem pd_8 : parseMethodDescriptor "([BII)V" = some ⟨[(.array .byte), .int, .int], none⟩ := by decide +kernel
theorem pd_9 : parseMethodDescriptor "(I)[B" = some ⟨[.int], some (.array .byte)⟩ := by decide +kernel
theorem ef_law (m : MethodId) (v0 : Int32) (v1 : Int32) (v2 : Int32) (v3 : Int64) : entryFrame m #[(.int v0), (.int v1), (.int v2), (.long v3)] maxLocals = mkF m 0 #[.val (.int v0), .val (.int v1), .val (.int v2), .val (.long v3), .second, .unset, .unset, .unset, .unset, .unset, .unset, .unset, .unset] [] := by first | (simp [entryFrame, mkF, argsToLocals, Value.category, maxLocals]; done) | rfl
def Q_law (Z : State) (v0 : Int32) (v1 : Int32) (v2 : Int32) (v3 : Int64) (h0 : Heap) (n0 : Nat) (v : Option Value) (h : Heap) (L : List Loc) : Prop := v = some (.int (1 : Int32)) ∧ Fr n0 L
set_option maxRecDepth 65536 in
set_option maxHeartbeats 40000000 in
theorem rm_law (l : Launch) (Z : State) (a0 : Array Value) (hw : ∀ d ∈ tables_1, d.before a0 Z = true) (ws : List Jvm.Cond) (v0 : Int32) (v1 : Int32) (v2 : Int32) (v3 : Int64) (h0 : Heap) (n0 : Nat) (Z0 : n0 ≤ h0.size) :
    MetFree l x (head1 (Jvm.Cond.code x code maxLocals ret :: ws) room_1) (fun a U => a = #[(.int v0), (.int v1), (.int v2), (.long v3)] ∧ Z.Warmed39 U.vm ∧ U.heap = h0) (fun _ _ _ _ _ => True) (fun _ U o U' => ∃ v L, o = .returned v ∧ Q_law Z v0 v1 v2 v3 h0 n0 v U'.heap L ∧ FrameEnd U o U' L room_1.cells room_1.slots) := by
  refine MetFree.of_bodySF (plainFor_of_name (by first | (simp [plainName, overriddenIn]; done) | decide +kernel)) hisR ?_
  intro p e s m args below meth c s₁ Bd hml0 hP hK
  obtain ⟨rfl, hZ, hh⟩ := hP
  have hx := Bd.exec
  have hby := Bd.bytes
  have hml : c.maxLocals = 13 := hml0
  have hown : s.vm.findClass "managerie/snmp/BerReaderHasMorePinLaw" = some m.cls := findClass_of_methodNamed Bd.named
  have hnm := (name_of_methodNamed Bd.named Bd.method).1
  have hlk : meth.locks = false := Bd.notSynchronized
  have X0 : Stand p l e room_1 s m #[(.int v0), (.int v1), (.int v2), (.long v3)] below meth c s₁ [] 0 0 := Stand.of_body Bd
  have e0 : s₁.heap = h0 := by rw [← hh, Bd.state]; rfl
  have N0 := Fr.nil n0
  refine Go.enter (Q := Q_law Z v0 v1 v2 v3 h0 n0) (C := room_1.cells) (N := room_1.slots) (ef_law m v0 v1 v2 v3) ?_
  show Go p e below s _ _ _ s₁ (mkF m 0 #[.val (.int v0), .val (.int v1), .val (.int v2), .val (.long v3), .second, .unset, .unset, .unset, .unset, .unset, .unset, .unset, .unset] [])
  refine G_iloadN X0 hx (pc' := 1) rfl (hb hby at_0) rfl ?_
  refine G_bipush X0 hx (pc' := 3) rfl (hb hby at_1) (z := (7 : Int32)) rfl ?_
  refine G_iand X0 hx (pc' := 4) rfl (hb hby at_3)  ?_
  refine G_istore X0 hx (pc' := 6) rfl (hb hby at_4) (L' := #[.val (.int v0), .val (.int v1), .val (.int v2), .val (.long v3), .second, .val (.int (v0 &&& (7 : Int32))), .unset, .unset, .unset, .unset, .unset, .unset, .unset]) rfl ?_
  obtain ⟨off, h_off, hoA, hoB⟩ : ∃ off : Int32, (v0 &&& (7 : Int32)) = off ∧ 0 ≤ off.toInt ∧ off.toInt < 8 := ⟨_, rfl, (own_off _).1, (own_off _).2⟩
  rw [h_off]
  refine G_iloadN X0 hx (pc' := 7) rfl (hb hby at_6) rfl ?_
  refine G_ldc X0 hx (pc' := 9) rfl hown (mvT hZ (hw _ (List.mem_of_getElem? (i := 0) rfl))) (hb hby at_7) ?_
  refine G_iand X0 hx (pc' := 10) rfl (hb hby at_9)  ?_
  refine G_bipush X0 hx (pc' := 12) rfl (hb hby at_10) (z := (9 : Int32)) rfl ?_
  refine G_iload X0 hx (pc' := 14) rfl (hb hby at_12) rfl ?_
  refine G_isub X0 hx (pc' := 15) rfl (hb hby at_14)  ?_
  refine G_irem X0 hx (pc' := 16) rfl (hb hby at_15) (own_nz1 hoA hoB) ?_
  refine G_istore X0 hx (pc' := 18) rfl (hb hby at_16) (L' := #[.val (.int v0), .val (.int v1), .val (.int v2), .val (.long v3), .second, .val (.int off), .val (.int ((v1 &&& (2147483647 : Int32)) % ((9 : Int32) - off))), .unset, .unset, .unset, .unset, .unset, .unset]) rfl ?_
  obtain ⟨len, h_len, hlA, hlB⟩ : ∃ len : Int32, ((v1 &&& (2147483647 : Int32)) % ((9 : Int32) - off)) = len ∧ 0 ≤ len.toInt ∧ off.toInt + len.toInt ≤ 8 := ⟨_, rfl, (own_len1 _ hoA hoB).1, (own_len1 _ hoA hoB).2⟩
  rw [h_len]
  refine G_bipush X0 hx (pc' := 20) rfl (hb hby at_18) (z := (8 : Int32)) rfl ?_
  obtain ⟨T34, h34, X34, e34, E34, B34, A34, st34⟩ := newAI X0 hx hZ (hw _ (List.mem_of_getElem? (i := 1) rfl)) e0 (g := (mkF m 20 #[.val (.int v0), .val (.int v1), .val (.int v2), .val (.long v3), .second, .val (.int off), .val (.int len), .unset, .unset, .unset, .unset, .unset, .unset] [(.int (8 : Int32))])) rfl (hb hby at_20) rfl (by decide) (ty := .byte) rfl ⟨rfl, rfl⟩ (cap := 8) (by decide) (by decide) (by decide) (by decide) (ad := "[B") (by decide)
  obtain ⟨b34, q34⟩ : ∃ z, z = h0.size := ⟨_, rfl⟩
  rw [← q34] at A34 B34 st34
  refine Go.st st34 ?_
  have g_b34 : n0 ≤ b34 := Nat.le_trans Z0 (Nat.le_of_eq q34.symm)
  have sz_b34 : h0.size ≤ b34 := Nat.le_trans (Nat.le_refl _) (Nat.le_of_eq q34.symm)
  have A_b34 : AI Z h34 b34 .byte [(0 : Int32), (0 : Int32), (0 : Int32), (0 : Int32), (0 : Int32), (0 : Int32), (0 : Int32), (0 : Int32)] := A34
  have K_34 : Keep h0 h34 [] := (Keep.refl h0 []).ext E34
  have Z_34 : n0 ≤ h34.size := Nat.le_trans Z0 K_34.1
  show Go p e below s _ _ _ T34 (mkF m 22 #[.val (.int v0), .val (.int v1), .val (.int v2), .val (.long v3), .second, .val (.int off), .val (.int len), .unset, .unset, .unset, .unset, .unset, .unset] [(.ref b34)])
  refine G_astore X34 hx (pc' := 24) rfl (hb hby at_22) rfl (L' := #[.val (.int v0), .val (.int v1), .val (.int v2), .val (.long v3), .second, .val (.int off), .val (.int len), .val (.ref b34), .unset, .unset, .unset, .unset, .unset]) rfl ?_
  refine G_aload X34 hx (pc' := 26) rfl (hb hby at_24) rfl rfl ?_
  refine G_iconst X34 hx (pc' := 27) rfl (hb hby at_26) (z := (0 : Int32)) rfl ?_
  refine G_lloadN X34 hx (pc' := 28) rfl (hb hby at_27) rfl ?_
  refine G_l2i X34 hx (pc' := 29) rfl (hb hby at_28)  ?_
  refine G_i2b X34 hx (pc' := 30) rfl (hb hby at_29)  ?_
  obtain ⟨T35, h35, X35, e35, W35, A35, st35⟩ := stABnL X34 hx hZ e34 A_b34 (j := (0 : Int32)) (by decide) (jn := 0) (by decide) (show 0 < 8 from by decide) (g := (mkF m 30 #[.val (.int v0), .val (.int v1), .val (.int v2), .val (.long v3), .second, .val (.int off), .val (.int len), .val (.ref b34), .unset, .unset, .unset, .unset, .unset] [(.int ((v3.toInt32).toInt8.toInt32)), (.int (0 : Int32)), (.ref b34)])) rfl rfl (hb hby at_30)
  refine Go.st st35 ?_
  have E_b34_35 := B34.wr W35
  have A_b34_35 : AI Z h35 b34 .byte [((v3.toInt32).toInt8.toInt32), (0 : Int32), (0 : Int32), (0 : Int32), (0 : Int32), (0 : Int32), (0 : Int32), (0 : Int32)] := A35
  have K_35 : Keep h0 h35 [] := K_34.wr W35 (Or.inr sz_b34)
  have Z_35 : n0 ≤ h35.size := Nat.le_trans Z0 K_35.1
  have N35 := Fr.snoc X35 N0 g_b34
  show Go p e below s _ _ _ T35 (mkF m 31 #[.val (.int v0), .val (.int v1), .val (.int v2), .val (.long v3), .second, .val (.int off), .val (.int len), .val (.ref b34), .unset, .unset, .unset, .unset, .unset] [])
  refine G_aload X35 hx (pc' := 33) rfl (hb hby at_31) rfl rfl ?_
  refine G_iconst X35 hx (pc' := 34) rfl (hb hby at_33) (z := (1 : Int32)) rfl ?_
  refine G_lloadN X35 hx (pc' := 35) rfl (hb hby at_34) rfl ?_
  refine G_bipush X35 hx (pc' := 37) rfl (hb hby at_35) (z := (8 : Int32)) rfl ?_
  refine G_lshr X35 hx (pc' := 38) rfl (hb hby at_37)  ?_
  refine G_l2i X35 hx (pc' := 39) rfl (hb hby at_38)  ?_
  refine G_i2b X35 hx (pc' := 40) rfl (hb hby at_39)  ?_
  obtain ⟨T36, h36, X36, e36, W36, A36, st36⟩ := stABnL X35 hx hZ e35 A_b34_35 (j := (1 : Int32)) (by decide) (jn := 1) (by decide) (show 1 < 8 from by decide) (g := (mkF m 40 #[.val (.int v0), .val (.int v1), .val (.int v2), .val (.long v3), .second, .val (.int off), .val (.int len), .val (.ref b34), .unset, .unset, .unset, .unset, .unset] [(.int (((v3 >>> ((8 : Int32) &&& 0x3f).toInt64).toInt32).toInt8.toInt32)), (.int (1 : Int32)), (.ref b34)])) rfl rfl (hb hby at_40)
  refine Go.st st36 ?_
  have E_b34_36 := E_b34_35.wr W36
  have A_b34_36 : AI Z h36 b34 .byte [((v3.toInt32).toInt8.toInt32), (((v3 >>> ((8 : Int32) &&& 0x3f).toInt64).toInt32).toInt8.toInt32), (0 : Int32), (0 : Int32), (0 : Int32), (0 : Int32), (0 : Int32), (0 : Int32)] := A36
  have K_36 : Keep h0 h36 [] := K_35.wr W36 (Or.inr sz_b34)
  have Z_36 : n0 ≤ h36.size := Nat.le_trans Z0 K_36.1
  have N36 := Fr.snoc X36 N35 g_b34
  show Go p e below s _ _ _ T36 (mkF m 41 #[.val (.int v0), .val (.int v1), .val (.int v2), .val (.long v3), .second, .val (.int off), .val (.int len), .val (.ref b34), .unset, .unset, .unset, .unset, .unset] [])
  refine G_aload X36 hx (pc' := 43) rfl (hb hby at_41) rfl rfl ?_
  refine G_iconst X36 hx (pc' := 44) rfl (hb hby at_43) (z := (2 : Int32)) rfl ?_
  refine G_lloadN X36 hx (pc' := 45) rfl (hb hby at_44) rfl ?_
  refine G_bipush X36 hx (pc' := 47) rfl (hb hby at_45) (z := (16 : Int32)) rfl ?_
  refine G_lshr X36 hx (pc' := 48) rfl (hb hby at_47)  ?_
  refine G_l2i X36 hx (pc' := 49) rfl (hb hby at_48)  ?_
  refine G_i2b X36 hx (pc' := 50) rfl (hb hby at_49)  ?_
  obtain ⟨T37, h37, X37, e37, W37, A37, st37⟩ := stABnL X36 hx hZ e36 A_b34_36 (j := (2 : Int32)) (by decide) (jn := 2) (by decide) (show 2 < 8 from by decide) (g := (mkF m 50 #[.val (.int v0), .val (.int v1), .val (.int v2), .val (.long v3), .second, .val (.int off), .val (.int len), .val (.ref b34), .unset, .unset, .unset, .unset, .unset] [(.int (((v3 >>> ((16 : Int32) &&& 0x3f).toInt64).toInt32).toInt8.toInt32)), (.int (2 : Int32)), (.ref b34)])) rfl rfl (hb hby at_50)
  refine Go.st st37 ?_
  have E_b34_37 := E_b34_36.wr W37
  have A_b34_37 : AI Z h37 b34 .byte [((v3.toInt32).toInt8.toInt32), (((v3 >>> ((8 : Int32) &&& 0x3f).toInt64).toInt32).toInt8.toInt32), (((v3 >>> ((16 : Int32) &&& 0x3f).toInt64).toInt32).toInt8.toInt32), (0 : Int32), (0 : Int32), (0 : Int32), (0 : Int32), (0 : Int32)] := A37
  have K_37 : Keep h0 h37 [] := K_36.wr W37 (Or.inr sz_b34)
  have Z_37 : n0 ≤ h37.size := Nat.le_trans Z0 K_37.1
  have N37 := Fr.snoc X37 N36 g_b34
  show Go p e below s _ _ _ T37 (mkF m 51 #[.val (.int v0), .val (.int v1), .val (.int v2), .val (.long v3), .second, .val (.int off), .val (.int len), .val (.ref b34), .unset, .unset, .unset, .unset, .unset] [])
  refine G_aload X37 hx (pc' := 53) rfl (hb hby at_51) rfl rfl ?_
  refine G_iconst X37 hx (pc' := 54) rfl (hb hby at_53) (z := (3 : Int32)) rfl ?_
  refine G_lloadN X37 hx (pc' := 55) rfl (hb hby at_54) rfl ?_
  refine G_bipush X37 hx (pc' := 57) rfl (hb hby at_55) (z := (24 : Int32)) rfl ?_
  refine G_lshr X37 hx (pc' := 58) rfl (hb hby at_57)  ?_
  refine G_l2i X37 hx (pc' := 59) rfl (hb hby at_58)  ?_
  refine G_i2b X37 hx (pc' := 60) rfl (hb hby at_59)  ?_
  obtain ⟨T38, h38, X38, e38, W38, A38, st38⟩ := stABnL X37 hx hZ e37 A_b34_37 (j := (3 : Int32)) (by decide) (jn := 3) (by decide) (show 3 < 8 from by decide) (g := (mkF m 60 #[.val (.int v0), .val (.int v1), .val (.int v2), .val (.long v3), .second, .val (.int off), .val (.int len), .val (.ref b34), .unset, .unset, .unset, .unset, .unset] [(.int (((v3 >>> ((24 : Int32) &&& 0x3f).toInt64).toInt32).toInt8.toInt32)), (.int (3 : Int32)), (.ref b34)])) rfl rfl (hb hby at_60)
  refine Go.st st38 ?_
  have E_b34_38 := E_b34_37.wr W38
  have A_b34_38 : AI Z h38 b34 .byte [((v3.toInt32).toInt8.toInt32), (((v3 >>> ((8 : Int32) &&& 0x3f).toInt64).toInt32).toInt8.toInt32), (((v3 >>> ((16 : Int32) &&& 0x3f).toInt64).toInt32).toInt8.toInt32), (((v3 >>> ((24 : Int32) &&& 0x3f).toInt64).toInt32).toInt8.toInt32), (0 : Int32), (0 : Int32), (0 : Int32), (0 : Int32)] := A38
  have K_38 : Keep h0 h38 [] := K_37.wr W38 (Or.inr sz_b34)
  have Z_38 : n0 ≤ h38.size := Nat.le_trans Z0 K_38.1
  have N38 := Fr.snoc X38 N37 g_b34
  show Go p e below s _ _ _ T38 (mkF m 61 #[.val (.int v0), .val (.int v1), .val (.int v2), .val (.long v3), .second, .val (.int off), .val (.int len), .val (.ref b34), .unset, .unset, .unset, .unset, .unset] [])
  refine G_aload X38 hx (pc' := 63) rfl (hb hby at_61) rfl rfl ?_
  refine G_iconst X38 hx (pc' := 64) rfl (hb hby at_63) (z := (4 : Int32)) rfl ?_
  refine G_lloadN X38 hx (pc' := 65) rfl (hb hby at_64) rfl ?_
  refine G_bipush X38 hx (pc' := 67) rfl (hb hby at_65) (z := (32 : Int32)) rfl ?_
  refine G_lshr X38 hx (pc' := 68) rfl (hb hby at_67)  ?_
  refine G_l2i X38 hx (pc' := 69) rfl (hb hby at_68)  ?_
  refine G_i2b X38 hx (pc' := 70) rfl (hb hby at_69)  ?_
  obtain ⟨T39, h39, X39, e39, W39, A39, st39⟩ := stABnL X38 hx hZ e38 A_b34_38 (j := (4 : Int32)) (by decide) (jn := 4) (by decide) (show 4 < 8 from by decide) (g := (mkF m 70 #[.val (.int v0), .val (.int v1), .val (.int v2), .val (.long v3), .second, .val (.int off), .val (.int len), .val (.ref b34), .unset, .unset, .unset, .unset, .unset] [(.int (((v3 >>> ((32 : Int32) &&& 0x3f).toInt64).toInt32).toInt8.toInt32)), (.int (4 : Int32)), (.ref b34)])) rfl rfl (hb hby at_70)
  refine Go.st st39 ?_
  have E_b34_39 := E_b34_38.wr W39
  have A_b34_39 : AI Z h39 b34 .byte [((v3.toInt32).toInt8.toInt32), (((v3 >>> ((8 : Int32) &&& 0x3f).toInt64).toInt32).toInt8.toInt32), (((v3 >>> ((16 : Int32) &&& 0x3f).toInt64).toInt32).toInt8.toInt32), (((v3 >>> ((24 : Int32) &&& 0x3f).toInt64).toInt32).toInt8.toInt32), (((v3 >>> ((32 : Int32) &&& 0x3f).toInt64).toInt32).toInt8.toInt32), (0 : Int32), (0 : Int32), (0 : Int32)] := A39
  have K_39 : Keep h0 h39 [] := K_38.wr W39 (Or.inr sz_b34)
  have Z_39 : n0 ≤ h39.size := Nat.le_trans Z0 K_39.1
  have N39 := Fr.snoc X39 N38 g_b34
  show Go p e below s _ _ _ T39 (mkF m 71 #[.val (.int v0), .val (.int v1), .val (.int v2), .val (.long v3), .second, .val (.int off), .val (.int len), .val (.ref b34), .unset, .unset, .unset, .unset, .unset] [])
  refine G_aload X39 hx (pc' := 73) rfl (hb hby at_71) rfl rfl ?_
  refine G_iconst X39 hx (pc' := 74) rfl (hb hby at_73) (z := (5 : Int32)) rfl ?_
  refine G_lloadN X39 hx (pc' := 75) rfl (hb hby at_74) rfl ?_
  refine G_bipush X39 hx (pc' := 77) rfl (hb hby at_75) (z := (40 : Int32)) rfl ?_
  refine G_lshr X39 hx (pc' := 78) rfl (hb hby at_77)  ?_
  refine G_l2i X39 hx (pc' := 79) rfl (hb hby at_78)  ?_
  refine G_i2b X39 hx (pc' := 80) rfl (hb hby at_79)  ?_
  obtain ⟨T40, h40, X40, e40, W40, A40, st40⟩ := stABnL X39 hx hZ e39 A_b34_39 (j := (5 : Int32)) (by decide) (jn := 5) (by decide) (show 5 < 8 from by decide) (g := (mkF m 80 #[.val (.int v0), .val (.int v1), .val (.int v2), .val (.long v3), .second, .val (.int off), .val (.int len), .val (.ref b34), .unset, .unset, .unset, .unset, .unset] [(.int (((v3 >>> ((40 : Int32) &&& 0x3f).toInt64).toInt32).toInt8.toInt32)), (.int (5 : Int32)), (.ref b34)])) rfl rfl (hb hby at_80)
  refine Go.st st40 ?_
  have E_b34_40 := E_b34_39.wr W40
  have A_b34_40 : AI Z h40 b34 .byte [((v3.toInt32).toInt8.toInt32), (((v3 >>> ((8 : Int32) &&& 0x3f).toInt64).toInt32).toInt8.toInt32), (((v3 >>> ((16 : Int32) &&& 0x3f).toInt64).toInt32).toInt8.toInt32), (((v3 >>> ((24 : Int32) &&& 0x3f).toInt64).toInt32).toInt8.toInt32), (((v3 >>> ((32 : Int32) &&& 0x3f).toInt64).toInt32).toInt8.toInt32), (((v3 >>> ((40 : Int32) &&& 0x3f).toInt64).toInt32).toInt8.toInt32), (0 : Int32), (0 : Int32)] := A40
  have K_40 : Keep h0 h40 [] := K_39.wr W40 (Or.inr sz_b34)
  have Z_40 : n0 ≤ h40.size := Nat.le_trans Z0 K_40.1
  have N40 := Fr.snoc X40 N39 g_b34
  show Go p e below s _ _ _ T40 (mkF m 81 #[.val (.int v0), .val (.int v1), .val (.int v2), .val (.long v3), .second, .val (.int off), .val (.int len), .val (.ref b34), .unset, .unset, .unset, .unset, .unset] [])
  refine G_aload X40 hx (pc' := 83) rfl (hb hby at_81) rfl rfl ?_
  refine G_bipush X40 hx (pc' := 85) rfl (hb hby at_83) (z := (6 : Int32)) rfl ?_
  refine G_lloadN X40 hx (pc' := 86) rfl (hb hby at_85) rfl ?_
  refine G_bipush X40 hx (pc' := 88) rfl (hb hby at_86) (z := (48 : Int32)) rfl ?_
  refine G_lshr X40 hx (pc' := 89) rfl (hb hby at_88)  ?_
  refine G_l2i X40 hx (pc' := 90) rfl (hb hby at_89)  ?_
  refine G_i2b X40 hx (pc' := 91) rfl (hb hby at_90)  ?_
  obtain ⟨T41, h41, X41, e41, W41, A41, st41⟩ := stABnL X40 hx hZ e40 A_b34_40 (j := (6 : Int32)) (by decide) (jn := 6) (by decide) (show 6 < 8 from by decide) (g := (mkF m 91 #[.val (.int v0), .val (.int v1), .val (.int v2), .val (.long v3), .second, .val (.int off), .val (.int len), .val (.ref b34), .unset, .unset, .unset, .unset, .unset] [(.int (((v3 >>> ((48 : Int32) &&& 0x3f).toInt64).toInt32).toInt8.toInt32)), (.int (6 : Int32)), (.ref b34)])) rfl rfl (hb hby at_91)
  refine Go.st st41 ?_
  have E_b34_41 := E_b34_40.wr W41
  have A_b34_41 : AI Z h41 b34 .byte [((v3.toInt32).toInt8.toInt32), (((v3 >>> ((8 : Int32) &&& 0x3f).toInt64).toInt32).toInt8.toInt32), (((v3 >>> ((16 : Int32) &&& 0x3f).toInt64).toInt32).toInt8.toInt32), (((v3 >>> ((24 : Int32) &&& 0x3f).toInt64).toInt32).toInt8.toInt32), (((v3 >>> ((32 : Int32) &&& 0x3f).toInt64).toInt32).toInt8.toInt32), (((v3 >>> ((40 : Int32) &&& 0x3f).toInt64).toInt32).toInt8.toInt32), (((v3 >>> ((48 : Int32) &&& 0x3f).toInt64).toInt32).toInt8.toInt32), (0 : Int32)] := A41
  have K_41 : Keep h0 h41 [] := K_40.wr W41 (Or.inr sz_b34)
  have Z_41 : n0 ≤ h41.size := Nat.le_trans Z0 K_41.1
  have N41 := Fr.snoc X41 N40 g_b34
  show Go p e below s _ _ _ T41 (mkF m 92 #[.val (.int v0), .val (.int v1), .val (.int v2), .val (.long v3), .second, .val (.int off), .val (.int len), .val (.ref b34), .unset, .unset, .unset, .unset, .unset] [])
  refine G_aload X41 hx (pc' := 94) rfl (hb hby at_92) rfl rfl ?_
  refine G_bipush X41 hx (pc' := 96) rfl (hb hby at_94) (z := (7 : Int32)) rfl ?_
  refine G_lloadN X41 hx (pc' := 97) rfl (hb hby at_96) rfl ?_
  refine G_bipush X41 hx (pc' := 99) rfl (hb hby at_97) (z := (56 : Int32)) rfl ?_
  refine G_lshr X41 hx (pc' := 100) rfl (hb hby at_99)  ?_
  refine G_l2i X41 hx (pc' := 101) rfl (hb hby at_100)  ?_
  refine G_i2b X41 hx (pc' := 102) rfl (hb hby at_101)  ?_
  obtain ⟨T42, h42, X42, e42, W42, A42, st42⟩ := stABnL X41 hx hZ e41 A_b34_41 (j := (7 : Int32)) (by decide) (jn := 7) (by decide) (show 7 < 8 from by decide) (g := (mkF m 102 #[.val (.int v0), .val (.int v1), .val (.int v2), .val (.long v3), .second, .val (.int off), .val (.int len), .val (.ref b34), .unset, .unset, .unset, .unset, .unset] [(.int (((v3 >>> ((56 : Int32) &&& 0x3f).toInt64).toInt32).toInt8.toInt32)), (.int (7 : Int32)), (.ref b34)])) rfl rfl (hb hby at_102)
  refine Go.st st42 ?_
  have E_b34_42 := E_b34_41.wr W42
  have A_b34_42 : AI Z h42 b34 .byte [((v3.toInt32).toInt8.toInt32), (((v3 >>> ((8 : Int32) &&& 0x3f).toInt64).toInt32).toInt8.toInt32), (((v3 >>> ((16 : Int32) &&& 0x3f).toInt64).toInt32).toInt8.toInt32), (((v3 >>> ((24 : Int32) &&& 0x3f).toInt64).toInt32).toInt8.toInt32), (((v3 >>> ((32 : Int32) &&& 0x3f).toInt64).toInt32).toInt8.toInt32), (((v3 >>> ((40 : Int32) &&& 0x3f).toInt64).toInt32).toInt8.toInt32), (((v3 >>> ((48 : Int32) &&& 0x3f).toInt64).toInt32).toInt8.toInt32), (((v3 >>> ((56 : Int32) &&& 0x3f).toInt64).toInt32).toInt8.toInt32)] := A42
  have K_42 : Keep h0 h42 [] := K_41.wr W42 (Or.inr sz_b34)
  have Z_42 : n0 ≤ h42.size := Nat.le_trans Z0 K_42.1
  have N42 := Fr.snoc X42 N41 g_b34
  show Go p e below s _ _ _ T42 (mkF m 103 #[.val (.int v0), .val (.int v1), .val (.int v2), .val (.long v3), .second, .val (.int off), .val (.int len), .val (.ref b34), .unset, .unset, .unset, .unset, .unset] [])
  refine G_iconst X42 hx (pc' := 104) rfl (hb hby at_103) (z := (0 : Int32)) rfl ?_
  refine G_istore X42 hx (pc' := 106) rfl (hb hby at_104) (L' := #[.val (.int v0), .val (.int v1), .val (.int v2), .val (.long v3), .second, .val (.int off), .val (.int len), .val (.ref b34), .val (.int (0 : Int32)), .unset, .unset, .unset, .unset]) rfl ?_
  obtain ⟨xs, hxs, hx8⟩ : ∃ z : List Int32, [((v3.toInt32).toInt8.toInt32), (((v3 >>> ((8 : Int32) &&& 0x3f).toInt64).toInt32).toInt8.toInt32), (((v3 >>> ((16 : Int32) &&& 0x3f).toInt64).toInt32).toInt8.toInt32), (((v3 >>> ((24 : Int32) &&& 0x3f).toInt64).toInt32).toInt8.toInt32), (((v3 >>> ((32 : Int32) &&& 0x3f).toInt64).toInt32).toInt8.toInt32), (((v3 >>> ((40 : Int32) &&& 0x3f).toInt64).toInt32).toInt8.toInt32), (((v3 >>> ((48 : Int32) &&& 0x3f).toInt64).toInt32).toInt8.toInt32), (((v3 >>> ((56 : Int32) &&& 0x3f).toInt64).toInt32).toInt8.toInt32)] = z ∧ z.length = 8 := ⟨_, rfl, rfl⟩
  have Axs : AI Z h42 b34 .byte xs := hxs ▸ A_b34_42
  refine G_iload X42 hx (pc' := 108) rfl (hb hby at_106) rfl ?_
  refine G_iconst X42 hx (pc' := 109) rfl (hb hby at_108) (z := (2 : Int32)) rfl ?_
  by_cases hc109_1 : len < (2 : Int32)
  · refine G_icmpYes X42 hx (pc' := 139) (hb hby at_109) (tlt hc109_1).1 (by decide) (by decide) ?_
    obtain ⟨T43, h43, X43, e43, E43, A43, D43, -, st43⟩ := newO X42 hx hZ hown (hw _ (List.mem_of_getElem? (i := 2) rfl)) (hw _ (List.mem_of_getElem? (i := 3) rfl)) (hw _ (List.mem_of_getElem? (i := 4) rfl)) e42 (g := (mkF m 139 #[.val (.int v0), .val (.int v1), .val (.int v2), .val (.long v3), .second, .val (.int off), .val (.int len), .val (.ref b34), .val (.int (0 : Int32)), .unset, .unset, .unset, .unset] [])) rfl (hb hby at_139) (by decide) (by decide)
    obtain ⟨b43, q43⟩ : ∃ z, z = h42.size := ⟨_, rfl⟩
    rw [← q43] at A43 D43 st43
    refine Go.st st43 ?_
    have ne_b34_b43 : b34 ≠ b43 := Nat.ne_of_lt (Nat.lt_of_lt_of_le E_b34_42.lt (Nat.le_of_eq q43.symm))
    have g_b43 : n0 ≤ b43 := Nat.le_trans Z_42 (Nat.le_of_eq q43.symm)
    have sz_b43 : h0.size ≤ b43 := Nat.le_trans K_42.1 (Nat.le_of_eq q43.symm)
    have E_b34_43 := E_b34_42.ext E43
    have A_b34_43 := Axs.ext E43
    have F_b43_data : Fld Z h43 b43 "managerie/snmp/Ber$Reader" "data" "[B" .null := D43 (Or.inr (hw _ (List.mem_of_getElem? (i := 20) rfl))) (ty := (.array .byte)) (by decide)
    have F_b43_position : Fld Z h43 b43 "managerie/snmp/Ber$Reader" "position" "I" (.int (0 : Int32)) := D43 (Or.inl (hw _ (List.mem_of_getElem? (i := 22) rfl))) (ty := .int) (by decide)
    have F_b43_end : Fld Z h43 b43 "managerie/snmp/Ber$Reader" "end" "I" (.int (0 : Int32)) := D43 (Or.inr (hw _ (List.mem_of_getElem? (i := 24) rfl))) (ty := .int) (by decide)
    have K_43 : Keep h0 h43 [] := K_42.ext E43
    have Z_43 : n0 ≤ h43.size := Nat.le_trans Z0 K_43.1
    show Go p e below s _ _ _ T43 (mkF m 142 #[.val (.int v0), .val (.int v1), .val (.int v2), .val (.long v3), .second, .val (.int off), .val (.int len), .val (.ref b34), .val (.int (0 : Int32)), .unset, .unset, .unset, .unset] [(.ref b43)])
    refine G_dup X43 hx (pc' := 143) rfl (hb hby at_142) rfl ?_
    refine G_aload X43 hx (pc' := 145) rfl (hb hby at_143) rfl rfl ?_
    refine G_iload X43 hx (pc' := 147) rfl (hb hby at_145) rfl ?_
    refine G_iload X43 hx (pc' := 149) rfl (hb hby at_147) rfl ?_
    obtain ⟨_, _, ⟨T44, L44, k44, n44⟩, -, X44, ⟨Lc44, hQ44, l44, y44, z44⟩, st44⟩ := X43.specialBack hx (y := (⟨"managerie/snmp/Ber$Reader", "<init>", "([BII)V"⟩ : MethodName)) rfl hown (mvT hZ (hw _ (List.mem_of_getElem? (i := 5) rfl))) (mvT hZ (hw _ (List.mem_of_getElem? (i := 6) rfl))) (mvT hZ (hw _ (List.mem_of_getElem? (i := 7) rfl))) (by decide) (backOf (W := 1) (rm_rinit l Z a0 hw [] b43 b34 off len xs h43 n0 Z_43 A43 F_b43_data F_b43_position F_b43_end A_b34_43 g_b43 ne_b34_b43 (own_chk1 hoA hlA hx8) (own_chk2 hoA hlA hlB hx8)) hZ (hw _ (List.mem_of_getElem? (i := 7) rfl)) (hw _ (List.mem_of_getElem? (i := 4) rfl)) (by decide) (by decide)) (g := (mkF m 149 #[.val (.int v0), .val (.int v1), .val (.int v2), .val (.long v3), .second, .val (.int off), .val (.int len), .val (.ref b34), .val (.int (0 : Int32)), .unset, .unset, .unset, .unset] [(.int len), (.int off), (.ref b34), (.ref b43), (.ref b43)])) rfl (by rw [hml]; rfl) (Steps.refl _) (a := b43) (argsL := [(.ref b34), (.int off), (.int len)]) (rest := [(.ref b43)]) (lenOf pd_8 rfl) rfl (by show 2 * 0 + _ ≤ _; exact Nat.le_of_eq rfl) (hb hby at_149) (fun _ _ => ⟨rfl, e43, (by decide : 2 + 0 ≤ _), (by decide : 11 + 0 ≤ _)⟩)
    dsimp only [Pt.U, Pt.locs, Pt.cells, Pt.slots] at X44 l44 y44 z44 st44 hQ44
    subst l44 y44 z44
    obtain ⟨rfl, N44q, K44, p44_0, p44_1, p44_2, p44_3⟩ := hQ44
    have N44 := Fr.app N42 N44q
    refine Go.st (fun _ k => st44.trans k) ?_
    have E_b34_44 := E_b34_43.keep K44
    have A_b34_44 := A_b34_43.keep K44 (ninS ne_b34_b43 nin0)
    have K_44 : Keep h0 T44.heap [] := K_43.trans K44 (allS (Or.inr sz_b43) all0)
    have Z_44 : n0 ≤ T44.heap.size := Nat.le_trans Z0 K_44.1
    show Go p e below s _ _ _ T44 (mkF m 152 #[.val (.int v0), .val (.int v1), .val (.int v2), .val (.long v3), .second, .val (.int off), .val (.int len), .val (.ref b34), .val (.int (0 : Int32)), .unset, .unset, .unset, .unset] [(.ref b43)])
    refine G_astore X44 hx (pc' := 154) rfl (hb hby at_152) rfl (L' := #[.val (.int v0), .val (.int v1), .val (.int v2), .val (.long v3), .second, .val (.int off), .val (.int len), .val (.ref b34), .val (.int (0 : Int32)), .val (.ref b43), .unset, .unset, .unset]) rfl ?_
    refine G_aload X44 hx (pc' := 156) rfl (hb hby at_154) rfl rfl ?_
    obtain ⟨cq45, kq45, q45a, q45b, q45c⟩ := isOf hZ rfl p44_0
    obtain ⟨_, _, ⟨T45, L45, k45, n45⟩, -, X45, ⟨Lc45, hQ45, l45, y45, z45⟩, st45⟩ := X44.virtualBack hx (y := (⟨"managerie/snmp/Ber$Reader", "hasMore", "()Z"⟩ : MethodName)) (z := (⟨"managerie/snmp/Ber$Reader", "hasMore", "()Z"⟩ : MethodName)) hown (mvT hZ (hw _ (List.mem_of_getElem? (i := 25) rfl))) (mvT hZ (hw _ (List.mem_of_getElem? (i := 26) rfl))) (notFace_of_selects (args := #[]) (mvT hZ (hw _ (List.mem_of_getElem? (i := 28) rfl)))) (mvT hZ (hw _ (List.mem_of_getElem? (i := 28) rfl))) (mvT hZ (hw _ (List.mem_of_getElem? (i := 27) rfl))) (by decide) (backOf (W := 0) (rm_hasMore l Z a0 hw [] b43 off (off + len) T44.heap n0 Z_44 p44_0 p44_2 p44_3) hZ (hw _ (List.mem_of_getElem? (i := 29) rfl)) (hw _ (List.mem_of_getElem? (i := 4) rfl)) (by decide) (by decide)) q45a q45c (g := (mkF m 156 #[.val (.int v0), .val (.int v1), .val (.int v2), .val (.long v3), .second, .val (.int off), .val (.int len), .val (.ref b34), .val (.int (0 : Int32)), .val (.ref b43), .unset, .unset, .unset] [(.ref b43)])) rfl (by rw [hml]; rfl) (Steps.refl _) (argsL := []) (rest := []) (lenOf pd_2 rfl) rfl (by show 2 * 0 + _ ≤ _; exact Nat.le_of_eq rfl) (hb hby at_156) (fun _ _ => ⟨rfl, rfl, (by decide : 2 + 0 ≤ _), (by decide : 11 + 0 ≤ _)⟩)
    dsimp only [Pt.U, Pt.locs, Pt.cells, Pt.slots] at X45 l45 y45 z45 st45 hQ45
    subst l45 y45 z45
    obtain ⟨rfl, N45q, e45⟩ := hQ45
    have N45 := Fr.app N44 N45q
    refine Go.st (fun _ k => st45.trans k) ?_
    show Go p e below s _ _ _ T45 (mkF m 159 #[.val (.int v0), .val (.int v1), .val (.int v2), .val (.long v3), .second, .val (.int off), .val (.int len), .val (.ref b34), .val (.int (0 : Int32)), .val (.ref b43), .unset, .unset, .unset] [(.int (f_hasMore off (off + len)))])
    refine G_iload X45 hx (pc' := 161) rfl (hb hby at_159) rfl ?_
    by_cases hc161_2 : (0 : Int32) < len
    · refine G_ifNo X45 hx (pc' := 164) rfl (hb hby at_161) ((if0 _ _).trans (tlt hc161_2).2.2.2) ?_
      refine G_iconst X45 hx (pc' := 165) rfl (hb hby at_164) (z := (1 : Int32)) rfl ?_
      refine G_goto X45 hx (pc' := 169) (hb hby at_165)  (by decide) (by decide) ?_
      refine G_icmpNo X45 hx (pc' := 172) rfl (hb hby at_169) (teq ((by first | exact own_h1 hoA hlB (by assumption) | exact own_h0 hoA hlA hlB (by assumption)) : (f_hasMore off (off + len)) = (1 : Int32))).2 ?_
      refine G_iconst X45 hx (pc' := 173) rfl (hb hby at_172) (z := (1 : Int32)) rfl ?_
      refine G_goto X45 hx (pc' := 177) (hb hby at_173)  (by decide) (by decide) ?_
      refine G_istore X45 hx (pc' := 179) rfl (hb hby at_177) (L' := #[.val (.int v0), .val (.int v1), .val (.int v2), .val (.long v3), .second, .val (.int off), .val (.int len), .val (.ref b34), .val (.int (0 : Int32)), .val (.ref b43), .val (.int (1 : Int32)), .unset, .unset]) rfl ?_
      refine G_iload X45 hx (pc' := 181) rfl (hb hby at_179) rfl ?_
      refine G_ifYes X45 hx (pc' := 186) (hb hby at_181) ((if0 _ _).trans (feq (by decide : ¬ ((1 : Int32) = (0 : Int32)))).2) (by decide) (by decide) ?_
      refine G_iload X45 hx (pc' := 188) rfl (hb hby at_186) rfl ?_
      refine G_iconst X45 hx (pc' := 189) rfl (hb hby at_188) (z := (2 : Int32)) rfl ?_
      refine G_icmpNo X45 hx (pc' := 192) rfl (hb hby at_189) (tlt hc109_1).2.1 ?_
      refine G_aload X45 hx (pc' := 194) rfl (hb hby at_192) rfl rfl ?_
      obtain ⟨cq46, kq46, q46a, q46b, q46c⟩ := isOf hZ e45 p44_0
      obtain ⟨_, _, ⟨T46, L46, k46, n46⟩, -, X46, ⟨Lc46, hQ46, l46, y46, z46⟩, st46⟩ := X45.virtualBack hx (y := (⟨"managerie/snmp/Ber$Reader", "hasMore", "()Z"⟩ : MethodName)) (z := (⟨"managerie/snmp/Ber$Reader", "hasMore", "()Z"⟩ : MethodName)) hown (mvT hZ (hw _ (List.mem_of_getElem? (i := 25) rfl))) (mvT hZ (hw _ (List.mem_of_getElem? (i := 26) rfl))) (notFace_of_selects (args := #[]) (mvT hZ (hw _ (List.mem_of_getElem? (i := 28) rfl)))) (mvT hZ (hw _ (List.mem_of_getElem? (i := 28) rfl))) (mvT hZ (hw _ (List.mem_of_getElem? (i := 27) rfl))) (by decide) (backOf (W := 0) (rm_hasMore l Z a0 hw [] b43 off (off + len) T44.heap n0 Z_44 p44_0 p44_2 p44_3) hZ (hw _ (List.mem_of_getElem? (i := 29) rfl)) (hw _ (List.mem_of_getElem? (i := 4) rfl)) (by decide) (by decide)) q46a q46c (g := (mkF m 194 #[.val (.int v0), .val (.int v1), .val (.int v2), .val (.long v3), .second, .val (.int off), .val (.int len), .val (.ref b34), .val (.int (0 : Int32)), .val (.ref b43), .val (.int (1 : Int32)), .unset, .unset] [(.ref b43)])) rfl (by rw [hml]; rfl) (Steps.refl _) (argsL := []) (rest := []) (lenOf pd_2 rfl) rfl (by show 2 * 0 + _ ≤ _; exact Nat.le_of_eq rfl) (hb hby at_194) (fun _ _ => ⟨rfl, e45, (by decide : 2 + 0 ≤ _), (by decide : 11 + 0 ≤ _)⟩)
      dsimp only [Pt.U, Pt.locs, Pt.cells, Pt.slots] at X46 l46 y46 z46 st46 hQ46
      subst l46 y46 z46
      obtain ⟨rfl, N46q, e46⟩ := hQ46
      have N46 := Fr.app N45 N46q
      refine Go.st (fun _ k => st46.trans k) ?_
      show Go p e below s _ _ _ T46 (mkF m 197 #[.val (.int v0), .val (.int v1), .val (.int v2), .val (.long v3), .second, .val (.int off), .val (.int len), .val (.ref b34), .val (.int (0 : Int32)), .val (.ref b43), .val (.int (1 : Int32)), .unset, .unset] [(.int (f_hasMore off (off + len)))])
      refine G_iload X46 hx (pc' := 199) rfl (hb hby at_197) rfl ?_
      refine G_ifNo X46 hx (pc' := 202) rfl (hb hby at_199) ((if0 _ _).trans (tlt hc161_2).2.2.2) ?_
      refine G_iconst X46 hx (pc' := 203) rfl (hb hby at_202) (z := (1 : Int32)) rfl ?_
      refine G_goto X46 hx (pc' := 207) (hb hby at_203)  (by decide) (by decide) ?_
      refine G_icmpNo X46 hx (pc' := 210) rfl (hb hby at_207) (teq ((by first | exact own_h1 hoA hlB (by assumption) | exact own_h0 hoA hlA hlB (by assumption)) : (f_hasMore off (off + len)) = (1 : Int32))).2 ?_
      refine G_iconst X46 hx (pc' := 211) rfl (hb hby at_210) (z := (1 : Int32)) rfl ?_
      refine G_goto X46 hx (pc' := 215) (hb hby at_211)  (by decide) (by decide) ?_
      refine Go.fin X46 hlk (v := some (.int (1 : Int32))) (fun h => by rw [Bd.returns] at h; cases h) (by decide) (by decide) ?_ (fun fs hr => retN X46 hx (t := .boolean) Bd.returns (by simp) (hb hby at_215) hr)
      show Q_law Z v0 v1 v2 v3 h0 n0 _ T46.heap _
      rw [e46]
      exact ⟨rfl, N46⟩
    · refine G_ifYes X45 hx (pc' := 168) (hb hby at_161) ((if0 _ _).trans (flt hc161_2).2.2.2) (by decide) (by decide) ?_
      refine G_iconst X45 hx (pc' := 169) rfl (hb hby at_168) (z := (0 : Int32)) rfl ?_
      refine G_icmpNo X45 hx (pc' := 172) rfl (hb hby at_169) (teq ((by first | exact own_h1 hoA hlB (by assumption) | exact own_h0 hoA hlA hlB (by assumption)) : (f_hasMore off (off + len)) = (0 : Int32))).2 ?_
      refine G_iconst X45 hx (pc' := 173) rfl (hb hby at_172) (z := (1 : Int32)) rfl ?_
      refine G_goto X45 hx (pc' := 177) (hb hby at_173)  (by decide) (by decide) ?_
      refine G_istore X45 hx (pc' := 179) rfl (hb hby at_177) (L' := #[.val (.int v0), .val (.int v1), .val (.int v2), .val (.long v3), .second, .val (.int off), .val (.int len), .val (.ref b34), .val (.int (0 : Int32)), .val (.ref b43), .val (.int (1 : Int32)), .unset, .unset]) rfl ?_
      refine G_iload X45 hx (pc' := 181) rfl (hb hby at_179) rfl ?_
      refine G_ifYes X45 hx (pc' := 186) (hb hby at_181) ((if0 _ _).trans (feq (by decide : ¬ ((1 : Int32) = (0 : Int32)))).2) (by decide) (by decide) ?_
      refine G_iload X45 hx (pc' := 188) rfl (hb hby at_186) rfl ?_
      refine G_iconst X45 hx (pc' := 189) rfl (hb hby at_188) (z := (2 : Int32)) rfl ?_
      refine G_icmpNo X45 hx (pc' := 192) rfl (hb hby at_189) (tlt hc109_1).2.1 ?_
      refine G_aload X45 hx (pc' := 194) rfl (hb hby at_192) rfl rfl ?_
      obtain ⟨cq47, kq47, q47a, q47b, q47c⟩ := isOf hZ e45 p44_0
      obtain ⟨_, _, ⟨T47, L47, k47, n47⟩, -, X47, ⟨Lc47, hQ47, l47, y47, z47⟩, st47⟩ := X45.virtualBack hx (y := (⟨"managerie/snmp/Ber$Reader", "hasMore", "()Z"⟩ : MethodName)) (z := (⟨"managerie/snmp/Ber$Reader", "hasMore", "()Z"⟩ : MethodName)) hown (mvT hZ (hw _ (List.mem_of_getElem? (i := 25) rfl))) (mvT hZ (hw _ (List.mem_of_getElem? (i := 26) rfl))) (notFace_of_selects (args := #[]) (mvT hZ (hw _ (List.mem_of_getElem? (i := 28) rfl)))) (mvT hZ (hw _ (List.mem_of_getElem? (i := 28) rfl))) (mvT hZ (hw _ (List.mem_of_getElem? (i := 27) rfl))) (by decide) (backOf (W := 0) (rm_hasMore l Z a0 hw [] b43 off (off + len) T44.heap n0 Z_44 p44_0 p44_2 p44_3) hZ (hw _ (List.mem_of_getElem? (i := 29) rfl)) (hw _ (List.mem_of_getElem? (i := 4) rfl)) (by decide) (by decide)) q47a q47c (g := (mkF m 194 #[.val (.int v0), .val (.int v1), .val (.int v2), .val (.long v3), .second, .val (.int off), .val (.int len), .val (.ref b34), .val (.int (0 : Int32)), .val (.ref b43), .val (.int (1 : Int32)), .unset, .unset] [(.ref b43)])) rfl (by rw [hml]; rfl) (Steps.refl _) (argsL := []) (rest := []) (lenOf pd_2 rfl) rfl (by show 2 * 0 + _ ≤ _; exact Nat.le_of_eq rfl) (hb hby at_194) (fun _ _ => ⟨rfl, e45, (by decide : 2 + 0 ≤ _), (by decide : 11 + 0 ≤ _)⟩)
      dsimp only [Pt.U, Pt.locs, Pt.cells, Pt.slots] at X47 l47 y47 z47 st47 hQ47
      subst l47 y47 z47
      obtain ⟨rfl, N47q, e47⟩ := hQ47
      have N47 := Fr.app N45 N47q
      refine Go.st (fun _ k => st47.trans k) ?_
      show Go p e below s _ _ _ T47 (mkF m 197 #[.val (.int v0), .val (.int v1), .val (.int v2), .val (.long v3), .second, .val (.int off), .val (.int len), .val (.ref b34), .val (.int (0 : Int32)), .val (.ref b43), .val (.int (1 : Int32)), .unset, .unset] [(.int (f_hasMore off (off + len)))])
      refine G_iload X47 hx (pc' := 199) rfl (hb hby at_197) rfl ?_
      refine G_ifYes X47 hx (pc' := 206) (hb hby at_199) ((if0 _ _).trans (flt hc161_2).2.2.2) (by decide) (by decide) ?_
      refine G_iconst X47 hx (pc' := 207) rfl (hb hby at_206) (z := (0 : Int32)) rfl ?_
      refine G_icmpNo X47 hx (pc' := 210) rfl (hb hby at_207) (teq ((by first | exact own_h1 hoA hlB (by assumption) | exact own_h0 hoA hlA hlB (by assumption)) : (f_hasMore off (off + len)) = (0 : Int32))).2 ?_
      refine G_iconst X47 hx (pc' := 211) rfl (hb hby at_210) (z := (1 : Int32)) rfl ?_
      refine G_goto X47 hx (pc' := 215) (hb hby at_211)  (by decide) (by decide) ?_
      refine Go.fin X47 hlk (v := some (.int (1 : Int32))) (fun h => by rw [Bd.returns] at h; cases h) (by decide) (by decide) ?_ (fun fs hr => retN X47 hx (t := .boolean) Bd.returns (by simp) (hb hby at_215) hr)
      show Q_law Z v0 v1 v2 v3 h0 n0 _ T47.heap _
      rw [e47]
      exact ⟨rfl, N47⟩
  · refine G_icmpNo X42 hx (pc' := 112) rfl (hb hby at_109) (flt hc109_1).1 ?_
    refine G_iloadN X42 hx (pc' := 113) rfl (hb hby at_112) rfl ?_
    refine G_ldc X42 hx (pc' := 115) rfl hown (mvT hZ (hw _ (List.mem_of_getElem? (i := 0) rfl))) (hb hby at_113) ?_
    refine G_iand X42 hx (pc' := 116) rfl (hb hby at_115)  ?_
    refine G_iload X42 hx (pc' := 118) rfl (hb hby at_116) rfl ?_
    refine G_iconst X42 hx (pc' := 119) rfl (hb hby at_118) (z := (1 : Int32)) rfl ?_
    refine G_isub X42 hx (pc' := 120) rfl (hb hby at_119)  ?_
    refine G_irem X42 hx (pc' := 121) rfl (hb hby at_120) (own_nz2 hlA hlB hoA (by assumption)) ?_
    refine G_istore X42 hx (pc' := 123) rfl (hb hby at_121) (L' := #[.val (.int v0), .val (.int v1), .val (.int v2), .val (.long v3), .second, .val (.int off), .val (.int len), .val (.ref b34), .val (.int ((v2 &&& (2147483647 : Int32)) % (len - (1 : Int32)))), .unset, .unset, .unset, .unset]) rfl ?_
    obtain ⟨cc, h_cc, hcA, hcB, hoC, hlC⟩ : ∃ cc : Int32, ((v2 &&& (2147483647 : Int32)) % (len - (1 : Int32))) = cc ∧ 0 ≤ cc.toInt ∧ cc.toInt + 2 ≤ len.toInt ∧ off.toInt + 2 ≤ 8 ∧ 2 ≤ len.toInt := ⟨_, rfl, (own_cc _ hlA hlB hoA (by assumption)).1, (own_cc _ hlA hlB hoA (by assumption)).2.1, (own_cc v2 hlA hlB hoA (by assumption)).2.2.1, (own_cc v2 hlA hlB hoA (by assumption)).2.2.2⟩
    rw [h_cc]
    refine G_aload X42 hx (pc' := 125) rfl (hb hby at_123) rfl rfl ?_
    refine G_iload X42 hx (pc' := 127) rfl (hb hby at_125) rfl ?_
    refine G_iconst X42 hx (pc' := 128) rfl (hb hby at_127) (z := (4 : Int32)) rfl ?_
    obtain ⟨T48, h48, X48, e48, W48, A48, st48⟩ := stAB X42 hx hZ e42 Axs (j := off) (own_i1 hoA) (own_i2 hoA hoB hx8) (g := (mkF m 128 #[.val (.int v0), .val (.int v1), .val (.int v2), .val (.long v3), .second, .val (.int off), .val (.int len), .val (.ref b34), .val (.int cc), .unset, .unset, .unset, .unset] [(.int (4 : Int32)), (.int off), (.ref b34)])) rfl rfl (hb hby at_128)
    refine Go.st st48 ?_
    have E_b34_48 := E_b34_42.wr W48
    have A_b34_48 : AI Z h48 b34 .byte (xs.set off.toNatClampNeg (4 : Int32)) := A48
    have K_48 : Keep h0 h48 [] := K_42.wr W48 (Or.inr sz_b34)
    have Z_48 : n0 ≤ h48.size := Nat.le_trans Z0 K_48.1
    have N48 := Fr.snoc X48 N42 g_b34
    show Go p e below s _ _ _ T48 (mkF m 129 #[.val (.int v0), .val (.int v1), .val (.int v2), .val (.long v3), .second, .val (.int off), .val (.int len), .val (.ref b34), .val (.int cc), .unset, .unset, .unset, .unset] [])
    refine G_aload X48 hx (pc' := 131) rfl (hb hby at_129) rfl rfl ?_
    refine G_iload X48 hx (pc' := 133) rfl (hb hby at_131) rfl ?_
    refine G_iconst X48 hx (pc' := 134) rfl (hb hby at_133) (z := (1 : Int32)) rfl ?_
    refine G_iadd X48 hx (pc' := 135) rfl (hb hby at_134)  ?_
    refine G_iload X48 hx (pc' := 137) rfl (hb hby at_135) rfl ?_
    refine G_i2b X48 hx (pc' := 138) rfl (hb hby at_137)  ?_
    obtain ⟨T49, h49, X49, e49, W49, A49, st49⟩ := stABn X48 hx hZ e48 A_b34_48 (j := (off + (1 : Int32))) (own_j1 hoA hoB) (own_j2 hoA hoC (by rw [List.length_set]; exact hx8)) (g := (mkF m 138 #[.val (.int v0), .val (.int v1), .val (.int v2), .val (.long v3), .second, .val (.int off), .val (.int len), .val (.ref b34), .val (.int cc), .unset, .unset, .unset, .unset] [(.int (cc.toInt8.toInt32)), (.int (off + (1 : Int32))), (.ref b34)])) rfl rfl (hb hby at_138)
    refine Go.st st49 ?_
    have E_b34_49 := E_b34_48.wr W49
    have A_b34_49 : AI Z h49 b34 .byte ((xs.set off.toNatClampNeg (4 : Int32)).set (off + (1 : Int32)).toNatClampNeg (cc.toInt8.toInt32)) := A49
    have K_49 : Keep h0 h49 [] := K_48.wr W49 (Or.inr sz_b34)
    have Z_49 : n0 ≤ h49.size := Nat.le_trans Z0 K_49.1
    have N49 := Fr.snoc X49 N48 g_b34
    show Go p e below s _ _ _ T49 (mkF m 139 #[.val (.int v0), .val (.int v1), .val (.int v2), .val (.long v3), .second, .val (.int off), .val (.int len), .val (.ref b34), .val (.int cc), .unset, .unset, .unset, .unset] [])
    obtain ⟨ys, hys⟩ : ∃ z : List Int32, ((xs.set off.toNatClampNeg (4 : Int32)).set (off + (1 : Int32)).toNatClampNeg (cc.toInt8.toInt32)) = z := ⟨_, rfl⟩
    have Ays : AI Z h49 b34 .byte ys := hys ▸ A_b34_49
    have hy8 : ys.length = 8 := by rw [← hys]; simp [hx8]
    have hy1 : ((ys.getD off.toNatClampNeg 0) &&& (255 : Int32)) = (4 : Int32) := by rw [← hys]; exact own_y1 hoA hoC hx8
    have hy2 : ((ys.getD (off + (1 : Int32)).toNatClampNeg 0) &&& (255 : Int32)) = cc := by rw [← hys]; exact own_y2 hoA hoC hcA hcB hlB hx8
    obtain ⟨T50, h50, X50, e50, E50, A50, D50, -, st50⟩ := newO X49 hx hZ hown (hw _ (List.mem_of_getElem? (i := 2) rfl)) (hw _ (List.mem_of_getElem? (i := 3) rfl)) (hw _ (List.mem_of_getElem? (i := 4) rfl)) e49 (g := (mkF m 139 #[.val (.int v0), .val (.int v1), .val (.int v2), .val (.long v3), .second, .val (.int off), .val (.int len), .val (.ref b34), .val (.int cc), .unset, .unset, .unset, .unset] [])) rfl (hb hby at_139) (by decide) (by decide)
    obtain ⟨b50, q50⟩ : ∃ z, z = h49.size := ⟨_, rfl⟩
    rw [← q50] at A50 D50 st50
    refine Go.st st50 ?_
    have ne_b34_b50 : b34 ≠ b50 := Nat.ne_of_lt (Nat.lt_of_lt_of_le E_b34_49.lt (Nat.le_of_eq q50.symm))
    have g_b50 : n0 ≤ b50 := Nat.le_trans Z_49 (Nat.le_of_eq q50.symm)
    have sz_b50 : h0.size ≤ b50 := Nat.le_trans K_49.1 (Nat.le_of_eq q50.symm)
    have E_b34_50 := E_b34_49.ext E50
    have A_b34_50 := Ays.ext E50
    have F_b50_data : Fld Z h50 b50 "managerie/snmp/Ber$Reader" "data" "[B" .null := D50 (Or.inr (hw _ (List.mem_of_getElem? (i := 20) rfl))) (ty := (.array .byte)) (by decide)
    have F_b50_position : Fld Z h50 b50 "managerie/snmp/Ber$Reader" "position" "I" (.int (0 : Int32)) := D50 (Or.inl (hw _ (List.mem_of_getElem? (i := 22) rfl))) (ty := .int) (by decide)
    have F_b50_end : Fld Z h50 b50 "managerie/snmp/Ber$Reader" "end" "I" (.int (0 : Int32)) := D50 (Or.inr (hw _ (List.mem_of_getElem? (i := 24) rfl))) (ty := .int) (by decide)
    have K_50 : Keep h0 h50 [] := K_49.ext E50
    have Z_50 : n0 ≤ h50.size := Nat.le_trans Z0 K_50.1
    show Go p e below s _ _ _ T50 (mkF m 142 #[.val (.int v0), .val (.int v1), .val (.int v2), .val (.long v3), .second, .val (.int off), .val (.int len), .val (.ref b34), .val (.int cc), .unset, .unset, .unset, .unset] [(.ref b50)])
    refine G_dup X50 hx (pc' := 143) rfl (hb hby at_142) rfl ?_
    refine G_aload X50 hx (pc' := 145) rfl (hb hby at_143) rfl rfl ?_
    refine G_iload X50 hx (pc' := 147) rfl (hb hby at_145) rfl ?_
    refine G_iload X50 hx (pc' := 149) rfl (hb hby at_147) rfl ?_
    obtain ⟨_, _, ⟨T51, L51, k51, n51⟩, -, X51, ⟨Lc51, hQ51, l51, y51, z51⟩, st51⟩ := X50.specialBack hx (y := (⟨"managerie/snmp/Ber$Reader", "<init>", "([BII)V"⟩ : MethodName)) rfl hown (mvT hZ (hw _ (List.mem_of_getElem? (i := 5) rfl))) (mvT hZ (hw _ (List.mem_of_getElem? (i := 6) rfl))) (mvT hZ (hw _ (List.mem_of_getElem? (i := 7) rfl))) (by decide) (backOf (W := 1) (rm_rinit l Z a0 hw [] b50 b34 off len ys h50 n0 Z_50 A50 F_b50_data F_b50_position F_b50_end A_b34_50 g_b50 ne_b34_b50 (own_chk1 hoA hlA hy8) (own_chk2 hoA hlA hlB hy8)) hZ (hw _ (List.mem_of_getElem? (i := 7) rfl)) (hw _ (List.mem_of_getElem? (i := 4) rfl)) (by decide) (by decide)) (g := (mkF m 149 #[.val (.int v0), .val (.int v1), .val (.int v2), .val (.long v3), .second, .val (.int off), .val (.int len), .val (.ref b34), .val (.int cc), .unset, .unset, .unset, .unset] [(.int len), (.int off), (.ref b34), (.ref b50), (.ref b50)])) rfl (by rw [hml]; rfl) (Steps.refl _) (a := b50) (argsL := [(.ref b34), (.int off), (.int len)]) (rest := [(.ref b50)]) (lenOf pd_8 rfl) rfl (by show 2 * 0 + _ ≤ _; exact Nat.le_of_eq rfl) (hb hby at_149) (fun _ _ => ⟨rfl, e50, (by decide : 2 + 0 ≤ _), (by decide : 11 + 0 ≤ _)⟩)
    dsimp only [Pt.U, Pt.locs, Pt.cells, Pt.slots] at X51 l51 y51 z51 st51 hQ51
    subst l51 y51 z51
    obtain ⟨rfl, N51q, K51, p51_0, p51_1, p51_2, p51_3⟩ := hQ51
    have N51 := Fr.app N49 N51q
    refine Go.st (fun _ k => st51.trans k) ?_
    have E_b34_51 := E_b34_50.keep K51
    have A_b34_51 := A_b34_50.keep K51 (ninS ne_b34_b50 nin0)
    have K_51 : Keep h0 T51.heap [] := K_50.trans K51 (allS (Or.inr sz_b50) all0)
    have Z_51 : n0 ≤ T51.heap.size := Nat.le_trans Z0 K_51.1
    show Go p e below s _ _ _ T51 (mkF m 152 #[.val (.int v0), .val (.int v1), .val (.int v2), .val (.long v3), .second, .val (.int off), .val (.int len), .val (.ref b34), .val (.int cc), .unset, .unset, .unset, .unset] [(.ref b50)])
    refine G_astore X51 hx (pc' := 154) rfl (hb hby at_152) rfl (L' := #[.val (.int v0), .val (.int v1), .val (.int v2), .val (.long v3), .second, .val (.int off), .val (.int len), .val (.ref b34), .val (.int cc), .val (.ref b50), .unset, .unset, .unset]) rfl ?_
    refine G_aload X51 hx (pc' := 156) rfl (hb hby at_154) rfl rfl ?_
    obtain ⟨cq52, kq52, q52a, q52b, q52c⟩ := isOf hZ rfl p51_0
    obtain ⟨_, _, ⟨T52, L52, k52, n52⟩, -, X52, ⟨Lc52, hQ52, l52, y52, z52⟩, st52⟩ := X51.virtualBack hx (y := (⟨"managerie/snmp/Ber$Reader", "hasMore", "()Z"⟩ : MethodName)) (z := (⟨"managerie/snmp/Ber$Reader", "hasMore", "()Z"⟩ : MethodName)) hown (mvT hZ (hw _ (List.mem_of_getElem? (i := 25) rfl))) (mvT hZ (hw _ (List.mem_of_getElem? (i := 26) rfl))) (notFace_of_selects (args := #[]) (mvT hZ (hw _ (List.mem_of_getElem? (i := 28) rfl)))) (mvT hZ (hw _ (List.mem_of_getElem? (i := 28) rfl))) (mvT hZ (hw _ (List.mem_of_getElem? (i := 27) rfl))) (by decide) (backOf (W := 0) (rm_hasMore l Z a0 hw [] b50 off (off + len) T51.heap n0 Z_51 p51_0 p51_2 p51_3) hZ (hw _ (List.mem_of_getElem? (i := 29) rfl)) (hw _ (List.mem_of_getElem? (i := 4) rfl)) (by decide) (by decide)) q52a q52c (g := (mkF m 156 #[.val (.int v0), .val (.int v1), .val (.int v2), .val (.long v3), .second, .val (.int off), .val (.int len), .val (.ref b34), .val (.int cc), .val (.ref b50), .unset, .unset, .unset] [(.ref b50)])) rfl (by rw [hml]; rfl) (Steps.refl _) (argsL := []) (rest := []) (lenOf pd_2 rfl) rfl (by show 2 * 0 + _ ≤ _; exact Nat.le_of_eq rfl) (hb hby at_156) (fun _ _ => ⟨rfl, rfl, (by decide : 2 + 0 ≤ _), (by decide : 11 + 0 ≤ _)⟩)
    dsimp only [Pt.U, Pt.locs, Pt.cells, Pt.slots] at X52 l52 y52 z52 st52 hQ52
    subst l52 y52 z52
    obtain ⟨rfl, N52q, e52⟩ := hQ52
    have N52 := Fr.app N51 N52q
    refine Go.st (fun _ k => st52.trans k) ?_
    show Go p e below s _ _ _ T52 (mkF m 159 #[.val (.int v0), .val (.int v1), .val (.int v2), .val (.long v3), .second, .val (.int off), .val (.int len), .val (.ref b34), .val (.int cc), .val (.ref b50), .unset, .unset, .unset] [(.int (f_hasMore off (off + len)))])
    refine G_iload X52 hx (pc' := 161) rfl (hb hby at_159) rfl ?_
    by_cases hc161_3 : (0 : Int32) < len
    · refine G_ifNo X52 hx (pc' := 164) rfl (hb hby at_161) ((if0 _ _).trans (tlt hc161_3).2.2.2) ?_
      refine G_iconst X52 hx (pc' := 165) rfl (hb hby at_164) (z := (1 : Int32)) rfl ?_
      refine G_goto X52 hx (pc' := 169) (hb hby at_165)  (by decide) (by decide) ?_
      refine G_icmpNo X52 hx (pc' := 172) rfl (hb hby at_169) (teq ((by first | exact own_h1 hoA hlB (by assumption) | exact own_h0 hoA hlA hlB (by assumption)) : (f_hasMore off (off + len)) = (1 : Int32))).2 ?_
      refine G_iconst X52 hx (pc' := 173) rfl (hb hby at_172) (z := (1 : Int32)) rfl ?_
      refine G_goto X52 hx (pc' := 177) (hb hby at_173)  (by decide) (by decide) ?_
      refine G_istore X52 hx (pc' := 179) rfl (hb hby at_177) (L' := #[.val (.int v0), .val (.int v1), .val (.int v2), .val (.long v3), .second, .val (.int off), .val (.int len), .val (.ref b34), .val (.int cc), .val (.ref b50), .val (.int (1 : Int32)), .unset, .unset]) rfl ?_
      refine G_iload X52 hx (pc' := 181) rfl (hb hby at_179) rfl ?_
      refine G_ifYes X52 hx (pc' := 186) (hb hby at_181) ((if0 _ _).trans (feq (by decide : ¬ ((1 : Int32) = (0 : Int32)))).2) (by decide) (by decide) ?_
      refine G_iload X52 hx (pc' := 188) rfl (hb hby at_186) rfl ?_
      refine G_iconst X52 hx (pc' := 189) rfl (hb hby at_188) (z := (2 : Int32)) rfl ?_
      refine G_icmpYes X52 hx (pc' := 216) (hb hby at_189) (flt hc109_1).2.1 (by decide) (by decide) ?_
      refine G_aload X52 hx (pc' := 218) rfl (hb hby at_216) rfl rfl ?_
      refine G_iconst X52 hx (pc' := 219) rfl (hb hby at_218) (z := (4 : Int32)) rfl ?_
      obtain ⟨cq53, kq53, q53a, q53b, q53c⟩ := isOf hZ e52 p51_0
      obtain ⟨_, _, ⟨T53, L53, k53, n53⟩, -, X53, ⟨Lc53, hQ53, l53, y53, z53⟩, st53⟩ := X52.virtualBack hx (y := (⟨"managerie/snmp/Ber$Reader", "octets", "(I)[B"⟩ : MethodName)) (z := (⟨"managerie/snmp/Ber$Reader", "octets", "(I)[B"⟩ : MethodName)) hown (mvT hZ (hw _ (List.mem_of_getElem? (i := 30) rfl))) (mvT hZ (hw _ (List.mem_of_getElem? (i := 31) rfl))) (notFace_of_selects (args := #[]) (mvT hZ (hw _ (List.mem_of_getElem? (i := 33) rfl)))) (mvT hZ (hw _ (List.mem_of_getElem? (i := 33) rfl))) (mvT hZ (hw _ (List.mem_of_getElem? (i := 32) rfl))) (by decide) (backOf (W := 0) (rm_octets l Z a0 hw [] b50 (4 : Int32) off (off + len) b34 ys T51.heap n0 Z_51 p51_0 p51_2 p51_3 p51_1 A_b34_51 g_b50 ne_b34_b50 (own_hm hoA hlA hlB hlC) (own_i1 hoA) (own_i2 hoA hoB hy8) hy1 (own_hm2 hoA hlB hlC) (own_j1 hoA hoB) (own_j2 hoA hoC hy8) (by rw [hy2]; exact own_lt hcA hcB hlB hoA) (by rw [hy2]; exact own_le hoA hcA hcB hlB) (own_c0 hoA hoC) (own_c1 hoA hoC) (by rw [hy2, own_back cc]; exact own_c2 hoA hcA hcB hlB) (by rw [hy2, own_back cc, hy8]; exact own_c3 hoA hcA hcB hlB) (by rw [hy8]; decide)) hZ (hw _ (List.mem_of_getElem? (i := 34) rfl)) (hw _ (List.mem_of_getElem? (i := 4) rfl)) (by decide) (by decide)) q53a q53c (g := (mkF m 219 #[.val (.int v0), .val (.int v1), .val (.int v2), .val (.long v3), .second, .val (.int off), .val (.int len), .val (.ref b34), .val (.int cc), .val (.ref b50), .val (.int (1 : Int32)), .unset, .unset] [(.int (4 : Int32)), (.ref b50)])) rfl (by rw [hml]; rfl) (Steps.refl _) (argsL := [(.int (4 : Int32))]) (rest := []) (lenOf pd_9 rfl) rfl (by show 2 * 0 + _ ≤ _; exact Nat.le_of_eq rfl) (hb hby at_219) (fun _ _ => ⟨rfl, e52, (by decide : 2 + 1 ≤ _), (by decide : 11 + 8 ≤ _)⟩)
      dsimp only [Pt.U, Pt.locs, Pt.cells, Pt.slots] at X53 l53 y53 z53 st53 hQ53
      subst l53 y53 z53
      obtain ⟨b0_53, rfl, N53q, K53, le_b0_53, p53_0, p53_1, p53_2, p53_3, p53_4, p53_5⟩ := hQ53
      have N53 := Fr.app N52 N53q
      refine Go.st (fun _ k => st53.trans k) ?_
      have ne_b34_b0_53 : b34 ≠ b0_53 := Nat.ne_of_lt (Nat.lt_of_lt_of_le E_b34_51.lt le_b0_53)
      have ne_b50_b0_53 : b50 ≠ b0_53 := Nat.ne_of_lt (Nat.lt_of_lt_of_le p51_0.lt le_b0_53)
      have g_b0_53 : n0 ≤ b0_53 := Nat.le_trans Z_51 le_b0_53
      have sz_b0_53 : h0.size ≤ b0_53 := Nat.le_trans K_51.1 le_b0_53
      have E_b34_53 := E_b34_51.keep K53
      have A_b34_53 := A_b34_51.keep K53 (ninS ne_b34_b50 nin0)
      have K_53 : Keep h0 T53.heap [] := K_51.trans K53 (allS (Or.inr sz_b50) all0)
      have Z_53 : n0 ≤ T53.heap.size := Nat.le_trans Z0 K_53.1
      have hLI : ((((ys.getD (off + (1 : Int32)).toNatClampNeg 0) &&& (255 : Int32)).toInt64).toInt32) = cc := by rw [hy2]; exact own_back cc
      rw [hLI] at p53_1
      rw [hLI] at p53_5
      show Go p e below s _ _ _ T53 (mkF m 222 #[.val (.int v0), .val (.int v1), .val (.int v2), .val (.long v3), .second, .val (.int off), .val (.int len), .val (.ref b34), .val (.int cc), .val (.ref b50), .val (.int (1 : Int32)), .unset, .unset] [(.ref b0_53)])
      refine G_astore X53 hx (pc' := 224) rfl (hb hby at_222) rfl (L' := #[.val (.int v0), .val (.int v1), .val (.int v2), .val (.long v3), .second, .val (.int off), .val (.int len), .val (.ref b34), .val (.int cc), .val (.ref b50), .val (.int (1 : Int32)), .val (.ref b0_53), .unset]) rfl ?_
      refine G_aload X53 hx (pc' := 226) rfl (hb hby at_224) rfl rfl ?_
      refine Go.st (lenAI X53 hx hZ rfl p53_5 (g := (mkF m 226 #[.val (.int v0), .val (.int v1), .val (.int v2), .val (.long v3), .second, .val (.int off), .val (.int len), .val (.ref b34), .val (.int cc), .val (.ref b50), .val (.int (1 : Int32)), .val (.ref b0_53), .unset] [(.ref b0_53)])) rfl rfl (hb hby at_226)) ?_
      show Go p e below s _ _ _ T53 (mkF m 227 #[.val (.int v0), .val (.int v1), .val (.int v2), .val (.long v3), .second, .val (.int off), .val (.int len), .val (.ref b34), .val (.int cc), .val (.ref b50), .val (.int (1 : Int32)), .val (.ref b0_53), .unset] [(.int (Int32.ofNat ((own_cut ys ((off + (1 : Int32)) + (1 : Int32)) (((off + (1 : Int32)) + (1 : Int32)) + cc))).length))])
      refine G_iload X53 hx (pc' := 229) rfl (hb hby at_227) rfl ?_
      refine G_icmpNo X53 hx (pc' := 232) rfl (hb hby at_229) (teq ((own_d1 hoA hcA hcB hlB hy8) : (Int32.ofNat ((own_cut ys ((off + (1 : Int32)) + (1 : Int32)) (((off + (1 : Int32)) + (1 : Int32)) + cc))).length) = cc)).2 ?_
      refine G_aload X53 hx (pc' := 234) rfl (hb hby at_232) rfl rfl ?_
      obtain ⟨cq54, kq54, q54a, q54b, q54c⟩ := isOf hZ rfl p53_0
      obtain ⟨_, _, ⟨T54, L54, k54, n54⟩, -, X54, ⟨Lc54, hQ54, l54, y54, z54⟩, st54⟩ := X53.virtualBack hx (y := (⟨"managerie/snmp/Ber$Reader", "position", "()I"⟩ : MethodName)) (z := (⟨"managerie/snmp/Ber$Reader", "position", "()I"⟩ : MethodName)) hown (mvT hZ (hw _ (List.mem_of_getElem? (i := 63) rfl))) (mvT hZ (hw _ (List.mem_of_getElem? (i := 64) rfl))) (notFace_of_selects (args := #[]) (mvT hZ (hw _ (List.mem_of_getElem? (i := 66) rfl)))) (mvT hZ (hw _ (List.mem_of_getElem? (i := 66) rfl))) (mvT hZ (hw _ (List.mem_of_getElem? (i := 65) rfl))) (by decide) (backOf (W := 0) (rm_position l Z a0 hw [] b50 (((off + (1 : Int32)) + (1 : Int32)) + cc) T53.heap n0 Z_53 p53_1) hZ (hw _ (List.mem_of_getElem? (i := 67) rfl)) (hw _ (List.mem_of_getElem? (i := 4) rfl)) (by decide) (by decide)) q54a q54c (g := (mkF m 234 #[.val (.int v0), .val (.int v1), .val (.int v2), .val (.long v3), .second, .val (.int off), .val (.int len), .val (.ref b34), .val (.int cc), .val (.ref b50), .val (.int (1 : Int32)), .val (.ref b0_53), .unset] [(.ref b50)])) rfl (by rw [hml]; rfl) (Steps.refl _) (argsL := []) (rest := []) (lenOf pd_6 rfl) rfl (by show 2 * 0 + _ ≤ _; exact Nat.le_of_eq rfl) (hb hby at_234) (fun _ _ => ⟨rfl, rfl, (by decide : 3 + 0 ≤ _), (by decide : 19 + 0 ≤ _)⟩)
      dsimp only [Pt.U, Pt.locs, Pt.cells, Pt.slots] at X54 l54 y54 z54 st54 hQ54
      subst l54 y54 z54
      obtain ⟨rfl, N54q, e54⟩ := hQ54
      have N54 := Fr.app N53 N54q
      refine Go.st (fun _ k => st54.trans k) ?_
      show Go p e below s _ _ _ T54 (mkF m 237 #[.val (.int v0), .val (.int v1), .val (.int v2), .val (.long v3), .second, .val (.int off), .val (.int len), .val (.ref b34), .val (.int cc), .val (.ref b50), .val (.int (1 : Int32)), .val (.ref b0_53), .unset] [(.int (((off + (1 : Int32)) + (1 : Int32)) + cc))])
      refine G_iload X54 hx (pc' := 239) rfl (hb hby at_237) rfl ?_
      refine G_iconst X54 hx (pc' := 240) rfl (hb hby at_239) (z := (2 : Int32)) rfl ?_
      refine G_iadd X54 hx (pc' := 241) rfl (hb hby at_240)  ?_
      refine G_iload X54 hx (pc' := 243) rfl (hb hby at_241) rfl ?_
      refine G_iadd X54 hx (pc' := 244) rfl (hb hby at_243)  ?_
      refine G_icmpNo X54 hx (pc' := 247) rfl (hb hby at_244) (teq ((own_d2 off cc) : (((off + (1 : Int32)) + (1 : Int32)) + cc) = ((off + (2 : Int32)) + cc))).2 ?_
      refine G_iconst X54 hx (pc' := 248) rfl (hb hby at_247) (z := (1 : Int32)) rfl ?_
      refine G_goto X54 hx (pc' := 252) (hb hby at_248)  (by decide) (by decide) ?_
      refine G_istore X54 hx (pc' := 254) rfl (hb hby at_252) (L' := #[.val (.int v0), .val (.int v1), .val (.int v2), .val (.long v3), .second, .val (.int off), .val (.int len), .val (.ref b34), .val (.int cc), .val (.ref b50), .val (.int (1 : Int32)), .val (.ref b0_53), .val (.int (1 : Int32))]) rfl ?_
      refine G_iload X54 hx (pc' := 256) rfl (hb hby at_254) rfl ?_
      refine G_ifNo X54 hx (pc' := 259) rfl (hb hby at_256) ((if0 _ _).trans (feq (by decide : ¬ ((1 : Int32) = (0 : Int32)))).1) ?_
      refine G_aload X54 hx (pc' := 261) rfl (hb hby at_259) rfl rfl ?_
      obtain ⟨cq55, kq55, q55a, q55b, q55c⟩ := isOf hZ e54 p53_0
      obtain ⟨_, _, ⟨T55, L55, k55, n55⟩, -, X55, ⟨Lc55, hQ55, l55, y55, z55⟩, st55⟩ := X54.virtualBack hx (y := (⟨"managerie/snmp/Ber$Reader", "hasMore", "()Z"⟩ : MethodName)) (z := (⟨"managerie/snmp/Ber$Reader", "hasMore", "()Z"⟩ : MethodName)) hown (mvT hZ (hw _ (List.mem_of_getElem? (i := 25) rfl))) (mvT hZ (hw _ (List.mem_of_getElem? (i := 26) rfl))) (notFace_of_selects (args := #[]) (mvT hZ (hw _ (List.mem_of_getElem? (i := 28) rfl)))) (mvT hZ (hw _ (List.mem_of_getElem? (i := 28) rfl))) (mvT hZ (hw _ (List.mem_of_getElem? (i := 27) rfl))) (by decide) (backOf (W := 0) (rm_hasMore l Z a0 hw [] b50 (((off + (1 : Int32)) + (1 : Int32)) + cc) (off + len) T53.heap n0 Z_53 p53_0 p53_1 p53_2) hZ (hw _ (List.mem_of_getElem? (i := 29) rfl)) (hw _ (List.mem_of_getElem? (i := 4) rfl)) (by decide) (by decide)) q55a q55c (g := (mkF m 261 #[.val (.int v0), .val (.int v1), .val (.int v2), .val (.long v3), .second, .val (.int off), .val (.int len), .val (.ref b34), .val (.int cc), .val (.ref b50), .val (.int (1 : Int32)), .val (.ref b0_53), .val (.int (1 : Int32))] [(.ref b50)])) rfl (by rw [hml]; rfl) (Steps.refl _) (argsL := []) (rest := []) (lenOf pd_2 rfl) rfl (by show 2 * 0 + _ ≤ _; exact Nat.le_of_eq rfl) (hb hby at_261) (fun _ _ => ⟨rfl, e54, (by decide : 3 + 0 ≤ _), (by decide : 19 + 0 ≤ _)⟩)
      dsimp only [Pt.U, Pt.locs, Pt.cells, Pt.slots] at X55 l55 y55 z55 st55 hQ55
      subst l55 y55 z55
      obtain ⟨rfl, N55q, e55⟩ := hQ55
      have N55 := Fr.app N54 N55q
      refine Go.st (fun _ k => st55.trans k) ?_
      show Go p e below s _ _ _ T55 (mkF m 264 #[.val (.int v0), .val (.int v1), .val (.int v2), .val (.long v3), .second, .val (.int off), .val (.int len), .val (.ref b34), .val (.int cc), .val (.ref b50), .val (.int (1 : Int32)), .val (.ref b0_53), .val (.int (1 : Int32))] [(.int (f_hasMore (((off + (1 : Int32)) + (1 : Int32)) + cc) (off + len)))])
      refine G_iconst X55 hx (pc' := 265) rfl (hb hby at_264) (z := (2 : Int32)) rfl ?_
      refine G_iload X55 hx (pc' := 267) rfl (hb hby at_265) rfl ?_
      refine G_iadd X55 hx (pc' := 268) rfl (hb hby at_267)  ?_
      refine G_iload X55 hx (pc' := 270) rfl (hb hby at_268) rfl ?_
      by_cases hc270_4 : ((2 : Int32) + cc) < len
      · refine G_icmpNo X55 hx (pc' := 273) rfl (hb hby at_270) (tlt hc270_4).2.1 ?_
        refine G_iconst X55 hx (pc' := 274) rfl (hb hby at_273) (z := (1 : Int32)) rfl ?_
        refine G_goto X55 hx (pc' := 278) (hb hby at_274)  (by decide) (by decide) ?_
        refine G_icmpNo X55 hx (pc' := 281) rfl (hb hby at_278) (teq ((by first | exact own_d3 hoA hcA hcB hlB (by assumption) | exact own_d4 hoA hcA hcB hlB (by assumption)) : (f_hasMore (((off + (1 : Int32)) + (1 : Int32)) + cc) (off + len)) = (1 : Int32))).2 ?_
        refine G_iconst X55 hx (pc' := 282) rfl (hb hby at_281) (z := (1 : Int32)) rfl ?_
        refine G_goto X55 hx (pc' := 286) (hb hby at_282)  (by decide) (by decide) ?_
        refine Go.fin X55 hlk (v := some (.int (1 : Int32))) (fun h => by rw [Bd.returns] at h; cases h) (by decide) (by decide) ?_ (fun fs hr => retN X55 hx (t := .boolean) Bd.returns (by simp) (hb hby at_286) hr)
        show Q_law Z v0 v1 v2 v3 h0 n0 _ T55.heap _
        rw [e55]
        exact ⟨rfl, N55⟩
      · refine G_icmpYes X55 hx (pc' := 277) (hb hby at_270) (flt hc270_4).2.1 (by decide) (by decide) ?_
        refine G_iconst X55 hx (pc' := 278) rfl (hb hby at_277) (z := (0 : Int32)) rfl ?_
        refine G_icmpNo X55 hx (pc' := 281) rfl (hb hby at_278) (teq ((by first | exact own_d3 hoA hcA hcB hlB (by assumption) | exact own_d4 hoA hcA hcB hlB (by assumption)) : (f_hasMore (((off + (1 : Int32)) + (1 : Int32)) + cc) (off + len)) = (0 : Int32))).2 ?_
        refine G_iconst X55 hx (pc' := 282) rfl (hb hby at_281) (z := (1 : Int32)) rfl ?_
        refine G_goto X55 hx (pc' := 286) (hb hby at_282)  (by decide) (by decide) ?_
        refine Go.fin X55 hlk (v := some (.int (1 : Int32))) (fun h => by rw [Bd.returns] at h; cases h) (by decide) (by decide) ?_ (fun fs hr => retN X55 hx (t := .boolean) Bd.returns (by simp) (hb hby at_286) hr)
        show Q_law Z v0 v1 v2 v3 h0 n0 _ T55.heap _
        rw [e55]
        exact ⟨rfl, N55⟩
    · refine G_ifYes X52 hx (pc' := 168) (hb hby at_161) ((if0 _ _).trans (flt hc161_3).2.2.2) (by decide) (by decide) ?_
      refine G_iconst X52 hx (pc' := 169) rfl (hb hby at_168) (z := (0 : Int32)) rfl ?_
      refine G_icmpNo X52 hx (pc' := 172) rfl (hb hby at_169) (teq ((by first | exact own_h1 hoA hlB (by assumption) | exact own_h0 hoA hlA hlB (by assumption)) : (f_hasMore off (off + len)) = (0 : Int32))).2 ?_
      refine G_iconst X52 hx (pc' := 173) rfl (hb hby at_172) (z := (1 : Int32)) rfl ?_
      refine G_goto X52 hx (pc' := 177) (hb hby at_173)  (by decide) (by decide) ?_
      refine G_istore X52 hx (pc' := 179) rfl (hb hby at_177) (L' := #[.val (.int v0), .val (.int v1), .val (.int v2), .val (.long v3), .second, .val (.int off), .val (.int len), .val (.ref b34), .val (.int cc), .val (.ref b50), .val (.int (1 : Int32)), .unset, .unset]) rfl ?_
      refine G_iload X52 hx (pc' := 181) rfl (hb hby at_179) rfl ?_
      refine G_ifYes X52 hx (pc' := 186) (hb hby at_181) ((if0 _ _).trans (feq (by decide : ¬ ((1 : Int32) = (0 : Int32)))).2) (by decide) (by decide) ?_
      refine G_iload X52 hx (pc' := 188) rfl (hb hby at_186) rfl ?_
      refine G_iconst X52 hx (pc' := 189) rfl (hb hby at_188) (z := (2 : Int32)) rfl ?_
      refine G_icmpYes X52 hx (pc' := 216) (hb hby at_189) (flt hc109_1).2.1 (by decide) (by decide) ?_
      refine G_aload X52 hx (pc' := 218) rfl (hb hby at_216) rfl rfl ?_
      refine G_iconst X52 hx (pc' := 219) rfl (hb hby at_218) (z := (4 : Int32)) rfl ?_
      obtain ⟨cq56, kq56, q56a, q56b, q56c⟩ := isOf hZ e52 p51_0
      obtain ⟨_, _, ⟨T56, L56, k56, n56⟩, -, X56, ⟨Lc56, hQ56, l56, y56, z56⟩, st56⟩ := X52.virtualBack hx (y := (⟨"managerie/snmp/Ber$Reader", "octets", "(I)[B"⟩ : MethodName)) (z := (⟨"managerie/snmp/Ber$Reader", "octets", "(I)[B"⟩ : MethodName)) hown (mvT hZ (hw _ (List.mem_of_getElem? (i := 30) rfl))) (mvT hZ (hw _ (List.mem_of_getElem? (i := 31) rfl))) (notFace_of_selects (args := #[]) (mvT hZ (hw _ (List.mem_of_getElem? (i := 33) rfl)))) (mvT hZ (hw _ (List.mem_of_getElem? (i := 33) rfl))) (mvT hZ (hw _ (List.mem_of_getElem? (i := 32) rfl))) (by decide) (backOf (W := 0) (rm_octets l Z a0 hw [] b50 (4 : Int32) off (off + len) b34 ys T51.heap n0 Z_51 p51_0 p51_2 p51_3 p51_1 A_b34_51 g_b50 ne_b34_b50 (own_hm hoA hlA hlB hlC) (own_i1 hoA) (own_i2 hoA hoB hy8) hy1 (own_hm2 hoA hlB hlC) (own_j1 hoA hoB) (own_j2 hoA hoC hy8) (by rw [hy2]; exact own_lt hcA hcB hlB hoA) (by rw [hy2]; exact own_le hoA hcA hcB hlB) (own_c0 hoA hoC) (own_c1 hoA hoC) (by rw [hy2, own_back cc]; exact own_c2 hoA hcA hcB hlB) (by rw [hy2, own_back cc, hy8]; exact own_c3 hoA hcA hcB hlB) (by rw [hy8]; decide)) hZ (hw _ (List.mem_of_getElem? (i := 34) rfl)) (hw _ (List.mem_of_getElem? (i := 4) rfl)) (by decide) (by decide)) q56a q56c (g := (mkF m 219 #[.val (.int v0), .val (.int v1), .val (.int v2), .val (.long v3), .second, .val (.int off), .val (.int len), .val (.ref b34), .val (.int cc), .val (.ref b50), .val (.int (1 : Int32)), .unset, .unset] [(.int (4 : Int32)), (.ref b50)])) rfl (by rw [hml]; rfl) (Steps.refl _) (argsL := [(.int (4 : Int32))]) (rest := []) (lenOf pd_9 rfl) rfl (by show 2 * 0 + _ ≤ _; exact Nat.le_of_eq rfl) (hb hby at_219) (fun _ _ => ⟨rfl, e52, (by decide : 2 + 1 ≤ _), (by decide : 11 + 8 ≤ _)⟩)
      dsimp only [Pt.U, Pt.locs, Pt.cells, Pt.slots] at X56 l56 y56 z56 st56 hQ56
      subst l56 y56 z56
      obtain ⟨b0_56, rfl, N56q, K56, le_b0_56, p56_0, p56_1, p56_2, p56_3, p56_4, p56_5⟩ := hQ56
      have N56 := Fr.app N52 N56q
      refine Go.st (fun _ k => st56.trans k) ?_
      have ne_b34_b0_56 : b34 ≠ b0_56 := Nat.ne_of_lt (Nat.lt_of_lt_of_le E_b34_51.lt le_b0_56)
      have ne_b50_b0_56 : b50 ≠ b0_56 := Nat.ne_of_lt (Nat.lt_of_lt_of_le p51_0.lt le_b0_56)
      have g_b0_56 : n0 ≤ b0_56 := Nat.le_trans Z_51 le_b0_56
      have sz_b0_56 : h0.size ≤ b0_56 := Nat.le_trans K_51.1 le_b0_56
      have E_b34_56 := E_b34_51.keep K56
      have A_b34_56 := A_b34_51.keep K56 (ninS ne_b34_b50 nin0)
      have K_56 : Keep h0 T56.heap [] := K_51.trans K56 (allS (Or.inr sz_b50) all0)
      have Z_56 : n0 ≤ T56.heap.size := Nat.le_trans Z0 K_56.1
      have hLI : ((((ys.getD (off + (1 : Int32)).toNatClampNeg 0) &&& (255 : Int32)).toInt64).toInt32) = cc := by rw [hy2]; exact own_back cc
      rw [hLI] at p56_1
      rw [hLI] at p56_5
      show Go p e below s _ _ _ T56 (mkF m 222 #[.val (.int v0), .val (.int v1), .val (.int v2), .val (.long v3), .second, .val (.int off), .val (.int len), .val (.ref b34), .val (.int cc), .val (.ref b50), .val (.int (1 : Int32)), .unset, .unset] [(.ref b0_56)])
      refine G_astore X56 hx (pc' := 224) rfl (hb hby at_222) rfl (L' := #[.val (.int v0), .val (.int v1), .val (.int v2), .val (.long v3), .second, .val (.int off), .val (.int len), .val (.ref b34), .val (.int cc), .val (.ref b50), .val (.int (1 : Int32)), .val (.ref b0_56), .unset]) rfl ?_
      refine G_aload X56 hx (pc' := 226) rfl (hb hby at_224) rfl rfl ?_
      refine Go.st (lenAI X56 hx hZ rfl p56_5 (g := (mkF m 226 #[.val (.int v0), .val (.int v1), .val (.int v2), .val (.long v3), .second, .val (.int off), .val (.int len), .val (.ref b34), .val (.int cc), .val (.ref b50), .val (.int (1 : Int32)), .val (.ref b0_56), .unset] [(.ref b0_56)])) rfl rfl (hb hby at_226)) ?_
      show Go p e below s _ _ _ T56 (mkF m 227 #[.val (.int v0), .val (.int v1), .val (.int v2), .val (.long v3), .second, .val (.int off), .val (.int len), .val (.ref b34), .val (.int cc), .val (.ref b50), .val (.int (1 : Int32)), .val (.ref b0_56), .unset] [(.int (Int32.ofNat ((own_cut ys ((off + (1 : Int32)) + (1 : Int32)) (((off + (1 : Int32)) + (1 : Int32)) + cc))).length))])
      refine G_iload X56 hx (pc' := 229) rfl (hb hby at_227) rfl ?_
      refine G_icmpNo X56 hx (pc' := 232) rfl (hb hby at_229) (teq ((own_d1 hoA hcA hcB hlB hy8) : (Int32.ofNat ((own_cut ys ((off + (1 : Int32)) + (1 : Int32)) (((off + (1 : Int32)) + (1 : Int32)) + cc))).length) = cc)).2 ?_
      refine G_aload X56 hx (pc' := 234) rfl (hb hby at_232) rfl rfl ?_
      obtain ⟨cq57, kq57, q57a, q57b, q57c⟩ := isOf hZ rfl p56_0
      obtain ⟨_, _, ⟨T57, L57, k57, n57⟩, -, X57, ⟨Lc57, hQ57, l57, y57, z57⟩, st57⟩ := X56.virtualBack hx (y := (⟨"managerie/snmp/Ber$Reader", "position", "()I"⟩ : MethodName)) (z := (⟨"managerie/snmp/Ber$Reader", "position", "()I"⟩ : MethodName)) hown (mvT hZ (hw _ (List.mem_of_getElem? (i := 63) rfl))) (mvT hZ (hw _ (List.mem_of_getElem? (i := 64) rfl))) (notFace_of_selects (args := #[]) (mvT hZ (hw _ (List.mem_of_getElem? (i := 66) rfl)))) (mvT hZ (hw _ (List.mem_of_getElem? (i := 66) rfl))) (mvT hZ (hw _ (List.mem_of_getElem? (i := 65) rfl))) (by decide) (backOf (W := 0) (rm_position l Z a0 hw [] b50 (((off + (1 : Int32)) + (1 : Int32)) + cc) T56.heap n0 Z_56 p56_1) hZ (hw _ (List.mem_of_getElem? (i := 67) rfl)) (hw _ (List.mem_of_getElem? (i := 4) rfl)) (by decide) (by decide)) q57a q57c (g := (mkF m 234 #[.val (.int v0), .val (.int v1), .val (.int v2), .val (.long v3), .second, .val (.int off), .val (.int len), .val (.ref b34), .val (.int cc), .val (.ref b50), .val (.int (1 : Int32)), .val (.ref b0_56), .unset] [(.ref b50)])) rfl (by rw [hml]; rfl) (Steps.refl _) (argsL := []) (rest := []) (lenOf pd_6 rfl) rfl (by show 2 * 0 + _ ≤ _; exact Nat.le_of_eq rfl) (hb hby at_234) (fun _ _ => ⟨rfl, rfl, (by decide : 3 + 0 ≤ _), (by decide : 19 + 0 ≤ _)⟩)
      dsimp only [Pt.U, Pt.locs, Pt.cells, Pt.slots] at X57 l57 y57 z57 st57 hQ57
      subst l57 y57 z57
      obtain ⟨rfl, N57q, e57⟩ := hQ57
      have N57 := Fr.app N56 N57q
      refine Go.st (fun _ k => st57.trans k) ?_
      show Go p e below s _ _ _ T57 (mkF m 237 #[.val (.int v0), .val (.int v1), .val (.int v2), .val (.long v3), .second, .val (.int off), .val (.int len), .val (.ref b34), .val (.int cc), .val (.ref b50), .val (.int (1 : Int32)), .val (.ref b0_56), .unset] [(.int (((off + (1 : Int32)) + (1 : Int32)) + cc))])
      refine G_iload X57 hx (pc' := 239) rfl (hb hby at_237) rfl ?_
      refine G_iconst X57 hx (pc' := 240) rfl (hb hby at_239) (z := (2 : Int32)) rfl ?_
      refine G_iadd X57 hx (pc' := 241) rfl (hb hby at_240)  ?_
      refine G_iload X57 hx (pc' := 243) rfl (hb hby at_241) rfl ?_
      refine G_iadd X57 hx (pc' := 244) rfl (hb hby at_243)  ?_
      refine G_icmpNo X57 hx (pc' := 247) rfl (hb hby at_244) (teq ((own_d2 off cc) : (((off + (1 : Int32)) + (1 : Int32)) + cc) = ((off + (2 : Int32)) + cc))).2 ?_
      refine G_iconst X57 hx (pc' := 248) rfl (hb hby at_247) (z := (1 : Int32)) rfl ?_
      refine G_goto X57 hx (pc' := 252) (hb hby at_248)  (by decide) (by decide) ?_
      refine G_istore X57 hx (pc' := 254) rfl (hb hby at_252) (L' := #[.val (.int v0), .val (.int v1), .val (.int v2), .val (.long v3), .second, .val (.int off), .val (.int len), .val (.ref b34), .val (.int cc), .val (.ref b50), .val (.int (1 : Int32)), .val (.ref b0_56), .val (.int (1 : Int32))]) rfl ?_
      refine G_iload X57 hx (pc' := 256) rfl (hb hby at_254) rfl ?_
      refine G_ifNo X57 hx (pc' := 259) rfl (hb hby at_256) ((if0 _ _).trans (feq (by decide : ¬ ((1 : Int32) = (0 : Int32)))).1) ?_
      refine G_aload X57 hx (pc' := 261) rfl (hb hby at_259) rfl rfl ?_
      obtain ⟨cq58, kq58, q58a, q58b, q58c⟩ := isOf hZ e57 p56_0
      obtain ⟨_, _, ⟨T58, L58, k58, n58⟩, -, X58, ⟨Lc58, hQ58, l58, y58, z58⟩, st58⟩ := X57.virtualBack hx (y := (⟨"managerie/snmp/Ber$Reader", "hasMore", "()Z"⟩ : MethodName)) (z := (⟨"managerie/snmp/Ber$Reader", "hasMore", "()Z"⟩ : MethodName)) hown (mvT hZ (hw _ (List.mem_of_getElem? (i := 25) rfl))) (mvT hZ (hw _ (List.mem_of_getElem? (i := 26) rfl))) (notFace_of_selects (args := #[]) (mvT hZ (hw _ (List.mem_of_getElem? (i := 28) rfl)))) (mvT hZ (hw _ (List.mem_of_getElem? (i := 28) rfl))) (mvT hZ (hw _ (List.mem_of_getElem? (i := 27) rfl))) (by decide) (backOf (W := 0) (rm_hasMore l Z a0 hw [] b50 (((off + (1 : Int32)) + (1 : Int32)) + cc) (off + len) T56.heap n0 Z_56 p56_0 p56_1 p56_2) hZ (hw _ (List.mem_of_getElem? (i := 29) rfl)) (hw _ (List.mem_of_getElem? (i := 4) rfl)) (by decide) (by decide)) q58a q58c (g := (mkF m 261 #[.val (.int v0), .val (.int v1), .val (.int v2), .val (.long v3), .second, .val (.int off), .val (.int len), .val (.ref b34), .val (.int cc), .val (.ref b50), .val (.int (1 : Int32)), .val (.ref b0_56), .val (.int (1 : Int32))] [(.ref b50)])) rfl (by rw [hml]; rfl) (Steps.refl _) (argsL := []) (rest := []) (lenOf pd_2 rfl) rfl (by show 2 * 0 + _ ≤ _; exact Nat.le_of_eq rfl) (hb hby at_261) (fun _ _ => ⟨rfl, e57, (by decide : 3 + 0 ≤ _), (by decide : 19 + 0 ≤ _)⟩)
      dsimp only [Pt.U, Pt.locs, Pt.cells, Pt.slots] at X58 l58 y58 z58 st58 hQ58
      subst l58 y58 z58
      obtain ⟨rfl, N58q, e58⟩ := hQ58
      have N58 := Fr.app N57 N58q
      refine Go.st (fun _ k => st58.trans k) ?_
      show Go p e below s _ _ _ T58 (mkF m 264 #[.val (.int v0), .val (.int v1), .val (.int v2), .val (.long v3), .second, .val (.int off), .val (.int len), .val (.ref b34), .val (.int cc), .val (.ref b50), .val (.int (1 : Int32)), .val (.ref b0_56), .val (.int (1 : Int32))] [(.int (f_hasMore (((off + (1 : Int32)) + (1 : Int32)) + cc) (off + len)))])
      refine G_iconst X58 hx (pc' := 265) rfl (hb hby at_264) (z := (2 : Int32)) rfl ?_
      refine G_iload X58 hx (pc' := 267) rfl (hb hby at_265) rfl ?_
      refine G_iadd X58 hx (pc' := 268) rfl (hb hby at_267)  ?_
      refine G_iload X58 hx (pc' := 270) rfl (hb hby at_268) rfl ?_
      by_cases hc270_5 : ((2 : Int32) + cc) < len
      · refine G_icmpNo X58 hx (pc' := 273) rfl (hb hby at_270) (tlt hc270_5).2.1 ?_
        refine G_iconst X58 hx (pc' := 274) rfl (hb hby at_273) (z := (1 : Int32)) rfl ?_
        refine G_goto X58 hx (pc' := 278) (hb hby at_274)  (by decide) (by decide) ?_
        refine G_icmpNo X58 hx (pc' := 281) rfl (hb hby at_278) (teq ((by first | exact own_d3 hoA hcA hcB hlB (by assumption) | exact own_d4 hoA hcA hcB hlB (by assumption)) : (f_hasMore (((off + (1 : Int32)) + (1 : Int32)) + cc) (off + len)) = (1 : Int32))).2 ?_
        refine G_iconst X58 hx (pc' := 282) rfl (hb hby at_281) (z := (1 : Int32)) rfl ?_
        refine G_goto X58 hx (pc' := 286) (hb hby at_282)  (by decide) (by decide) ?_
        refine Go.fin X58 hlk (v := some (.int (1 : Int32))) (fun h => by rw [Bd.returns] at h; cases h) (by decide) (by decide) ?_ (fun fs hr => retN X58 hx (t := .boolean) Bd.returns (by simp) (hb hby at_286) hr)
        show Q_law Z v0 v1 v2 v3 h0 n0 _ T58.heap _
        rw [e58]
        exact ⟨rfl, N58⟩
      · refine G_icmpYes X58 hx (pc' := 277) (hb hby at_270) (flt hc270_5).2.1 (by decide) (by decide) ?_
        refine G_iconst X58 hx (pc' := 278) rfl (hb hby at_277) (z := (0 : Int32)) rfl ?_
        refine G_icmpNo X58 hx (pc' := 281) rfl (hb hby at_278) (teq ((by first | exact own_d3 hoA hcA hcB hlB (by assumption) | exact own_d4 hoA hcA hcB hlB (by assumption)) : (f_hasMore (((off + (1 : Int32)) + (1 : Int32)) + cc) (off + len)) = (0 : Int32))).2 ?_
        refine G_iconst X58 hx (pc' := 282) rfl (hb hby at_281) (z := (1 : Int32)) rfl ?_
        refine G_goto X58 hx (pc' := 286) (hb hby at_282)  (by decide) (by decide) ?_
        refine Go.fin X58 hlk (v := some (.int (1 : Int32))) (fun h => by rw [Bd.returns] at h; cases h) (by decide) (by decide) ?_ (fun fs hr => retN X58 hx (t := .boolean) Bd.returns (by simp) (hb hby at_286) hr)
        show Q_law Z v0 v1 v2 v3 h0 n0 _ T58.heap _
        rw [e58]
        exact ⟨rfl, N58⟩
set_option maxRecDepth 65536 in
set_option maxHeartbeats 40000000 in
theorem comes_1 {Post : Tables → Env → Array Value → State → Outcome → State → Prop} (hpost : ∀ tb e args s v u, (limb_1_1.after args s (.returned v) u = true ∧ limb_1_2.after args s (.returned v) u = true ∧ True) → FrameEnd s (.returned v) u (Jvm.fieldLocs frame_1_writes args s ++ Jvm.arrayLocs frame_1_arrays args s ++ Jvm.staticLocs frame_1_statics s) 16 128 → Post tb e args s (.returned v) u) :
    ArmFor flags0 classFile x code maxLocals ret World_1 tables_1 room_1 Calls_1 rest_1 Pre_1 Post := by
  intro l hfl _ _ p e ha hc hk s m args below hf hA hF happ hP
  obtain ⟨hcalls, hrest, hpre⟩ := hP
  obtain ⟨-, -, -, hnamed, -, -, -, hat⟩ := (Spec.applies_iff hf).mp happ
  obtain ⟨hg, hn⟩ := and_e (Cond.before_iff.mp (show (Jvm.Cond.and given_1 narrow_1).before args s = true from hpre))
  obtain ⟨hcnt, hg0⟩ := and_e hg
  obtain ⟨ha0, hg1⟩ := and_e hg0
  obtain ⟨ha1, hg2⟩ := and_e hg1
  obtain ⟨ha2, hg3⟩ := and_e hg2
  have ha3 := hg3
  obtain ⟨w0, w1, w2, w3, rfl⟩ : ∃ w0 w1 w2 w3 : Value, args = #[w0, w1, w2, w3] := by
    have hs : args.size = 4 := by simpa [Cond.value, given_1] using hcnt
    obtain ⟨L⟩ := args
    match L, hs with
    | [w0, w1, w2, w3], _ => exact ⟨w0, w1, w2, w3, rfl⟩
  have hw := fun d (hd : d ∈ tables_1) => atoms_spec (ws := Jvm.Cond.code x code maxLocals ret :: tables_1) hat d (List.mem_cons_of_mem _ hd)
  have hfit : Fit s := fun {y c} hc i hi => by
    obtain ⟨ha, rfl⟩ := Array.getElem?_eq_some_iff.mp hc
    have q := List.all_eq_true.mp ((Array.all_eq_true_iff_forall_mem.mp hF) _ (Array.getElem_mem ha)) i (List.mem_range.mpr hi)
    simpa [Array.getElem?_eq_getElem hi] using q
  obtain ⟨i0, ei0⟩ := is_v ha0
  obtain rfl : w0 = (.int i0) := Option.some.inj ei0
  obtain ⟨i1, ei1⟩ := is_v ha1
  obtain rfl : w1 = (.int i1) := Option.some.inj ei1
  obtain ⟨i2, ei2⟩ := is_v ha2
  obtain rfl : w2 = (.int i2) := Option.some.inj ei2
  obtain ⟨i3, ei3⟩ := isL_v ha3
  obtain rfl : w3 = (.long i3) := Option.some.inj ei3
  obtain ⟨n, o, h1, h2, h3, v, L, rfl, ⟨hv, N⟩, hq⟩ := rm_law l s _ hw tables_1 i0 i1 i2 i3  s.heap s.heap.size (Nat.le_refl _)  p e ha hc hk s m _ below hf ((Spec.applies_iff_loose hf).mp happ).1 ⟨rfl, State.Warmed39.refl s, rfl⟩ trivial
  subst hv
  refine ⟨n, _, h1, h2, h3, hpost _ _ _ _ _ _ ⟨Cond.after_iff.mpr rfl, Cond.after_iff.mpr (eq_i res_at (Term.int_eval (1)) rfl), trivial⟩ ⟨hq.1, hq.2.1, (hq.2.2.sift fun y hy => Or.inr (N y hy)).mono (by decide) (by decide)⟩⟩
theorem main_1_1 : Claimed_1_1 := comes_1 fun _ _ _ _ _ _ h hF => ⟨h.1, hF⟩
theorem main_1_2 : Claimed_1_2 := comes_1 fun _ _ _ _ _ _ h hF => ⟨h.2.1, hF⟩
end Jvm.Pilot.@@N@@
namespace Jvm.Pilot.@@N@@
open Jvm Jvm.ClassFile Sem Op Lib Jvm.Free Jvm.Stand Jvm.Pilot.@@N@@.Jvm.D
/-! MADE BY PROGRAM (witnessworld.py) out of the Statement's table words and the real class files: 14 classes; the members and pool entries that the words name. The judged class is class 1, her method 1. -/
namespace start1
open Jvm.ClassFile
def u (s : String) : CpInfo := .utf8 (stringToUtf16 s)
/-- a pool by its gaps: so many unusable entries, then the entry; so many at the end -/
def gap : Nat → List CpInfo → List CpInfo
  | 0, r => r
  | n + 1, r => .unusable :: gap n r
def poolList (es : List (Nat × CpInfo)) (last : Nat) : List CpInfo := es.foldr (fun e r => gap e.1 (e.2 :: r)) (gap last [])
def pool (es : List (Nat × CpInfo)) (last : Nat) : Array CpInfo := ⟨poolList es last⟩
def fileOf (pool : Array CpInfo) (this : Nat) (attrs : Array Attribute := #[]) (ms : Array MethodInfo := #[]) (fl : Nat := 33) (sup : Nat := 0) (ifs : Array Nat := #[]) (fds : Array FieldInfo := #[]) : ClassFile where
  minorVersion := 0
  majorVersion := 65
  constantPool := pool
  accessFlags := fl
  thisClass := this
  superClass := sup
  interfaces := ifs
  fields := fds
  methods := ms
  attributes := attrs
def plain (name : String) (sup : Option ClassId) : Class where
  name := name
  kind := .ordinary
  loader := none
  accessFlags := 33
  super := sup
  interfaces := #[]
  cf := none
  fields := #[]
  methods := #[]
  instanceTypes := #[]
  staticTypes := #[]
  resolved := #[]
  callSites := []
  init := .initialized
  statics := none
  mirror := none

def pool0 : Array CpInfo := pool [(5, u "<init>"), (0, u "()V"), (1, .class_ 10), (1, u "java/lang/Object")] 113

def k0c0 : Code := { maxStack := 0, maxLocals := 1, code := object_method_1_code, exceptionTable := #[], attributes := #[] }
def k0m0 : Method := { name := "<init>", desc := "()V", sig := { parameters := [], returnType := none }, accessFlags := 1, code := some k0c0 }
/-- java/lang/Object -/
def k0 : Class := { plain "java/lang/Object" none with
  accessFlags := 33
  interfaces := #[]
  cf := some (fileOf pool0 8 #[] #[{ accessFlags := 1, nameIndex := 5, descriptorIndex := 6, attributes := #[] }] 33 0 #[] #[])
  fields := #[]
  methods := #[k0m0]
  instanceTypes := #[]
  staticTypes := #[]
  resolved := Array.replicate 124 none
  statics := none }

def pool1 : Array CpInfo := pool [(2, .class_ 4), (1, u "java/lang/Object"), (0, u "<init>"), (0, u "()V"), (0, .integer 2147483647), (0, .class_ 9), (0, u "managerie/snmp/Ber$Reader"), (0, .methodref 8 11), (0, .nameAndType 5 12), (0, u "([BII)V"), (0, .methodref 8 14), (0, .nameAndType 15 16), (0, u "hasMore"), (0, u "()Z"), (0, .methodref 8 18), (0, .nameAndType 19 20), (0, u "octets"), (0, u "(I)[B"), (0, .methodref 8 22), (0, .nameAndType 23 24), (0, u "position"), (0, u "()I"), (0, .class_ 26), (0, u "managerie/snmp/BerReaderHasMorePinLaw"), (2, u "law"), (0, u "(IIIJ)Z")] 12

def k1m0 : Method := { name := "<init>", desc := "()V", sig := { parameters := [], returnType := none }, accessFlags := 1, code := none }
def k1c1 : Code := { maxStack := 5, maxLocals := 13, code := code, exceptionTable := #[], attributes := #[] }
def k1m1 : Method := { name := "law", desc := "(IIIJ)Z", sig := { parameters := [.int, .int, .int, .long], returnType := some .boolean }, accessFlags := 9, code := some k1c1 }
/-- managerie/snmp/BerReaderHasMorePinLaw -/
def k1 : Class := { plain "managerie/snmp/BerReaderHasMorePinLaw" (some 0) with
  accessFlags := 49
  interfaces := #[]
  cf := some (fileOf pool1 25 #[] #[{ accessFlags := 1, nameIndex := 5, descriptorIndex := 6, attributes := #[] }, { accessFlags := 9, nameIndex := 29, descriptorIndex := 30, attributes := #[] }] 49 2 #[] #[])
  fields := #[]
  methods := #[k1m0, k1m1]
  instanceTypes := #[]
  staticTypes := #[]
  resolved := Array.replicate 43 none
  statics := none }

def pool2 : Array CpInfo := pool [(1, .class_ 2), (0, u "managerie/snmp/Ber"), (0, .methodref 4 5), (0, .class_ 6), (0, .nameAndType 7 8), (0, u "java/lang/Object"), (0, u "<init>"), (0, u "()V"), (0, .methodref 10 11), (0, .class_ 12), (0, .nameAndType 13 14), (0, u "java/util/Objects"), (0, u "checkFromIndexSize"), (0, u "(III)I"), (0, .fieldref 16 17), (0, .class_ 18), (0, .nameAndType 19 20), (0, u "managerie/snmp/Ber$Reader"), (0, u "data"), (0, u "[B"), (0, .fieldref 16 22), (0, .nameAndType 23 24), (0, u "position"), (0, u "I"), (0, .fieldref 16 26), (0, .nameAndType 27 24), (0, u "end"), (0, .methodref 16 29), (0, .nameAndType 30 31), (0, u "hasMore"), (0, u "()Z"), (9, .methodref 16 42), (0, .nameAndType 43 44), (0, u "open"), (0, u "(I)I"), (2, u "([BII)V"), (28, u "octets"), (0, u "(I)[B"), (20, .methodref 99 100), (0, .class_ 101), (0, .nameAndType 102 103), (0, u "java/util/Arrays"), (0, u "copyOfRange"), (0, u "([BII)[B"), (36, .methodref 16 141), (0, .nameAndType 142 143), (0, u "peekTag"), (0, u "()I")] 94

def k2c0 : Code := { maxStack := 3, maxLocals := 4, code := prog_59_method_1_code, exceptionTable := #[], attributes := #[] }
def k2m0 : Method := { name := "<init>", desc := "([BII)V", sig := { parameters := [(.array .byte), .int, .int], returnType := none }, accessFlags := 0, code := some k2c0 }
def k2c1 : Code := { maxStack := 2, maxLocals := 1, code := prog_59_method_2_code, exceptionTable := #[], attributes := #[] }
def k2m1 : Method := { name := "hasMore", desc := "()Z", sig := { parameters := [], returnType := some .boolean }, accessFlags := 0, code := some k2c1 }
def k2c2 : Code := { maxStack := 1, maxLocals := 1, code := prog_59_method_3_code, exceptionTable := #[], attributes := #[] }
def k2m2 : Method := { name := "position", desc := "()I", sig := { parameters := [], returnType := some .int }, accessFlags := 0, code := some k2c2 }
def k2c3 : Code := { maxStack := 3, maxLocals := 1, code := prog_59_method_4_code, exceptionTable := #[], attributes := #[] }
def k2m3 : Method := { name := "peekTag", desc := "()I", sig := { parameters := [], returnType := some .int }, accessFlags := 0, code := some k2c3 }
def k2c4 : Code := { maxStack := 4, maxLocals := 4, code := prog_59_method_12_code, exceptionTable := #[], attributes := #[] }
def k2m4 : Method := { name := "octets", desc := "(I)[B", sig := { parameters := [.int], returnType := some (.array .byte) }, accessFlags := 0, code := some k2c4 }
def k2c5 : Code := { maxStack := 7, maxLocals := 7, code := prog_59_method_17_code, exceptionTable := #[], attributes := #[] }
def k2m5 : Method := { name := "open", desc := "(I)I", sig := { parameters := [.int], returnType := some .int }, accessFlags := 2, code := some k2c5 }
/-- managerie/snmp/Ber$Reader -/
def k2 : Class := { plain "managerie/snmp/Ber$Reader" (some 0) with
  accessFlags := 48
  interfaces := #[]
  cf := some (fileOf pool2 16 #[.nestHost 1] #[{ accessFlags := 0, nameIndex := 7, descriptorIndex := 47, attributes := #[] }, { accessFlags := 0, nameIndex := 30, descriptorIndex := 31, attributes := #[] }, { accessFlags := 0, nameIndex := 23, descriptorIndex := 143, attributes := #[] }, { accessFlags := 0, nameIndex := 142, descriptorIndex := 143, attributes := #[] }, { accessFlags := 0, nameIndex := 76, descriptorIndex := 77, attributes := #[] }, { accessFlags := 2, nameIndex := 43, descriptorIndex := 44, attributes := #[] }] 48 4 #[] #[{ accessFlags := 18, nameIndex := 19, descriptorIndex := 20, attributes := #[] }, { accessFlags := 18, nameIndex := 27, descriptorIndex := 24, attributes := #[] }, { accessFlags := 2, nameIndex := 23, descriptorIndex := 24, attributes := #[] }])
  fields := #[{ name := "data", type := (.array .byte), accessFlags := 18, slot := 0, constantValue := 0 }, { name := "end", type := .int, accessFlags := 18, slot := 1, constantValue := 0 }, { name := "position", type := .int, accessFlags := 2, slot := 2, constantValue := 0 }]
  methods := #[k2m0, k2m1, k2m2, k2m3, k2m4, k2m5]
  instanceTypes := #[(.array .byte), .int, .int]
  staticTypes := #[]
  resolved := Array.replicate 238 none
  statics := none }

def pool3 : Array CpInfo := pool [(2, .class_ 4), (1, u "java/lang/Object"), (0, u "<init>"), (0, u "()V"), (35, .class_ 44), (1, u "java/util/Objects"), (61, .class_ 108), (1, u "jdk/internal/util/Preconditions"), (5, u "(IIILjava/util/function/BiFunction;)I"), (0, .methodref 106 116), (0, .nameAndType 117 114), (0, u "checkFromIndexSize"), (57, u "(III)I")] 8

def k3m0 : Method := { name := "<init>", desc := "()V", sig := { parameters := [], returnType := none }, accessFlags := 2, code := none }
def k3c1 : Code := { maxStack := 4, maxLocals := 3, code := jdk_31_method_19_code, exceptionTable := #[], attributes := #[] }
def k3m1 : Method := { name := "checkFromIndexSize", desc := "(III)I", sig := { parameters := [.int, .int, .int], returnType := some .int }, accessFlags := 9, code := some k3c1 }
/-- java/util/Objects -/
def k3 : Class := { plain "java/util/Objects" (some 0) with
  accessFlags := 49
  interfaces := #[]
  cf := some (fileOf pool3 42 #[] #[{ accessFlags := 2, nameIndex := 5, descriptorIndex := 6, attributes := #[] }, { accessFlags := 9, nameIndex := 117, descriptorIndex := 175, attributes := #[] }] 49 2 #[] #[])
  fields := #[]
  methods := #[k3m0, k3m1]
  instanceTypes := #[]
  staticTypes := #[]
  resolved := Array.replicate 184 none
  statics := none }

def pool4 : Array CpInfo := pool [(2, .class_ 4), (1, u "java/lang/Object"), (0, u "<init>"), (0, u "()V"), (17, .class_ 26), (1, u "jdk/internal/util/Preconditions"), (22, u "checkFromIndexSize"), (5, .class_ 56), (0, u "jdk/internal/util/Preconditions$4"), (57, .class_ 115), (0, u "jdk/internal/util/Preconditions$1"), (7, u "SIOOBE_FORMATTER"), (0, u "Ljava/util/function/BiFunction;"), (0, .class_ 126), (0, u "jdk/internal/util/Preconditions$2"), (3, u "AIOOBE_FORMATTER"), (0, .class_ 132), (0, u "jdk/internal/util/Preconditions$3"), (3, u "IOOBE_FORMATTER"), (46, u "(IIILjava/util/function/BiFunction;)I")] 10

def k4m0 : Method := { name := "<init>", desc := "()V", sig := { parameters := [], returnType := none }, accessFlags := 1, code := none }
def k4c1 : Code := { maxStack := 4, maxLocals := 4, code := jdk_41_method_13_code, exceptionTable := #[], attributes := #[] }
def k4m1 : Method := { name := "checkFromIndexSize", desc := "(IIILjava/util/function/BiFunction;)I", sig := { parameters := [.int, .int, .int, (.object "java/util/function/BiFunction")], returnType := some .int }, accessFlags := 9, code := some k4c1 }
/-- jdk/internal/util/Preconditions -/
def k4 : Class := { plain "jdk/internal/util/Preconditions" (some 0) with
  accessFlags := 33
  interfaces := #[]
  cf := some (fileOf pool4 24 #[.nestMembers #[55, 131, 125, 114]] #[{ accessFlags := 1, nameIndex := 5, descriptorIndex := 6, attributes := #[] }, { accessFlags := 9, nameIndex := 49, descriptorIndex := 183, attributes := #[] }] 33 2 #[] #[{ accessFlags := 25, nameIndex := 123, descriptorIndex := 124, attributes := #[] }, { accessFlags := 25, nameIndex := 130, descriptorIndex := 124, attributes := #[] }, { accessFlags := 25, nameIndex := 136, descriptorIndex := 124, attributes := #[] }])
  fields := #[{ name := "SIOOBE_FORMATTER", type := (.object "java/util/function/BiFunction"), accessFlags := 25, slot := 0, constantValue := 0 }, { name := "AIOOBE_FORMATTER", type := (.object "java/util/function/BiFunction"), accessFlags := 25, slot := 1, constantValue := 0 }, { name := "IOOBE_FORMATTER", type := (.object "java/util/function/BiFunction"), accessFlags := 25, slot := 2, constantValue := 0 }]
  methods := #[k4m0, k4m1]
  instanceTypes := #[]
  staticTypes := #[(.object "java/util/function/BiFunction"), (.object "java/util/function/BiFunction"), (.object "java/util/function/BiFunction")]
  resolved := Array.replicate 194 none
  statics := none }

def pool5 : Array CpInfo := pool [(2, .class_ 4), (1, u "java/lang/Object"), (0, u "<init>"), (0, u "()V"), (7, .class_ 16), (1, u "java/util/Arrays"), (57, .class_ 76), (1, u "java/util/Arrays$NaturalOrder"), (36, .class_ 115), (1, u "java/util/Arrays$LegacyMergeSort"), (1, u "Z"), (21, u "copyOfRange"), (10, .methodref 151 152), (0, .class_ 153), (0, .nameAndType 154 155), (0, u "java/lang/System"), (0, u "arraycopy"), (0, u "(Ljava/lang/Object;ILjava/lang/Object;II)V"), (148, .methodref 305 306), (0, .class_ 307), (0, .nameAndType 308 309), (0, u "java/lang/Math"), (0, u "min"), (0, u "(II)I"), (29, .methodref 14 340), (0, .nameAndType 341 342), (0, u "copyOfRangeByte"), (0, u "([BII)[B"), (0, .methodref 14 344), (0, .nameAndType 345 346), (0, u "checkLength"), (0, u "(II)V"), (28, .class_ 376), (0, u "java/util/Arrays$ArrayList"), (68, u "$assertionsDisabled"), (269, u "MIN_ARRAY_SORT_GRAN"), (0, u "I"), (2, u "INSERTIONSORT_THRESHOLD"), (255, .class_ 976), (0, u "java/util/Arrays$ArrayItr")] 52

def k5m0 : Method := { name := "<init>", desc := "()V", sig := { parameters := [], returnType := none }, accessFlags := 2, code := none }
def k5c1 : Code := { maxStack := 4, maxLocals := 2, code := jdk_65_method_131_code, exceptionTable := #[], attributes := #[] }
def k5m1 : Method := { name := "checkLength", desc := "(II)V", sig := { parameters := [.int, .int], returnType := none }, accessFlags := 10, code := some k5c1 }
def k5c2 : Code := { maxStack := 3, maxLocals := 3, code := jdk_65_method_132_code, exceptionTable := #[], attributes := #[] }
def k5m2 : Method := { name := "copyOfRange", desc := "([BII)[B", sig := { parameters := [(.array .byte), .int, .int], returnType := some (.array .byte) }, accessFlags := 9, code := some k5c2 }
def k5c3 : Code := { maxStack := 6, maxLocals := 5, code := jdk_65_method_133_code, exceptionTable := #[], attributes := #[] }
def k5m3 : Method := { name := "copyOfRangeByte", desc := "([BII)[B", sig := { parameters := [(.array .byte), .int, .int], returnType := some (.array .byte) }, accessFlags := 10, code := some k5c3 }
/-- java/util/Arrays -/
def k5 : Class := { plain "java/util/Arrays" (some 0) with
  accessFlags := 49
  interfaces := #[]
  cf := some (fileOf pool5 14 #[.nestMembers #[975, 375, 113, 74]] #[{ accessFlags := 2, nameIndex := 5, descriptorIndex := 6, attributes := #[] }, { accessFlags := 10, nameIndex := 345, descriptorIndex := 346, attributes := #[] }, { accessFlags := 9, nameIndex := 139, descriptorIndex := 342, attributes := #[] }, { accessFlags := 10, nameIndex := 341, descriptorIndex := 342, attributes := #[] }] 49 2 #[] #[{ accessFlags := 26, nameIndex := 715, descriptorIndex := 716, attributes := #[] }, { accessFlags := 26, nameIndex := 719, descriptorIndex := 716, attributes := #[] }, { accessFlags := 4120, nameIndex := 445, descriptorIndex := 117, attributes := #[] }])
  fields := #[{ name := "MIN_ARRAY_SORT_GRAN", type := .int, accessFlags := 26, slot := 0, constantValue := 0 }, { name := "INSERTIONSORT_THRESHOLD", type := .int, accessFlags := 26, slot := 1, constantValue := 0 }, { name := "$assertionsDisabled", type := .boolean, accessFlags := 4120, slot := 2, constantValue := 0 }]
  methods := #[k5m0, k5m1, k5m2, k5m3]
  instanceTypes := #[]
  staticTypes := #[.int, .int, .boolean]
  resolved := Array.replicate 1029 none
  statics := none }

def pool6 : Array CpInfo := pool [(1, .class_ 2), (0, u "java/lang/Math"), (1, .class_ 6), (1, u "java/lang/Object"), (0, u "<init>"), (0, u "()V"), (89, .class_ 100), (1, u "java/lang/Math$RandomNumberGeneratorHolder"), (71, u "negativeZeroFloatBits"), (0, u "J"), (2, u "negativeZeroDoubleBits"), (24, u "min"), (43, u "$assertionsDisabled"), (0, u "Z"), (88, u "(II)I"), (2, u "twoToTheDoubleScaleDown"), (0, u "D"), (4, u "twoToTheDoubleScaleUp"), (9, u "E"), (3, u "PI"), (2, u "TAU"), (2, u "DEGREES_TO_RADIANS"), (0, u "RADIANS_TO_DEGREES")] 94

def k6m0 : Method := { name := "<init>", desc := "()V", sig := { parameters := [], returnType := none }, accessFlags := 2, code := none }
def k6c1 : Code := { maxStack := 2, maxLocals := 2, code := jdk_29_method_69_code, exceptionTable := #[], attributes := #[] }
def k6m1 : Method := { name := "min", desc := "(II)I", sig := { parameters := [.int, .int], returnType := some .int }, accessFlags := 9, code := some k6c1 }
/-- java/lang/Math -/
def k6 : Class := { plain "java/lang/Math" (some 0) with
  accessFlags := 49
  interfaces := #[]
  cf := some (fileOf pool6 1 #[.nestMembers #[98]] #[{ accessFlags := 2, nameIndex := 7, descriptorIndex := 8, attributes := #[] }, { accessFlags := 9, nameIndex := 201, descriptorIndex := 335, attributes := #[] }] 49 4 #[] #[{ accessFlags := 25, nameIndex := 354, descriptorIndex := 339, attributes := #[] }, { accessFlags := 25, nameIndex := 358, descriptorIndex := 339, attributes := #[] }, { accessFlags := 25, nameIndex := 361, descriptorIndex := 339, attributes := #[] }, { accessFlags := 26, nameIndex := 364, descriptorIndex := 339, attributes := #[] }, { accessFlags := 26, nameIndex := 365, descriptorIndex := 339, attributes := #[] }, { accessFlags := 26, nameIndex := 172, descriptorIndex := 173, attributes := #[] }, { accessFlags := 26, nameIndex := 176, descriptorIndex := 173, attributes := #[] }, { accessFlags := 8, nameIndex := 344, descriptorIndex := 339, attributes := #[] }, { accessFlags := 8, nameIndex := 338, descriptorIndex := 339, attributes := #[] }, { accessFlags := 4120, nameIndex := 245, descriptorIndex := 246, attributes := #[] }])
  fields := #[{ name := "E", type := .double, accessFlags := 25, slot := 0, constantValue := 0 }, { name := "PI", type := .double, accessFlags := 25, slot := 1, constantValue := 0 }, { name := "TAU", type := .double, accessFlags := 25, slot := 2, constantValue := 0 }, { name := "DEGREES_TO_RADIANS", type := .double, accessFlags := 26, slot := 3, constantValue := 0 }, { name := "RADIANS_TO_DEGREES", type := .double, accessFlags := 26, slot := 4, constantValue := 0 }, { name := "negativeZeroFloatBits", type := .long, accessFlags := 26, slot := 5, constantValue := 0 }, { name := "negativeZeroDoubleBits", type := .long, accessFlags := 26, slot := 6, constantValue := 0 }, { name := "twoToTheDoubleScaleUp", type := .double, accessFlags := 8, slot := 7, constantValue := 0 }, { name := "twoToTheDoubleScaleDown", type := .double, accessFlags := 8, slot := 8, constantValue := 0 }, { name := "$assertionsDisabled", type := .boolean, accessFlags := 4120, slot := 9, constantValue := 0 }]
  methods := #[k6m0, k6m1]
  instanceTypes := #[]
  staticTypes := #[.double, .double, .double, .double, .double, .long, .long, .double, .double, .boolean]
  resolved := Array.replicate 460 none
  statics := none }

def pool7 : Array CpInfo := pool [(2, .class_ 4), (1, u "java/lang/Object"), (0, u "<init>"), (0, u "()V"), (1, .class_ 10), (1, u "java/lang/System"), (0, u "allowSecurityManager"), (0, u "I"), (16, u "cons"), (0, u "Ljava/io/Console;"), (77, .class_ 110), (1, u "java/lang/System$CallersHolder"), (43, u "initialErrStream"), (0, u "Ljava/io/PrintStream;"), (19, u "security"), (0, u "Ljava/lang/SecurityManager;"), (31, .class_ 209), (0, u "java/lang/System$1"), (7, u "props"), (0, u "Ljava/util/Properties;"), (2, u "lineSeparator"), (0, u "Ljava/lang/String;"), (96, .class_ 321), (1, u "java/lang/System$LoggerFinder"), (5, .class_ 328), (0, u "java/lang/System$Logger"), (67, u "err"), (2, u "out"), (91, u "notSupportedJnuEncoding"), (15, u "in"), (17, u "initialIn"), (0, u "Ljava/io/InputStream;"), (35, u "bootLayer"), (0, u "Ljava/lang/ModuleLayer;"), (99, .class_ 664), (0, u "java/lang/System$2"), (9, u "NEVER"), (2, u "MAYBE"), (49, u "arraycopy"), (0, u "(Ljava/lang/Object;ILjava/lang/Object;II)V"), (72, .class_ 802), (0, u "java/lang/System$Logger$Level")] 31

def k7m0 : Method := { name := "<init>", desc := "()V", sig := { parameters := [], returnType := none }, accessFlags := 2, code := none }
def k7m1 : Method := { name := "arraycopy", desc := "(Ljava/lang/Object;ILjava/lang/Object;II)V", sig := { parameters := [(.object "java/lang/Object"), .int, (.object "java/lang/Object"), .int, .int], returnType := none }, accessFlags := 265, code := none }
/-- java/lang/System -/
def k7 : Class := { plain "java/lang/System" (some 0) with
  accessFlags := 49
  interfaces := #[]
  cf := some (fileOf pool7 8 #[.nestMembers #[319, 327, 801, 108, 663, 208]] #[{ accessFlags := 2, nameIndex := 5, descriptorIndex := 6, attributes := #[] }, { accessFlags := 265, nameIndex := 727, descriptorIndex := 728, attributes := #[] }] 49 2 #[] #[{ accessFlags := 25, nameIndex := 507, descriptorIndex := 526, attributes := #[] }, { accessFlags := 25, nameIndex := 399, descriptorIndex := 155, attributes := #[] }, { accessFlags := 25, nameIndex := 396, descriptorIndex := 155, attributes := #[] }, { accessFlags := 10, nameIndex := 525, descriptorIndex := 526, attributes := #[] }, { accessFlags := 26, nameIndex := 674, descriptorIndex := 12, attributes := #[] }, { accessFlags := 26, nameIndex := 677, descriptorIndex := 12, attributes := #[] }, { accessFlags := 10, nameIndex := 11, descriptorIndex := 12, attributes := #[] }, { accessFlags := 74, nameIndex := 175, descriptorIndex := 176, attributes := #[] }, { accessFlags := 10, nameIndex := 491, descriptorIndex := 222, attributes := #[] }, { accessFlags := 74, nameIndex := 29, descriptorIndex := 30, attributes := #[] }, { accessFlags := 74, nameIndex := 154, descriptorIndex := 155, attributes := #[] }, { accessFlags := 10, nameIndex := 217, descriptorIndex := 218, attributes := #[] }, { accessFlags := 10, nameIndex := 221, descriptorIndex := 222, attributes := #[] }, { accessFlags := 8, nameIndex := 562, descriptorIndex := 563, attributes := #[] }])
  fields := #[{ name := "in", type := (.object "java/io/InputStream"), accessFlags := 25, slot := 0, constantValue := 0 }, { name := "out", type := (.object "java/io/PrintStream"), accessFlags := 25, slot := 1, constantValue := 0 }, { name := "err", type := (.object "java/io/PrintStream"), accessFlags := 25, slot := 2, constantValue := 0 }, { name := "initialIn", type := (.object "java/io/InputStream"), accessFlags := 10, slot := 3, constantValue := 0 }, { name := "NEVER", type := .int, accessFlags := 26, slot := 4, constantValue := 0 }, { name := "MAYBE", type := .int, accessFlags := 26, slot := 5, constantValue := 0 }, { name := "allowSecurityManager", type := .int, accessFlags := 10, slot := 6, constantValue := 0 }, { name := "security", type := (.object "java/lang/SecurityManager"), accessFlags := 74, slot := 7, constantValue := 0 }, { name := "notSupportedJnuEncoding", type := (.object "java/lang/String"), accessFlags := 10, slot := 8, constantValue := 0 }, { name := "cons", type := (.object "java/io/Console"), accessFlags := 74, slot := 9, constantValue := 0 }, { name := "initialErrStream", type := (.object "java/io/PrintStream"), accessFlags := 74, slot := 10, constantValue := 0 }, { name := "props", type := (.object "java/util/Properties"), accessFlags := 10, slot := 11, constantValue := 0 }, { name := "lineSeparator", type := (.object "java/lang/String"), accessFlags := 10, slot := 12, constantValue := 0 }, { name := "bootLayer", type := (.object "java/lang/ModuleLayer"), accessFlags := 8, slot := 13, constantValue := 0 }]
  methods := #[k7m0, k7m1]
  instanceTypes := #[]
  staticTypes := #[(.object "java/io/InputStream"), (.object "java/io/PrintStream"), (.object "java/io/PrintStream"), (.object "java/io/InputStream"), .int, .int, .int, (.object "java/lang/SecurityManager"), (.object "java/lang/String"), (.object "java/io/Console"), (.object "java/io/PrintStream"), (.object "java/util/Properties"), (.object "java/lang/String"), (.object "java/lang/ModuleLayer")]
  resolved := Array.replicate 834 none
  statics := none }

def pool8 : Array CpInfo := pool [(1, u "java/lang/Cloneable"), (0, .class_ 1), (0, u "java/lang/Object"), (0, .class_ 3)] 3

/-- java/lang/Cloneable -/
def k8 : Class := { plain "java/lang/Cloneable" (some 0) with
  accessFlags := 1537
  interfaces := #[]
  cf := some (fileOf pool8 2 #[] #[] 1537 4 #[] #[])
  fields := #[]
  methods := #[]
  instanceTypes := #[]
  staticTypes := #[]
  resolved := Array.replicate 8 none
  statics := none }

def pool9 : Array CpInfo := pool [(1, u "java/io/Serializable"), (0, .class_ 1), (0, u "java/lang/Object"), (0, .class_ 3)] 3

/-- java/io/Serializable -/
def k9 : Class := { plain "java/io/Serializable" (some 0) with
  accessFlags := 1537
  interfaces := #[]
  cf := some (fileOf pool9 2 #[] #[] 1537 4 #[] #[])
  fields := #[]
  methods := #[]
  instanceTypes := #[]
  staticTypes := #[]
  resolved := Array.replicate 8 none
  statics := none }

/-- the primitive byte -/
def k10 : Class := { plain "byte" none with kind := .primitive 'B', accessFlags := 0x411 }
/-- [B -/
def k11 : Class := { plain "[B" (some 0) with kind := .array 10 .byte, interfaces := #[8, 9], accessFlags := 1041 }

/-- the primitive int -/
def k12 : Class := { plain "int" none with kind := .primitive 'I', accessFlags := 0x411 }
/-- [I -/
def k13 : Class := { plain "[I" (some 0) with kind := .array 12 .int, interfaces := #[8, 9], accessFlags := 1041 }

def heap : Heap := #[]
def classes : Array Class := #[k0, k1, k2, k3, k4, k5, k6, k7, k8, k9, k10, k11, k12, k13]
def interned : List (Array UInt16 × Addr) := []
def slotsUsed : Nat := 0
def theMethod : MethodId := ⟨1, 1⟩
def args0 : Array Value := #[.int 1, .int 5, .int 3, .long 77]
def aboutOver (below : List Frame) : State where
  vm := { classes := classes, interned := interned.toArray }
  heap := heap
  slotsUsed := slotsUsed
  threads := #[{ frames := .invoking theMethod args0 :: below }]
def below0 : List Frame := [.native { method := ⟨0, 0⟩, args := #[] }]
def about1 : State := aboutOver below0
def p0 : Program := .bare "" "" ""
def e0 : Env := launch0.env 0 0 0
theorem w_frames : about1.frames = Frame.invoking theMethod args0 :: below0 := rfl
set_option maxRecDepth 65536 in
theorem w_args : argsFit about1.vm theMethod args0 = true := by decide +kernel
set_option maxRecDepth 65536 in
theorem w_heap : heapFits about1 = true := by decide +kernel
set_option maxRecDepth 65536 in
theorem w_runnable : about1.curStatus? = some .runnable := by decide +kernel
set_option maxRecDepth 65536 in
theorem w_alone : about1.alone = true := by decide +kernel
set_option maxRecDepth 65536 in
theorem w_named : about1.methodNamed? x = some theMethod := by decide +kernel
set_option maxRecDepth 65536 in
theorem w_hears : about1.hears theMethod below0 = true := by decide +kernel
set_option maxRecDepth 65536 in
theorem w_ripe : about1.ripe theMethod args0 below0 = true := by decide +kernel
theorem w_running : about1.status = .running := rfl
set_option maxRecDepth 65536 in
theorem w_room : about1.hasRoom e0.platform room_1 = true :=
  launch0.hasRoom_least _ room_1 (by decide +kernel) (by decide +kernel) (by decide +kernel) (by decide +kernel) (by decide +kernel) (by decide +kernel)
theorem allAtoms_all (ts : List Jvm.Cond) (a : Array Jvm.Value) (st : Jvm.State) : (allAtoms ts).before a st = ts.all (fun c => c.before a st) := by
  induction ts with
  | nil => rfl
  | cons c t ih =>
    show (Jvm.Cond.and c (allAtoms t)).before a st = _
    rw [Jvm.Cond.before_and, ih, List.all_cons]
def words1 : List Jvm.Cond := Jvm.Cond.code x code maxLocals ret :: tables_1
/-- a 'code' word, met by the world's own term for the bytes: nothing is compared byte by byte -/
theorem code_word {y : MethodName} {bytes : ByteArray} {mx : Nat} {rt : Option FieldType} {a : Array Value} {s : State} {m : MethodId} {meth : Method} {c : Code} (h1 : s.methodNamed? y = some m) (h2 : s.vm.method? m = some meth) (h3 : meth.code = some c) (h4 : c.code = bytes)
    (h5 : (c.maxLocals == mx && c.exceptionTable.isEmpty && decide (c.maxStack ≤ mostOperands) && decide (meth.sig.returnType = rt) && !meth.locks && decide (parseMethodDescriptor y.desc = some meth.sig)) = true) : (Jvm.Cond.code y bytes mx rt).before a s = true := by
  simp only [Bool.and_eq_true, beq_iff_eq, Bool.not_eq_true', decide_eq_true_eq] at h5
  obtain ⟨⟨⟨⟨⟨g1, g2⟩, g3⟩, g4⟩, g5⟩, g6⟩ := h5
  simp [Cond.before, Cond.holds, Cond.value, h1, h2, h3, h4, g1, g2, g3, g4, g5, g6]
def isCode : Jvm.Cond → Bool
  | .code _ _ _ _ => true
  | _ => false
theorem all_split {L : List Jvm.Cond} {P : Jvm.Cond → Bool} (h1 : L.all (fun c => isCode c || P c) = true) (h2 : ∀ c ∈ L.filter isCode, P c = true) : L.all P = true := by
  refine List.all_eq_true.mpr fun c hc => ?_
  have h := List.all_eq_true.mp h1 c hc
  rcases Bool.eq_false_or_eq_true (isCode c) with hi | hi
  · exact h2 c (List.mem_filter.mpr ⟨hc, hi⟩)
  · simpa [hi] using h
set_option maxRecDepth 65536 in
theorem w_c0 : (Jvm.Cond.code x code maxLocals ret).before args0 about1 = true := code_word (m := ⟨1, 1⟩) (meth := k1m1) (c := k1c1) (by decide +kernel) rfl rfl rfl (by decide +kernel)
set_option maxRecDepth 65536 in
theorem w_c1 : (Jvm.Cond.code ({ cls := "managerie/snmp/Ber$Reader", name := "<init>", desc := "([BII)V" } : Jvm.MethodName) prog_59_method_1_code (4 : Nat) (Option.none : Option Jvm.ClassFile.FieldType)).before args0 about1 = true := code_word (m := ⟨2, 0⟩) (meth := k2m0) (c := k2c0) (by decide +kernel) rfl rfl rfl (by decide +kernel)
set_option maxRecDepth 65536 in
theorem w_c2 : (Jvm.Cond.code ({ cls := "java/lang/Object", name := "<init>", desc := "()V" } : Jvm.MethodName) object_method_1_code (1 : Nat) (Option.none : Option Jvm.ClassFile.FieldType)).before args0 about1 = true := code_word (m := ⟨0, 0⟩) (meth := k0m0) (c := k0c0) (by decide +kernel) rfl rfl rfl (by decide +kernel)
set_option maxRecDepth 65536 in
theorem w_c3 : (Jvm.Cond.code ({ cls := "java/util/Objects", name := "checkFromIndexSize", desc := "(III)I" } : Jvm.MethodName) jdk_31_method_19_code (3 : Nat) (Option.some Jvm.ClassFile.FieldType.int)).before args0 about1 = true := code_word (m := ⟨3, 1⟩) (meth := k3m1) (c := k3c1) (by decide +kernel) rfl rfl rfl (by decide +kernel)
set_option maxRecDepth 65536 in
theorem w_c4 : (Jvm.Cond.code ({ cls := "jdk/internal/util/Preconditions", name := "checkFromIndexSize", desc := "(IIILjava/util/function/BiFunction;)I" } : Jvm.MethodName) jdk_41_method_13_code (4 : Nat) (Option.some Jvm.ClassFile.FieldType.int)).before args0 about1 = true := code_word (m := ⟨4, 1⟩) (meth := k4m1) (c := k4c1) (by decide +kernel) rfl rfl rfl (by decide +kernel)
set_option maxRecDepth 65536 in
theorem w_c5 : (Jvm.Cond.code ({ cls := "managerie/snmp/Ber$Reader", name := "hasMore", desc := "()Z" } : Jvm.MethodName) prog_59_method_2_code (1 : Nat) (Option.some Jvm.ClassFile.FieldType.boolean)).before args0 about1 = true := code_word (m := ⟨2, 1⟩) (meth := k2m1) (c := k2c1) (by decide +kernel) rfl rfl rfl (by decide +kernel)
set_option maxRecDepth 65536 in
theorem w_c6 : (Jvm.Cond.code ({ cls := "managerie/snmp/Ber$Reader", name := "octets", desc := "(I)[B" } : Jvm.MethodName) prog_59_method_12_code (4 : Nat) (Option.some (Jvm.ClassFile.FieldType.array Jvm.ClassFile.FieldType.byte))).before args0 about1 = true := code_word (m := ⟨2, 4⟩) (meth := k2m4) (c := k2c4) (by decide +kernel) rfl rfl rfl (by decide +kernel)
set_option maxRecDepth 65536 in
theorem w_c7 : (Jvm.Cond.code ({ cls := "managerie/snmp/Ber$Reader", name := "open", desc := "(I)I" } : Jvm.MethodName) prog_59_method_17_code (7 : Nat) (Option.some Jvm.ClassFile.FieldType.int)).before args0 about1 = true := code_word (m := ⟨2, 5⟩) (meth := k2m5) (c := k2c5) (by decide +kernel) rfl rfl rfl (by decide +kernel)
set_option maxRecDepth 65536 in
theorem w_c8 : (Jvm.Cond.code ({ cls := "managerie/snmp/Ber$Reader", name := "peekTag", desc := "()I" } : Jvm.MethodName) prog_59_method_4_code (1 : Nat) (Option.some Jvm.ClassFile.FieldType.int)).before args0 about1 = true := code_word (m := ⟨2, 3⟩) (meth := k2m3) (c := k2c3) (by decide +kernel) rfl rfl rfl (by decide +kernel)
set_option maxRecDepth 65536 in
theorem w_c9 : (Jvm.Cond.code ({ cls := "java/util/Arrays", name := "copyOfRange", desc := "([BII)[B" } : Jvm.MethodName) jdk_65_method_132_code (3 : Nat) (Option.some (Jvm.ClassFile.FieldType.array Jvm.ClassFile.FieldType.byte))).before args0 about1 = true := code_word (m := ⟨5, 2⟩) (meth := k5m2) (c := k5c2) (by decide +kernel) rfl rfl rfl (by decide +kernel)
set_option maxRecDepth 65536 in
theorem w_c10 : (Jvm.Cond.code ({ cls := "java/util/Arrays", name := "copyOfRangeByte", desc := "([BII)[B" } : Jvm.MethodName) jdk_65_method_133_code (5 : Nat) (Option.some (Jvm.ClassFile.FieldType.array Jvm.ClassFile.FieldType.byte))).before args0 about1 = true := code_word (m := ⟨5, 3⟩) (meth := k5m3) (c := k5c3) (by decide +kernel) rfl rfl rfl (by decide +kernel)
set_option maxRecDepth 65536 in
theorem w_c11 : (Jvm.Cond.code ({ cls := "java/util/Arrays", name := "checkLength", desc := "(II)V" } : Jvm.MethodName) jdk_65_method_131_code (2 : Nat) (Option.none : Option Jvm.ClassFile.FieldType)).before args0 about1 = true := code_word (m := ⟨5, 1⟩) (meth := k5m1) (c := k5c1) (by decide +kernel) rfl rfl rfl (by decide +kernel)
set_option maxRecDepth 65536 in
theorem w_c12 : (Jvm.Cond.code ({ cls := "java/lang/Math", name := "min", desc := "(II)I" } : Jvm.MethodName) jdk_29_method_69_code (2 : Nat) (Option.some Jvm.ClassFile.FieldType.int)).before args0 about1 = true := code_word (m := ⟨6, 1⟩) (meth := k6m1) (c := k6c1) (by decide +kernel) rfl rfl rfl (by decide +kernel)
set_option maxRecDepth 65536 in
theorem w_c13 : (Jvm.Cond.code ({ cls := "managerie/snmp/Ber$Reader", name := "position", desc := "()I" } : Jvm.MethodName) prog_59_method_3_code (1 : Nat) (Option.some Jvm.ClassFile.FieldType.int)).before args0 about1 = true := code_word (m := ⟨2, 2⟩) (meth := k2m2) (c := k2c2) (by decide +kernel) rfl rfl rfl (by decide +kernel)
def codes1 : List Jvm.Cond := [Jvm.Cond.code x code maxLocals ret, Jvm.Cond.code ({ cls := "managerie/snmp/Ber$Reader", name := "<init>", desc := "([BII)V" } : Jvm.MethodName) prog_59_method_1_code (4 : Nat) (Option.none : Option Jvm.ClassFile.FieldType), Jvm.Cond.code ({ cls := "java/lang/Object", name := "<init>", desc := "()V" } : Jvm.MethodName) object_method_1_code (1 : Nat) (Option.none : Option Jvm.ClassFile.FieldType), Jvm.Cond.code ({ cls := "java/util/Objects", name := "checkFromIndexSize", desc := "(III)I" } : Jvm.MethodName) jdk_31_method_19_code (3 : Nat) (Option.some Jvm.ClassFile.FieldType.int), Jvm.Cond.code ({ cls := "jdk/internal/util/Preconditions", name := "checkFromIndexSize", desc := "(IIILjava/util/function/BiFunction;)I" } : Jvm.MethodName) jdk_41_method_13_code (4 : Nat) (Option.some Jvm.ClassFile.FieldType.int), Jvm.Cond.code ({ cls := "managerie/snmp/Ber$Reader", name := "hasMore", desc := "()Z" } : Jvm.MethodName) prog_59_method_2_code (1 : Nat) (Option.some Jvm.ClassFile.FieldType.boolean), Jvm.Cond.code ({ cls := "managerie/snmp/Ber$Reader", name := "octets", desc := "(I)[B" } : Jvm.MethodName) prog_59_method_12_code (4 : Nat) (Option.some (Jvm.ClassFile.FieldType.array Jvm.ClassFile.FieldType.byte)), Jvm.Cond.code ({ cls := "managerie/snmp/Ber$Reader", name := "open", desc := "(I)I" } : Jvm.MethodName) prog_59_method_17_code (7 : Nat) (Option.some Jvm.ClassFile.FieldType.int), Jvm.Cond.code ({ cls := "managerie/snmp/Ber$Reader", name := "peekTag", desc := "()I" } : Jvm.MethodName) prog_59_method_4_code (1 : Nat) (Option.some Jvm.ClassFile.FieldType.int), Jvm.Cond.code ({ cls := "java/util/Arrays", name := "copyOfRange", desc := "([BII)[B" } : Jvm.MethodName) jdk_65_method_132_code (3 : Nat) (Option.some (Jvm.ClassFile.FieldType.array Jvm.ClassFile.FieldType.byte)), Jvm.Cond.code ({ cls := "java/util/Arrays", name := "copyOfRangeByte", desc := "([BII)[B" } : Jvm.MethodName) jdk_65_method_133_code (5 : Nat) (Option.some (Jvm.ClassFile.FieldType.array Jvm.ClassFile.FieldType.byte)), Jvm.Cond.code ({ cls := "java/util/Arrays", name := "checkLength", desc := "(II)V" } : Jvm.MethodName) jdk_65_method_131_code (2 : Nat) (Option.none : Option Jvm.ClassFile.FieldType), Jvm.Cond.code ({ cls := "java/lang/Math", name := "min", desc := "(II)I" } : Jvm.MethodName) jdk_29_method_69_code (2 : Nat) (Option.some Jvm.ClassFile.FieldType.int), Jvm.Cond.code ({ cls := "managerie/snmp/Ber$Reader", name := "position", desc := "()I" } : Jvm.MethodName) prog_59_method_3_code (1 : Nat) (Option.some Jvm.ClassFile.FieldType.int)]
set_option maxRecDepth 65536 in
theorem codes_eq : words1.filter isCode = codes1 := rfl
theorem w_codes : ∀ c ∈ words1.filter isCode, c.before args0 about1 = true := by
  rw [codes_eq]
  intro c hc
  simp only [codes1, List.mem_cons, List.not_mem_nil, or_false] at hc
  rcases hc with rfl | rfl | rfl | rfl | rfl | rfl | rfl | rfl | rfl | rfl | rfl | rfl | rfl | rfl
  · exact w_c0
  · exact w_c1
  · exact w_c2
  · exact w_c3
  · exact w_c4
  · exact w_c5
  · exact w_c6
  · exact w_c7
  · exact w_c8
  · exact w_c9
  · exact w_c10
  · exact w_c11
  · exact w_c12
  · exact w_c13
set_option maxRecDepth 65536 in
theorem w_t1 : (words1.take 24).all (fun c => isCode c || c.before args0 about1) = true := by decide +kernel
set_option maxRecDepth 65536 in
theorem w_t2 : ((words1.drop 24).take 24).all (fun c => isCode c || c.before args0 about1) = true := by decide +kernel
set_option maxRecDepth 65536 in
theorem w_t3 : ((words1.drop 24).drop 24).all (fun c => isCode c || c.before args0 about1) = true := by decide +kernel
theorem w_tables : (allAtoms (Jvm.Cond.code x code maxLocals ret :: tables_1)).before args0 about1 = true := by
  rw [allAtoms_all]
  show words1.all (fun c => c.before args0 about1) = true
  refine all_split ?_ w_codes
  rw [← List.take_append_drop 24 words1, List.all_append, w_t1, ← List.take_append_drop 24 (words1.drop 24), List.all_append, w_t2, w_t3]
  rfl
set_option maxRecDepth 65536 in
theorem w_case : (Jvm.Cond.and given_1 narrow_1).before args0 about1 = true := by decide +kernel
theorem w_applies : (headSpec (Jvm.Cond.code x code maxLocals ret :: tables_1) room_1).applies x e0.platform about1 = true :=
  (Spec.applies_iff w_frames).mpr ⟨w_running, w_runnable, w_alone, w_named, w_hears, w_ripe, w_room, w_tables⟩
theorem atStart : AtStart classFile x code maxLocals ret World_1 tables_1 room_1 Calls_1 rest_1 Pre_1 launch0 p0 e0 about1 theMethod args0 below0 :=
  ⟨lists_1, trivial, launch0.admits_env _ _ _, launch0.least_env, fairChoices_fair.cas, fairChoices_fair.clock, w_frames, w_args, w_heap, w_applies, trivial, trivial, w_case⟩
end start1
theorem witness_1 : WitnessClaimed_1 := ⟨start1.p0, start1.e0, start1.about1, start1.theMethod, start1.args0, start1.below0, start1.atStart⟩
end Jvm.Pilot.@@N@@
