import JvmDerived
import JvmDerived.Pilot.@@N@@Statement
import JvmDerived.Pilot.@@N@@Code
set_option linter.unusedVariables false
set_option linter.unusedSimpArgs false
namespace Jvm.Pilot.@@N@@
open Jvm Jvm.ClassFile Sem Op Lib Jvm.Free Jvm.Stand Jvm.LawKit Jvm.RoadKit Bundle Jvm.Pilot.@@N@@.Jvm.D
theorem own_w {a0 : Array Value} {Z : State} (hw : ∀ d ∈ tables_1, d.before a0 Z = true) (i : Nat) {d : Jvm.Cond} (h : tables_1[i]? = some d) : d.before a0 Z = true := hw d (List.mem_of_getElem? h)
section Own
variable {p : Program} {l : Launch} {e : Env} {R : Room} {s : State} {m : MethodId} {args : Array Value} {below : List Frame} {meth : Method} {c : Code} {T T' : State} {locs : List Loc} {cells slots C N : Nat} {Q : Option Value → Heap → List Loc → Prop} {g g' : JFrame}
/-- from T with the frame g on top the invocation of s comes to its end: it returns, and Q holds of what it returns, of the heap and of the places written -/
def Go (p : Program) (e : Env) (below : List Frame) (s : State) (C N : Nat) (Q : Option Value → Heap → List Loc → Prop) (T : State) (g : JFrame) : Prop :=
  ∃ s₂ o, Steps p.tables e below (T.setTop g) s₂ ∧ s₂.status = .running ∧ Ended s₂ below o ∧ ∃ v L, o = .returned v ∧ Q v s₂.heap L ∧ FrameEnd s o s₂ L C N
theorem Go.st (h : ∀ t, Steps p.tables e below (T'.setTop g') t → Steps p.tables e below (T.setTop g) t) (k : Go p e below s C N Q T' g') : Go p e below s C N Q T g := by
  obtain ⟨s2, o, h1, h2⟩ := k
  exact ⟨s2, o, h _ h1, h2⟩
theorem Go.enter (q : g = g') (k : Go p e below s C N Q T g') : ∃ s₂ o, Steps p.tables e below (T.setTop g) s₂ ∧ s₂.status = .running ∧ Ended s₂ below o ∧ ∃ v L, o = .returned v ∧ Q v s₂.heap L ∧ FrameEnd s o s₂ L C N := by
  subst q; exact k
theorem Go.fin (X : Stand p l e R s m args below meth c T locs cells slots) (hlk : meth.locks = false) {v : Option Value} (hv : meth.sig.returnType = none → v = none) (hC : cells ≤ C) (hN : slots ≤ N) (hq : Q v T.heap locs)
    (hs : ∀ fs, (∀ (f : JFrame) (acts : List Action), f.method = m → f.locked = none → f.entered = [] → (doReturn e (T.setTop f) acts v).1 = T.setFrames fs) → Steps p.tables e below (T.setTop g) (T.setFrames fs)) : Go p e below s C N Q T g := by
  obtain ⟨fs, hr, hrun, hended, hW, hsame⟩ := X.leave hv hlk
  exact ⟨_, _, hs fs hr, hrun, hended, _, _, rfl, hq, ⟨_, rfl⟩, hW, hsame.mono hC hN⟩
end Own
theorem own_selp {s : State} {args : Array Value} {y : MethodName} {n : Nat} (wi : (Cond.instantiable y.cls n).before args s = true) (wp : (Cond.privateMethod y).before args s = true) (hinst : (Cond.instanceMethod y).before args s = true) (hy : y.cls ≠ "java/lang/invoke/MethodHandle" ∧ y.cls ≠ "java/lang/invoke/VarHandle") : (Cond.selects y.cls y y).before args s = true := by
  obtain ⟨c, k, h1, h2, -, h4, -⟩ := Cond.instantiable_spec wi
  exact Jvm.Stand.selects_self_of_private h1 h2 (by simp only [Bool.or_eq_false_iff] at h4; exact h4.1) (Cond.privateMethod_at wp) hinst hy
theorem own_nst0 {h : Heap} : ∀ x ∈ ([] : List Addr), ∃ cell : Cell, h[x]? = some cell ∧ cell.vm.isStatics = false := fun _ q => by cases q
theorem own_nstS {Z : State} {h : Heap} {a : Addr} {C : String} {ws : List Addr} (E : Exa Z h a C) (q : ∀ x ∈ ws, ∃ cell : Cell, h[x]? = some cell ∧ cell.vm.isStatics = false) : ∀ x ∈ a :: ws, ∃ cell : Cell, h[x]? = some cell ∧ cell.vm.isStatics = false := by
  intro x hx
  rcases List.mem_cons.mp hx with rfl | hx
  · obtain ⟨cell, k, h1, -, -, h4, -⟩ := E; exact ⟨cell, h1, h4⟩
  · exact q x hx
theorem own_staK {Z : State} {h h' : Heap} {C n d : String} {w : Value} {ws : List Addr} (F : Sta Z h C n d w) (K : Keep h h' ws) (q : ∀ x ∈ ws, ∃ cell : Cell, h[x]? = some cell ∧ cell.vm.isStatics = false) : Sta Z h' C n d w := by
  obtain ⟨cf, i, k, f, st, cell, h1, h2, h3, h4, h5, h6, h7⟩ := F
  refine ⟨cf, i, k, f, st, cell, h1, h2, h3, h4, K.2.1 st cell h5 (fun hm => ?_), h6, h7⟩
  obtain ⟨c2, e1, e2⟩ := q st hm
  rw [h5] at e1; cases e1; rw [h6] at e2; cases e2

section OwnG
variable {p : Program} {l : Launch} {e : Env} {R : Room} {s : State} {m : MethodId} {args : Array Value} {below : List Frame} {meth : Method} {c : Code} {T : State} {locs : List Loc} {cells slots C N : Nat} {Q : Option Value → Heap → List Loc → Prop} {pc pc' : Nat} {L L' : Array Slot} {S : List Value}
theorem G_iloadN (X : Stand p l e R s m args below meth c T locs cells slots) (hx : p.tables.exec = Jvm.exec) {k : Fin 4} {v : Int32} (hp : pc + 1 = pc') (hd : decode c.code pc = .ok (.iload_n k, 1)) (hl : L[k.val]? = some (.val (.int v))) (h : Go p e below s C N Q T (mkF m pc' L (.int v :: S))) : Go p e below s C N Q T (mkF m pc L S) := by
  subst hp; exact Go.st (fun _ k => XS.iloadN X.here hx rfl hd hl k) h
theorem G_iload (X : Stand p l e R s m args below meth c T locs cells slots) (hx : p.tables.exec = Jvm.exec) {k : Nat} {v : Int32} (hp : pc + 2 = pc') (hd : decode c.code pc = .ok (.iload k, 2)) (hl : L[k]? = some (.val (.int v))) (h : Go p e below s C N Q T (mkF m pc' L (.int v :: S))) : Go p e below s C N Q T (mkF m pc L S) := by
  subst hp; exact Go.st (fun _ k => XS.iload X.here hx rfl hd hl k) h
theorem G_istoreN (X : Stand p l e R s m args below meth c T locs cells slots) (hx : p.tables.exec = Jvm.exec) {k : Fin 4} {v : Int32} (hp : pc + 1 = pc') (hd : decode c.code pc = .ok (.istore_n k, 1)) (hl : storeLocals L k.val (.int v) = some L') (h : Go p e below s C N Q T (mkF m pc' L' S)) : Go p e below s C N Q T (mkF m pc L (.int v :: S)) := by
  subst hp; exact Go.st (fun _ k => XS.istoreN X.here hx rfl hd rfl hl k) h
theorem G_istore (X : Stand p l e R s m args below meth c T locs cells slots) (hx : p.tables.exec = Jvm.exec) {k : Nat} {v : Int32} (hp : pc + 2 = pc') (hd : decode c.code pc = .ok (.istore k, 2)) (hl : storeLocals L k (.int v) = some L') (h : Go p e below s C N Q T (mkF m pc' L' S)) : Go p e below s C N Q T (mkF m pc L (.int v :: S)) := by
  subst hp; exact Go.st (fun _ k => XS.istore X.here hx rfl hd rfl hl k) h
theorem G_lloadN (X : Stand p l e R s m args below meth c T locs cells slots) (hx : p.tables.exec = Jvm.exec) {k : Fin 4} {v : Int64} (hp : pc + 1 = pc') (hd : decode c.code pc = .ok (.lload_n k, 1)) (hl : L[k.val]? = some (.val (.long v))) (h : Go p e below s C N Q T (mkF m pc' L (.long v :: S))) : Go p e below s C N Q T (mkF m pc L S) := by
  subst hp; exact Go.st (fun _ k => XS.lloadN X.here hx rfl hd hl k) h
theorem G_lload (X : Stand p l e R s m args below meth c T locs cells slots) (hx : p.tables.exec = Jvm.exec) {k : Nat} {v : Int64} (hp : pc + 2 = pc') (hd : decode c.code pc = .ok (.lload k, 2)) (hl : L[k]? = some (.val (.long v))) (h : Go p e below s C N Q T (mkF m pc' L (.long v :: S))) : Go p e below s C N Q T (mkF m pc L S) := by
  subst hp; exact Go.st (fun _ k => XS.lload X.here hx rfl hd hl k) h
theorem G_lstoreN (X : Stand p l e R s m args below meth c T locs cells slots) (hx : p.tables.exec = Jvm.exec) {k : Fin 4} {v : Int64} (hp : pc + 1 = pc') (hd : decode c.code pc = .ok (.lstore_n k, 1)) (hl : storeLocals L k.val (.long v) = some L') (h : Go p e below s C N Q T (mkF m pc' L' S)) : Go p e below s C N Q T (mkF m pc L (.long v :: S)) := by
  subst hp; exact Go.st (fun _ k => XS.lstoreN X.here hx rfl hd rfl hl k) h
theorem G_lstore (X : Stand p l e R s m args below meth c T locs cells slots) (hx : p.tables.exec = Jvm.exec) {k : Nat} {v : Int64} (hp : pc + 2 = pc') (hd : decode c.code pc = .ok (.lstore k, 2)) (hl : storeLocals L k (.long v) = some L') (h : Go p e below s C N Q T (mkF m pc' L' S)) : Go p e below s C N Q T (mkF m pc L (.long v :: S)) := by
  subst hp; exact Go.st (fun _ k => XS.lstore X.here hx rfl hd rfl hl k) h
theorem G_aloadN (X : Stand p l e R s m args below meth c T locs cells slots) (hx : p.tables.exec = Jvm.exec) {k : Fin 4} {v : Value} (hp : pc + 1 = pc') (hd : decode c.code pc = .ok (.aload_n k, 1)) (hl : L[k.val]? = some (.val v)) (hv : v.isRef = true) (h : Go p e below s C N Q T (mkF m pc' L (v :: S))) : Go p e below s C N Q T (mkF m pc L S) := by
  subst hp; exact Go.st (fun _ k => XS.aloadN X.here hx rfl hd hl hv k) h
theorem G_aload (X : Stand p l e R s m args below meth c T locs cells slots) (hx : p.tables.exec = Jvm.exec) {k : Nat} {v : Value} (hp : pc + 2 = pc') (hd : decode c.code pc = .ok (.aload k, 2)) (hl : L[k]? = some (.val v)) (hv : v.isRef = true) (h : Go p e below s C N Q T (mkF m pc' L (v :: S))) : Go p e below s C N Q T (mkF m pc L S) := by
  subst hp; exact Go.st (fun _ k => XS.aload X.here hx rfl hd hl hv k) h
theorem G_astoreN (X : Stand p l e R s m args below meth c T locs cells slots) (hx : p.tables.exec = Jvm.exec) {k : Fin 4} {v : Value} (hp : pc + 1 = pc') (hd : decode c.code pc = .ok (.astore_n k, 1)) (hv : v.isRef = true) (hl : storeLocals L k.val v = some L') (h : Go p e below s C N Q T (mkF m pc' L' S)) : Go p e below s C N Q T (mkF m pc L (v :: S)) := by
  subst hp; exact Go.st (fun _ k => XS.astoreN X.here hx rfl hd rfl hv hl k) h
theorem G_astore (X : Stand p l e R s m args below meth c T locs cells slots) (hx : p.tables.exec = Jvm.exec) {k : Nat} {v : Value} (hp : pc + 2 = pc') (hd : decode c.code pc = .ok (.astore k, 2)) (hv : v.isRef = true) (hl : storeLocals L k v = some L') (h : Go p e below s C N Q T (mkF m pc' L' S)) : Go p e below s C N Q T (mkF m pc L (v :: S)) := by
  subst hp; exact Go.st (fun _ k => XS.astore X.here hx rfl hd rfl hv hl k) h
theorem G_iconst (X : Stand p l e R s m args below meth c T locs cells slots) (hx : p.tables.exec = Jvm.exec) {i : Int} {z : Int32} (hp : pc + 1 = pc') (hd : decode c.code pc = .ok (.iconst i, 1)) (hz : Int32.ofInt i = z) (h : Go p e below s C N Q T (mkF m pc' L (.int z :: S))) : Go p e below s C N Q T (mkF m pc L S) := by
  subst hp; exact Go.st (fun _ k => XS.iconst X.here hx rfl hd (by rw [hz]; exact k)) h
theorem G_bipush (X : Stand p l e R s m args below meth c T locs cells slots) (hx : p.tables.exec = Jvm.exec) {i : Int} {z : Int32} (hp : pc + 2 = pc') (hd : decode c.code pc = .ok (.bipush i, 2)) (hz : (Int8.ofInt i).toInt32 = z) (h : Go p e below s C N Q T (mkF m pc' L (.int z :: S))) : Go p e below s C N Q T (mkF m pc L S) := by
  subst hp; exact Go.st (fun _ k => XS.bipush X.here hx rfl hd (by rw [hz]; exact k)) h
theorem G_sipush (X : Stand p l e R s m args below meth c T locs cells slots) (hx : p.tables.exec = Jvm.exec) {i : Int} {z : Int32} (hp : pc + 3 = pc') (hd : decode c.code pc = .ok (.sipush i, 3)) (hz : (Int16.ofInt i).toInt32 = z) (h : Go p e below s C N Q T (mkF m pc' L (.int z :: S))) : Go p e below s C N Q T (mkF m pc L S) := by
  subst hp; exact Go.st (fun _ k => XS.sipush X.here hx rfl hd (by rw [hz]; exact k)) h
theorem G_lconst (X : Stand p l e R s m args below meth c T locs cells slots) (hx : p.tables.exec = Jvm.exec) {i : Fin 2} {z : Int64} (hp : pc + 1 = pc') (hd : decode c.code pc = .ok (.lconst i, 1)) (hz : Int64.ofNat i = z) (h : Go p e below s C N Q T (mkF m pc' L (.long z :: S))) : Go p e below s C N Q T (mkF m pc L S) := by
  subst hp; exact Go.st (fun _ k => XS.lconst X.here hx rfl hd (by rw [hz]; exact k)) h
theorem G_aconstNull (X : Stand p l e R s m args below meth c T locs cells slots) (hx : p.tables.exec = Jvm.exec)  (hp : pc + 1 = pc') (hd : decode c.code pc = .ok (.aconst_null, 1))  (h : Go p e below s C N Q T (mkF m pc' L (.null :: S))) : Go p e below s C N Q T (mkF m pc L S) := by
  subst hp; exact Go.st (fun _ k => XS.aconstNull X.here hx rfl hd k) h
theorem G_iadd (X : Stand p l e R s m args below meth c T locs cells slots) (hx : p.tables.exec = Jvm.exec) {x y : Int32} (hp : pc + 1 = pc') (hd : decode c.code pc = .ok (.iadd, 1))  (h : Go p e below s C N Q T (mkF m pc' L (.int (x + y) :: S))) : Go p e below s C N Q T (mkF m pc L (.int y :: .int x :: S)) := by
  subst hp; exact Go.st (fun _ k => XS.iadd X.here hx rfl hd rfl k) h
theorem G_isub (X : Stand p l e R s m args below meth c T locs cells slots) (hx : p.tables.exec = Jvm.exec) {x y : Int32} (hp : pc + 1 = pc') (hd : decode c.code pc = .ok (.isub, 1))  (h : Go p e below s C N Q T (mkF m pc' L (.int (x - y) :: S))) : Go p e below s C N Q T (mkF m pc L (.int y :: .int x :: S)) := by
  subst hp; exact Go.st (fun _ k => XS.isub X.here hx rfl hd rfl k) h
theorem G_imul (X : Stand p l e R s m args below meth c T locs cells slots) (hx : p.tables.exec = Jvm.exec) {x y : Int32} (hp : pc + 1 = pc') (hd : decode c.code pc = .ok (.imul, 1))  (h : Go p e below s C N Q T (mkF m pc' L (.int (x * y) :: S))) : Go p e below s C N Q T (mkF m pc L (.int y :: .int x :: S)) := by
  subst hp; exact Go.st (fun _ k => XS.imul X.here hx rfl hd rfl k) h
theorem G_iand (X : Stand p l e R s m args below meth c T locs cells slots) (hx : p.tables.exec = Jvm.exec) {x y : Int32} (hp : pc + 1 = pc') (hd : decode c.code pc = .ok (.iand, 1))  (h : Go p e below s C N Q T (mkF m pc' L (.int (x &&& y) :: S))) : Go p e below s C N Q T (mkF m pc L (.int y :: .int x :: S)) := by
  subst hp; exact Go.st (fun _ k => XS.iand X.here hx rfl hd rfl k) h
theorem G_ior (X : Stand p l e R s m args below meth c T locs cells slots) (hx : p.tables.exec = Jvm.exec) {x y : Int32} (hp : pc + 1 = pc') (hd : decode c.code pc = .ok (.ior, 1))  (h : Go p e below s C N Q T (mkF m pc' L (.int (x ||| y) :: S))) : Go p e below s C N Q T (mkF m pc L (.int y :: .int x :: S)) := by
  subst hp; exact Go.st (fun _ k => XS.ior X.here hx rfl hd rfl k) h
theorem G_ixor (X : Stand p l e R s m args below meth c T locs cells slots) (hx : p.tables.exec = Jvm.exec) {x y : Int32} (hp : pc + 1 = pc') (hd : decode c.code pc = .ok (.ixor, 1))  (h : Go p e below s C N Q T (mkF m pc' L (.int (x ^^^ y) :: S))) : Go p e below s C N Q T (mkF m pc L (.int y :: .int x :: S)) := by
  subst hp; exact Go.st (fun _ k => XS.ixor X.here hx rfl hd rfl k) h
theorem G_ishl (X : Stand p l e R s m args below meth c T locs cells slots) (hx : p.tables.exec = Jvm.exec) {x y : Int32} (hp : pc + 1 = pc') (hd : decode c.code pc = .ok (.ishl, 1))  (h : Go p e below s C N Q T (mkF m pc' L (.int (x <<< (y &&& 31)) :: S))) : Go p e below s C N Q T (mkF m pc L (.int y :: .int x :: S)) := by
  subst hp; exact Go.st (fun _ k => XS.ishl X.here hx rfl hd rfl k) h
theorem G_ishr (X : Stand p l e R s m args below meth c T locs cells slots) (hx : p.tables.exec = Jvm.exec) {x y : Int32} (hp : pc + 1 = pc') (hd : decode c.code pc = .ok (.ishr, 1))  (h : Go p e below s C N Q T (mkF m pc' L (.int (x >>> (y &&& 31)) :: S))) : Go p e below s C N Q T (mkF m pc L (.int y :: .int x :: S)) := by
  subst hp; exact Go.st (fun _ k => XS.ishr X.here hx rfl hd rfl k) h
theorem G_iushr (X : Stand p l e R s m args below meth c T locs cells slots) (hx : p.tables.exec = Jvm.exec) {x y : Int32} (hp : pc + 1 = pc') (hd : decode c.code pc = .ok (.iushr, 1))  (h : Go p e below s C N Q T (mkF m pc' L (.int ((x.toUInt32 >>> (y &&& 31).toUInt32).toInt32) :: S))) : Go p e below s C N Q T (mkF m pc L (.int y :: .int x :: S)) := by
  subst hp; exact Go.st (fun _ k => XS.iushr X.here hx rfl hd rfl k) h
theorem G_ladd (X : Stand p l e R s m args below meth c T locs cells slots) (hx : p.tables.exec = Jvm.exec) {x y : Int64} (hp : pc + 1 = pc') (hd : decode c.code pc = .ok (.ladd, 1))  (h : Go p e below s C N Q T (mkF m pc' L (.long (x + y) :: S))) : Go p e below s C N Q T (mkF m pc L (.long y :: .long x :: S)) := by
  subst hp; exact Go.st (fun _ k => XS.ladd X.here hx rfl hd rfl k) h
theorem G_lsub (X : Stand p l e R s m args below meth c T locs cells slots) (hx : p.tables.exec = Jvm.exec) {x y : Int64} (hp : pc + 1 = pc') (hd : decode c.code pc = .ok (.lsub, 1))  (h : Go p e below s C N Q T (mkF m pc' L (.long (x - y) :: S))) : Go p e below s C N Q T (mkF m pc L (.long y :: .long x :: S)) := by
  subst hp; exact Go.st (fun _ k => XS.lsub X.here hx rfl hd rfl k) h
theorem G_lmul (X : Stand p l e R s m args below meth c T locs cells slots) (hx : p.tables.exec = Jvm.exec) {x y : Int64} (hp : pc + 1 = pc') (hd : decode c.code pc = .ok (.lmul, 1))  (h : Go p e below s C N Q T (mkF m pc' L (.long (x * y) :: S))) : Go p e below s C N Q T (mkF m pc L (.long y :: .long x :: S)) := by
  subst hp; exact Go.st (fun _ k => XS.lmul X.here hx rfl hd rfl k) h
theorem G_land (X : Stand p l e R s m args below meth c T locs cells slots) (hx : p.tables.exec = Jvm.exec) {x y : Int64} (hp : pc + 1 = pc') (hd : decode c.code pc = .ok (.land, 1))  (h : Go p e below s C N Q T (mkF m pc' L (.long (x &&& y) :: S))) : Go p e below s C N Q T (mkF m pc L (.long y :: .long x :: S)) := by
  subst hp; exact Go.st (fun _ k => XS.land X.here hx rfl hd rfl k) h
theorem G_lor (X : Stand p l e R s m args below meth c T locs cells slots) (hx : p.tables.exec = Jvm.exec) {x y : Int64} (hp : pc + 1 = pc') (hd : decode c.code pc = .ok (.lor, 1))  (h : Go p e below s C N Q T (mkF m pc' L (.long (x ||| y) :: S))) : Go p e below s C N Q T (mkF m pc L (.long y :: .long x :: S)) := by
  subst hp; exact Go.st (fun _ k => XS.lor X.here hx rfl hd rfl k) h
theorem G_lxor (X : Stand p l e R s m args below meth c T locs cells slots) (hx : p.tables.exec = Jvm.exec) {x y : Int64} (hp : pc + 1 = pc') (hd : decode c.code pc = .ok (.lxor, 1))  (h : Go p e below s C N Q T (mkF m pc' L (.long (x ^^^ y) :: S))) : Go p e below s C N Q T (mkF m pc L (.long y :: .long x :: S)) := by
  subst hp; exact Go.st (fun _ k => XS.lxor X.here hx rfl hd rfl k) h
theorem G_lshl (X : Stand p l e R s m args below meth c T locs cells slots) (hx : p.tables.exec = Jvm.exec) {x : Int64} {y : Int32} (hp : pc + 1 = pc') (hd : decode c.code pc = .ok (.lshl, 1))  (h : Go p e below s C N Q T (mkF m pc' L (.long (x <<< (y &&& 0x3f).toInt64) :: S))) : Go p e below s C N Q T (mkF m pc L (.int y :: .long x :: S)) := by
  subst hp; exact Go.st (fun _ k => XS.lshl X.here hx rfl hd rfl k) h
theorem G_lshr (X : Stand p l e R s m args below meth c T locs cells slots) (hx : p.tables.exec = Jvm.exec) {x : Int64} {y : Int32} (hp : pc + 1 = pc') (hd : decode c.code pc = .ok (.lshr, 1))  (h : Go p e below s C N Q T (mkF m pc' L (.long (x >>> (y &&& 0x3f).toInt64) :: S))) : Go p e below s C N Q T (mkF m pc L (.int y :: .long x :: S)) := by
  subst hp; exact Go.st (fun _ k => XS.lshr X.here hx rfl hd rfl k) h
theorem G_lushr (X : Stand p l e R s m args below meth c T locs cells slots) (hx : p.tables.exec = Jvm.exec) {x : Int64} {y : Int32} (hp : pc + 1 = pc') (hd : decode c.code pc = .ok (.lushr, 1))  (h : Go p e below s C N Q T (mkF m pc' L (.long ((x.toUInt64 >>> (y &&& 0x3f).toInt64.toUInt64).toInt64) :: S))) : Go p e below s C N Q T (mkF m pc L (.int y :: .long x :: S)) := by
  subst hp; exact Go.st (fun _ k => XS.lushr X.here hx rfl hd rfl k) h
theorem G_idiv (X : Stand p l e R s m args below meth c T locs cells slots) (hx : p.tables.exec = Jvm.exec) {x y : Int32} (hp : pc + 1 = pc') (hd : decode c.code pc = .ok (.idiv, 1)) (hy : y ≠ 0) (h : Go p e below s C N Q T (mkF m pc' L (.int (x / y) :: S))) : Go p e below s C N Q T (mkF m pc L (.int y :: .int x :: S)) := by
  subst hp; exact Go.st (fun _ k => XS.idiv X.here hx rfl hd rfl hy k) h
theorem G_irem (X : Stand p l e R s m args below meth c T locs cells slots) (hx : p.tables.exec = Jvm.exec) {x y : Int32} (hp : pc + 1 = pc') (hd : decode c.code pc = .ok (.irem, 1)) (hy : y ≠ 0) (h : Go p e below s C N Q T (mkF m pc' L (.int (x % y) :: S))) : Go p e below s C N Q T (mkF m pc L (.int y :: .int x :: S)) := by
  subst hp; exact Go.st (fun _ k => iremM X hx rfl hd rfl hy k) h
theorem G_ldiv (X : Stand p l e R s m args below meth c T locs cells slots) (hx : p.tables.exec = Jvm.exec) {x y : Int64} (hp : pc + 1 = pc') (hd : decode c.code pc = .ok (.ldiv, 1)) (hy : y ≠ 0) (h : Go p e below s C N Q T (mkF m pc' L (.long (x / y) :: S))) : Go p e below s C N Q T (mkF m pc L (.long y :: .long x :: S)) := by
  subst hp; exact Go.st (fun _ k => XS.ldiv X.here hx rfl hd rfl hy k) h
theorem G_lrem (X : Stand p l e R s m args below meth c T locs cells slots) (hx : p.tables.exec = Jvm.exec) {x y : Int64} (hp : pc + 1 = pc') (hd : decode c.code pc = .ok (.lrem, 1)) (hy : y ≠ 0) (h : Go p e below s C N Q T (mkF m pc' L (.long (x % y) :: S))) : Go p e below s C N Q T (mkF m pc L (.long y :: .long x :: S)) := by
  subst hp; exact Go.st (fun _ k => XS.lrem X.here hx rfl hd rfl hy (by rw [lrem_mod]; exact k)) h
theorem G_ineg (X : Stand p l e R s m args below meth c T locs cells slots) (hx : p.tables.exec = Jvm.exec) {x : Int32} (hp : pc + 1 = pc') (hd : decode c.code pc = .ok (.ineg, 1))  (h : Go p e below s C N Q T (mkF m pc' L (.int (-x) :: S))) : Go p e below s C N Q T (mkF m pc L (.int x :: S)) := by
  subst hp; exact Go.st (fun _ k => XS.ineg X.here hx rfl hd rfl k) h
theorem G_lneg (X : Stand p l e R s m args below meth c T locs cells slots) (hx : p.tables.exec = Jvm.exec) {x : Int64} (hp : pc + 1 = pc') (hd : decode c.code pc = .ok (.lneg, 1))  (h : Go p e below s C N Q T (mkF m pc' L (.long (-x) :: S))) : Go p e below s C N Q T (mkF m pc L (.long x :: S)) := by
  subst hp; exact Go.st (fun _ k => XS.lneg X.here hx rfl hd rfl k) h
theorem G_i2l (X : Stand p l e R s m args below meth c T locs cells slots) (hx : p.tables.exec = Jvm.exec) {x : Int32} (hp : pc + 1 = pc') (hd : decode c.code pc = .ok (.i2l, 1))  (h : Go p e below s C N Q T (mkF m pc' L (.long (x.toInt64) :: S))) : Go p e below s C N Q T (mkF m pc L (.int x :: S)) := by
  subst hp; exact Go.st (fun _ k => XS.i2l X.here hx rfl hd rfl k) h
theorem G_l2i (X : Stand p l e R s m args below meth c T locs cells slots) (hx : p.tables.exec = Jvm.exec) {x : Int64} (hp : pc + 1 = pc') (hd : decode c.code pc = .ok (.l2i, 1))  (h : Go p e below s C N Q T (mkF m pc' L (.int (x.toInt32) :: S))) : Go p e below s C N Q T (mkF m pc L (.long x :: S)) := by
  subst hp; exact Go.st (fun _ k => XS.l2i X.here hx rfl hd rfl k) h
theorem G_i2b (X : Stand p l e R s m args below meth c T locs cells slots) (hx : p.tables.exec = Jvm.exec) {x : Int32} (hp : pc + 1 = pc') (hd : decode c.code pc = .ok (.i2b, 1))  (h : Go p e below s C N Q T (mkF m pc' L (.int (x.toInt8.toInt32) :: S))) : Go p e below s C N Q T (mkF m pc L (.int x :: S)) := by
  subst hp; exact Go.st (fun _ k => XS.i2b X.here hx rfl hd rfl k) h
theorem G_i2s (X : Stand p l e R s m args below meth c T locs cells slots) (hx : p.tables.exec = Jvm.exec) {x : Int32} (hp : pc + 1 = pc') (hd : decode c.code pc = .ok (.i2s, 1))  (h : Go p e below s C N Q T (mkF m pc' L (.int (x.toInt16.toInt32) :: S))) : Go p e below s C N Q T (mkF m pc L (.int x :: S)) := by
  subst hp; exact Go.st (fun _ k => XS.i2s X.here hx rfl hd rfl k) h
theorem G_i2c (X : Stand p l e R s m args below meth c T locs cells slots) (hx : p.tables.exec = Jvm.exec) {x : Int32} (hp : pc + 1 = pc') (hd : decode c.code pc = .ok (.i2c, 1))  (h : Go p e below s C N Q T (mkF m pc' L (.int (x.toUInt32.toUInt16.toUInt32.toInt32) :: S))) : Go p e below s C N Q T (mkF m pc L (.int x :: S)) := by
  subst hp; exact Go.st (fun _ k => XS.i2c X.here hx rfl hd rfl k) h
theorem G_lcmp (X : Stand p l e R s m args below meth c T locs cells slots) (hx : p.tables.exec = Jvm.exec) {x y : Int64} (hp : pc + 1 = pc') (hd : decode c.code pc = .ok (.lcmp, 1))  (h : Go p e below s C N Q T (mkF m pc' L (.int (lcmpW x y) :: S))) : Go p e below s C N Q T (mkF m pc L (.long y :: .long x :: S)) := by
  subst hp; exact Go.st (fun _ k => XS.lcmp X.here hx rfl hd rfl k) h
theorem G_iinc (X : Stand p l e R s m args below meth c T locs cells slots) (hx : p.tables.exec = Jvm.exec) {k : Nat} {cst : Int} {x z : Int32} (hp : pc + 3 = pc') (hd : decode c.code pc = .ok (.iinc k cst, 3)) (hl : L[k]? = some (.val (.int x))) (hz : x + Int32.ofInt cst = z) (hl' : storeLocals L k (.int z) = some L') (h : Go p e below s C N Q T (mkF m pc' L' S)) : Go p e below s C N Q T (mkF m pc L S) := by
  subst hp; exact Go.st (fun _ k => XS.iinc X.here hx rfl hd hl (by rw [hz]; exact hl') k) h
theorem G_dup (X : Stand p l e R s m args below meth c T locs cells slots) (hx : p.tables.exec = Jvm.exec) {x : Value} (hp : pc + 1 = pc') (hd : decode c.code pc = .ok (.dup, 1)) (hc : x.category = 1) (h : Go p e below s C N Q T (mkF m pc' L (x :: x :: S))) : Go p e below s C N Q T (mkF m pc L (x :: S)) := by
  subst hp; exact Go.st (fun _ k => XS.dup X.here hx rfl hd rfl hc k) h
theorem G_pop (X : Stand p l e R s m args below meth c T locs cells slots) (hx : p.tables.exec = Jvm.exec) {x : Value} (hp : pc + 1 = pc') (hd : decode c.code pc = .ok (.pop, 1)) (hc : x.category = 1) (h : Go p e below s C N Q T (mkF m pc' L S)) : Go p e below s C N Q T (mkF m pc L (x :: S)) := by
  subst hp; exact Go.st (fun _ k => XS.pop X.here hx rfl hd rfl hc k) h
theorem G_dupX1 (X : Stand p l e R s m args below meth c T locs cells slots) (hx : p.tables.exec = Jvm.exec) {x y : Value} (hp : pc + 1 = pc') (hd : decode c.code pc = .ok (.dup_x1, 1)) (hc : x.category = 1) (hc' : y.category = 1) (h : Go p e below s C N Q T (mkF m pc' L (x :: y :: x :: S))) : Go p e below s C N Q T (mkF m pc L (x :: y :: S)) := by
  subst hp; exact Go.st (fun _ k => XS.dupX1 X.here hx rfl hd rfl hc hc' k) h
theorem G_goto (X : Stand p l e R s m args below meth c T locs cells slots) (hx : p.tables.exec = Jvm.exec)  {o : Int} (hd : decode c.code pc = .ok (.goto o, 3))  (ho : 0 ≤ (pc : Int) + o) (hp : ((pc : Int) + o).toNat = pc') (h : Go p e below s C N Q T (mkF m pc' L S)) : Go p e below s C N Q T (mkF m pc L S) :=
  Go.st (fun _ k => XS.goto X.here hx rfl rfl hd ho hp k) h
theorem G_ifYes (X : Stand p l e R s m args below meth c T locs cells slots) (hx : p.tables.exec = Jvm.exec) {cd : ClassFile.Cond} {x : Int32} {o : Int} (hd : decode c.code pc = .ok (.ifCond cd o, 3)) (hc : ifCond.holds cd x = true) (ho : 0 ≤ (pc : Int) + o) (hp : ((pc : Int) + o).toNat = pc') (h : Go p e below s C N Q T (mkF m pc' L S)) : Go p e below s C N Q T (mkF m pc L (.int x :: S)) :=
  Go.st (fun _ k => XS.ifYes X.here hx rfl rfl hd rfl hc ho hp k) h
theorem G_icmpYes (X : Stand p l e R s m args below meth c T locs cells slots) (hx : p.tables.exec = Jvm.exec) {cd : ClassFile.Cond} {x y : Int32} {o : Int} (hd : decode c.code pc = .ok (.if_icmp cd o, 3)) (hc : if_icmp.holds cd x y = true) (ho : 0 ≤ (pc : Int) + o) (hp : ((pc : Int) + o).toNat = pc') (h : Go p e below s C N Q T (mkF m pc' L S)) : Go p e below s C N Q T (mkF m pc L (.int y :: .int x :: S)) :=
  Go.st (fun _ k => XS.icmpYes X.here hx rfl rfl hd rfl hc ho hp k) h
theorem G_ifnullYes (X : Stand p l e R s m args below meth c T locs cells slots) (hx : p.tables.exec = Jvm.exec)  {o : Int} (hd : decode c.code pc = .ok (.ifnull o, 3))  (ho : 0 ≤ (pc : Int) + o) (hp : ((pc : Int) + o).toNat = pc') (h : Go p e below s C N Q T (mkF m pc' L S)) : Go p e below s C N Q T (mkF m pc L (.null :: S)) :=
  Go.st (fun _ k => XS.ifnullYes X.here hx rfl rfl hd rfl ho hp k) h
theorem G_ifnonnullYes (X : Stand p l e R s m args below meth c T locs cells slots) (hx : p.tables.exec = Jvm.exec) {b : Addr} {o : Int} (hd : decode c.code pc = .ok (.ifnonnull o, 3))  (ho : 0 ≤ (pc : Int) + o) (hp : ((pc : Int) + o).toNat = pc') (h : Go p e below s C N Q T (mkF m pc' L S)) : Go p e below s C N Q T (mkF m pc L (.ref b :: S)) :=
  Go.st (fun _ k => XS.ifnonnullYes X.here hx rfl rfl hd rfl ho hp k) h
theorem G_ifNo (X : Stand p l e R s m args below meth c T locs cells slots) (hx : p.tables.exec = Jvm.exec) {cd : ClassFile.Cond} {x : Int32} {o : Int} (hp : pc + 3 = pc') (hd : decode c.code pc = .ok (.ifCond cd o, 3)) (hc : ifCond.holds cd x = false) (h : Go p e below s C N Q T (mkF m pc' L S)) : Go p e below s C N Q T (mkF m pc L (.int x :: S)) := by
  subst hp; exact Go.st (fun _ k => XS.ifNo X.here hx rfl hd rfl hc k) h
theorem G_icmpNo (X : Stand p l e R s m args below meth c T locs cells slots) (hx : p.tables.exec = Jvm.exec) {cd : ClassFile.Cond} {x y : Int32} {o : Int} (hp : pc + 3 = pc') (hd : decode c.code pc = .ok (.if_icmp cd o, 3)) (hc : if_icmp.holds cd x y = false) (h : Go p e below s C N Q T (mkF m pc' L S)) : Go p e below s C N Q T (mkF m pc L (.int y :: .int x :: S)) := by
  subst hp; exact Go.st (fun _ k => XS.icmpNo X.here hx rfl hd rfl hc k) h
theorem G_ifnullNo (X : Stand p l e R s m args below meth c T locs cells slots) (hx : p.tables.exec = Jvm.exec) {b : Addr} {o : Int} (hp : pc + 3 = pc') (hd : decode c.code pc = .ok (.ifnull o, 3))  (h : Go p e below s C N Q T (mkF m pc' L S)) : Go p e below s C N Q T (mkF m pc L (.ref b :: S)) := by
  subst hp; exact Go.st (fun _ k => XS.ifnullNo X.here hx rfl hd rfl k) h
theorem G_ifnonnullNo (X : Stand p l e R s m args below meth c T locs cells slots) (hx : p.tables.exec = Jvm.exec) {o : Int} (hp : pc + 3 = pc') (hd : decode c.code pc = .ok (.ifnonnull o, 3))  (h : Go p e below s C N Q T (mkF m pc' L S)) : Go p e below s C N Q T (mkF m pc L (.null :: S)) := by
  subst hp; exact Go.st (fun _ k => XS.ifnonnullNo X.here hx rfl hd rfl k) h
theorem G_ldc (X : Stand p l e R s m args below meth c T locs cells slots) (hx : p.tables.exec = Jvm.exec) (hp : pc + 2 = pc') {own : String} {index : Nat} {v : Int32} (hown : s.vm.findClass own = some m.cls) (hw : (Cond.constant own index v).before args s = true) (hd : decode c.code pc = .ok (.ldc index, 2)) (h : Go p e below s C N Q T (mkF m pc' L (.int v :: S))) : Go p e below s C N Q T (mkF m pc L S) := by
  subst hp; exact Go.st (X.ldcInt hx hown hw (g := mkF m pc L S) rfl hd) h
theorem G_ldc2 (X : Stand p l e R s m args below meth c T locs cells slots) (hx : p.tables.exec = Jvm.exec) (hp : pc + 3 = pc') {own : String} {index : Nat} {v : Int64} (hown : s.vm.findClass own = some m.cls) (hw : (Cond.constantLong own index v).before args s = true) (hd : decode c.code pc = .ok (.ldc2_w index, 3)) (h : Go p e below s C N Q T (mkF m pc' L (.long v :: S))) : Go p e below s C N Q T (mkF m pc L S) := by
  subst hp; exact Go.st (X.ldc2Long hx hown hw (g := mkF m pc L S) rfl hd) h
end OwnG

section OwnArr
variable {p : Program} {l : Launch} {e : Env} {R : Room} {s : State} {m : MethodId} {args : Array Value} {below : List Frame} {meth : Method} {c : Code} {T T' : State} {locs : List Loc} {cells slots : Nat} {Z : State} {a0 : Array Value} {h h' : Heap} {a b : Addr} {ty : FieldType} {vs : List Value} {xs : List Int32} {ys : List Int64} {v : Value} {sl : Nat} {ws : List Addr}
/-- the array at a, of components ty, holds just these values -/
def AV (Z : State) (h : Heap) (a : Addr) (ty : FieldType) (vs : List Value) : Prop := ∃ c : Cell, Arr Z h a c ty ∧ c.slots = vs.toArray ∧ vs.length < 2147483648 ∧ ∀ v ∈ vs, fits ty v = true
def AI (Z : State) (h : Heap) (a : Addr) (ty : FieldType) (xs : List Int32) : Prop := AV Z h a ty (xs.map Value.int)
def AJ (Z : State) (h : Heap) (a : Addr) (ys : List Int64) : Prop := AV Z h a .long (ys.map Value.long)
theorem AV.lt (F : AV Z h a ty vs) : a < h.size := by obtain ⟨c, A, -⟩ := F; exact A.lt
theorem AV.ext (F : AV Z h a ty vs) (E : Ext h h') : AV Z h' a ty vs := by obtain ⟨c, A, r⟩ := F; exact ⟨c, A.ext E, r⟩
theorem AV.other (F : AV Z h b ty vs) (W : Wr h h' a sl v) (q : b ≠ a) : AV Z h' b ty vs := by obtain ⟨c, A, r⟩ := F; exact ⟨c, A.other W q, r⟩
theorem AV.keep (F : AV Z h a ty vs) (K : Keep h h' ws) (q : a ∉ ws) : AV Z h' a ty vs := by obtain ⟨c, A, r⟩ := F; exact ⟨c, ⟨K.2.1 a c A.1 q, A.2⟩, r⟩
theorem AI.lt (F : AI Z h a ty xs) : a < h.size := AV.lt F
theorem AI.ext (F : AI Z h a ty xs) (E : Ext h h') : AI Z h' a ty xs := AV.ext F E
theorem AI.other (F : AI Z h b ty xs) (W : Wr h h' a sl v) (q : b ≠ a) : AI Z h' b ty xs := AV.other F W q
theorem AI.keep (F : AI Z h a ty xs) (K : Keep h h' ws) (q : a ∉ ws) : AI Z h' a ty xs := AV.keep F K q
theorem AJ.lt (F : AJ Z h a ys) : a < h.size := AV.lt F
theorem AJ.ext (F : AJ Z h a ys) (E : Ext h h') : AJ Z h' a ys := AV.ext F E
theorem AJ.other (F : AJ Z h b ys) (W : Wr h h' a sl v) (q : b ≠ a) : AJ Z h' b ys := AV.other F W q
theorem AJ.keep (F : AJ Z h a ys) (K : Keep h h' ws) (q : a ∉ ws) : AJ Z h' a ys := AV.keep F K q
theorem own_in {j : Int32} {n : Nat} (h1 : ¬ j < 0) (h2 : j.toNatClampNeg < n) : ¬ (j < 0 ∨ n ≤ j.toNatClampNeg) := fun q => q.elim h1 (fun r => by omega)
theorem AV.new {k : ClassId} {n : Int32} (A : Arr Z h a (newA k ty n) ty) (q : ¬ n < 0) (hf : fits ty (defaultValue ty) = true) : AV Z h a ty (List.replicate n.toNatClampNeg (defaultValue ty)) := by
  refine ⟨_, A, by simp [newA], ?_, fun v hv => ?_⟩
  · rw [List.length_replicate]; exact (back32 q).2
  · rw [List.eq_of_mem_replicate hv]; exact hf
theorem AV.set {cl : Cell} {jn : Nat} (A : Arr Z h a cl ty) (e1 : cl.slots = vs.toArray) (e2 : vs.length < 2147483648) (e3 : ∀ v ∈ vs, fits ty v = true) (hv : fits ty v = true) (W : Wr h h' a jn v) : AV Z h' a ty (vs.set jn v) := by
  refine ⟨cl.setSlot jn v, A.same W, ?_, by rw [List.length_set]; exact e2, fun w hw => ?_⟩
  · simp [Cell.setSlot, e1]
  · rcases List.mem_or_eq_of_mem_set hw with q | q
    · exact e3 w q
    · rw [q]; exact hv
theorem newAI (X : Stand p l e R s m args below meth c T locs cells slots) (hx : p.tables.exec = Jvm.exec) (hZ : Z.Warmed39 s.vm) {aty : ArrayType} (w : (Cond.arrayClass (newarray.typeOf aty)).before a0 Z = true) (eT : T.heap = h) {g : JFrame} (hg : g.method = m) (hd : decode c.code g.pc = .ok (.newarray aty, 2)) {n : Int32} {rest : List Value} (hs : g.stack = .int n :: rest)
    (hn : ¬ n < 0) {ty : FieldType} (hty : newarray.typeOf aty = ty) (hdv : defaultValue ty = .int 0 ∧ fits ty (.int 0) = true) {cap : Nat} (hcap : n.toNatClampNeg ≤ cap) (hb : cap * 8 ≤ 536870912) (hc : cells + 1 ≤ R.cells) (hl : slots + cap ≤ R.slots) {ad : String} (had : "[" ++ (newarray.typeOf aty).toString = ad) :
    ∃ T' h', Stand p l e R s m args below meth c T' locs (cells + 1) (slots + cap) ∧ T'.heap = h' ∧ Ext h h' ∧ Exa Z h' h.size ad ∧ AI Z h' h.size ty (List.replicate n.toNatClampNeg 0) ∧
      ∀ target, Steps p.tables e below (T'.setTop { g with pc := g.pc + 2, stack := .ref h.size :: rest }) target → Steps p.tables e below (T.setTop g) target := by
  subst hty
  obtain ⟨T', h', cA, X', e', E', A', B', st⟩ := newPE X hx hZ w eT hg hd hs hn hcap hb hc hl had
  have V := AV.new A' hn (by rw [hdv.1]; exact hdv.2)
  refine ⟨T', h', X', e', E', B', ?_, st⟩
  unfold AI
  rw [List.map_replicate, ← hdv.1]
  exact V
theorem newAJ (X : Stand p l e R s m args below meth c T locs cells slots) (hx : p.tables.exec = Jvm.exec) (hZ : Z.Warmed39 s.vm) (w : (Cond.arrayClass .long).before a0 Z = true) (eT : T.heap = h) {g : JFrame} (hg : g.method = m) (hd : decode c.code g.pc = .ok (.newarray .long, 2)) {n : Int32} {rest : List Value} (hs : g.stack = .int n :: rest)
    (hn : ¬ n < 0) {cap : Nat} (hcap : n.toNatClampNeg ≤ cap) (hb : cap * 8 ≤ 536870912) (hc : cells + 1 ≤ R.cells) (hl : slots + cap ≤ R.slots) {ad : String} (had : "[" ++ (newarray.typeOf .long).toString = ad) :
    ∃ T' h', Stand p l e R s m args below meth c T' locs (cells + 1) (slots + cap) ∧ T'.heap = h' ∧ Ext h h' ∧ Exa Z h' h.size ad ∧ AJ Z h' h.size (List.replicate n.toNatClampNeg 0) ∧
      ∀ target, Steps p.tables e below (T'.setTop { g with pc := g.pc + 2, stack := .ref h.size :: rest }) target → Steps p.tables e below (T.setTop g) target := by
  obtain ⟨T', h', cA, X', e', E', A', B', st⟩ := newPE X hx hZ (aty := .long) w eT hg hd hs hn hcap hb hc hl had
  have V := AV.new A' hn rfl
  refine ⟨T', h', X', e', E', B', ?_, st⟩
  unfold AJ
  rw [List.map_replicate]
  exact V
theorem own_len {n : Nat} (h : n < 2147483648) : n.toInt32 = Int32.ofNat n := rfl
theorem lenAV (X : Stand p l e R s m args below meth c T locs cells slots) (hx : p.tables.exec = Jvm.exec) (hZ : Z.Warmed39 s.vm) (eT : T.heap = h) (A : AV Z h a ty vs) {g : JFrame} (hg : g.method = m) {rest : List Value} (hs : g.stack = .ref a :: rest) (hd : decode c.code g.pc = .ok (.arraylength, 1)) :
    ∀ target, Steps p.tables e below (T.setTop { g with pc := g.pc + 1, stack := .int (Int32.ofNat vs.length) :: rest }) target → Steps p.tables e below (T.setTop g) target := by
  obtain ⟨cl, A, e1, e2, e3⟩ := A
  intro target k
  have hl : cl.slots.size.toInt32 = Int32.ofNat vs.length := by rw [e1]; rfl
  refine X.arraylength hx (cell := cl) (by rw [eT]; exact A.1) (State.isArrayOf_alike hZ.alike A.2.1) hg hs hd _ ?_
  rw [hl]; exact k
theorem lenAI (X : Stand p l e R s m args below meth c T locs cells slots) (hx : p.tables.exec = Jvm.exec) (hZ : Z.Warmed39 s.vm) (eT : T.heap = h) (A : AI Z h a ty xs) {g : JFrame} (hg : g.method = m) {rest : List Value} (hs : g.stack = .ref a :: rest) (hd : decode c.code g.pc = .ok (.arraylength, 1)) :
    ∀ target, Steps p.tables e below (T.setTop { g with pc := g.pc + 1, stack := .int (Int32.ofNat xs.length) :: rest }) target → Steps p.tables e below (T.setTop g) target := by
  have k := lenAV X hx hZ eT A hg hs hd
  rw [List.length_map] at k; exact k
theorem lenAJ (X : Stand p l e R s m args below meth c T locs cells slots) (hx : p.tables.exec = Jvm.exec) (hZ : Z.Warmed39 s.vm) (eT : T.heap = h) (A : AJ Z h a ys) {g : JFrame} (hg : g.method = m) {rest : List Value} (hs : g.stack = .ref a :: rest) (hd : decode c.code g.pc = .ok (.arraylength, 1)) :
    ∀ target, Steps p.tables e below (T.setTop { g with pc := g.pc + 1, stack := .int (Int32.ofNat ys.length) :: rest }) target → Steps p.tables e below (T.setTop g) target := by
  have k := lenAV X hx hZ eT A hg hs hd
  rw [List.length_map] at k; exact k
theorem own_getI {jn : Nat} (h2 : jn < xs.length) : (xs.map Value.int).toArray[jn]? = some (.int (xs.getD jn 0)) := by
  simp [List.getD_eq_getElem?_getD, h2]
theorem own_getJ {jn : Nat} (h2 : jn < ys.length) : (ys.map Value.long).toArray[jn]? = some (.long (ys.getD jn 0)) := by
  simp [List.getD_eq_getElem?_getD, h2]
theorem ldAI (X : Stand p l e R s m args below meth c T locs cells slots) (hx : p.tables.exec = Jvm.exec) (hZ : Z.Warmed39 s.vm) (eT : T.heap = h) (A : AI Z h a .int xs) {j : Int32} (h1 : ¬ j < 0) (h2 : j.toNatClampNeg < xs.length) {g : JFrame} (hg : g.method = m) {rest : List Value} (hs : g.stack = .int j :: .ref a :: rest) (hd : decode c.code g.pc = .ok (.iaload, 1)) :
    ∀ target, Steps p.tables e below (T.setTop { g with pc := g.pc + 1, stack := .int (xs.getD j.toNatClampNeg 0) :: rest }) target → Steps p.tables e below (T.setTop g) target := by
  obtain ⟨cl, A, e1, e2, e3⟩ := A
  intro target k
  refine X.iaload hx (cell := cl) (by rw [eT]; exact A.1) (State.isArrayOf_alike hZ.alike A.2.1) A.2.2 (own_in h1 (by rw [e1]; simpa using h2)) (by rw [e1]; exact own_getI h2) hg hs hd _ k
theorem ldAB (X : Stand p l e R s m args below meth c T locs cells slots) (hx : p.tables.exec = Jvm.exec) (hZ : Z.Warmed39 s.vm) (eT : T.heap = h) (A : AI Z h a .byte xs) {j : Int32} (h1 : ¬ j < 0) (h2 : j.toNatClampNeg < xs.length) {g : JFrame} (hg : g.method = m) {rest : List Value} (hs : g.stack = .int j :: .ref a :: rest) (hd : decode c.code g.pc = .ok (.baload, 1)) :
    ∀ target, Steps p.tables e below (T.setTop { g with pc := g.pc + 1, stack := .int (xs.getD j.toNatClampNeg 0) :: rest }) target → Steps p.tables e below (T.setTop g) target := by
  obtain ⟨cl, A, e1, e2, e3⟩ := A
  intro target k
  refine X.baloadBytes hx (cell := cl) (by rw [eT]; exact A.1) (State.isArrayOf_alike hZ.alike A.2.1) A.2.2 (own_in h1 (by rw [e1]; simpa using h2)) (by rw [e1]; exact own_getI h2) hg hs hd _ k
theorem ldAJ (X : Stand p l e R s m args below meth c T locs cells slots) (hx : p.tables.exec = Jvm.exec) (hZ : Z.Warmed39 s.vm) (eT : T.heap = h) (A : AJ Z h a ys) {j : Int32} (h1 : ¬ j < 0) (h2 : j.toNatClampNeg < ys.length) {g : JFrame} (hg : g.method = m) {rest : List Value} (hs : g.stack = .int j :: .ref a :: rest) (hd : decode c.code g.pc = .ok (.laload, 1)) :
    ∀ target, Steps p.tables e below (T.setTop { g with pc := g.pc + 1, stack := .long (ys.getD j.toNatClampNeg 0) :: rest }) target → Steps p.tables e below (T.setTop g) target := by
  obtain ⟨cl, A, e1, e2, e3⟩ := A
  intro target k
  refine X.laload hx (cell := cl) (by rw [eT]; exact A.1) (State.isArrayOf_alike hZ.alike A.2.1) A.2.2 (own_in h1 (by rw [e1]; simpa using h2)) (by rw [e1]; exact own_getJ h2) hg hs hd _ k
theorem stAI (X : Stand p l e R s m args below meth c T locs cells slots) (hx : p.tables.exec = Jvm.exec) (hZ : Z.Warmed39 s.vm) (eT : T.heap = h) (A : AI Z h a .int xs) {j x : Int32} (h1 : ¬ j < 0) (h2 : j.toNatClampNeg < xs.length) {g : JFrame} (hg : g.method = m) {rest : List Value} (hs : g.stack = .int x :: .int j :: .ref a :: rest) (hd : decode c.code g.pc = .ok (.iastore, 1)) :
    ∃ T' h', Stand p l e R s m args below meth c T' (locs ++ [⟨a, j.toNatClampNeg⟩]) cells slots ∧ T'.heap = h' ∧ Wr h h' a j.toNatClampNeg (.int x) ∧ AI Z h' a .int (xs.set j.toNatClampNeg x) ∧ ∀ target, Steps p.tables e below (T'.setTop { g with pc := g.pc + 1, stack := rest }) target → Steps p.tables e below (T.setTop g) target := by
  obtain ⟨cl, A, e1, e2, e3⟩ := A
  obtain ⟨T', h', X', e', W', st⟩ := stI X hx hZ eT A (own_in h1 (by rw [e1]; simpa using h2)) hg hs hd
  refine ⟨T', h', X', e', W', ?_, st⟩
  unfold AI
  rw [List.map_set]
  exact AV.set A e1 e2 e3 rfl W'
theorem stAB (X : Stand p l e R s m args below meth c T locs cells slots) (hx : p.tables.exec = Jvm.exec) (hZ : Z.Warmed39 s.vm) (eT : T.heap = h) (A : AI Z h a .byte xs) {j x : Int32} (h1 : ¬ j < 0) (h2 : j.toNatClampNeg < xs.length) {g : JFrame} (hg : g.method = m) {rest : List Value} (hs : g.stack = .int x :: .int j :: .ref a :: rest) (hd : decode c.code g.pc = .ok (.bastore, 1)) :
    ∃ T' h', Stand p l e R s m args below meth c T' (locs ++ [⟨a, j.toNatClampNeg⟩]) cells slots ∧ T'.heap = h' ∧ Wr h h' a j.toNatClampNeg (.int (x.toInt8.toInt32)) ∧ AI Z h' a .byte (xs.set j.toNatClampNeg (x.toInt8.toInt32)) ∧ ∀ target, Steps p.tables e below (T'.setTop { g with pc := g.pc + 1, stack := rest }) target → Steps p.tables e below (T.setTop g) target := by
  obtain ⟨cl, A, e1, e2, e3⟩ := A
  obtain ⟨T', h', X', e', W', st⟩ := stB X hx hZ eT A (own_in h1 (by rw [e1]; simpa using h2)) hg hs hd
  refine ⟨T', h', X', e', W', ?_, st⟩
  unfold AI
  rw [List.map_set]
  exact AV.set A e1 e2 e3 (fits_nar_byte x) W'
theorem own_b2 (y : Int32) : (y.toInt8.toInt32).toInt8.toInt32 = y.toInt8.toInt32 := by simp
theorem stABn (X : Stand p l e R s m args below meth c T locs cells slots) (hx : p.tables.exec = Jvm.exec) (hZ : Z.Warmed39 s.vm) (eT : T.heap = h) (A : AI Z h a .byte xs) {j y : Int32} (h1 : ¬ j < 0) (h2 : j.toNatClampNeg < xs.length) {g : JFrame} (hg : g.method = m) {rest : List Value} (hs : g.stack = .int (y.toInt8.toInt32) :: .int j :: .ref a :: rest) (hd : decode c.code g.pc = .ok (.bastore, 1)) :
    ∃ T' h', Stand p l e R s m args below meth c T' (locs ++ [⟨a, j.toNatClampNeg⟩]) cells slots ∧ T'.heap = h' ∧ Wr h h' a j.toNatClampNeg (.int (y.toInt8.toInt32)) ∧ AI Z h' a .byte (xs.set j.toNatClampNeg (y.toInt8.toInt32)) ∧ ∀ target, Steps p.tables e below (T'.setTop { g with pc := g.pc + 1, stack := rest }) target → Steps p.tables e below (T.setTop g) target := by
  have k := stAB X hx hZ eT A h1 h2 hg hs hd
  rw [own_b2] at k
  exact k
theorem stAJ (X : Stand p l e R s m args below meth c T locs cells slots) (hx : p.tables.exec = Jvm.exec) (hZ : Z.Warmed39 s.vm) (eT : T.heap = h) (A : AJ Z h a ys) {j : Int32} {x : Int64} (h1 : ¬ j < 0) (h2 : j.toNatClampNeg < ys.length) {g : JFrame} (hg : g.method = m) {rest : List Value} (hs : g.stack = .long x :: .int j :: .ref a :: rest) (hd : decode c.code g.pc = .ok (.lastore, 1)) :
    ∃ T' h', Stand p l e R s m args below meth c T' (locs ++ [⟨a, j.toNatClampNeg⟩]) cells slots ∧ T'.heap = h' ∧ Wr h h' a j.toNatClampNeg (.long x) ∧ AJ Z h' a (ys.set j.toNatClampNeg x) ∧ ∀ target, Steps p.tables e below (T'.setTop { g with pc := g.pc + 1, stack := rest }) target → Steps p.tables e below (T.setTop g) target := by
  obtain ⟨cl, A, e1, e2, e3⟩ := A
  obtain ⟨T', h', X', e', W', st⟩ := stJ X hx hZ eT A (own_in h1 (by rw [e1]; simpa using h2)) hg hs hd
  refine ⟨T', h', X', e', W', ?_, st⟩
  unfold AJ
  rw [List.map_set]
  exact AV.set A e1 e2 e3 rfl W'
theorem ldAIL (X : Stand p l e R s m args below meth c T locs cells slots) (hx : p.tables.exec = Jvm.exec) (hZ : Z.Warmed39 s.vm) (eT : T.heap = h) (A : AI Z h a .int xs) {j : Int32} (h1 : ¬ j < 0) {jn : Nat} (hj : j.toNatClampNeg = jn) (h2 : jn < xs.length) {g : JFrame} (hg : g.method = m) {rest : List Value} (hs : g.stack = .int j :: .ref a :: rest) (hd : decode c.code g.pc = .ok (.iaload, 1)) :
    ∀ target, Steps p.tables e below (T.setTop { g with pc := g.pc + 1, stack := .int (xs.getD jn 0) :: rest }) target → Steps p.tables e below (T.setTop g) target := by
  subst hj; exact ldAI X hx hZ eT A h1 h2 hg hs hd
theorem ldABL (X : Stand p l e R s m args below meth c T locs cells slots) (hx : p.tables.exec = Jvm.exec) (hZ : Z.Warmed39 s.vm) (eT : T.heap = h) (A : AI Z h a .byte xs) {j : Int32} (h1 : ¬ j < 0) {jn : Nat} (hj : j.toNatClampNeg = jn) (h2 : jn < xs.length) {g : JFrame} (hg : g.method = m) {rest : List Value} (hs : g.stack = .int j :: .ref a :: rest) (hd : decode c.code g.pc = .ok (.baload, 1)) :
    ∀ target, Steps p.tables e below (T.setTop { g with pc := g.pc + 1, stack := .int (xs.getD jn 0) :: rest }) target → Steps p.tables e below (T.setTop g) target := by
  subst hj; exact ldAB X hx hZ eT A h1 h2 hg hs hd
theorem ldAJL (X : Stand p l e R s m args below meth c T locs cells slots) (hx : p.tables.exec = Jvm.exec) (hZ : Z.Warmed39 s.vm) (eT : T.heap = h) (A : AJ Z h a ys) {j : Int32} (h1 : ¬ j < 0) {jn : Nat} (hj : j.toNatClampNeg = jn) (h2 : jn < ys.length) {g : JFrame} (hg : g.method = m) {rest : List Value} (hs : g.stack = .int j :: .ref a :: rest) (hd : decode c.code g.pc = .ok (.laload, 1)) :
    ∀ target, Steps p.tables e below (T.setTop { g with pc := g.pc + 1, stack := .long (ys.getD jn 0) :: rest }) target → Steps p.tables e below (T.setTop g) target := by
  subst hj; exact ldAJ X hx hZ eT A h1 h2 hg hs hd
theorem stAIL (X : Stand p l e R s m args below meth c T locs cells slots) (hx : p.tables.exec = Jvm.exec) (hZ : Z.Warmed39 s.vm) (eT : T.heap = h) (A : AI Z h a .int xs) {j x : Int32} (h1 : ¬ j < 0) {jn : Nat} (hj : j.toNatClampNeg = jn) (h2 : jn < xs.length) {g : JFrame} (hg : g.method = m) {rest : List Value} (hs : g.stack = .int x :: .int j :: .ref a :: rest) (hd : decode c.code g.pc = .ok (.iastore, 1)) :
    ∃ T' h', Stand p l e R s m args below meth c T' (locs ++ [⟨a, j.toNatClampNeg⟩]) cells slots ∧ T'.heap = h' ∧ Wr h h' a j.toNatClampNeg (.int x) ∧ AI Z h' a .int (xs.set jn x) ∧ ∀ target, Steps p.tables e below (T'.setTop { g with pc := g.pc + 1, stack := rest }) target → Steps p.tables e below (T.setTop g) target := by
  subst hj; exact stAI X hx hZ eT A h1 h2 hg hs hd
theorem stABL (X : Stand p l e R s m args below meth c T locs cells slots) (hx : p.tables.exec = Jvm.exec) (hZ : Z.Warmed39 s.vm) (eT : T.heap = h) (A : AI Z h a .byte xs) {j x : Int32} (h1 : ¬ j < 0) {jn : Nat} (hj : j.toNatClampNeg = jn) (h2 : jn < xs.length) {g : JFrame} (hg : g.method = m) {rest : List Value} (hs : g.stack = .int x :: .int j :: .ref a :: rest) (hd : decode c.code g.pc = .ok (.bastore, 1)) :
    ∃ T' h', Stand p l e R s m args below meth c T' (locs ++ [⟨a, j.toNatClampNeg⟩]) cells slots ∧ T'.heap = h' ∧ Wr h h' a j.toNatClampNeg (.int (x.toInt8.toInt32)) ∧ AI Z h' a .byte (xs.set jn (x.toInt8.toInt32)) ∧ ∀ target, Steps p.tables e below (T'.setTop { g with pc := g.pc + 1, stack := rest }) target → Steps p.tables e below (T.setTop g) target := by
  subst hj; exact stAB X hx hZ eT A h1 h2 hg hs hd
theorem stABnL (X : Stand p l e R s m args below meth c T locs cells slots) (hx : p.tables.exec = Jvm.exec) (hZ : Z.Warmed39 s.vm) (eT : T.heap = h) (A : AI Z h a .byte xs) {j y : Int32} (h1 : ¬ j < 0) {jn : Nat} (hj : j.toNatClampNeg = jn) (h2 : jn < xs.length) {g : JFrame} (hg : g.method = m) {rest : List Value} (hs : g.stack = .int (y.toInt8.toInt32) :: .int j :: .ref a :: rest) (hd : decode c.code g.pc = .ok (.bastore, 1)) :
    ∃ T' h', Stand p l e R s m args below meth c T' (locs ++ [⟨a, j.toNatClampNeg⟩]) cells slots ∧ T'.heap = h' ∧ Wr h h' a j.toNatClampNeg (.int (y.toInt8.toInt32)) ∧ AI Z h' a .byte (xs.set jn (y.toInt8.toInt32)) ∧ ∀ target, Steps p.tables e below (T'.setTop { g with pc := g.pc + 1, stack := rest }) target → Steps p.tables e below (T.setTop g) target := by
  subst hj; exact stABn X hx hZ eT A h1 h2 hg hs hd
theorem stAJL (X : Stand p l e R s m args below meth c T locs cells slots) (hx : p.tables.exec = Jvm.exec) (hZ : Z.Warmed39 s.vm) (eT : T.heap = h) (A : AJ Z h a ys) {j : Int32} {x : Int64} (h1 : ¬ j < 0) {jn : Nat} (hj : j.toNatClampNeg = jn) (h2 : jn < ys.length) {g : JFrame} (hg : g.method = m) {rest : List Value} (hs : g.stack = .long x :: .int j :: .ref a :: rest) (hd : decode c.code g.pc = .ok (.lastore, 1)) :
    ∃ T' h', Stand p l e R s m args below meth c T' (locs ++ [⟨a, j.toNatClampNeg⟩]) cells slots ∧ T'.heap = h' ∧ Wr h h' a j.toNatClampNeg (.long x) ∧ AJ Z h' a (ys.set jn x) ∧ ∀ target, Steps p.tables e below (T'.setTop { g with pc := g.pc + 1, stack := rest }) target → Steps p.tables e below (T.setTop g) target := by
  subst hj; exact stAJ X hx hZ eT A h1 h2 hg hs hd
end OwnArr
section OwnClone
variable {p : Program} {l : Launch} {e : Env} {R : Room} {s : State} {m : MethodId} {args : Array Value} {below : List Frame} {meth : Method} {c : Code} {T T' : State} {locs : List Loc} {cells slots : Nat} {Z : State} {a0 : Array Value} {h h' : Heap} {a b : Addr} {ty : FieldType} {xs : List Int32}
theorem cloneAI (X : Stand p l e R s m args below meth c T locs cells slots) (hx : p.tables.exec = Jvm.exec) (hZ : Z.Warmed39 s.vm) {own ad : String} {index : Nat} (hown : s.vm.findClass own = some m.cls)
    (w1 : (Cond.methodLink own index ⟨ad, "clone", "()Ljava/lang/Object;"⟩).before a0 Z = true) (w2 : (Cond.sameMethod ad "java/lang/Object" "clone" "()Ljava/lang/Object;").before a0 Z = true) (w3 : (Cond.native ⟨"java/lang/Object", "clone", "()Ljava/lang/Object;"⟩).before a0 Z = true)
    (w4 : (Cond.instanceMethod ⟨"java/lang/Object", "clone", "()Ljava/lang/Object;"⟩).before a0 Z = true) (w5 : (Cond.selects ad ⟨ad, "clone", "()Ljava/lang/Object;"⟩ ⟨"java/lang/Object", "clone", "()Ljava/lang/Object;"⟩).before a0 Z = true) (w6 : (Cond.castable ad "java/lang/Cloneable").before a0 Z = true)
    (eT : T.heap = h) (A : AI Z h a ty xs) (E : Exa Z h a ad) {g : JFrame} (hg : g.method = m) (hsize : g.locals.size = c.maxLocals) {rest : List Value} (hst : g.stack = .ref a :: rest) (hd : decode c.code g.pc = .ok (.invokevirtual index, 3))
    (hf : 1 ≤ R.frames) {W cap : Nat} (hW : 2 * g.monitorRoom + (rest.map fun v => v.category).sum ≤ W) (hl : W + 14 ≤ R.locals) (hcap : xs.length ≤ cap) (hc : cells + 1 ≤ R.cells) (hsl : slots + cap ≤ R.slots) :
    ∃ T' h', Stand p l e R s m args below meth c T' locs (cells + 1) (slots + cap) ∧ T'.heap = h' ∧ Ext h h' ∧ Exa Z h' h.size ad ∧ AI Z h' h.size ty xs ∧
      ∀ target, Steps p.tables e below (T'.setTop { g with pc := g.pc + 3, stack := .ref h.size :: rest }) target → Steps p.tables e below (T.setTop g) target := by
  obtain ⟨cl, A, e1, e2, e3⟩ := A
  have FC : FitC Z cl := fitC_of A fun i hi v hv => by
    rw [e1] at hv
    exact e3 v (by simpa using Array.mem_of_getElem? hv)
  obtain ⟨T', h', X', e', ex, A', E', st⟩ := cloneA X hx hZ hown w1 w2 w3 w4 w5 w6 eT A E FC hg hsize hst hd hf hW hl (by rw [e1]; simpa using hcap) hc hsl
  exact ⟨T', h', X', e', ex, E', ⟨_, A', e1, e2, e3⟩, st⟩
end OwnClone

section OwnStart
variable {args : Array Value} {s : State} {t : Term} {C n d : String} {a : Addr}
theorem own_ref (h : (Cond.exactly t C).value args s none s [] = some true) : ∃ a, t.eval args s none [] s = some (.ref a) := by
  obtain ⟨a', _, _, _, e1, -⟩ := Cond.exactly_spec (Cond.before_iff.mpr h)
  exact ⟨a', e1⟩
theorem own_fldI {x : Int32} (ev : t.eval args s none [] s = some (.ref a)) (h : (Cond.eq (.field t C n d) (.int x)).value args s none s [] = some true) : Fld s s.heap a C n d (.int x) := by
  apply Fld.start
  simp only [Cond.value, Term.eval, ev, Option.bind_eq_bind, Option.bind_some] at h
  cases hf : s.fieldOf? a C n d with
  | none => simp [hf] at h
  | some v => cases v <;> simp [hf] at h; subst h; rfl
theorem own_fldJ {x : Int64} (ev : t.eval args s none [] s = some (.ref a)) (h : (Cond.eq (.field t C n d) (.long x)).value args s none s [] = some true) : Fld s s.heap a C n d (.long x) := by
  apply Fld.start
  simp only [Cond.value, Term.eval, ev, Option.bind_eq_bind, Option.bind_some] at h
  cases hf : s.fieldOf? a C n d with
  | none => simp [hf] at h
  | some v => cases v <;> simp [hf] at h; subst h; rfl
end OwnStart

/-- the last k decimal digits of U, as characters -/
def own_dg (U : Nat) : Nat → List Int32
  | 0 => []
  | k + 1 => Int32.ofNat (48 + U / 10 ^ k % 10) :: own_dg U k
theorem own_dgl (U k : Nat) : (own_dg U k).length = k := by
  induction k with
  | zero => rfl
  | succ k ih => show (own_dg U k).length + 1 = _; rw [ih]
def own_ones : List Int32 := (List.range 100).map fun m => Int32.ofNat (48 + m % 10)
def own_tens : List Int32 := (List.range 100).map fun m => Int32.ofNat (48 + m / 10)
theorem own_o1 : ∀ m : Fin 100, own_ones.getD m.val 0 = Int32.ofNat (48 + m.val % 10) ∧ own_tens.getD m.val 0 = Int32.ofNat (48 + m.val / 10) ∧ (Int32.ofNat (48 + m.val % 10)).toInt8.toInt32 = Int32.ofNat (48 + m.val % 10) ∧ (Int32.ofNat (48 + m.val / 10)).toInt8.toInt32 = Int32.ofNat (48 + m.val / 10) := by decide +kernel
abbrev own_K (U N ng : Nat) (nf : Int32) (k c : Nat) (z : Int) : Prop := z = -((U / 10 ^ k : Nat) : Int) ∧ k < N ∧ c = ng + (N - k) ∧ ((nf = 0 ∧ ng = 0) ∨ (nf = 1 ∧ ng = 1))
theorem own_K.hz {U N ng : Nat} {nf : Int32} {k c : Nat} {z : Int} (K : own_K U N ng nf k c z) : z = -((U / 10 ^ k : Nat) : Int) := K.1
theorem own_K.hk {U N ng : Nat} {nf : Int32} {k c : Nat} {z : Int} (K : own_K U N ng nf k c z) : k < N := K.2.1
theorem own_K.hc {U N ng : Nat} {nf : Int32} {k c : Nat} {z : Int} (K : own_K U N ng nf k c z) : c = ng + (N - k) := K.2.2.1
theorem own_K.hf {U N ng : Nat} {nf : Int32} {k c : Nat} {z : Int} (K : own_K U N ng nf k c z) : (nf = 0 ∧ ng = 0) ∨ (nf = 1 ∧ ng = 1) := K.2.2.2
abbrev own_P (U N : Nat) : Prop := U < 10 ^ N ∧ (N = 1 ∨ 10 ^ (N - 1) ≤ U) ∧ N ≤ 19
theorem own_P.h1 {U N : Nat} (P : own_P U N) : U < 10 ^ N := P.1
theorem own_P.h2 {U N : Nat} (P : own_P U N) : N = 1 ∨ 10 ^ (N - 1) ≤ U := P.2.1
theorem own_P.h3 {U N : Nat} (P : own_P U N) : N ≤ 19 := P.2.2
theorem own_p10 {a b : Nat} (h : 10 ^ a < 10 ^ b) : a < b := (Nat.pow_lt_pow_iff_right (by decide : 1 < 10)).mp h
theorem own_dd (U k j : Nat) : U / 10 ^ k / 10 ^ j = U / 10 ^ (k + j) := by rw [Nat.div_div_eq_div_mul, Nat.pow_add]
/-- the digit read of the tables -/
theorem own_rd {U k : Nat} {r : Int32} (h : r.toInt = ((U / 10 ^ k % 100 : Nat) : Int)) : ¬ r < 0 ∧ r.toNatClampNeg < own_ones.length ∧ r.toNatClampNeg < own_tens.length ∧ (own_ones.getD r.toNatClampNeg 0).toInt8.toInt32 = Int32.ofNat (48 + U / 10 ^ k % 10) ∧ (own_tens.getD r.toNatClampNeg 0).toInt8.toInt32 = Int32.ofNat (48 + U / 10 ^ (k + 1) % 10) := by
  have b : U / 10 ^ k % 100 < 100 := Nat.mod_lt _ (by decide)
  have e : r.toNatClampNeg = U / 10 ^ k % 100 := by show r.toInt.toNat = _; rw [h]; rfl
  have o := own_o1 ⟨U / 10 ^ k % 100, b⟩
  rw [e]
  refine ⟨?_, ?_, ?_, ?_, ?_⟩
  · rw [Int32.lt_iff_toInt_lt, h, show (0 : Int32).toInt = 0 from rfl]; omega
  · show _ < ((List.range 100).map _).length; rw [List.length_map, List.length_range]; exact b
  · show _ < ((List.range 100).map _).length; rw [List.length_map, List.length_range]; exact b
  · rw [o.1, o.2.2.1, show U / 10 ^ k % 100 % 10 = U / 10 ^ k % 10 by omega]
  · rw [o.2.1, o.2.2.2, ← own_dd, show (10 : Nat) ^ 1 = 10 from rfl, show U / 10 ^ k % 100 / 10 = U / 10 ^ k / 10 % 10 by omega]
theorem own_set (c : Nat) (x : Int32) (D : List Int32) : (List.replicate (c + 1) (0 : Int32) ++ D).set c x = List.replicate c 0 ++ x :: D := by
  rw [List.replicate_succ', List.append_assoc, List.set_append_right _ _ (by rw [List.length_replicate]; exact Nat.le_refl _), List.length_replicate, Nat.sub_self]
  rfl
theorem own_on {c : Nat} (h : c ≤ 20) : (Int32.ofNat c).toInt = c := Int32.toInt_ofNat_of_lt (by omega)
theorem own_dec {c : Nat} (h : c < 20) : (Int32.ofNat (c + 1)) + (-1 : Int32) = Int32.ofNat c := by
  apply Int32.toInt_inj.mp
  rw [Int32.toInt_add, own_on (by omega), own_on (by omega), show (-1 : Int32).toInt = -1 from rfl, Int.bmod_eq_of_le (by omega) (by omega)]
  omega
/-- a place of the array -/
theorem own_pl {c : Nat} (h : c < 20) (D : List Int32) : ¬ (Int32.ofNat c) < 0 ∧ (Int32.ofNat c).toNatClampNeg < (List.replicate (c + 1) (0 : Int32) ++ D).length ∧ (Int32.ofNat c).toNatClampNeg = c := by
  have e := own_on (show c ≤ 20 by omega)
  have e2 : (Int32.ofNat c).toNatClampNeg = c := by show (Int32.ofNat c).toInt.toNat = c; omega
  refine ⟨?_, ?_, e2⟩
  · rw [Int32.lt_iff_toInt_lt, e, show (0 : Int32).toInt = 0 from rfl]; omega
  · rw [e2, List.length_append, List.length_replicate]; omega
theorem own_q1 {U N ng : Nat} {nf : Int32} {k c : Nat} {z : Int} (P : own_P U N) (K : own_K U N ng nf k c z) (h : z ≤ -100) : k + 2 < N ∧ ∃ d, c = d + 2 ∧ d ≤ 18 ∧ own_K U N ng nf (k + 2) d (-((U / 10 ^ (k + 2) : Nat) : Int)) := by
  have w : 100 ≤ U / 10 ^ k := by have := K.hz; omega
  have w2 : 100 * 10 ^ k ≤ U := (Nat.le_div_iff_mul_le (Nat.pow_pos (by decide))).mp w
  have w3 : 10 ^ (k + 2) < 10 ^ N := Nat.lt_of_le_of_lt (by rw [Nat.pow_add, Nat.mul_comm]; exact w2) P.h1
  have w4 := own_p10 w3
  have hc := K.hc
  have h3 := P.h3
  have g : ng ≤ 1 := by rcases K.hf with ⟨-, q⟩ | ⟨-, q⟩ <;> omega
  exact ⟨w4, ng + (N - (k + 2)), by omega, by omega, rfl, w4, rfl, K.hf⟩
theorem own_lq {U k : Nat} {i : Int64} (h : i.toInt = -((U / 10 ^ k : Nat) : Int)) (hb : U / 10 ^ k < 10 ^ 19) (hg : U / 10 ^ k ≤ 9223372036854775808) (h0 : i.toInt < 0) : (i / (100 : Int64)).toInt = -((U / 10 ^ (k + 2) : Nat) : Int) ∧ (((i / (100 : Int64)) * (100 : Int64) - i).toInt32).toInt = ((U / 10 ^ k % 100 : Nat) : Int) := by
  have d := (c_ldiv i 100 100 (by decide) (by decide)).2 h0
  rw [← own_dd, show (10 : Nat) ^ 2 = 100 from rfl]
  generalize U / 10 ^ k = W at *
  rw [h] at d
  have d2 : (i / (100 : Int64)).toInt = -((W / 100 : Nat) : Int) := by rw [d]; omega
  refine ⟨d2, ?_⟩
  have m1 : ((i / (100 : Int64)) * (100 : Int64)).toInt = -((W / 100 : Nat) : Int) * 100 := by
    rw [Int64.toInt_mul, d2, show (100 : Int64).toInt = 100 from rfl]; exact Int.bmod_eq_of_le (by omega) (by omega)
  have m2 : ((i / (100 : Int64)) * (100 : Int64) - i).toInt = ((W % 100 : Nat) : Int) := by
    rw [Int64.toInt_sub, m1, h, Int.bmod_eq_of_le (by omega) (by omega)]; omega
  rw [Int64.toInt_toInt32, m2]
  exact Int.bmod_eq_of_le (by omega) (by omega)
theorem own_iq {U k : Nat} {i : Int32} (h : i.toInt = -((U / 10 ^ k : Nat) : Int)) (h0 : i.toInt < 0) : (i / (100 : Int32)).toInt = -((U / 10 ^ (k + 2) : Nat) : Int) ∧ ((i / (100 : Int32)) * (100 : Int32) - i).toInt = ((U / 10 ^ k % 100 : Nat) : Int) := by
  have d := (c_idiv i 100 100 (by decide) (by decide)).2 h0
  have l := Int32.le_toInt i
  rw [← own_dd, show (10 : Nat) ^ 2 = 100 from rfl]
  generalize U / 10 ^ k = W at *
  rw [h] at d l
  have d2 : (i / (100 : Int32)).toInt = -((W / 100 : Nat) : Int) := by rw [d]; omega
  refine ⟨d2, ?_⟩
  have m1 : ((i / (100 : Int32)) * (100 : Int32)).toInt = -((W / 100 : Nat) : Int) * 100 := by
    rw [Int32.toInt_mul, d2, show (100 : Int32).toInt = 100 from rfl]; exact Int.bmod_eq_of_le (by omega) (by omega)
  rw [Int32.toInt_sub, m1, h, Int.bmod_eq_of_le (by omega) (by omega)]; omega
theorem own_ng {U k : Nat} {i : Int32} (h : i.toInt = -((U / 10 ^ k : Nat) : Int)) (h0 : -100 < i.toInt) : (-i).toInt = ((U / 10 ^ k % 100 : Nat) : Int) := by
  generalize U / 10 ^ k = W at *
  rw [Int32.toInt_neg, h, Int.bmod_eq_of_le (by omega) (by omega)]; omega
theorem own_e1 {U N ng : Nat} {nf : Int32} {k c : Nat} {z : Int} (P : own_P U N) (K : own_K U N ng nf k c z) (h : -10 < z) : N = k + 1 ∧ c = ng + 1 := by
  have w : U / 10 ^ k < 10 := by have := K.hz; omega
  have w2 : U < 10 ^ (k + 1) := by rw [Nat.pow_succ, Nat.mul_comm]; exact (Nat.div_lt_iff_lt_mul (Nat.pow_pos (by decide))).mp w
  have hk := K.hk
  have hc := K.hc
  have : N = k + 1 := by
    rcases P.h2 with q | q
    · omega
    · have := own_p10 (Nat.lt_of_le_of_lt q w2); omega
  omega
theorem own_e2 {U N ng : Nat} {nf : Int32} {k c : Nat} {z : Int} (P : own_P U N) (K : own_K U N ng nf k c z) (h : -100 < z) (h2 : z ≤ -10) : N = k + 2 ∧ c = ng + 2 := by
  have w : U / 10 ^ k < 100 := by have := K.hz; omega
  have w1 : 10 ≤ U / 10 ^ k := by have := K.hz; omega
  have w2 : U < 10 ^ (k + 2) := by rw [Nat.pow_add, Nat.mul_comm]; exact (Nat.div_lt_iff_lt_mul (Nat.pow_pos (by decide))).mp w
  have w3 : 10 ^ (k + 1) ≤ U := by rw [Nat.pow_succ, Nat.mul_comm]; exact (Nat.le_div_iff_mul_le (Nat.pow_pos (by decide))).mp w1
  have w4 := own_p10 (Nat.lt_of_le_of_lt w3 P.h1)
  have hk := K.hk
  have hc := K.hc
  have : N = k + 2 := by
    rcases P.h2 with q | q
    · omega
    · have := own_p10 (Nat.lt_of_le_of_lt q w2); omega
  omega

def own_txt (ng U N : Nat) : List Int32 := List.replicate ng 45 ++ own_dg U N
theorem own_decA {d : Nat} (h : d ≤ 18) : (Int32.ofNat (d + 2)) + (-1 : Int32) = Int32.ofNat (d + 1) := own_dec (c := d + 1) (by omega)
theorem own_decB {d : Nat} (h : d ≤ 19) : (Int32.ofNat (d + 1)) + (-1 : Int32) = Int32.ofNat d := own_dec (c := d) (by omega)
theorem own_sx {c : Nat} (h : c ≤ 19) {x y : Int32} (D : List Int32) (e : x = y) : (List.replicate (c + 1) (0 : Int32) ++ D).set (Int32.ofNat c).toNatClampNeg x = List.replicate c 0 ++ y :: D := by
  rw [(own_pl (c := c) (by omega) D).2.2, own_set, e]
theorem own_px {c : Nat} (h : c ≤ 19) (D : List Int32) : ¬ (Int32.ofNat c) < 0 ∧ (Int32.ofNat c).toNatClampNeg < (List.replicate (c + 1) (0 : Int32) ++ D).length := ⟨(own_pl (by omega) D).1, (own_pl (by omega) D).2.1⟩
theorem own_l2i {U k : Nat} {i : Int64} (h : i.toInt = -((U / 10 ^ k : Nat) : Int)) (hg : (-2147483648 : Int64) < i) : (i.toInt32).toInt = i.toInt := by
  rw [Int64.lt_iff_toInt_lt, show (-2147483648 : Int64).toInt = -2147483648 from by decide] at hg
  generalize U / 10 ^ k = W at *
  rw [Int64.toInt_toInt32]
  exact Int.bmod_eq_of_le (by omega) (by omega)
theorem own_le1 {i : Int64} (hg : ¬ (-2147483648 : Int64) < i) : i.toInt ≤ -100 := by
  rw [Int64.lt_iff_toInt_lt, show (-2147483648 : Int64).toInt = -2147483648 from by decide] at hg; omega
theorem own_le2 {i : Int32} (hg : ¬ (-100 : Int32) < i) : i.toInt ≤ -100 := by
  rw [Int32.lt_iff_toInt_lt, show (-100 : Int32).toInt = -100 from by decide] at hg; omega
theorem own_gt2 {i : Int32} (hg : (-100 : Int32) < i) : -100 < i.toInt := by
  rw [Int32.lt_iff_toInt_lt, show (-100 : Int32).toInt = -100 from by decide] at hg; omega
theorem own_le9 {i : Int32} (hg : i < (-9 : Int32)) : i.toInt ≤ -10 := by
  rw [Int32.lt_iff_toInt_lt, show (-9 : Int32).toInt = -9 from by decide] at hg; omega
theorem own_gt9 {i : Int32} (hg : ¬ i < (-9 : Int32)) : -10 < i.toInt := by
  rw [Int32.lt_iff_toInt_lt, show (-9 : Int32).toInt = -9 from by decide] at hg; omega
theorem own_lq2 {U N ng : Nat} {nf : Int32} {k c : Nat} {i : Int64} (P : own_P U N) (K : own_K U N ng nf k c i.toInt) (h : i.toInt ≤ -100) : (i / (100 : Int64)).toInt = -((U / 10 ^ (k + 2) : Nat) : Int) ∧ (((i / (100 : Int64)) * (100 : Int64) - i).toInt32).toInt = ((U / 10 ^ k % 100 : Nat) : Int) := by
  have l := Int64.le_toInt i
  have z := K.hz
  refine own_lq z ?_ ?_ (by omega)
  · generalize U / 10 ^ k = W at *; omega
  · generalize U / 10 ^ k = W at *; omega
theorem own_c1 {U N ng : Nat} {nf : Int32} {k c : Nat} {z : Int} (P : own_P U N) (K : own_K U N ng nf k c z) : ∃ d, c = d + 1 ∧ d ≤ 19 := by
  have h1 := K.hk
  have h2 := K.hc
  have h3 := P.h3
  have g : ng ≤ 1 := by rcases K.hf with ⟨-, q⟩ | ⟨-, q⟩ <;> omega
  exact ⟨c - 1, by omega, by omega⟩
theorem own_t0 {ng U N : Nat} {nf : Int32} (f : (nf = 0 ∧ ng = 0) ∨ (nf = 1 ∧ ng = 1)) (h : nf = 0) : List.replicate ng (0 : Int32) ++ own_dg U N = own_txt ng U N ∧ Int32.ofNat ng = 0 := by
  rcases f with ⟨-, rfl⟩ | ⟨q, -⟩
  · exact ⟨rfl, rfl⟩
  · rw [q] at h; exact absurd h (by decide)
theorem own_t1 {ng U N : Nat} {nf : Int32} (f : (nf = 0 ∧ ng = 0) ∨ (nf = 1 ∧ ng = 1)) (h : ¬ nf = 0) : (List.replicate ng (0 : Int32) ++ own_dg U N).set ((Int32.ofNat ng) + (-1 : Int32)).toNatClampNeg (45 : Int32) = own_txt ng U N ∧ (Int32.ofNat ng) + (-1 : Int32) = 0 ∧ ¬ ((Int32.ofNat ng) + (-1 : Int32)) < 0 ∧ ((Int32.ofNat ng) + (-1 : Int32)).toNatClampNeg < (List.replicate ng (0 : Int32) ++ own_dg U N).length := by
  rcases f with ⟨q, -⟩ | ⟨-, rfl⟩
  · exact absurd q h
  · have e : (Int32.ofNat 1) + (-1 : Int32) = 0 := by decide
    rw [e]
    refine ⟨rfl, rfl, by decide, ?_⟩
    show 0 < _
    rw [List.length_append, List.length_replicate]; omega
theorem own_k0 {U N ng : Nat} {nf : Int32} {z : Int} (h : z = -(U : Int)) (hN : 1 ≤ N) (f : (nf = 0 ∧ ng = 0) ∨ (nf = 1 ∧ ng = 1)) : own_K U N ng nf 0 (ng + N) z :=
  ⟨by rw [h, Nat.pow_zero, Nat.div_one], by omega, by omega, f⟩
theorem own_kn {U N ng : Nat} {v : Int64} (hv : (v < 0 ∧ ng = 1 ∧ v.toInt = -(U : Int)) ∨ (¬ v < 0 ∧ ng = 0 ∧ v.toInt = (U : Int))) (hN : 1 ≤ N) (h : v < 0) : own_K U N ng 1 0 (ng + N) v.toInt := by
  rcases hv with ⟨-, q, w⟩ | ⟨q, -⟩
  · exact own_k0 w hN (Or.inr ⟨rfl, q⟩)
  · exact absurd h q
theorem own_kp {U N ng : Nat} {v : Int64} (hv : (v < 0 ∧ ng = 1 ∧ v.toInt = -(U : Int)) ∨ (¬ v < 0 ∧ ng = 0 ∧ v.toInt = (U : Int))) (hN : 1 ≤ N) (h : ¬ v < 0) : own_K U N ng 0 0 (ng + N) (-v).toInt := by
  rcases hv with ⟨q, -⟩ | ⟨-, q, w⟩
  · exact absurd q h
  · have l := Int64.toInt_lt v
    refine own_k0 ?_ hN (Or.inl ⟨rfl, q⟩)
    rw [Int64.toInt_neg, w, Int.bmod_eq_of_le (by omega) (by omega)]

section OwnDig
variable {args : Array Value} {s : State} {t : Term} {a : Addr}
theorem own_all {n : Nat} {f : Nat → Option Bool} (h : (List.range n).foldl (fun acc i => match acc with | some true => f i | x => x) (some true) = some true) : ∀ i, i < n → f i = some true := by
  induction n with
  | zero => intro i hi; omega
  | succ n ih =>
    rw [List.range_succ, List.foldl_append] at h
    cases q : (List.range n).foldl (fun acc i => match acc with | some true => f i | x => x) (some true) with
    | none => rw [q] at h; simp at h
    | some b =>
      cases b with
      | false => rw [q] at h; simp at h
      | true =>
        rw [q] at h
        intro i hi
        rcases Nat.lt_succ_iff_lt_or_eq.mp hi with w | w
        · exact ih q i w
        · subst w; simpa using h
theorem own_byteArr {c : Cell} (w : (Cond.arrayClass .byte).before args s = true) (ev : t.eval args s none [] s = some (.ref a)) (h0 : (Cond.exactly t "[B").value args s none s [] = some true) (ha : s.arrayAt? a = some c) : Arr s s.heap a c .byte := by
  obtain ⟨a', c1, cell, k, e1, e2, e3, e4, e5, e6, -⟩ := Cond.exactly_spec (Cond.before_iff.mpr h0)
  rw [ev] at e1; cases e1
  obtain ⟨c2, k2, comp, g1, g2, g3⟩ := Cond.arrayClass_spec w
  have : c1 = c2 := by
    have z : s.vm.findClass "[B" = some c2 := g1
    rw [e2] at z; exact Option.some.inj z
  subst this
  have hc : c = cell := by
    unfold State.arrayAt? at ha
    rw [e3] at ha
    simp only [Option.bind_eq_bind, Option.bind_some, e6, g2] at ha
    split at ha
    · cases ha
    · rw [g3] at ha; exact (Option.some.inj ha).symm
  subst hc
  have hu : c.vm ≠ .unknown := by
    intro q
    unfold State.arrayAt? at ha
    rw [e3] at ha
    simp [e6, g2, q] at ha
  exact ⟨e3, ⟨(fun k q => by rw [q] at e5; cases e5), k2, by rw [e6]; exact g2, comp, g3⟩, hu⟩
theorem own_digA {xs : List Int32} {r : Term} (w : (Cond.arrayClass .byte).before args s = true) (ev : t.eval args s none [] s = some (.ref a)) (h0 : (Cond.exactly t "[B").value args s none s [] = some true) (h1 : (Cond.eq (.length t) (.int 100)).value args s none s [] = some true) (h2 : (Cond.all t (.eq (.elem t (.index 0)) r)).value args s none s [] = some true)
    (hl : xs.length = 100) (hf : ∀ v ∈ xs, fits .byte (.int v) = true) (hr : ∀ i, i < 100 → r.eval args s none [i] s = some (.int (xs.getD i 0))) (hev : ∀ i, t.eval args s none [i] s = some (.ref a)) : AI s s.heap a .byte xs := by
  simp only [Cond.value, ev] at h2
  cases ha : s.arrayAt? a with
  | none => rw [ha] at h2; cases h2
  | some c =>
    rw [ha] at h2
    have A := own_byteArr w ev h0 ha
    simp only [Cond.value, Term.eval, ev, ha, Option.bind_eq_bind, Option.bind_some, Option.pure_def] at h1
    have hs : c.slots.size = 100 := by
      by_cases q : c.slots.size < 2 ^ 31
      · rw [if_pos q] at h1
        have e : c.slots.size.toInt32 = 100 := by simpa using h1
        have z := congrArg Int32.toInt e
        rw [show c.slots.size.toInt32 = Int32.ofNat c.slots.size from rfl, Int32.toInt_ofNat_of_lt (by omega), show (100 : Int32).toInt = 100 from rfl] at z
        omega
      · rw [if_neg q] at h1; simp at h1
    have al := own_all h2
    have hv : ∀ i, i < 100 → c.slots[i]? = some (.int (xs.getD i 0)) := by
      intro i hi
      have q := al i (by omega)
      rw [hr i hi] at q
      have n1 : (i.toInt32).toInt = i := by rw [show i.toInt32 = Int32.ofNat i from rfl, Int32.toInt_ofNat_of_lt (by omega)]
      have n2 : ¬ i.toInt32 < 0 := by rw [Int32.lt_iff_toInt_lt, n1, show (0 : Int32).toInt = 0 from rfl]; omega
      have n3 : i.toInt32.toNatClampNeg = i := by show i.toInt32.toInt.toNat = i; omega
      have z : Term.eval args s none [i] s (t.elem (.index 0)) = c.slots[i]? := by
        simp [Term.eval, hev i, ha, n2, n3]
      rw [z] at q
      cases p : c.slots[i]? with
      | none => rw [p] at q; cases q
      | some v => cases v <;> simp [p] at q; subst q; rfl
    refine ⟨c, A, ?_, by rw [List.length_map]; omega, ?_⟩
    · apply Array.ext
      · rw [hs, List.size_toArray, List.length_map, hl]
      · intro i h1 h2
        have z := hv i (by omega)
        rw [Array.getElem?_eq_getElem h1] at z
        rw [Option.some.inj z, List.getElem_toArray, List.getElem_map, List.getD_eq_getElem?_getD, List.getElem?_eq_getElem (by omega)]
        rfl
    · intro v hm
      obtain ⟨x, h3, rfl⟩ := List.mem_map.mp hm
      exact hf x h3
end OwnDig

theorem d0_0 : decode prog_28_method_1_code 0 = .ok (.aload_n 0, 1) := by decide +kernel
theorem d0_1 : decode prog_28_method_1_code 1 = .ok (.invokespecial 1, 3) := by decide +kernel
theorem d0_4 : decode prog_28_method_1_code 4 = .ok (.aload_n 0, 1) := by decide +kernel
theorem d0_5 : decode prog_28_method_1_code 5 = .ok (.lload_n 1, 1) := by decide +kernel
theorem d0_6 : decode prog_28_method_1_code 6 = .ok (.putfield 7, 3) := by decide +kernel
theorem d0_9 : decode prog_28_method_1_code 9 = .ok (.aload_n 0, 1) := by decide +kernel
theorem d0_10 : decode prog_28_method_1_code 10 = .ok (.iload_n 3, 1) := by decide +kernel
theorem d0_11 : decode prog_28_method_1_code 11 = .ok (.putfield 13, 3) := by decide +kernel
theorem d0_14 : decode prog_28_method_1_code 14 = .ok (.aload_n 0, 1) := by decide +kernel
theorem d0_15 : decode prog_28_method_1_code 15 = .ok (.aload 4, 2) := by decide +kernel
theorem d0_17 : decode prog_28_method_1_code 17 = .ok (.putfield 17, 3) := by decide +kernel
theorem d0_20 : decode prog_28_method_1_code 20 = .ok (.aload_n 0, 1) := by decide +kernel
theorem d0_21 : decode prog_28_method_1_code 21 = .ok (.aload 5, 2) := by decide +kernel
theorem d0_23 : decode prog_28_method_1_code 23 = .ok (.putfield 21, 3) := by decide +kernel
theorem d0_26 : decode prog_28_method_1_code 26 = .ok (.return_, 1) := by decide +kernel
theorem ef_binit (m : MethodId) (v0 : Addr) (v1 : Int64) : entryFrame m #[(.ref v0), (.long v1), (.int (0 : Int32)), .null, .null] 6 = mkF m 0 #[.val (.ref v0), .val (.long v1), .second, .val (.int (0 : Int32)), .val .null, .val .null] [] := by first | (simp [entryFrame, mkF, argsToLocals, Value.category]; done) | rfl
def Q_binit (Z : State) (v0 : Addr) (v1 : Int64) (h0 : Heap) (n0 : Nat) (v : Option Value) (h : Heap) (L : List Loc) : Prop := v = none ∧ Fr n0 L ∧ Keep h0 h [v0] ∧ Exa Z h v0 "com/example/colonwise/colonwise/model/BencodeInteger" ∧ Fld Z h v0 "com/example/colonwise/colonwise/model/BencodeInteger" "small" "J" (.long v1) ∧ Fld Z h v0 "com/example/colonwise/colonwise/model/BencodeInteger" "wide" "Z" (.int (0 : Int32))
set_option maxRecDepth 65536 in
set_option maxHeartbeats 40000000 in
theorem rm_binit (l : Launch) (Z : State) (a0 : Array Value) (hw : ∀ d ∈ tables_1, d.before a0 Z = true) (ws : List Jvm.Cond) (v0 : Addr) (v1 : Int64) (h0 : Heap) (n0 : Nat) (Z0 : n0 ≤ h0.size) (f0_E_v0 : Exa Z h0 v0 "com/example/colonwise/colonwise/model/BencodeInteger") (f1_F_v0 : Fld Z h0 v0 "com/example/colonwise/colonwise/model/BencodeInteger" "small" "J" (.long (0 : Int64))) (f2_F_v0 : Fld Z h0 v0 "com/example/colonwise/colonwise/model/BencodeInteger" "wide" "Z" (.int (0 : Int32))) (f3_F_v0 : Fld Z h0 v0 "com/example/colonwise/colonwise/model/BencodeInteger" "big" "Ljava/math/BigInteger;" .null) (f4_F_v0 : Fld Z h0 v0 "com/example/colonwise/colonwise/model/BencodeInteger" "decimal" "Ljava/lang/String;" .null) (g_v0 : n0 ≤ v0) :
    MetFree l (⟨"com/example/colonwise/colonwise/model/BencodeInteger", "<init>", "(JZLjava/math/BigInteger;Ljava/lang/String;)V"⟩ : MethodName) (head1 (Jvm.Cond.code (⟨"com/example/colonwise/colonwise/model/BencodeInteger", "<init>", "(JZLjava/math/BigInteger;Ljava/lang/String;)V"⟩ : MethodName) prog_28_method_1_code 6 none :: ws) ({ frames := 1, cells := 0, slots := 0, locals := 12 } : Room)) (fun a U => a = #[(.ref v0), (.long v1), (.int (0 : Int32)), .null, .null] ∧ Z.Warmed39 U.vm ∧ U.heap = h0) (fun _ _ _ _ _ => True) (fun _ U o U' => ∃ v L, o = .returned v ∧ Q_binit Z v0 v1 h0 n0 v U'.heap L ∧ FrameEnd U o U' L ({ frames := 1, cells := 0, slots := 0, locals := 12 } : Room).cells ({ frames := 1, cells := 0, slots := 0, locals := 12 } : Room).slots) := by
  refine MetFree.of_bodySF (plainFor_of_name (by first | (simp [plainName, overriddenIn]; done) | decide +kernel)) hisR ?_
  intro p e s m args below meth c s₁ Bd hml0 hP hK
  obtain ⟨rfl, hZ, hh⟩ := hP
  have hx := Bd.exec
  have hby := Bd.bytes
  have hml : c.maxLocals = 6 := hml0
  have hown : s.vm.findClass "com/example/colonwise/colonwise/model/BencodeInteger" = some m.cls := findClass_of_methodNamed Bd.named
  have hnm := (name_of_methodNamed Bd.named Bd.method).1
  have hlk : meth.locks = false := Bd.notSynchronized
  have X0 : Stand p l e ({ frames := 1, cells := 0, slots := 0, locals := 12 } : Room) s m #[(.ref v0), (.long v1), (.int (0 : Int32)), .null, .null] below meth c s₁ [] 0 0 := Stand.of_body Bd
  have e0 : s₁.heap = h0 := by rw [← hh, Bd.state]; rfl
  have N0 := Fr.nil n0
  refine Go.enter (Q := Q_binit Z v0 v1 h0 n0) (C := ({ frames := 1, cells := 0, slots := 0, locals := 12 } : Room).cells) (N := ({ frames := 1, cells := 0, slots := 0, locals := 12 } : Room).slots) (ef_binit m v0 v1) ?_
  show Go p e below s _ _ _ s₁ (mkF m 0 #[.val (.ref v0), .val (.long v1), .second, .val (.int (0 : Int32)), .val .null, .val .null] [])
  refine G_aloadN X0 hx (pc' := 1) rfl (hb hby d0_0) rfl rfl ?_
  obtain ⟨T1, X1, e1, st1⟩ := initO X0 hx hZ hown (own_w hw 9 rfl) (own_w hw 10 rfl) (own_w hw 11 rfl) e0 (g := (mkF m 1 #[.val (.ref v0), .val (.long v1), .second, .val (.int (0 : Int32)), .val .null, .val .null] [(.ref v0)])) rfl (by rw [hml]; rfl) rfl (hb hby d0_1) (by decide) (W := 0) (by show 2 * 0 + _ ≤ _; exact Nat.le_of_eq rfl) (by decide)
  refine Go.st st1 ?_
  show Go p e below s _ _ _ T1 (mkF m 4 #[.val (.ref v0), .val (.long v1), .second, .val (.int (0 : Int32)), .val .null, .val .null] [])
  refine G_aloadN X1 hx (pc' := 5) rfl (hb hby d0_4) rfl rfl ?_
  refine G_lloadN X1 hx (pc' := 6) rfl (hb hby d0_5) rfl ?_
  obtain ⟨T2, h2, X2, e2, W2, st2⟩ := putF X1 hx hZ hown (host := "") (Or.inl (own_w hw 12 rfl)) Via.refl e1 f1_F_v0 f0_E_v0 (Or.inr ⟨(own_w hw 13 rfl), rfl, hnm⟩) (own_w hw 5 rfl) (ty := .long) (by decide) rfl rfl (g := (mkF m 6 #[.val (.ref v0), .val (.long v1), .second, .val (.int (0 : Int32)), .val .null, .val .null] [(.long v1), (.ref v0)])) rfl rfl (hb hby d0_6)
  refine Go.st st2 ?_
  have F_v0_w2 := f1_F_v0.same W2
  have E_v0_2 := f0_E_v0.wr W2
  have F_v0_wide_2 := f2_F_v0.other W2 (Or.inr (slot_ne (Or.inr (own_w hw 15 rfl)) (Or.inr (own_w hw 13 rfl)) (by decide) (t := .boolean) (t' := .long) (by decide) (by decide)))
  have F_v0_big_2 := f3_F_v0.other W2 (Or.inr (slot_ne (Or.inl (own_w hw 17 rfl)) (Or.inr (own_w hw 13 rfl)) (by decide) (t := (.object "java/math/BigInteger")) (t' := .long) (by decide) (by decide)))
  have F_v0_decimal_2 := f4_F_v0.other W2 (Or.inr (slot_ne (Or.inl (own_w hw 19 rfl)) (Or.inr (own_w hw 13 rfl)) (by decide) (t := (.object "java/lang/String")) (t' := .long) (by decide) (by decide)))
  have K_2 : Keep h0 h2 [v0] := (Keep.refl h0 [v0]).wr W2 (Or.inl (List.mem_of_getElem? (i := 0) rfl))
  have Z_2 : n0 ≤ h2.size := Nat.le_trans Z0 K_2.1
  have N2 := Fr.snoc X2 N0 g_v0
  clear f0_E_v0 f1_F_v0 f2_F_v0 f3_F_v0 f4_F_v0 W2 st2
  obtain ⟨G2, Y2, M2⟩ : ∃ L, Stand p l e ({ frames := 1, cells := 0, slots := 0, locals := 12 } : Room) s m #[(.ref v0), (.long v1), (.int (0 : Int32)), .null, .null] below meth c T2 L 0 0 ∧ Fr n0 L := ⟨_, X2, N2⟩
  clear X2 N2
  show Go p e below s _ _ _ T2 (mkF m 9 #[.val (.ref v0), .val (.long v1), .second, .val (.int (0 : Int32)), .val .null, .val .null] [])
  refine G_aloadN Y2 hx (pc' := 10) rfl (hb hby d0_9) rfl rfl ?_
  refine G_iloadN Y2 hx (pc' := 11) rfl (hb hby d0_10) rfl ?_
  obtain ⟨T3, h3, X3, e3, W3, st3⟩ := putFN Y2 hx hZ hown (own_w hw 14 rfl) Via.refl e2 F_v0_wide_2 E_v0_2 (Or.inr ⟨(own_w hw 15 rfl), rfl, hnm⟩) (own_w hw 5 rfl) (ty := .boolean) (v' := (.int (0 : Int32))) (by decide) rfl (by decide) (g := (mkF m 11 #[.val (.ref v0), .val (.long v1), .second, .val (.int (0 : Int32)), .val .null, .val .null] [(.int (0 : Int32)), (.ref v0)])) rfl rfl (hb hby d0_11)
  refine Go.st st3 ?_
  have F_v0_w3 := F_v0_wide_2.same W3
  have E_v0_3 := E_v0_2.wr W3
  have F_v0_big_3 := F_v0_big_2.other W3 (Or.inr (slot_ne (Or.inl (own_w hw 17 rfl)) (Or.inr (own_w hw 15 rfl)) (by decide) (t := (.object "java/math/BigInteger")) (t' := .boolean) (by decide) (by decide)))
  have F_v0_decimal_3 := F_v0_decimal_2.other W3 (Or.inr (slot_ne (Or.inl (own_w hw 19 rfl)) (Or.inr (own_w hw 15 rfl)) (by decide) (t := (.object "java/lang/String")) (t' := .boolean) (by decide) (by decide)))
  have F_v0_small_3 := F_v0_w2.other W3 (Or.inr (slot_ne (Or.inr (own_w hw 13 rfl)) (Or.inr (own_w hw 15 rfl)) (by decide) (t := .long) (t' := .boolean) (by decide) (by decide)))
  have K_3 : Keep h0 h3 [v0] := K_2.wr W3 (Or.inl (List.mem_of_getElem? (i := 0) rfl))
  have Z_3 : n0 ≤ h3.size := Nat.le_trans Z0 K_3.1
  have N3 := Fr.snoc X3 M2 g_v0
  clear E_v0_2 F_v0_wide_2 F_v0_big_2 F_v0_decimal_2 F_v0_w2 W3 st3
  obtain ⟨G3, Y3, M3⟩ : ∃ L, Stand p l e ({ frames := 1, cells := 0, slots := 0, locals := 12 } : Room) s m #[(.ref v0), (.long v1), (.int (0 : Int32)), .null, .null] below meth c T3 L 0 0 ∧ Fr n0 L := ⟨_, X3, N3⟩
  clear X3 N3
  show Go p e below s _ _ _ T3 (mkF m 14 #[.val (.ref v0), .val (.long v1), .second, .val (.int (0 : Int32)), .val .null, .val .null] [])
  refine G_aloadN Y3 hx (pc' := 15) rfl (hb hby d0_14) rfl rfl ?_
  refine G_aload Y3 hx (pc' := 17) rfl (hb hby d0_15) rfl rfl ?_
  obtain ⟨T4, h4, X4, e4, W4, st4⟩ := putF Y3 hx hZ hown (host := "") (Or.inl (own_w hw 16 rfl)) Via.refl e3 F_v0_big_3 E_v0_3 (Or.inl (own_w hw 17 rfl)) (own_w hw 5 rfl) (ty := (.object "java/math/BigInteger")) (by decide) rfl rfl (g := (mkF m 17 #[.val (.ref v0), .val (.long v1), .second, .val (.int (0 : Int32)), .val .null, .val .null] [.null, (.ref v0)])) rfl rfl (hb hby d0_17)
  refine Go.st st4 ?_
  have F_v0_w4 := F_v0_big_3.same W4
  have E_v0_4 := E_v0_3.wr W4
  have F_v0_decimal_4 := F_v0_decimal_3.other W4 (Or.inr (slot_ne (Or.inl (own_w hw 19 rfl)) (Or.inl (own_w hw 17 rfl)) (by decide) (t := (.object "java/lang/String")) (t' := (.object "java/math/BigInteger")) (by decide) (by decide)))
  have F_v0_small_4 := F_v0_small_3.other W4 (Or.inr (slot_ne (Or.inr (own_w hw 13 rfl)) (Or.inl (own_w hw 17 rfl)) (by decide) (t := .long) (t' := (.object "java/math/BigInteger")) (by decide) (by decide)))
  have F_v0_wide_4 := F_v0_w3.other W4 (Or.inr (slot_ne (Or.inr (own_w hw 15 rfl)) (Or.inl (own_w hw 17 rfl)) (by decide) (t := .boolean) (t' := (.object "java/math/BigInteger")) (by decide) (by decide)))
  have K_4 : Keep h0 h4 [v0] := K_3.wr W4 (Or.inl (List.mem_of_getElem? (i := 0) rfl))
  have Z_4 : n0 ≤ h4.size := Nat.le_trans Z0 K_4.1
  have N4 := Fr.snoc X4 M3 g_v0
  clear E_v0_3 F_v0_big_3 F_v0_decimal_3 F_v0_small_3 F_v0_w3 W4 st4
  obtain ⟨G4, Y4, M4⟩ : ∃ L, Stand p l e ({ frames := 1, cells := 0, slots := 0, locals := 12 } : Room) s m #[(.ref v0), (.long v1), (.int (0 : Int32)), .null, .null] below meth c T4 L 0 0 ∧ Fr n0 L := ⟨_, X4, N4⟩
  clear X4 N4
  show Go p e below s _ _ _ T4 (mkF m 20 #[.val (.ref v0), .val (.long v1), .second, .val (.int (0 : Int32)), .val .null, .val .null] [])
  refine G_aloadN Y4 hx (pc' := 21) rfl (hb hby d0_20) rfl rfl ?_
  refine G_aload Y4 hx (pc' := 23) rfl (hb hby d0_21) rfl rfl ?_
  obtain ⟨T5, h5, X5, e5, W5, st5⟩ := putF Y4 hx hZ hown (host := "") (Or.inl (own_w hw 18 rfl)) Via.refl e4 F_v0_decimal_4 E_v0_4 (Or.inl (own_w hw 19 rfl)) (own_w hw 5 rfl) (ty := (.object "java/lang/String")) (by decide) rfl rfl (g := (mkF m 23 #[.val (.ref v0), .val (.long v1), .second, .val (.int (0 : Int32)), .val .null, .val .null] [.null, (.ref v0)])) rfl rfl (hb hby d0_23)
  refine Go.st st5 ?_
  have F_v0_w5 := F_v0_decimal_4.same W5
  have E_v0_5 := E_v0_4.wr W5
  have F_v0_small_5 := F_v0_small_4.other W5 (Or.inr (slot_ne (Or.inr (own_w hw 13 rfl)) (Or.inl (own_w hw 19 rfl)) (by decide) (t := .long) (t' := (.object "java/lang/String")) (by decide) (by decide)))
  have F_v0_wide_5 := F_v0_wide_4.other W5 (Or.inr (slot_ne (Or.inr (own_w hw 15 rfl)) (Or.inl (own_w hw 19 rfl)) (by decide) (t := .boolean) (t' := (.object "java/lang/String")) (by decide) (by decide)))
  have F_v0_big_5 := F_v0_w4.other W5 (Or.inr (slot_ne (Or.inl (own_w hw 17 rfl)) (Or.inl (own_w hw 19 rfl)) (by decide) (t := (.object "java/math/BigInteger")) (t' := (.object "java/lang/String")) (by decide) (by decide)))
  have K_5 : Keep h0 h5 [v0] := K_4.wr W5 (Or.inl (List.mem_of_getElem? (i := 0) rfl))
  have Z_5 : n0 ≤ h5.size := Nat.le_trans Z0 K_5.1
  have N5 := Fr.snoc X5 M4 g_v0
  clear E_v0_4 F_v0_decimal_4 F_v0_small_4 F_v0_wide_4 F_v0_w4 W5 st5
  obtain ⟨G5, Y5, M5⟩ : ∃ L, Stand p l e ({ frames := 1, cells := 0, slots := 0, locals := 12 } : Room) s m #[(.ref v0), (.long v1), (.int (0 : Int32)), .null, .null] below meth c T5 L 0 0 ∧ Fr n0 L := ⟨_, X5, N5⟩
  clear X5 N5
  show Go p e below s _ _ _ T5 (mkF m 26 #[.val (.ref v0), .val (.long v1), .second, .val (.int (0 : Int32)), .val .null, .val .null] [])
  refine Go.fin Y5 hlk (v := none) (fun _ => rfl) (by decide) (by decide) ?_ (fun fs hr => Y5.returnOut hx Bd.returns (hb hby d0_26) hr)
  show Q_binit Z v0 v1 h0 n0 _ T5.heap _
  rw [e5]
  exact ⟨rfl, M5, K_5, E_v0_5, F_v0_small_5, F_v0_wide_5⟩
theorem d1_0 : decode prog_28_method_2_code 0 = .ok (.new 8, 3) := by decide +kernel
theorem d1_3 : decode prog_28_method_2_code 3 = .ok (.dup, 1) := by decide +kernel
theorem d1_4 : decode prog_28_method_2_code 4 = .ok (.lload_n 0, 1) := by decide +kernel
theorem d1_5 : decode prog_28_method_2_code 5 = .ok (.iconst 0, 1) := by decide +kernel
theorem d1_6 : decode prog_28_method_2_code 6 = .ok (.aconst_null, 1) := by decide +kernel
theorem d1_7 : decode prog_28_method_2_code 7 = .ok (.aconst_null, 1) := by decide +kernel
theorem d1_8 : decode prog_28_method_2_code 8 = .ok (.invokespecial 25, 3) := by decide +kernel
theorem pd_0 : parseMethodDescriptor "(JZLjava/math/BigInteger;Ljava/lang/String;)V" = some ⟨[.long, .boolean, (.object "java/math/BigInteger"), (.object "java/lang/String")], none⟩ := by decide +kernel
theorem d1_11 : decode prog_28_method_2_code 11 = .ok (.areturn, 1) := by decide +kernel
theorem ef_of (m : MethodId) (v0 : Int64) : entryFrame m #[(.long v0)] 2 = mkF m 0 #[.val (.long v0), .second] [] := by first | (simp [entryFrame, mkF, argsToLocals, Value.category]; done) | rfl
def Q_of (Z : State) (v0 : Int64) (h0 : Heap) (n0 : Nat) (v : Option Value) (h : Heap) (L : List Loc) : Prop := ∃ b0 : Addr, v = some (.ref b0) ∧ Fr n0 L ∧ Keep h0 h [] ∧ h0.size ≤ b0 ∧ Exa Z h b0 "com/example/colonwise/colonwise/model/BencodeInteger" ∧ Fld Z h b0 "com/example/colonwise/colonwise/model/BencodeInteger" "small" "J" (.long v0) ∧ Fld Z h b0 "com/example/colonwise/colonwise/model/BencodeInteger" "wide" "Z" (.int (0 : Int32))
set_option maxRecDepth 65536 in
set_option maxHeartbeats 40000000 in
theorem rm_of (l : Launch) (Z : State) (a0 : Array Value) (hw : ∀ d ∈ tables_1, d.before a0 Z = true) (ws : List Jvm.Cond) (v0 : Int64) (h0 : Heap) (n0 : Nat) (Z0 : n0 ≤ h0.size) :
    MetFree l (⟨"com/example/colonwise/colonwise/model/BencodeInteger", "of", "(J)Lcom/example/colonwise/colonwise/model/BencodeInteger;"⟩ : MethodName) (head1 (Jvm.Cond.code (⟨"com/example/colonwise/colonwise/model/BencodeInteger", "of", "(J)Lcom/example/colonwise/colonwise/model/BencodeInteger;"⟩ : MethodName) prog_28_method_2_code 2 (some (.object "com/example/colonwise/colonwise/model/BencodeInteger")) :: ws) ({ frames := 2, cells := 1, slots := 4, locals := 30 } : Room)) (fun a U => a = #[(.long v0)] ∧ Z.Warmed39 U.vm ∧ U.heap = h0) (fun _ _ _ _ _ => True) (fun _ U o U' => ∃ v L, o = .returned v ∧ Q_of Z v0 h0 n0 v U'.heap L ∧ FrameEnd U o U' L ({ frames := 2, cells := 1, slots := 4, locals := 30 } : Room).cells ({ frames := 2, cells := 1, slots := 4, locals := 30 } : Room).slots) := by
  refine MetFree.of_bodySF (plainFor_of_name (by first | (simp [plainName, overriddenIn]; done) | decide +kernel)) hisR ?_
  intro p e s m args below meth c s₁ Bd hml0 hP hK
  obtain ⟨rfl, hZ, hh⟩ := hP
  have hx := Bd.exec
  have hby := Bd.bytes
  have hml : c.maxLocals = 2 := hml0
  have hown : s.vm.findClass "com/example/colonwise/colonwise/model/BencodeInteger" = some m.cls := findClass_of_methodNamed Bd.named
  have hnm := (name_of_methodNamed Bd.named Bd.method).1
  have hlk : meth.locks = false := Bd.notSynchronized
  have X0 : Stand p l e ({ frames := 2, cells := 1, slots := 4, locals := 30 } : Room) s m #[(.long v0)] below meth c s₁ [] 0 0 := Stand.of_body Bd
  have e0 : s₁.heap = h0 := by rw [← hh, Bd.state]; rfl
  have N0 := Fr.nil n0
  refine Go.enter (Q := Q_of Z v0 h0 n0) (C := ({ frames := 2, cells := 1, slots := 4, locals := 30 } : Room).cells) (N := ({ frames := 2, cells := 1, slots := 4, locals := 30 } : Room).slots) (ef_of m v0) ?_
  show Go p e below s _ _ _ s₁ (mkF m 0 #[.val (.long v0), .second] [])
  obtain ⟨T6, h6, X6, e6, E6, A6, D6, -, st6⟩ := newO X0 hx hZ hown (own_w hw 4 rfl) (own_w hw 5 rfl) (own_w hw 2 rfl) e0 (g := (mkF m 0 #[.val (.long v0), .second] [])) rfl (hb hby d1_0) (by decide) (by decide)
  obtain ⟨b6, q6⟩ : ∃ z, z = h0.size := ⟨_, rfl⟩
  rw [← q6] at A6 D6 st6
  refine Go.st st6 ?_
  have g_b6 : n0 ≤ b6 := Nat.le_trans Z0 (Nat.le_of_eq q6.symm)
  have sz_b6 : h0.size ≤ b6 := Nat.le_trans (Nat.le_refl _) (Nat.le_of_eq q6.symm)
  have F_b6_small : Fld Z h6 b6 "com/example/colonwise/colonwise/model/BencodeInteger" "small" "J" (.long (0 : Int64)) := D6 (Or.inr (own_w hw 13 rfl)) (ty := .long) (by decide)
  have F_b6_wide : Fld Z h6 b6 "com/example/colonwise/colonwise/model/BencodeInteger" "wide" "Z" (.int (0 : Int32)) := D6 (Or.inr (own_w hw 15 rfl)) (ty := .boolean) (by decide)
  have F_b6_big : Fld Z h6 b6 "com/example/colonwise/colonwise/model/BencodeInteger" "big" "Ljava/math/BigInteger;" .null := D6 (Or.inl (own_w hw 17 rfl)) (ty := (.object "java/math/BigInteger")) (by decide)
  have F_b6_decimal : Fld Z h6 b6 "com/example/colonwise/colonwise/model/BencodeInteger" "decimal" "Ljava/lang/String;" .null := D6 (Or.inl (own_w hw 19 rfl)) (ty := (.object "java/lang/String")) (by decide)
  have K_6 : Keep h0 h6 [] := (Keep.refl h0 []).ext E6
  have Z_6 : n0 ≤ h6.size := Nat.le_trans Z0 K_6.1
  clear E6 st6 D6
  show Go p e below s _ _ _ T6 (mkF m 3 #[.val (.long v0), .second] [(.ref b6)])
  refine G_dup X6 hx (pc' := 4) rfl (hb hby d1_3) rfl ?_
  refine G_lloadN X6 hx (pc' := 5) rfl (hb hby d1_4) rfl ?_
  refine G_iconst X6 hx (pc' := 6) rfl (hb hby d1_5) (z := (0 : Int32)) rfl ?_
  refine G_aconstNull X6 hx (pc' := 7) rfl (hb hby d1_6)  ?_
  refine G_aconstNull X6 hx (pc' := 8) rfl (hb hby d1_7)  ?_
  obtain ⟨_, _, ⟨T7, L7, k7, n7⟩, -, X7, ⟨Lc7, hQ7, l7, y7, z7⟩, st7⟩ := X6.specialBack hx (y := (⟨"com/example/colonwise/colonwise/model/BencodeInteger", "<init>", "(JZLjava/math/BigInteger;Ljava/lang/String;)V"⟩ : MethodName)) rfl hown (mvT hZ (own_w hw 6 rfl)) (mvT hZ (own_w hw 7 rfl)) (mvT hZ (own_w hw 8 rfl)) (by decide) (backOf (W := 1) (rm_binit l Z a0 hw [] b6 v0 h6 n0 Z_6 A6 F_b6_small F_b6_wide F_b6_big F_b6_decimal g_b6) hZ (own_w hw 8 rfl) (own_w hw 2 rfl) (by decide) (by decide)) (g := (mkF m 8 #[.val (.long v0), .second] [.null, .null, (.int (0 : Int32)), (.long v0), (.ref b6), (.ref b6)])) rfl (by rw [hml]; rfl) (Steps.refl _) (a := b6) (argsL := [(.long v0), (.int (0 : Int32)), .null, .null]) (rest := [(.ref b6)]) (lenOf pd_0 rfl) rfl (by show 2 * 0 + _ ≤ _; exact Nat.le_of_eq rfl) (hb hby d1_8) (fun _ _ => ⟨rfl, e6, (by decide : 1 + 0 ≤ _), (by decide : 4 + 0 ≤ _)⟩)
  dsimp only [Pt.U, Pt.locs, Pt.cells, Pt.slots] at X7 l7 y7 z7 st7 hQ7
  rw [l7, y7, z7] at X7
  clear l7 y7 z7
  obtain ⟨rfl, N7q, K7, p7_0, p7_1, p7_2⟩ := hQ7
  have N7 := Fr.app N0 N7q
  refine Go.st (fun _ k => st7.trans k) ?_
  have K_7 : Keep h0 T7.heap [] := K_6.trans K7 (allS (Or.inr sz_b6) all0)
  have Z_7 : n0 ≤ T7.heap.size := Nat.le_trans Z0 K_7.1
  clear A6 F_b6_small F_b6_wide F_b6_big F_b6_decimal st7 K7
  obtain ⟨G7, Y7, M7⟩ : ∃ L, Stand p l e ({ frames := 2, cells := 1, slots := 4, locals := 30 } : Room) s m #[(.long v0)] below meth c T7 L 1 4 ∧ Fr n0 L := ⟨_, X7, N7⟩
  clear X7 N7
  show Go p e below s _ _ _ T7 (mkF m 11 #[.val (.long v0), .second] [(.ref b6)])
  refine Go.fin Y7 hlk (v := some (.ref b6)) (fun h => by rw [Bd.returns] at h; cases h) (by decide) (by decide) ?_ (fun fs hr => retOut Y7 hx Bd.returns rfl (Or.inr (Or.inr (Or.inr (Or.inr ⟨rfl, rfl, rfl⟩)))) (hb hby d1_11) hr)
  show Q_of Z v0 h0 n0 _ T7.heap _
  exact ⟨b6, rfl, M7, K_7, sz_b6, p7_0, p7_1, p7_2⟩
theorem d2_0 : decode prog_28_method_6_code 0 = .ok (.aload_n 0, 1) := by decide +kernel
theorem d2_1 : decode prog_28_method_6_code 1 = .ok (.getfield 13, 3) := by decide +kernel
theorem d2_4 : decode prog_28_method_6_code 4 = .ok (.ifCond .ne 7, 3) := by decide +kernel
theorem d2_7 : decode prog_28_method_6_code 7 = .ok (.iconst 1, 1) := by decide +kernel
theorem d2_8 : decode prog_28_method_6_code 8 = .ok (.goto 4, 3) := by decide +kernel
theorem d2_12 : decode prog_28_method_6_code 12 = .ok (.ireturn, 1) := by decide +kernel
def f_fits (x : Int64) : Int32 := (1 : Int32)
theorem ef_fits (m : MethodId) (v0 : Addr) : entryFrame m #[(.ref v0)] 1 = mkF m 0 #[.val (.ref v0)] [] := by first | (simp [entryFrame, mkF, argsToLocals, Value.category]; done) | rfl
def Q_fits (Z : State) (v0 : Addr) (x : Int64) (h0 : Heap) (n0 : Nat) (v : Option Value) (h : Heap) (L : List Loc) : Prop := v = some (.int (f_fits x)) ∧ Fr n0 L ∧ h = h0
set_option maxRecDepth 65536 in
set_option maxHeartbeats 40000000 in
theorem rm_fits (l : Launch) (Z : State) (a0 : Array Value) (hw : ∀ d ∈ tables_1, d.before a0 Z = true) (ws : List Jvm.Cond) (v0 : Addr) (x : Int64) (h0 : Heap) (n0 : Nat) (Z0 : n0 ≤ h0.size) (f0_E_v0 : Exa Z h0 v0 "com/example/colonwise/colonwise/model/BencodeInteger") (f1_F_v0 : Fld Z h0 v0 "com/example/colonwise/colonwise/model/BencodeInteger" "small" "J" (.long x)) (f2_F_v0 : Fld Z h0 v0 "com/example/colonwise/colonwise/model/BencodeInteger" "wide" "Z" (.int (0 : Int32))) :
    MetFree l (⟨"com/example/colonwise/colonwise/model/BencodeInteger", "fitsInLong", "()Z"⟩ : MethodName) (head1 (Jvm.Cond.code (⟨"com/example/colonwise/colonwise/model/BencodeInteger", "fitsInLong", "()Z"⟩ : MethodName) prog_28_method_6_code 1 (some .boolean) :: ws) ({ frames := 0, cells := 0, slots := 0, locals := 0 } : Room)) (fun a U => a = #[(.ref v0)] ∧ Z.Warmed39 U.vm ∧ U.heap = h0) (fun _ _ _ _ _ => True) (fun _ U o U' => ∃ v L, o = .returned v ∧ Q_fits Z v0 x h0 n0 v U'.heap L ∧ FrameEnd U o U' L ({ frames := 0, cells := 0, slots := 0, locals := 0 } : Room).cells ({ frames := 0, cells := 0, slots := 0, locals := 0 } : Room).slots) := by
  refine MetFree.of_bodySF (plainFor_of_name (by first | (simp [plainName, overriddenIn]; done) | decide +kernel)) hisR ?_
  intro p e s m args below meth c s₁ Bd hml0 hP hK
  obtain ⟨rfl, hZ, hh⟩ := hP
  have hx := Bd.exec
  have hby := Bd.bytes
  have hml : c.maxLocals = 1 := hml0
  have hown : s.vm.findClass "com/example/colonwise/colonwise/model/BencodeInteger" = some m.cls := findClass_of_methodNamed Bd.named
  have hnm := (name_of_methodNamed Bd.named Bd.method).1
  have hlk : meth.locks = false := Bd.notSynchronized
  have X0 : Stand p l e ({ frames := 0, cells := 0, slots := 0, locals := 0 } : Room) s m #[(.ref v0)] below meth c s₁ [] 0 0 := Stand.of_body Bd
  have e0 : s₁.heap = h0 := by rw [← hh, Bd.state]; rfl
  have N0 := Fr.nil n0
  refine Go.enter (Q := Q_fits Z v0 x h0 n0) (C := ({ frames := 0, cells := 0, slots := 0, locals := 0 } : Room).cells) (N := ({ frames := 0, cells := 0, slots := 0, locals := 0 } : Room).slots) (ef_fits m v0) ?_
  show Go p e below s _ _ _ s₁ (mkF m 0 #[.val (.ref v0)] [])
  refine G_aloadN X0 hx (pc' := 1) rfl (hb hby d2_0) rfl rfl ?_
  obtain ⟨T8, X8, e8, st8⟩ := getF X0 hx hZ hown (host := "") (Or.inl (own_w hw 14 rfl)) Via.refl e0 f2_F_v0 (g := (mkF m 1 #[.val (.ref v0)] [(.ref v0)])) rfl rfl (hb hby d2_1)
  refine Go.st st8 ?_
  show Go p e below s _ _ _ T8 (mkF m 4 #[.val (.ref v0)] [(.int (0 : Int32))])
  refine G_ifNo X8 hx (pc' := 7) rfl (hb hby d2_4) ((if0 _ _).trans (teq (by decide : (0 : Int32) = (0 : Int32))).2) ?_
  refine G_iconst X8 hx (pc' := 8) rfl (hb hby d2_7) (z := (1 : Int32)) rfl ?_
  refine G_goto X8 hx (pc' := 12) (hb hby d2_8)  (by decide) (by decide) ?_
  refine Go.fin X8 hlk (v := some (.int (1 : Int32))) (fun h => by rw [Bd.returns] at h; cases h) (by decide) (by decide) ?_ (fun fs hr => retN X8 hx (t := .boolean) Bd.returns (by simp) (hb hby d2_12) hr)
  show Q_fits Z v0 x h0 n0 _ T8.heap _
  rw [e8]
  exact ⟨congrArg (fun z => some (Value.int z)) (Eq.symm (rfl : f_fits x = _)), N0, rfl⟩
theorem d3_0 : decode prog_28_method_7_code 0 = .ok (.aload_n 0, 1) := by decide +kernel
theorem d3_1 : decode prog_28_method_7_code 1 = .ok (.getfield 13, 3) := by decide +kernel
theorem d3_4 : decode prog_28_method_7_code 4 = .ok (.ifCond .eq 20, 3) := by decide +kernel
theorem d3_24 : decode prog_28_method_7_code 24 = .ok (.aload_n 0, 1) := by decide +kernel
theorem d3_25 : decode prog_28_method_7_code 25 = .ok (.getfield 7, 3) := by decide +kernel
theorem d3_28 : decode prog_28_method_7_code 28 = .ok (.lreturn, 1) := by decide +kernel
def f_lval (x : Int64) : Int64 := x
theorem ef_lval (m : MethodId) (v0 : Addr) : entryFrame m #[(.ref v0)] 1 = mkF m 0 #[.val (.ref v0)] [] := by first | (simp [entryFrame, mkF, argsToLocals, Value.category]; done) | rfl
def Q_lval (Z : State) (v0 : Addr) (x : Int64) (h0 : Heap) (n0 : Nat) (v : Option Value) (h : Heap) (L : List Loc) : Prop := v = some (.long (f_lval x)) ∧ Fr n0 L ∧ h = h0
set_option maxRecDepth 65536 in
set_option maxHeartbeats 40000000 in
theorem rm_lval (l : Launch) (Z : State) (a0 : Array Value) (hw : ∀ d ∈ tables_1, d.before a0 Z = true) (ws : List Jvm.Cond) (v0 : Addr) (x : Int64) (h0 : Heap) (n0 : Nat) (Z0 : n0 ≤ h0.size) (f0_E_v0 : Exa Z h0 v0 "com/example/colonwise/colonwise/model/BencodeInteger") (f1_F_v0 : Fld Z h0 v0 "com/example/colonwise/colonwise/model/BencodeInteger" "small" "J" (.long x)) (f2_F_v0 : Fld Z h0 v0 "com/example/colonwise/colonwise/model/BencodeInteger" "wide" "Z" (.int (0 : Int32))) :
    MetFree l (⟨"com/example/colonwise/colonwise/model/BencodeInteger", "longValue", "()J"⟩ : MethodName) (head1 (Jvm.Cond.code (⟨"com/example/colonwise/colonwise/model/BencodeInteger", "longValue", "()J"⟩ : MethodName) prog_28_method_7_code 1 (some .long) :: ws) ({ frames := 0, cells := 0, slots := 0, locals := 0 } : Room)) (fun a U => a = #[(.ref v0)] ∧ Z.Warmed39 U.vm ∧ U.heap = h0) (fun _ _ _ _ _ => True) (fun _ U o U' => ∃ v L, o = .returned v ∧ Q_lval Z v0 x h0 n0 v U'.heap L ∧ FrameEnd U o U' L ({ frames := 0, cells := 0, slots := 0, locals := 0 } : Room).cells ({ frames := 0, cells := 0, slots := 0, locals := 0 } : Room).slots) := by
  refine MetFree.of_bodySF (plainFor_of_name (by first | (simp [plainName, overriddenIn]; done) | decide +kernel)) hisR ?_
  intro p e s m args below meth c s₁ Bd hml0 hP hK
  obtain ⟨rfl, hZ, hh⟩ := hP
  have hx := Bd.exec
  have hby := Bd.bytes
  have hml : c.maxLocals = 1 := hml0
  have hown : s.vm.findClass "com/example/colonwise/colonwise/model/BencodeInteger" = some m.cls := findClass_of_methodNamed Bd.named
  have hnm := (name_of_methodNamed Bd.named Bd.method).1
  have hlk : meth.locks = false := Bd.notSynchronized
  have X0 : Stand p l e ({ frames := 0, cells := 0, slots := 0, locals := 0 } : Room) s m #[(.ref v0)] below meth c s₁ [] 0 0 := Stand.of_body Bd
  have e0 : s₁.heap = h0 := by rw [← hh, Bd.state]; rfl
  have N0 := Fr.nil n0
  refine Go.enter (Q := Q_lval Z v0 x h0 n0) (C := ({ frames := 0, cells := 0, slots := 0, locals := 0 } : Room).cells) (N := ({ frames := 0, cells := 0, slots := 0, locals := 0 } : Room).slots) (ef_lval m v0) ?_
  show Go p e below s _ _ _ s₁ (mkF m 0 #[.val (.ref v0)] [])
  refine G_aloadN X0 hx (pc' := 1) rfl (hb hby d3_0) rfl rfl ?_
  obtain ⟨T9, X9, e9, st9⟩ := getF X0 hx hZ hown (host := "") (Or.inl (own_w hw 14 rfl)) Via.refl e0 f2_F_v0 (g := (mkF m 1 #[.val (.ref v0)] [(.ref v0)])) rfl rfl (hb hby d3_1)
  refine Go.st st9 ?_
  show Go p e below s _ _ _ T9 (mkF m 4 #[.val (.ref v0)] [(.int (0 : Int32))])
  refine G_ifYes X9 hx (pc' := 24) (hb hby d3_4) ((if0 _ _).trans (teq (by decide : (0 : Int32) = (0 : Int32))).1) (by decide) (by decide) ?_
  refine G_aloadN X9 hx (pc' := 25) rfl (hb hby d3_24) rfl rfl ?_
  obtain ⟨T10, X10, e10, st10⟩ := getF X9 hx hZ hown (host := "") (Or.inl (own_w hw 12 rfl)) Via.refl e9 f1_F_v0 (g := (mkF m 25 #[.val (.ref v0)] [(.ref v0)])) rfl rfl (hb hby d3_25)
  refine Go.st st10 ?_
  show Go p e below s _ _ _ T10 (mkF m 28 #[.val (.ref v0)] [(.long x)])
  refine Go.fin X10 hlk (v := some (.long x)) (fun h => by rw [Bd.returns] at h; cases h) (by decide) (by decide) ?_ (fun fs hr => retOut X10 hx Bd.returns rfl (Or.inr (Or.inl ⟨rfl, rfl, _, rfl⟩)) (hb hby d3_28) hr)
  show Q_lval Z v0 x h0 n0 _ T10.heap _
  rw [e10]
  exact ⟨congrArg (fun z => some (Value.long z)) (Eq.symm (rfl : f_lval x = _)), N0, rfl⟩
theorem d4_0 : decode prog_28_method_11_code 0 = .ok (.aload_n 1, 1) := by decide +kernel
theorem d4_1 : decode prog_28_method_11_code 1 = .ok (.instanceof 8, 3) := by decide +kernel
theorem d4_4 : decode prog_28_method_11_code 4 = .ok (.ifCond .eq 19, 3) := by decide +kernel
theorem d4_7 : decode prog_28_method_11_code 7 = .ok (.aload_n 1, 1) := by decide +kernel
theorem d4_8 : decode prog_28_method_11_code 8 = .ok (.checkcast 8, 3) := by decide +kernel
theorem d4_11 : decode prog_28_method_11_code 11 = .ok (.astore_n 2, 1) := by decide +kernel
theorem d4_12 : decode prog_28_method_11_code 12 = .ok (.aload_n 0, 1) := by decide +kernel
theorem d4_13 : decode prog_28_method_11_code 13 = .ok (.getfield 13, 3) := by decide +kernel
theorem d4_16 : decode prog_28_method_11_code 16 = .ok (.aload_n 2, 1) := by decide +kernel
theorem d4_17 : decode prog_28_method_11_code 17 = .ok (.getfield 13, 3) := by decide +kernel
theorem d4_20 : decode prog_28_method_11_code 20 = .ok (.if_icmp .eq 5, 3) := by decide +kernel
theorem d4_25 : decode prog_28_method_11_code 25 = .ok (.aload_n 0, 1) := by decide +kernel
theorem d4_26 : decode prog_28_method_11_code 26 = .ok (.getfield 13, 3) := by decide +kernel
theorem d4_29 : decode prog_28_method_11_code 29 = .ok (.ifCond .ne 24, 3) := by decide +kernel
theorem d4_32 : decode prog_28_method_11_code 32 = .ok (.aload_n 0, 1) := by decide +kernel
theorem d4_33 : decode prog_28_method_11_code 33 = .ok (.getfield 7, 3) := by decide +kernel
theorem d4_36 : decode prog_28_method_11_code 36 = .ok (.aload_n 2, 1) := by decide +kernel
theorem d4_37 : decode prog_28_method_11_code 37 = .ok (.getfield 7, 3) := by decide +kernel
theorem d4_40 : decode prog_28_method_11_code 40 = .ok (.lcmp, 1) := by decide +kernel
theorem d4_41 : decode prog_28_method_11_code 41 = .ok (.ifCond .ne 7, 3) := by decide +kernel
theorem d4_44 : decode prog_28_method_11_code 44 = .ok (.iconst 1, 1) := by decide +kernel
theorem d4_45 : decode prog_28_method_11_code 45 = .ok (.goto 4, 3) := by decide +kernel
theorem d4_49 : decode prog_28_method_11_code 49 = .ok (.istore_n 3, 1) := by decide +kernel
theorem d4_50 : decode prog_28_method_11_code 50 = .ok (.goto 44, 3) := by decide +kernel
theorem d4_94 : decode prog_28_method_11_code 94 = .ok (.iload_n 3, 1) := by decide +kernel
theorem d4_95 : decode prog_28_method_11_code 95 = .ok (.ireturn, 1) := by decide +kernel
theorem d4_48 : decode prog_28_method_11_code 48 = .ok (.iconst 0, 1) := by decide +kernel
def f_equ (x : Int64) (y : Int64) : Int32 := (if x = y then (1 : Int32) else (0 : Int32))
theorem ef_equ (m : MethodId) (v0 : Addr) (v1 : Addr) : entryFrame m #[(.ref v0), (.ref v1)] 4 = mkF m 0 #[.val (.ref v0), .val (.ref v1), .unset, .unset] [] := by first | (simp [entryFrame, mkF, argsToLocals, Value.category]; done) | rfl
def Q_equ (Z : State) (v0 : Addr) (v1 : Addr) (x : Int64) (y : Int64) (h0 : Heap) (n0 : Nat) (v : Option Value) (h : Heap) (L : List Loc) : Prop := v = some (.int (f_equ x y)) ∧ Fr n0 L ∧ h = h0
set_option maxRecDepth 65536 in
set_option maxHeartbeats 40000000 in
theorem rm_equ (l : Launch) (Z : State) (a0 : Array Value) (hw : ∀ d ∈ tables_1, d.before a0 Z = true) (ws : List Jvm.Cond) (v0 : Addr) (v1 : Addr) (x : Int64) (y : Int64) (h0 : Heap) (n0 : Nat) (Z0 : n0 ≤ h0.size) (f0_E_v0 : Exa Z h0 v0 "com/example/colonwise/colonwise/model/BencodeInteger") (f1_F_v0 : Fld Z h0 v0 "com/example/colonwise/colonwise/model/BencodeInteger" "small" "J" (.long x)) (f2_F_v0 : Fld Z h0 v0 "com/example/colonwise/colonwise/model/BencodeInteger" "wide" "Z" (.int (0 : Int32))) (f3_E_v1 : Exa Z h0 v1 "com/example/colonwise/colonwise/model/BencodeInteger") (f4_F_v1 : Fld Z h0 v1 "com/example/colonwise/colonwise/model/BencodeInteger" "small" "J" (.long y)) (f5_F_v1 : Fld Z h0 v1 "com/example/colonwise/colonwise/model/BencodeInteger" "wide" "Z" (.int (0 : Int32))) :
    MetFree l (⟨"com/example/colonwise/colonwise/model/BencodeInteger", "equals", "(Ljava/lang/Object;)Z"⟩ : MethodName) (head1 (Jvm.Cond.code (⟨"com/example/colonwise/colonwise/model/BencodeInteger", "equals", "(Ljava/lang/Object;)Z"⟩ : MethodName) prog_28_method_11_code 4 (some .boolean) :: ws) ({ frames := 0, cells := 0, slots := 0, locals := 0 } : Room)) (fun a U => a = #[(.ref v0), (.ref v1)] ∧ Z.Warmed39 U.vm ∧ U.heap = h0) (fun _ _ _ _ _ => True) (fun _ U o U' => ∃ v L, o = .returned v ∧ Q_equ Z v0 v1 x y h0 n0 v U'.heap L ∧ FrameEnd U o U' L ({ frames := 0, cells := 0, slots := 0, locals := 0 } : Room).cells ({ frames := 0, cells := 0, slots := 0, locals := 0 } : Room).slots) := by
  refine MetFree.of_bodySF (plainFor_of_name (by first | (simp [plainName, overriddenIn]; done) | decide +kernel)) hisR ?_
  intro p e s m args below meth c s₁ Bd hml0 hP hK
  obtain ⟨rfl, hZ, hh⟩ := hP
  have hx := Bd.exec
  have hby := Bd.bytes
  have hml : c.maxLocals = 4 := hml0
  have hown : s.vm.findClass "com/example/colonwise/colonwise/model/BencodeInteger" = some m.cls := findClass_of_methodNamed Bd.named
  have hnm := (name_of_methodNamed Bd.named Bd.method).1
  have hlk : meth.locks = false := Bd.notSynchronized
  have X0 : Stand p l e ({ frames := 0, cells := 0, slots := 0, locals := 0 } : Room) s m #[(.ref v0), (.ref v1)] below meth c s₁ [] 0 0 := Stand.of_body Bd
  have e0 : s₁.heap = h0 := by rw [← hh, Bd.state]; rfl
  have N0 := Fr.nil n0
  refine Go.enter (Q := Q_equ Z v0 v1 x y h0 n0) (C := ({ frames := 0, cells := 0, slots := 0, locals := 0 } : Room).cells) (N := ({ frames := 0, cells := 0, slots := 0, locals := 0 } : Room).slots) (ef_equ m v0 v1) ?_
  show Go p e below s _ _ _ s₁ (mkF m 0 #[.val (.ref v0), .val (.ref v1), .unset, .unset] [])
  refine G_aloadN X0 hx (pc' := 1) rfl (hb hby d4_0) rfl rfl ?_
  obtain ⟨T11, X11, e11, st11⟩ := instY X0 hx hZ hown (own_w hw 4 rfl) e0 (Ins.self f3_E_v1) (g := (mkF m 1 #[.val (.ref v0), .val (.ref v1), .unset, .unset] [(.ref v1)])) rfl rfl (hb hby d4_1)
  refine Go.st st11 ?_
  show Go p e below s _ _ _ T11 (mkF m 4 #[.val (.ref v0), .val (.ref v1), .unset, .unset] [(.int (1 : Int32))])
  refine G_ifNo X11 hx (pc' := 7) rfl (hb hby d4_4) ((if0 _ _).trans (feq (by decide : ¬ ((1 : Int32) = (0 : Int32)))).1) ?_
  refine G_aloadN X11 hx (pc' := 8) rfl (hb hby d4_7) rfl rfl ?_
  obtain ⟨T12, X12, e12, st12⟩ := castY X11 hx hZ hown (own_w hw 4 rfl) e11 (Ins.self f3_E_v1) (g := (mkF m 8 #[.val (.ref v0), .val (.ref v1), .unset, .unset] [(.ref v1)])) rfl rfl (hb hby d4_8)
  refine Go.st st12 ?_
  show Go p e below s _ _ _ T12 (mkF m 11 #[.val (.ref v0), .val (.ref v1), .unset, .unset] [(.ref v1)])
  refine G_astoreN X12 hx (pc' := 12) rfl (hb hby d4_11) rfl (L' := #[.val (.ref v0), .val (.ref v1), .val (.ref v1), .unset]) rfl ?_
  refine G_aloadN X12 hx (pc' := 13) rfl (hb hby d4_12) rfl rfl ?_
  obtain ⟨T13, X13, e13, st13⟩ := getF X12 hx hZ hown (host := "") (Or.inl (own_w hw 14 rfl)) Via.refl e12 f2_F_v0 (g := (mkF m 13 #[.val (.ref v0), .val (.ref v1), .val (.ref v1), .unset] [(.ref v0)])) rfl rfl (hb hby d4_13)
  refine Go.st st13 ?_
  show Go p e below s _ _ _ T13 (mkF m 16 #[.val (.ref v0), .val (.ref v1), .val (.ref v1), .unset] [(.int (0 : Int32))])
  refine G_aloadN X13 hx (pc' := 17) rfl (hb hby d4_16) rfl rfl ?_
  obtain ⟨T14, X14, e14, st14⟩ := getF X13 hx hZ hown (host := "") (Or.inl (own_w hw 14 rfl)) Via.refl e13 f5_F_v1 (g := (mkF m 17 #[.val (.ref v0), .val (.ref v1), .val (.ref v1), .unset] [(.ref v1), (.int (0 : Int32))])) rfl rfl (hb hby d4_17)
  refine Go.st st14 ?_
  show Go p e below s _ _ _ T14 (mkF m 20 #[.val (.ref v0), .val (.ref v1), .val (.ref v1), .unset] [(.int (0 : Int32)), (.int (0 : Int32))])
  refine G_icmpYes X14 hx (pc' := 25) (hb hby d4_20) (teq (by decide : (0 : Int32) = (0 : Int32))).1 (by decide) (by decide) ?_
  refine G_aloadN X14 hx (pc' := 26) rfl (hb hby d4_25) rfl rfl ?_
  obtain ⟨T15, X15, e15, st15⟩ := getF X14 hx hZ hown (host := "") (Or.inl (own_w hw 14 rfl)) Via.refl e14 f2_F_v0 (g := (mkF m 26 #[.val (.ref v0), .val (.ref v1), .val (.ref v1), .unset] [(.ref v0)])) rfl rfl (hb hby d4_26)
  refine Go.st st15 ?_
  show Go p e below s _ _ _ T15 (mkF m 29 #[.val (.ref v0), .val (.ref v1), .val (.ref v1), .unset] [(.int (0 : Int32))])
  refine G_ifNo X15 hx (pc' := 32) rfl (hb hby d4_29) ((if0 _ _).trans (teq (by decide : (0 : Int32) = (0 : Int32))).2) ?_
  refine G_aloadN X15 hx (pc' := 33) rfl (hb hby d4_32) rfl rfl ?_
  obtain ⟨T16, X16, e16, st16⟩ := getF X15 hx hZ hown (host := "") (Or.inl (own_w hw 12 rfl)) Via.refl e15 f1_F_v0 (g := (mkF m 33 #[.val (.ref v0), .val (.ref v1), .val (.ref v1), .unset] [(.ref v0)])) rfl rfl (hb hby d4_33)
  refine Go.st st16 ?_
  show Go p e below s _ _ _ T16 (mkF m 36 #[.val (.ref v0), .val (.ref v1), .val (.ref v1), .unset] [(.long x)])
  refine G_aloadN X16 hx (pc' := 37) rfl (hb hby d4_36) rfl rfl ?_
  obtain ⟨T17, X17, e17, st17⟩ := getF X16 hx hZ hown (host := "") (Or.inl (own_w hw 12 rfl)) Via.refl e16 f4_F_v1 (g := (mkF m 37 #[.val (.ref v0), .val (.ref v1), .val (.ref v1), .unset] [(.ref v1), (.long x)])) rfl rfl (hb hby d4_37)
  refine Go.st st17 ?_
  show Go p e below s _ _ _ T17 (mkF m 40 #[.val (.ref v0), .val (.ref v1), .val (.ref v1), .unset] [(.long y), (.long x)])
  refine G_lcmp X17 hx (pc' := 41) rfl (hb hby d4_40)  ?_
  by_cases hc41_1 : x = y
  · refine G_ifNo X17 hx (pc' := 44) rfl (hb hby d4_41) ((if0 _ _).trans (teq ((lw_eq _ _).2 hc41_1)).2) ?_
    refine G_iconst X17 hx (pc' := 45) rfl (hb hby d4_44) (z := (1 : Int32)) rfl ?_
    refine G_goto X17 hx (pc' := 49) (hb hby d4_45)  (by decide) (by decide) ?_
    refine G_istoreN X17 hx (pc' := 50) rfl (hb hby d4_49) (L' := #[.val (.ref v0), .val (.ref v1), .val (.ref v1), .val (.int (1 : Int32))]) rfl ?_
    refine G_goto X17 hx (pc' := 94) (hb hby d4_50)  (by decide) (by decide) ?_
    refine G_iloadN X17 hx (pc' := 95) rfl (hb hby d4_94) rfl ?_
    refine Go.fin X17 hlk (v := some (.int (1 : Int32))) (fun h => by rw [Bd.returns] at h; cases h) (by decide) (by decide) ?_ (fun fs hr => retN X17 hx (t := .boolean) Bd.returns (by simp) (hb hby d4_95) hr)
    show Q_equ Z v0 v1 x y h0 n0 _ T17.heap _
    rw [e17]
    exact ⟨congrArg (fun z => some (Value.int z)) (Eq.symm ((if_pos hc41_1).trans rfl)), N0, rfl⟩
  · refine G_ifYes X17 hx (pc' := 48) (hb hby d4_41) ((if0 _ _).trans (feq (fun q => hc41_1 ((lw_eq _ _).1 q))).2) (by decide) (by decide) ?_
    refine G_iconst X17 hx (pc' := 49) rfl (hb hby d4_48) (z := (0 : Int32)) rfl ?_
    refine G_istoreN X17 hx (pc' := 50) rfl (hb hby d4_49) (L' := #[.val (.ref v0), .val (.ref v1), .val (.ref v1), .val (.int (0 : Int32))]) rfl ?_
    refine G_goto X17 hx (pc' := 94) (hb hby d4_50)  (by decide) (by decide) ?_
    refine G_iloadN X17 hx (pc' := 95) rfl (hb hby d4_94) rfl ?_
    refine Go.fin X17 hlk (v := some (.int (0 : Int32))) (fun h => by rw [Bd.returns] at h; cases h) (by decide) (by decide) ?_ (fun fs hr => retN X17 hx (t := .boolean) Bd.returns (by simp) (hb hby d4_95) hr)
    show Q_equ Z v0 v1 x y h0 n0 _ T17.heap _
    rw [e17]
    exact ⟨congrArg (fun z => some (Value.int z)) (Eq.symm ((if_neg hc41_1).trans rfl)), N0, rfl⟩
theorem d5_0 : decode jdk_35_method_36_code 0 = .ok (.lload_n 0, 1) := by decide +kernel
theorem d5_1 : decode jdk_35_method_36_code 1 = .ok (.lload_n 0, 1) := by decide +kernel
theorem d5_2 : decode jdk_35_method_36_code 2 = .ok (.bipush 32, 2) := by decide +kernel
theorem d5_4 : decode jdk_35_method_36_code 4 = .ok (.lushr, 1) := by decide +kernel
theorem d5_5 : decode jdk_35_method_36_code 5 = .ok (.lxor, 1) := by decide +kernel
theorem d5_6 : decode jdk_35_method_36_code 6 = .ok (.l2i, 1) := by decide +kernel
theorem d5_7 : decode jdk_35_method_36_code 7 = .ok (.ireturn, 1) := by decide +kernel
def f_lhash (v0 : Int64) : Int32 := ((v0 ^^^ ((v0.toUInt64 >>> ((32 : Int32) &&& 0x3f).toInt64.toUInt64).toInt64)).toInt32)
theorem ef_lhash (m : MethodId) (v0 : Int64) : entryFrame m #[(.long v0)] 2 = mkF m 0 #[.val (.long v0), .second] [] := by first | (simp [entryFrame, mkF, argsToLocals, Value.category]; done) | rfl
def Q_lhash (Z : State) (v0 : Int64) (h0 : Heap) (n0 : Nat) (v : Option Value) (h : Heap) (L : List Loc) : Prop := v = some (.int (f_lhash v0)) ∧ Fr n0 L ∧ h = h0
set_option maxRecDepth 65536 in
set_option maxHeartbeats 40000000 in
theorem rm_lhash (l : Launch) (Z : State) (a0 : Array Value) (hw : ∀ d ∈ tables_1, d.before a0 Z = true) (ws : List Jvm.Cond) (v0 : Int64) (h0 : Heap) (n0 : Nat) (Z0 : n0 ≤ h0.size) :
    MetFree l (⟨"java/lang/Long", "hashCode", "(J)I"⟩ : MethodName) (head1 (Jvm.Cond.code (⟨"java/lang/Long", "hashCode", "(J)I"⟩ : MethodName) jdk_35_method_36_code 2 (some .int) :: ws) ({ frames := 0, cells := 0, slots := 0, locals := 0 } : Room)) (fun a U => a = #[(.long v0)] ∧ Z.Warmed39 U.vm ∧ U.heap = h0) (fun _ _ _ _ _ => True) (fun _ U o U' => ∃ v L, o = .returned v ∧ Q_lhash Z v0 h0 n0 v U'.heap L ∧ FrameEnd U o U' L ({ frames := 0, cells := 0, slots := 0, locals := 0 } : Room).cells ({ frames := 0, cells := 0, slots := 0, locals := 0 } : Room).slots) := by
  refine MetFree.of_bodySF (plainFor_of_name (by first | (simp [plainName, overriddenIn]; done) | decide +kernel)) hisR ?_
  intro p e s m args below meth c s₁ Bd hml0 hP hK
  obtain ⟨rfl, hZ, hh⟩ := hP
  have hx := Bd.exec
  have hby := Bd.bytes
  have hml : c.maxLocals = 2 := hml0
  have hown : s.vm.findClass "java/lang/Long" = some m.cls := findClass_of_methodNamed Bd.named
  have hnm := (name_of_methodNamed Bd.named Bd.method).1
  have hlk : meth.locks = false := Bd.notSynchronized
  have X0 : Stand p l e ({ frames := 0, cells := 0, slots := 0, locals := 0 } : Room) s m #[(.long v0)] below meth c s₁ [] 0 0 := Stand.of_body Bd
  have e0 : s₁.heap = h0 := by rw [← hh, Bd.state]; rfl
  have N0 := Fr.nil n0
  refine Go.enter (Q := Q_lhash Z v0 h0 n0) (C := ({ frames := 0, cells := 0, slots := 0, locals := 0 } : Room).cells) (N := ({ frames := 0, cells := 0, slots := 0, locals := 0 } : Room).slots) (ef_lhash m v0) ?_
  show Go p e below s _ _ _ s₁ (mkF m 0 #[.val (.long v0), .second] [])
  refine G_lloadN X0 hx (pc' := 1) rfl (hb hby d5_0) rfl ?_
  refine G_lloadN X0 hx (pc' := 2) rfl (hb hby d5_1) rfl ?_
  refine G_bipush X0 hx (pc' := 4) rfl (hb hby d5_2) (z := (32 : Int32)) rfl ?_
  refine G_lushr X0 hx (pc' := 5) rfl (hb hby d5_4)  ?_
  refine G_lxor X0 hx (pc' := 6) rfl (hb hby d5_5)  ?_
  refine G_l2i X0 hx (pc' := 7) rfl (hb hby d5_6)  ?_
  refine Go.fin X0 hlk (v := some (.int ((v0 ^^^ ((v0.toUInt64 >>> ((32 : Int32) &&& 0x3f).toInt64.toUInt64).toInt64)).toInt32))) (fun h => by rw [Bd.returns] at h; cases h) (by decide) (by decide) ?_ (fun fs hr => retOut X0 hx Bd.returns rfl (Or.inl ⟨rfl, Or.inl rfl, _, rfl⟩) (hb hby d5_7) hr)
  show Q_lhash Z v0 h0 n0 _ s₁.heap _
  rw [e0]
  exact ⟨congrArg (fun z => some (Value.int z)) (Eq.symm (rfl : f_lhash v0 = _)), N0, rfl⟩
theorem d6_0 : decode prog_28_method_12_code 0 = .ok (.aload_n 0, 1) := by decide +kernel
theorem d6_1 : decode prog_28_method_12_code 1 = .ok (.getfield 13, 3) := by decide +kernel
theorem d6_4 : decode prog_28_method_12_code 4 = .ok (.ifCond .eq 13, 3) := by decide +kernel
theorem d6_17 : decode prog_28_method_12_code 17 = .ok (.aload_n 0, 1) := by decide +kernel
theorem d6_18 : decode prog_28_method_12_code 18 = .ok (.getfield 7, 3) := by decide +kernel
theorem d6_21 : decode prog_28_method_12_code 21 = .ok (.invokestatic 113, 3) := by decide +kernel
theorem pd_1 : parseMethodDescriptor "(J)I" = some ⟨[.long], some .int⟩ := by decide +kernel
theorem d6_24 : decode prog_28_method_12_code 24 = .ok (.ireturn, 1) := by decide +kernel
def f_bhash (x : Int64) : Int32 := (f_lhash x)
theorem ef_bhash (m : MethodId) (v0 : Addr) : entryFrame m #[(.ref v0)] 1 = mkF m 0 #[.val (.ref v0)] [] := by first | (simp [entryFrame, mkF, argsToLocals, Value.category]; done) | rfl
def Q_bhash (Z : State) (v0 : Addr) (x : Int64) (h0 : Heap) (n0 : Nat) (v : Option Value) (h : Heap) (L : List Loc) : Prop := v = some (.int (f_bhash x)) ∧ Fr n0 L ∧ h = h0
set_option maxRecDepth 65536 in
set_option maxHeartbeats 40000000 in
theorem rm_bhash (l : Launch) (Z : State) (a0 : Array Value) (hw : ∀ d ∈ tables_1, d.before a0 Z = true) (ws : List Jvm.Cond) (v0 : Addr) (x : Int64) (h0 : Heap) (n0 : Nat) (Z0 : n0 ≤ h0.size) (f0_E_v0 : Exa Z h0 v0 "com/example/colonwise/colonwise/model/BencodeInteger") (f1_F_v0 : Fld Z h0 v0 "com/example/colonwise/colonwise/model/BencodeInteger" "small" "J" (.long x)) (f2_F_v0 : Fld Z h0 v0 "com/example/colonwise/colonwise/model/BencodeInteger" "wide" "Z" (.int (0 : Int32))) :
    MetFree l (⟨"com/example/colonwise/colonwise/model/BencodeInteger", "hashCode", "()I"⟩ : MethodName) (head1 (Jvm.Cond.code (⟨"com/example/colonwise/colonwise/model/BencodeInteger", "hashCode", "()I"⟩ : MethodName) prog_28_method_12_code 1 (some .int) :: ws) ({ frames := 1, cells := 0, slots := 0, locals := 13 } : Room)) (fun a U => a = #[(.ref v0)] ∧ Z.Warmed39 U.vm ∧ U.heap = h0) (fun _ _ _ _ _ => True) (fun _ U o U' => ∃ v L, o = .returned v ∧ Q_bhash Z v0 x h0 n0 v U'.heap L ∧ FrameEnd U o U' L ({ frames := 1, cells := 0, slots := 0, locals := 13 } : Room).cells ({ frames := 1, cells := 0, slots := 0, locals := 13 } : Room).slots) := by
  refine MetFree.of_bodySF (plainFor_of_name (by first | (simp [plainName, overriddenIn]; done) | decide +kernel)) hisR ?_
  intro p e s m args below meth c s₁ Bd hml0 hP hK
  obtain ⟨rfl, hZ, hh⟩ := hP
  have hx := Bd.exec
  have hby := Bd.bytes
  have hml : c.maxLocals = 1 := hml0
  have hown : s.vm.findClass "com/example/colonwise/colonwise/model/BencodeInteger" = some m.cls := findClass_of_methodNamed Bd.named
  have hnm := (name_of_methodNamed Bd.named Bd.method).1
  have hlk : meth.locks = false := Bd.notSynchronized
  have X0 : Stand p l e ({ frames := 1, cells := 0, slots := 0, locals := 13 } : Room) s m #[(.ref v0)] below meth c s₁ [] 0 0 := Stand.of_body Bd
  have e0 : s₁.heap = h0 := by rw [← hh, Bd.state]; rfl
  have N0 := Fr.nil n0
  refine Go.enter (Q := Q_bhash Z v0 x h0 n0) (C := ({ frames := 1, cells := 0, slots := 0, locals := 13 } : Room).cells) (N := ({ frames := 1, cells := 0, slots := 0, locals := 13 } : Room).slots) (ef_bhash m v0) ?_
  show Go p e below s _ _ _ s₁ (mkF m 0 #[.val (.ref v0)] [])
  refine G_aloadN X0 hx (pc' := 1) rfl (hb hby d6_0) rfl rfl ?_
  obtain ⟨T18, X18, e18, st18⟩ := getF X0 hx hZ hown (host := "") (Or.inl (own_w hw 14 rfl)) Via.refl e0 f2_F_v0 (g := (mkF m 1 #[.val (.ref v0)] [(.ref v0)])) rfl rfl (hb hby d6_1)
  refine Go.st st18 ?_
  show Go p e below s _ _ _ T18 (mkF m 4 #[.val (.ref v0)] [(.int (0 : Int32))])
  refine G_ifYes X18 hx (pc' := 17) (hb hby d6_4) ((if0 _ _).trans (teq (by decide : (0 : Int32) = (0 : Int32))).1) (by decide) (by decide) ?_
  refine G_aloadN X18 hx (pc' := 18) rfl (hb hby d6_17) rfl rfl ?_
  obtain ⟨T19, X19, e19, st19⟩ := getF X18 hx hZ hown (host := "") (Or.inl (own_w hw 12 rfl)) Via.refl e18 f1_F_v0 (g := (mkF m 18 #[.val (.ref v0)] [(.ref v0)])) rfl rfl (hb hby d6_18)
  refine Go.st st19 ?_
  show Go p e below s _ _ _ T19 (mkF m 21 #[.val (.ref v0)] [(.long x)])
  obtain ⟨_, _, ⟨T20, L20, k20, n20⟩, -, X20, ⟨Lc20, hQ20, l20, y20, z20⟩, st20⟩ := Jvm.LawKit.callS X19 hx (y := (⟨"java/lang/Long", "hashCode", "(J)I"⟩ : MethodName)) hown (mvT hZ (own_w hw 41 rfl)) (mvT hZ (own_w hw 42 rfl)) (mvT hZ (own_w hw 43 rfl)) (mvT hZ (own_w hw 44 rfl)) (by decide) (backOf (W := 0) (rm_lhash l Z a0 hw [] x h0 n0 Z0 ) hZ (own_w hw 44 rfl) (own_w hw 43 rfl) (by decide) (by decide)) (g := (mkF m 21 #[.val (.ref v0)] [(.long x)])) rfl (by rw [hml]; rfl) (argsL := [(.long x)]) (rest := []) (lenOf pd_1 rfl) rfl (by show 2 * 0 + _ ≤ _; exact Nat.le_of_eq rfl) (hb hby d6_21) (fun _ _ => ⟨rfl, e19, (by decide : 0 + 0 ≤ _), (by decide : 0 + 0 ≤ _)⟩)
  dsimp only [Pt.U, Pt.locs, Pt.cells, Pt.slots] at X20 l20 y20 z20 st20 hQ20
  rw [l20, y20, z20] at X20
  clear l20 y20 z20
  obtain ⟨rfl, N20q, e20⟩ := hQ20
  have N20 := Fr.app N0 N20q
  refine Go.st st20 ?_
  obtain ⟨G20, Y20, M20⟩ : ∃ L, Stand p l e ({ frames := 1, cells := 0, slots := 0, locals := 13 } : Room) s m #[(.ref v0)] below meth c T20 L 0 0 ∧ Fr n0 L := ⟨_, X20, N20⟩
  clear X20 N20
  show Go p e below s _ _ _ T20 (mkF m 24 #[.val (.ref v0)] [(.int (f_lhash x))])
  refine Go.fin Y20 hlk (v := some (.int (f_lhash x))) (fun h => by rw [Bd.returns] at h; cases h) (by decide) (by decide) ?_ (fun fs hr => retOut Y20 hx Bd.returns rfl (Or.inl ⟨rfl, Or.inl rfl, _, rfl⟩) (hb hby d6_24) hr)
  show Q_bhash Z v0 x h0 n0 _ T20.heap _
  rw [e20]
  exact ⟨congrArg (fun z => some (Value.int z)) (Eq.symm (rfl : f_bhash x = _)), M20, rfl⟩
theorem d7_0 : decode method_2_code 0 = .ok (.lload_n 0, 1) := by decide +kernel
theorem d7_1 : decode method_2_code 1 = .ok (.lconst 0, 1) := by decide +kernel
theorem d7_2 : decode method_2_code 2 = .ok (.lcmp, 1) := by decide +kernel
theorem d7_3 : decode method_2_code 3 = .ok (.ifCond .ge 7, 3) := by decide +kernel
theorem d7_6 : decode method_2_code 6 = .ok (.lload_n 0, 1) := by decide +kernel
theorem d7_7 : decode method_2_code 7 = .ok (.goto 5, 3) := by decide +kernel
theorem d7_12 : decode method_2_code 12 = .ok (.lstore_n 2, 1) := by decide +kernel
theorem d7_13 : decode method_2_code 13 = .ok (.lload_n 2, 1) := by decide +kernel
theorem d7_14 : decode method_2_code 14 = .ok (.ldc2_w 7, 3) := by decide +kernel
theorem d7_17 : decode method_2_code 17 = .ok (.lcmp, 1) := by decide +kernel
theorem d7_18 : decode method_2_code 18 = .ok (.ifCond .le 9, 3) := by decide +kernel
theorem d7_21 : decode method_2_code 21 = .ok (.iconst 1, 1) := by decide +kernel
theorem d7_22 : decode method_2_code 22 = .ok (.istore 4, 2) := by decide +kernel
theorem d7_24 : decode method_2_code 24 = .ok (.goto 258, 3) := by decide +kernel
theorem d7_282 : decode method_2_code 282 = .ok (.lload_n 0, 1) := by decide +kernel
theorem d7_283 : decode method_2_code 283 = .ok (.lconst 0, 1) := by decide +kernel
theorem d7_284 : decode method_2_code 284 = .ok (.lcmp, 1) := by decide +kernel
theorem d7_285 : decode method_2_code 285 = .ok (.ifCond .ge 10, 3) := by decide +kernel
theorem d7_288 : decode method_2_code 288 = .ok (.iload 4, 2) := by decide +kernel
theorem d7_290 : decode method_2_code 290 = .ok (.iconst 1, 1) := by decide +kernel
theorem d7_291 : decode method_2_code 291 = .ok (.iadd, 1) := by decide +kernel
theorem d7_292 : decode method_2_code 292 = .ok (.goto 5, 3) := by decide +kernel
theorem d7_297 : decode method_2_code 297 = .ok (.ireturn, 1) := by decide +kernel
theorem d7_27 : decode method_2_code 27 = .ok (.lload_n 2, 1) := by decide +kernel
theorem d7_28 : decode method_2_code 28 = .ok (.ldc2_w 9, 3) := by decide +kernel
theorem d7_31 : decode method_2_code 31 = .ok (.lcmp, 1) := by decide +kernel
theorem d7_32 : decode method_2_code 32 = .ok (.ifCond .le 9, 3) := by decide +kernel
theorem d7_35 : decode method_2_code 35 = .ok (.iconst 2, 1) := by decide +kernel
theorem d7_36 : decode method_2_code 36 = .ok (.istore 4, 2) := by decide +kernel
theorem d7_38 : decode method_2_code 38 = .ok (.goto 244, 3) := by decide +kernel
theorem d7_41 : decode method_2_code 41 = .ok (.lload_n 2, 1) := by decide +kernel
theorem d7_42 : decode method_2_code 42 = .ok (.ldc2_w 11, 3) := by decide +kernel
theorem d7_45 : decode method_2_code 45 = .ok (.lcmp, 1) := by decide +kernel
theorem d7_46 : decode method_2_code 46 = .ok (.ifCond .le 9, 3) := by decide +kernel
theorem d7_49 : decode method_2_code 49 = .ok (.iconst 3, 1) := by decide +kernel
theorem d7_50 : decode method_2_code 50 = .ok (.istore 4, 2) := by decide +kernel
theorem d7_52 : decode method_2_code 52 = .ok (.goto 230, 3) := by decide +kernel
theorem d7_55 : decode method_2_code 55 = .ok (.lload_n 2, 1) := by decide +kernel
theorem d7_56 : decode method_2_code 56 = .ok (.ldc2_w 13, 3) := by decide +kernel
theorem d7_59 : decode method_2_code 59 = .ok (.lcmp, 1) := by decide +kernel
theorem d7_60 : decode method_2_code 60 = .ok (.ifCond .le 9, 3) := by decide +kernel
theorem d7_63 : decode method_2_code 63 = .ok (.iconst 4, 1) := by decide +kernel
theorem d7_64 : decode method_2_code 64 = .ok (.istore 4, 2) := by decide +kernel
theorem d7_66 : decode method_2_code 66 = .ok (.goto 216, 3) := by decide +kernel
theorem d7_69 : decode method_2_code 69 = .ok (.lload_n 2, 1) := by decide +kernel
theorem d7_70 : decode method_2_code 70 = .ok (.ldc2_w 15, 3) := by decide +kernel
theorem d7_73 : decode method_2_code 73 = .ok (.lcmp, 1) := by decide +kernel
theorem d7_74 : decode method_2_code 74 = .ok (.ifCond .le 9, 3) := by decide +kernel
theorem d7_77 : decode method_2_code 77 = .ok (.iconst 5, 1) := by decide +kernel
theorem d7_78 : decode method_2_code 78 = .ok (.istore 4, 2) := by decide +kernel
theorem d7_80 : decode method_2_code 80 = .ok (.goto 202, 3) := by decide +kernel
theorem d7_83 : decode method_2_code 83 = .ok (.lload_n 2, 1) := by decide +kernel
theorem d7_84 : decode method_2_code 84 = .ok (.ldc2_w 17, 3) := by decide +kernel
theorem d7_87 : decode method_2_code 87 = .ok (.lcmp, 1) := by decide +kernel
theorem d7_88 : decode method_2_code 88 = .ok (.ifCond .le 10, 3) := by decide +kernel
theorem d7_91 : decode method_2_code 91 = .ok (.bipush 6, 2) := by decide +kernel
theorem d7_93 : decode method_2_code 93 = .ok (.istore 4, 2) := by decide +kernel
theorem d7_95 : decode method_2_code 95 = .ok (.goto 187, 3) := by decide +kernel
theorem d7_98 : decode method_2_code 98 = .ok (.lload_n 2, 1) := by decide +kernel
theorem d7_99 : decode method_2_code 99 = .ok (.ldc2_w 19, 3) := by decide +kernel
theorem d7_102 : decode method_2_code 102 = .ok (.lcmp, 1) := by decide +kernel
theorem d7_103 : decode method_2_code 103 = .ok (.ifCond .le 10, 3) := by decide +kernel
theorem d7_106 : decode method_2_code 106 = .ok (.bipush 7, 2) := by decide +kernel
theorem d7_108 : decode method_2_code 108 = .ok (.istore 4, 2) := by decide +kernel
theorem d7_110 : decode method_2_code 110 = .ok (.goto 172, 3) := by decide +kernel
theorem d7_113 : decode method_2_code 113 = .ok (.lload_n 2, 1) := by decide +kernel
theorem d7_114 : decode method_2_code 114 = .ok (.ldc2_w 21, 3) := by decide +kernel
theorem d7_117 : decode method_2_code 117 = .ok (.lcmp, 1) := by decide +kernel
theorem d7_118 : decode method_2_code 118 = .ok (.ifCond .le 10, 3) := by decide +kernel
theorem d7_121 : decode method_2_code 121 = .ok (.bipush 8, 2) := by decide +kernel
theorem d7_123 : decode method_2_code 123 = .ok (.istore 4, 2) := by decide +kernel
theorem d7_125 : decode method_2_code 125 = .ok (.goto 157, 3) := by decide +kernel
theorem d7_128 : decode method_2_code 128 = .ok (.lload_n 2, 1) := by decide +kernel
theorem d7_129 : decode method_2_code 129 = .ok (.ldc2_w 23, 3) := by decide +kernel
theorem d7_132 : decode method_2_code 132 = .ok (.lcmp, 1) := by decide +kernel
theorem d7_133 : decode method_2_code 133 = .ok (.ifCond .le 10, 3) := by decide +kernel
theorem d7_136 : decode method_2_code 136 = .ok (.bipush 9, 2) := by decide +kernel
theorem d7_138 : decode method_2_code 138 = .ok (.istore 4, 2) := by decide +kernel
theorem d7_140 : decode method_2_code 140 = .ok (.goto 142, 3) := by decide +kernel
theorem d7_143 : decode method_2_code 143 = .ok (.lload_n 2, 1) := by decide +kernel
theorem d7_144 : decode method_2_code 144 = .ok (.ldc2_w 25, 3) := by decide +kernel
theorem d7_147 : decode method_2_code 147 = .ok (.lcmp, 1) := by decide +kernel
theorem d7_148 : decode method_2_code 148 = .ok (.ifCond .le 10, 3) := by decide +kernel
theorem d7_151 : decode method_2_code 151 = .ok (.bipush 10, 2) := by decide +kernel
theorem d7_153 : decode method_2_code 153 = .ok (.istore 4, 2) := by decide +kernel
theorem d7_155 : decode method_2_code 155 = .ok (.goto 127, 3) := by decide +kernel
theorem d7_158 : decode method_2_code 158 = .ok (.lload_n 2, 1) := by decide +kernel
theorem d7_159 : decode method_2_code 159 = .ok (.ldc2_w 27, 3) := by decide +kernel
theorem d7_162 : decode method_2_code 162 = .ok (.lcmp, 1) := by decide +kernel
theorem d7_163 : decode method_2_code 163 = .ok (.ifCond .le 10, 3) := by decide +kernel
theorem d7_166 : decode method_2_code 166 = .ok (.bipush 11, 2) := by decide +kernel
theorem d7_168 : decode method_2_code 168 = .ok (.istore 4, 2) := by decide +kernel
theorem d7_170 : decode method_2_code 170 = .ok (.goto 112, 3) := by decide +kernel
theorem d7_173 : decode method_2_code 173 = .ok (.lload_n 2, 1) := by decide +kernel
theorem d7_174 : decode method_2_code 174 = .ok (.ldc2_w 29, 3) := by decide +kernel
theorem d7_177 : decode method_2_code 177 = .ok (.lcmp, 1) := by decide +kernel
theorem d7_178 : decode method_2_code 178 = .ok (.ifCond .le 10, 3) := by decide +kernel
theorem d7_181 : decode method_2_code 181 = .ok (.bipush 12, 2) := by decide +kernel
theorem d7_183 : decode method_2_code 183 = .ok (.istore 4, 2) := by decide +kernel
theorem d7_185 : decode method_2_code 185 = .ok (.goto 97, 3) := by decide +kernel
theorem d7_188 : decode method_2_code 188 = .ok (.lload_n 2, 1) := by decide +kernel
theorem d7_189 : decode method_2_code 189 = .ok (.ldc2_w 31, 3) := by decide +kernel
theorem d7_192 : decode method_2_code 192 = .ok (.lcmp, 1) := by decide +kernel
theorem d7_193 : decode method_2_code 193 = .ok (.ifCond .le 10, 3) := by decide +kernel
theorem d7_196 : decode method_2_code 196 = .ok (.bipush 13, 2) := by decide +kernel
theorem d7_198 : decode method_2_code 198 = .ok (.istore 4, 2) := by decide +kernel
theorem d7_200 : decode method_2_code 200 = .ok (.goto 82, 3) := by decide +kernel
theorem d7_203 : decode method_2_code 203 = .ok (.lload_n 2, 1) := by decide +kernel
theorem d7_204 : decode method_2_code 204 = .ok (.ldc2_w 33, 3) := by decide +kernel
theorem d7_207 : decode method_2_code 207 = .ok (.lcmp, 1) := by decide +kernel
theorem d7_208 : decode method_2_code 208 = .ok (.ifCond .le 10, 3) := by decide +kernel
theorem d7_211 : decode method_2_code 211 = .ok (.bipush 14, 2) := by decide +kernel
theorem d7_213 : decode method_2_code 213 = .ok (.istore 4, 2) := by decide +kernel
theorem d7_215 : decode method_2_code 215 = .ok (.goto 67, 3) := by decide +kernel
theorem d7_218 : decode method_2_code 218 = .ok (.lload_n 2, 1) := by decide +kernel
theorem d7_219 : decode method_2_code 219 = .ok (.ldc2_w 35, 3) := by decide +kernel
theorem d7_222 : decode method_2_code 222 = .ok (.lcmp, 1) := by decide +kernel
theorem d7_223 : decode method_2_code 223 = .ok (.ifCond .le 10, 3) := by decide +kernel
theorem d7_226 : decode method_2_code 226 = .ok (.bipush 15, 2) := by decide +kernel
theorem d7_228 : decode method_2_code 228 = .ok (.istore 4, 2) := by decide +kernel
theorem d7_230 : decode method_2_code 230 = .ok (.goto 52, 3) := by decide +kernel
theorem d7_233 : decode method_2_code 233 = .ok (.lload_n 2, 1) := by decide +kernel
theorem d7_234 : decode method_2_code 234 = .ok (.ldc2_w 37, 3) := by decide +kernel
theorem d7_237 : decode method_2_code 237 = .ok (.lcmp, 1) := by decide +kernel
theorem d7_238 : decode method_2_code 238 = .ok (.ifCond .le 10, 3) := by decide +kernel
theorem d7_241 : decode method_2_code 241 = .ok (.bipush 16, 2) := by decide +kernel
theorem d7_243 : decode method_2_code 243 = .ok (.istore 4, 2) := by decide +kernel
theorem d7_245 : decode method_2_code 245 = .ok (.goto 37, 3) := by decide +kernel
theorem d7_248 : decode method_2_code 248 = .ok (.lload_n 2, 1) := by decide +kernel
theorem d7_249 : decode method_2_code 249 = .ok (.ldc2_w 39, 3) := by decide +kernel
theorem d7_252 : decode method_2_code 252 = .ok (.lcmp, 1) := by decide +kernel
theorem d7_253 : decode method_2_code 253 = .ok (.ifCond .le 10, 3) := by decide +kernel
theorem d7_256 : decode method_2_code 256 = .ok (.bipush 17, 2) := by decide +kernel
theorem d7_258 : decode method_2_code 258 = .ok (.istore 4, 2) := by decide +kernel
theorem d7_260 : decode method_2_code 260 = .ok (.goto 22, 3) := by decide +kernel
theorem d7_263 : decode method_2_code 263 = .ok (.lload_n 2, 1) := by decide +kernel
theorem d7_264 : decode method_2_code 264 = .ok (.ldc2_w 41, 3) := by decide +kernel
theorem d7_267 : decode method_2_code 267 = .ok (.lcmp, 1) := by decide +kernel
theorem d7_268 : decode method_2_code 268 = .ok (.ifCond .le 10, 3) := by decide +kernel
theorem d7_271 : decode method_2_code 271 = .ok (.bipush 18, 2) := by decide +kernel
theorem d7_273 : decode method_2_code 273 = .ok (.istore 4, 2) := by decide +kernel
theorem d7_275 : decode method_2_code 275 = .ok (.goto 7, 3) := by decide +kernel
theorem d7_278 : decode method_2_code 278 = .ok (.bipush 19, 2) := by decide +kernel
theorem d7_280 : decode method_2_code 280 = .ok (.istore 4, 2) := by decide +kernel
theorem d7_10 : decode method_2_code 10 = .ok (.lload_n 0, 1) := by decide +kernel
theorem d7_11 : decode method_2_code 11 = .ok (.lneg, 1) := by decide +kernel
theorem d7_295 : decode method_2_code 295 = .ok (.iload 4, 2) := by decide +kernel
def f_decLen (v0 : Int64) : Int32 := (if v0 < (0 : Int64) then (if (-10 : Int64) < v0 then (2 : Int32) else (if (-100 : Int64) < v0 then (3 : Int32) else (if (-1000 : Int64) < v0 then (4 : Int32) else (if (-10000 : Int64) < v0 then (5 : Int32) else (if (-100000 : Int64) < v0 then (6 : Int32) else (if (-1000000 : Int64) < v0 then (7 : Int32) else (if (-10000000 : Int64) < v0 then (8 : Int32) else (if (-100000000 : Int64) < v0 then (9 : Int32) else (if (-1000000000 : Int64) < v0 then (10 : Int32) else (if (-10000000000 : Int64) < v0 then (11 : Int32) else (if (-100000000000 : Int64) < v0 then (12 : Int32) else (if (-1000000000000 : Int64) < v0 then (13 : Int32) else (if (-10000000000000 : Int64) < v0 then (14 : Int32) else (if (-100000000000000 : Int64) < v0 then (15 : Int32) else (if (-1000000000000000 : Int64) < v0 then (16 : Int32) else (if (-10000000000000000 : Int64) < v0 then (17 : Int32) else (if (-100000000000000000 : Int64) < v0 then (18 : Int32) else (if (-1000000000000000000 : Int64) < v0 then (19 : Int32) else (20 : Int32))))))))))))))))))) else (if (-10 : Int64) < (-v0) then (1 : Int32) else (if (-100 : Int64) < (-v0) then (2 : Int32) else (if (-1000 : Int64) < (-v0) then (3 : Int32) else (if (-10000 : Int64) < (-v0) then (4 : Int32) else (if (-100000 : Int64) < (-v0) then (5 : Int32) else (if (-1000000 : Int64) < (-v0) then (6 : Int32) else (if (-10000000 : Int64) < (-v0) then (7 : Int32) else (if (-100000000 : Int64) < (-v0) then (8 : Int32) else (if (-1000000000 : Int64) < (-v0) then (9 : Int32) else (if (-10000000000 : Int64) < (-v0) then (10 : Int32) else (if (-100000000000 : Int64) < (-v0) then (11 : Int32) else (if (-1000000000000 : Int64) < (-v0) then (12 : Int32) else (if (-10000000000000 : Int64) < (-v0) then (13 : Int32) else (if (-100000000000000 : Int64) < (-v0) then (14 : Int32) else (if (-1000000000000000 : Int64) < (-v0) then (15 : Int32) else (if (-10000000000000000 : Int64) < (-v0) then (16 : Int32) else (if (-100000000000000000 : Int64) < (-v0) then (17 : Int32) else (if (-1000000000000000000 : Int64) < (-v0) then (18 : Int32) else (19 : Int32))))))))))))))))))))
theorem ef_decLen (m : MethodId) (v0 : Int64) : entryFrame m #[(.long v0)] 5 = mkF m 0 #[.val (.long v0), .second, .unset, .unset, .unset] [] := by first | (simp [entryFrame, mkF, argsToLocals, Value.category]; done) | rfl
def Q_decLen (Z : State) (v0 : Int64) (h0 : Heap) (n0 : Nat) (v : Option Value) (h : Heap) (L : List Loc) : Prop := v = some (.int (f_decLen v0)) ∧ Fr n0 L ∧ h = h0
set_option maxRecDepth 65536 in
set_option maxHeartbeats 40000000 in
theorem rm_decLen (l : Launch) (Z : State) (a0 : Array Value) (hw : ∀ d ∈ tables_1, d.before a0 Z = true) (ws : List Jvm.Cond) (v0 : Int64) (h0 : Heap) (n0 : Nat) (Z0 : n0 ≤ h0.size) :
    MetFree l (⟨"com/example/colonwise/colonwise/model/BencodeIntegerOfPinLaw", "decimalLength", "(J)I"⟩ : MethodName) (head1 (Jvm.Cond.code (⟨"com/example/colonwise/colonwise/model/BencodeIntegerOfPinLaw", "decimalLength", "(J)I"⟩ : MethodName) method_2_code 5 (some .int) :: ws) ({ frames := 0, cells := 0, slots := 0, locals := 0 } : Room)) (fun a U => a = #[(.long v0)] ∧ Z.Warmed39 U.vm ∧ U.heap = h0) (fun _ _ _ _ _ => True) (fun _ U o U' => ∃ v L, o = .returned v ∧ Q_decLen Z v0 h0 n0 v U'.heap L ∧ FrameEnd U o U' L ({ frames := 0, cells := 0, slots := 0, locals := 0 } : Room).cells ({ frames := 0, cells := 0, slots := 0, locals := 0 } : Room).slots) := by
  refine MetFree.of_bodySF (plainFor_of_name (by first | (simp [plainName, overriddenIn]; done) | decide +kernel)) hisR ?_
  intro p e s m args below meth c s₁ Bd hml0 hP hK
  obtain ⟨rfl, hZ, hh⟩ := hP
  have hx := Bd.exec
  have hby := Bd.bytes
  have hml : c.maxLocals = 5 := hml0
  have hown : s.vm.findClass "com/example/colonwise/colonwise/model/BencodeIntegerOfPinLaw" = some m.cls := findClass_of_methodNamed Bd.named
  have hnm := (name_of_methodNamed Bd.named Bd.method).1
  have hlk : meth.locks = false := Bd.notSynchronized
  have X0 : Stand p l e ({ frames := 0, cells := 0, slots := 0, locals := 0 } : Room) s m #[(.long v0)] below meth c s₁ [] 0 0 := Stand.of_body Bd
  have e0 : s₁.heap = h0 := by rw [← hh, Bd.state]; rfl
  have N0 := Fr.nil n0
  refine Go.enter (Q := Q_decLen Z v0 h0 n0) (C := ({ frames := 0, cells := 0, slots := 0, locals := 0 } : Room).cells) (N := ({ frames := 0, cells := 0, slots := 0, locals := 0 } : Room).slots) (ef_decLen m v0) ?_
  show Go p e below s _ _ _ s₁ (mkF m 0 #[.val (.long v0), .second, .unset, .unset, .unset] [])
  refine G_lloadN X0 hx (pc' := 1) rfl (hb hby d7_0) rfl ?_
  refine G_lconst X0 hx (pc' := 2) rfl (hb hby d7_1) (z := (0 : Int64)) rfl ?_
  refine G_lcmp X0 hx (pc' := 3) rfl (hb hby d7_2)  ?_
  by_cases hc3_1 : v0 < (0 : Int64)
  · refine G_ifNo X0 hx (pc' := 6) rfl (hb hby d7_3) ((if0 _ _).trans (tlt ((lw_lt _ _).2 hc3_1)).2.1) ?_
    refine G_lloadN X0 hx (pc' := 7) rfl (hb hby d7_6) rfl ?_
    refine G_goto X0 hx (pc' := 12) (hb hby d7_7)  (by decide) (by decide) ?_
    refine G_lstoreN X0 hx (pc' := 13) rfl (hb hby d7_12) (L' := #[.val (.long v0), .second, .val (.long v0), .second, .unset]) rfl ?_
    refine G_lloadN X0 hx (pc' := 14) rfl (hb hby d7_13) rfl ?_
    refine G_ldc2 X0 hx (pc' := 17) rfl hown (mvT hZ (own_w hw 49 rfl)) (hb hby d7_14) ?_
    refine G_lcmp X0 hx (pc' := 18) rfl (hb hby d7_17)  ?_
    by_cases hc18_2 : (-10 : Int64) < v0
    · refine G_ifNo X0 hx (pc' := 21) rfl (hb hby d7_18) ((if0 _ _).trans (tlt ((lw_gt _ _).2 hc18_2)).2.2.2) ?_
      refine G_iconst X0 hx (pc' := 22) rfl (hb hby d7_21) (z := (1 : Int32)) rfl ?_
      refine G_istore X0 hx (pc' := 24) rfl (hb hby d7_22) (L' := #[.val (.long v0), .second, .val (.long v0), .second, .val (.int (1 : Int32))]) rfl ?_
      refine G_goto X0 hx (pc' := 282) (hb hby d7_24)  (by decide) (by decide) ?_
      refine G_lloadN X0 hx (pc' := 283) rfl (hb hby d7_282) rfl ?_
      refine G_lconst X0 hx (pc' := 284) rfl (hb hby d7_283) (z := (0 : Int64)) rfl ?_
      refine G_lcmp X0 hx (pc' := 285) rfl (hb hby d7_284)  ?_
      refine G_ifNo X0 hx (pc' := 288) rfl (hb hby d7_285) ((if0 _ _).trans (tlt ((lw_lt _ _).2 hc3_1)).2.1) ?_
      refine G_iload X0 hx (pc' := 290) rfl (hb hby d7_288) rfl ?_
      refine G_iconst X0 hx (pc' := 291) rfl (hb hby d7_290) (z := (1 : Int32)) rfl ?_
      refine G_iadd X0 hx (pc' := 292) rfl (hb hby d7_291)  ?_
      rw [show ((1 : Int32) + (1 : Int32)) = (2 : Int32) from by decide]
      refine G_goto X0 hx (pc' := 297) (hb hby d7_292)  (by decide) (by decide) ?_
      refine Go.fin X0 hlk (v := some (.int (2 : Int32))) (fun h => by rw [Bd.returns] at h; cases h) (by decide) (by decide) ?_ (fun fs hr => retOut X0 hx Bd.returns rfl (Or.inl ⟨rfl, Or.inl rfl, _, rfl⟩) (hb hby d7_297) hr)
      show Q_decLen Z v0 h0 n0 _ s₁.heap _
      rw [e0]
      exact ⟨congrArg (fun z => some (Value.int z)) (Eq.symm ((if_pos hc3_1).trans ((if_pos hc18_2).trans rfl))), N0, rfl⟩
    refine G_ifYes X0 hx (pc' := 27) (hb hby d7_18) ((if0 _ _).trans (flt (fun q => hc18_2 ((lw_gt _ _).1 q))).2.2.2) (by decide) (by decide) ?_
    refine G_lloadN X0 hx (pc' := 28) rfl (hb hby d7_27) rfl ?_
    refine G_ldc2 X0 hx (pc' := 31) rfl hown (mvT hZ (own_w hw 135 rfl)) (hb hby d7_28) ?_
    refine G_lcmp X0 hx (pc' := 32) rfl (hb hby d7_31)  ?_
    by_cases hc32_3 : (-100 : Int64) < v0
    · refine G_ifNo X0 hx (pc' := 35) rfl (hb hby d7_32) ((if0 _ _).trans (tlt ((lw_gt _ _).2 hc32_3)).2.2.2) ?_
      refine G_iconst X0 hx (pc' := 36) rfl (hb hby d7_35) (z := (2 : Int32)) rfl ?_
      refine G_istore X0 hx (pc' := 38) rfl (hb hby d7_36) (L' := #[.val (.long v0), .second, .val (.long v0), .second, .val (.int (2 : Int32))]) rfl ?_
      refine G_goto X0 hx (pc' := 282) (hb hby d7_38)  (by decide) (by decide) ?_
      refine G_lloadN X0 hx (pc' := 283) rfl (hb hby d7_282) rfl ?_
      refine G_lconst X0 hx (pc' := 284) rfl (hb hby d7_283) (z := (0 : Int64)) rfl ?_
      refine G_lcmp X0 hx (pc' := 285) rfl (hb hby d7_284)  ?_
      refine G_ifNo X0 hx (pc' := 288) rfl (hb hby d7_285) ((if0 _ _).trans (tlt ((lw_lt _ _).2 hc3_1)).2.1) ?_
      refine G_iload X0 hx (pc' := 290) rfl (hb hby d7_288) rfl ?_
      refine G_iconst X0 hx (pc' := 291) rfl (hb hby d7_290) (z := (1 : Int32)) rfl ?_
      refine G_iadd X0 hx (pc' := 292) rfl (hb hby d7_291)  ?_
      rw [show ((2 : Int32) + (1 : Int32)) = (3 : Int32) from by decide]
      refine G_goto X0 hx (pc' := 297) (hb hby d7_292)  (by decide) (by decide) ?_
      refine Go.fin X0 hlk (v := some (.int (3 : Int32))) (fun h => by rw [Bd.returns] at h; cases h) (by decide) (by decide) ?_ (fun fs hr => retOut X0 hx Bd.returns rfl (Or.inl ⟨rfl, Or.inl rfl, _, rfl⟩) (hb hby d7_297) hr)
      show Q_decLen Z v0 h0 n0 _ s₁.heap _
      rw [e0]
      exact ⟨congrArg (fun z => some (Value.int z)) (Eq.symm ((if_pos hc3_1).trans ((if_neg hc18_2).trans ((if_pos hc32_3).trans rfl)))), N0, rfl⟩
    refine G_ifYes X0 hx (pc' := 41) (hb hby d7_32) ((if0 _ _).trans (flt (fun q => hc32_3 ((lw_gt _ _).1 q))).2.2.2) (by decide) (by decide) ?_
    refine G_lloadN X0 hx (pc' := 42) rfl (hb hby d7_41) rfl ?_
    refine G_ldc2 X0 hx (pc' := 45) rfl hown (mvT hZ (own_w hw 136 rfl)) (hb hby d7_42) ?_
    refine G_lcmp X0 hx (pc' := 46) rfl (hb hby d7_45)  ?_
    by_cases hc46_4 : (-1000 : Int64) < v0
    · refine G_ifNo X0 hx (pc' := 49) rfl (hb hby d7_46) ((if0 _ _).trans (tlt ((lw_gt _ _).2 hc46_4)).2.2.2) ?_
      refine G_iconst X0 hx (pc' := 50) rfl (hb hby d7_49) (z := (3 : Int32)) rfl ?_
      refine G_istore X0 hx (pc' := 52) rfl (hb hby d7_50) (L' := #[.val (.long v0), .second, .val (.long v0), .second, .val (.int (3 : Int32))]) rfl ?_
      refine G_goto X0 hx (pc' := 282) (hb hby d7_52)  (by decide) (by decide) ?_
      refine G_lloadN X0 hx (pc' := 283) rfl (hb hby d7_282) rfl ?_
      refine G_lconst X0 hx (pc' := 284) rfl (hb hby d7_283) (z := (0 : Int64)) rfl ?_
      refine G_lcmp X0 hx (pc' := 285) rfl (hb hby d7_284)  ?_
      refine G_ifNo X0 hx (pc' := 288) rfl (hb hby d7_285) ((if0 _ _).trans (tlt ((lw_lt _ _).2 hc3_1)).2.1) ?_
      refine G_iload X0 hx (pc' := 290) rfl (hb hby d7_288) rfl ?_
      refine G_iconst X0 hx (pc' := 291) rfl (hb hby d7_290) (z := (1 : Int32)) rfl ?_
      refine G_iadd X0 hx (pc' := 292) rfl (hb hby d7_291)  ?_
      rw [show ((3 : Int32) + (1 : Int32)) = (4 : Int32) from by decide]
      refine G_goto X0 hx (pc' := 297) (hb hby d7_292)  (by decide) (by decide) ?_
      refine Go.fin X0 hlk (v := some (.int (4 : Int32))) (fun h => by rw [Bd.returns] at h; cases h) (by decide) (by decide) ?_ (fun fs hr => retOut X0 hx Bd.returns rfl (Or.inl ⟨rfl, Or.inl rfl, _, rfl⟩) (hb hby d7_297) hr)
      show Q_decLen Z v0 h0 n0 _ s₁.heap _
      rw [e0]
      exact ⟨congrArg (fun z => some (Value.int z)) (Eq.symm ((if_pos hc3_1).trans ((if_neg hc18_2).trans ((if_neg hc32_3).trans ((if_pos hc46_4).trans rfl))))), N0, rfl⟩
    refine G_ifYes X0 hx (pc' := 55) (hb hby d7_46) ((if0 _ _).trans (flt (fun q => hc46_4 ((lw_gt _ _).1 q))).2.2.2) (by decide) (by decide) ?_
    refine G_lloadN X0 hx (pc' := 56) rfl (hb hby d7_55) rfl ?_
    refine G_ldc2 X0 hx (pc' := 59) rfl hown (mvT hZ (own_w hw 137 rfl)) (hb hby d7_56) ?_
    refine G_lcmp X0 hx (pc' := 60) rfl (hb hby d7_59)  ?_
    by_cases hc60_5 : (-10000 : Int64) < v0
    · refine G_ifNo X0 hx (pc' := 63) rfl (hb hby d7_60) ((if0 _ _).trans (tlt ((lw_gt _ _).2 hc60_5)).2.2.2) ?_
      refine G_iconst X0 hx (pc' := 64) rfl (hb hby d7_63) (z := (4 : Int32)) rfl ?_
      refine G_istore X0 hx (pc' := 66) rfl (hb hby d7_64) (L' := #[.val (.long v0), .second, .val (.long v0), .second, .val (.int (4 : Int32))]) rfl ?_
      refine G_goto X0 hx (pc' := 282) (hb hby d7_66)  (by decide) (by decide) ?_
      refine G_lloadN X0 hx (pc' := 283) rfl (hb hby d7_282) rfl ?_
      refine G_lconst X0 hx (pc' := 284) rfl (hb hby d7_283) (z := (0 : Int64)) rfl ?_
      refine G_lcmp X0 hx (pc' := 285) rfl (hb hby d7_284)  ?_
      refine G_ifNo X0 hx (pc' := 288) rfl (hb hby d7_285) ((if0 _ _).trans (tlt ((lw_lt _ _).2 hc3_1)).2.1) ?_
      refine G_iload X0 hx (pc' := 290) rfl (hb hby d7_288) rfl ?_
      refine G_iconst X0 hx (pc' := 291) rfl (hb hby d7_290) (z := (1 : Int32)) rfl ?_
      refine G_iadd X0 hx (pc' := 292) rfl (hb hby d7_291)  ?_
      rw [show ((4 : Int32) + (1 : Int32)) = (5 : Int32) from by decide]
      refine G_goto X0 hx (pc' := 297) (hb hby d7_292)  (by decide) (by decide) ?_
      refine Go.fin X0 hlk (v := some (.int (5 : Int32))) (fun h => by rw [Bd.returns] at h; cases h) (by decide) (by decide) ?_ (fun fs hr => retOut X0 hx Bd.returns rfl (Or.inl ⟨rfl, Or.inl rfl, _, rfl⟩) (hb hby d7_297) hr)
      show Q_decLen Z v0 h0 n0 _ s₁.heap _
      rw [e0]
      exact ⟨congrArg (fun z => some (Value.int z)) (Eq.symm ((if_pos hc3_1).trans ((if_neg hc18_2).trans ((if_neg hc32_3).trans ((if_neg hc46_4).trans ((if_pos hc60_5).trans rfl)))))), N0, rfl⟩
    refine G_ifYes X0 hx (pc' := 69) (hb hby d7_60) ((if0 _ _).trans (flt (fun q => hc60_5 ((lw_gt _ _).1 q))).2.2.2) (by decide) (by decide) ?_
    refine G_lloadN X0 hx (pc' := 70) rfl (hb hby d7_69) rfl ?_
    refine G_ldc2 X0 hx (pc' := 73) rfl hown (mvT hZ (own_w hw 138 rfl)) (hb hby d7_70) ?_
    refine G_lcmp X0 hx (pc' := 74) rfl (hb hby d7_73)  ?_
    by_cases hc74_6 : (-100000 : Int64) < v0
    · refine G_ifNo X0 hx (pc' := 77) rfl (hb hby d7_74) ((if0 _ _).trans (tlt ((lw_gt _ _).2 hc74_6)).2.2.2) ?_
      refine G_iconst X0 hx (pc' := 78) rfl (hb hby d7_77) (z := (5 : Int32)) rfl ?_
      refine G_istore X0 hx (pc' := 80) rfl (hb hby d7_78) (L' := #[.val (.long v0), .second, .val (.long v0), .second, .val (.int (5 : Int32))]) rfl ?_
      refine G_goto X0 hx (pc' := 282) (hb hby d7_80)  (by decide) (by decide) ?_
      refine G_lloadN X0 hx (pc' := 283) rfl (hb hby d7_282) rfl ?_
      refine G_lconst X0 hx (pc' := 284) rfl (hb hby d7_283) (z := (0 : Int64)) rfl ?_
      refine G_lcmp X0 hx (pc' := 285) rfl (hb hby d7_284)  ?_
      refine G_ifNo X0 hx (pc' := 288) rfl (hb hby d7_285) ((if0 _ _).trans (tlt ((lw_lt _ _).2 hc3_1)).2.1) ?_
      refine G_iload X0 hx (pc' := 290) rfl (hb hby d7_288) rfl ?_
      refine G_iconst X0 hx (pc' := 291) rfl (hb hby d7_290) (z := (1 : Int32)) rfl ?_
      refine G_iadd X0 hx (pc' := 292) rfl (hb hby d7_291)  ?_
      rw [show ((5 : Int32) + (1 : Int32)) = (6 : Int32) from by decide]
      refine G_goto X0 hx (pc' := 297) (hb hby d7_292)  (by decide) (by decide) ?_
      refine Go.fin X0 hlk (v := some (.int (6 : Int32))) (fun h => by rw [Bd.returns] at h; cases h) (by decide) (by decide) ?_ (fun fs hr => retOut X0 hx Bd.returns rfl (Or.inl ⟨rfl, Or.inl rfl, _, rfl⟩) (hb hby d7_297) hr)
      show Q_decLen Z v0 h0 n0 _ s₁.heap _
      rw [e0]
      exact ⟨congrArg (fun z => some (Value.int z)) (Eq.symm ((if_pos hc3_1).trans ((if_neg hc18_2).trans ((if_neg hc32_3).trans ((if_neg hc46_4).trans ((if_neg hc60_5).trans ((if_pos hc74_6).trans rfl))))))), N0, rfl⟩
    refine G_ifYes X0 hx (pc' := 83) (hb hby d7_74) ((if0 _ _).trans (flt (fun q => hc74_6 ((lw_gt _ _).1 q))).2.2.2) (by decide) (by decide) ?_
    refine G_lloadN X0 hx (pc' := 84) rfl (hb hby d7_83) rfl ?_
    refine G_ldc2 X0 hx (pc' := 87) rfl hown (mvT hZ (own_w hw 139 rfl)) (hb hby d7_84) ?_
    refine G_lcmp X0 hx (pc' := 88) rfl (hb hby d7_87)  ?_
    by_cases hc88_7 : (-1000000 : Int64) < v0
    · refine G_ifNo X0 hx (pc' := 91) rfl (hb hby d7_88) ((if0 _ _).trans (tlt ((lw_gt _ _).2 hc88_7)).2.2.2) ?_
      refine G_bipush X0 hx (pc' := 93) rfl (hb hby d7_91) (z := (6 : Int32)) rfl ?_
      refine G_istore X0 hx (pc' := 95) rfl (hb hby d7_93) (L' := #[.val (.long v0), .second, .val (.long v0), .second, .val (.int (6 : Int32))]) rfl ?_
      refine G_goto X0 hx (pc' := 282) (hb hby d7_95)  (by decide) (by decide) ?_
      refine G_lloadN X0 hx (pc' := 283) rfl (hb hby d7_282) rfl ?_
      refine G_lconst X0 hx (pc' := 284) rfl (hb hby d7_283) (z := (0 : Int64)) rfl ?_
      refine G_lcmp X0 hx (pc' := 285) rfl (hb hby d7_284)  ?_
      refine G_ifNo X0 hx (pc' := 288) rfl (hb hby d7_285) ((if0 _ _).trans (tlt ((lw_lt _ _).2 hc3_1)).2.1) ?_
      refine G_iload X0 hx (pc' := 290) rfl (hb hby d7_288) rfl ?_
      refine G_iconst X0 hx (pc' := 291) rfl (hb hby d7_290) (z := (1 : Int32)) rfl ?_
      refine G_iadd X0 hx (pc' := 292) rfl (hb hby d7_291)  ?_
      rw [show ((6 : Int32) + (1 : Int32)) = (7 : Int32) from by decide]
      refine G_goto X0 hx (pc' := 297) (hb hby d7_292)  (by decide) (by decide) ?_
      refine Go.fin X0 hlk (v := some (.int (7 : Int32))) (fun h => by rw [Bd.returns] at h; cases h) (by decide) (by decide) ?_ (fun fs hr => retOut X0 hx Bd.returns rfl (Or.inl ⟨rfl, Or.inl rfl, _, rfl⟩) (hb hby d7_297) hr)
      show Q_decLen Z v0 h0 n0 _ s₁.heap _
      rw [e0]
      exact ⟨congrArg (fun z => some (Value.int z)) (Eq.symm ((if_pos hc3_1).trans ((if_neg hc18_2).trans ((if_neg hc32_3).trans ((if_neg hc46_4).trans ((if_neg hc60_5).trans ((if_neg hc74_6).trans ((if_pos hc88_7).trans rfl)))))))), N0, rfl⟩
    refine G_ifYes X0 hx (pc' := 98) (hb hby d7_88) ((if0 _ _).trans (flt (fun q => hc88_7 ((lw_gt _ _).1 q))).2.2.2) (by decide) (by decide) ?_
    refine G_lloadN X0 hx (pc' := 99) rfl (hb hby d7_98) rfl ?_
    refine G_ldc2 X0 hx (pc' := 102) rfl hown (mvT hZ (own_w hw 140 rfl)) (hb hby d7_99) ?_
    refine G_lcmp X0 hx (pc' := 103) rfl (hb hby d7_102)  ?_
    by_cases hc103_8 : (-10000000 : Int64) < v0
    · refine G_ifNo X0 hx (pc' := 106) rfl (hb hby d7_103) ((if0 _ _).trans (tlt ((lw_gt _ _).2 hc103_8)).2.2.2) ?_
      refine G_bipush X0 hx (pc' := 108) rfl (hb hby d7_106) (z := (7 : Int32)) rfl ?_
      refine G_istore X0 hx (pc' := 110) rfl (hb hby d7_108) (L' := #[.val (.long v0), .second, .val (.long v0), .second, .val (.int (7 : Int32))]) rfl ?_
      refine G_goto X0 hx (pc' := 282) (hb hby d7_110)  (by decide) (by decide) ?_
      refine G_lloadN X0 hx (pc' := 283) rfl (hb hby d7_282) rfl ?_
      refine G_lconst X0 hx (pc' := 284) rfl (hb hby d7_283) (z := (0 : Int64)) rfl ?_
      refine G_lcmp X0 hx (pc' := 285) rfl (hb hby d7_284)  ?_
      refine G_ifNo X0 hx (pc' := 288) rfl (hb hby d7_285) ((if0 _ _).trans (tlt ((lw_lt _ _).2 hc3_1)).2.1) ?_
      refine G_iload X0 hx (pc' := 290) rfl (hb hby d7_288) rfl ?_
      refine G_iconst X0 hx (pc' := 291) rfl (hb hby d7_290) (z := (1 : Int32)) rfl ?_
      refine G_iadd X0 hx (pc' := 292) rfl (hb hby d7_291)  ?_
      rw [show ((7 : Int32) + (1 : Int32)) = (8 : Int32) from by decide]
      refine G_goto X0 hx (pc' := 297) (hb hby d7_292)  (by decide) (by decide) ?_
      refine Go.fin X0 hlk (v := some (.int (8 : Int32))) (fun h => by rw [Bd.returns] at h; cases h) (by decide) (by decide) ?_ (fun fs hr => retOut X0 hx Bd.returns rfl (Or.inl ⟨rfl, Or.inl rfl, _, rfl⟩) (hb hby d7_297) hr)
      show Q_decLen Z v0 h0 n0 _ s₁.heap _
      rw [e0]
      exact ⟨congrArg (fun z => some (Value.int z)) (Eq.symm ((if_pos hc3_1).trans ((if_neg hc18_2).trans ((if_neg hc32_3).trans ((if_neg hc46_4).trans ((if_neg hc60_5).trans ((if_neg hc74_6).trans ((if_neg hc88_7).trans ((if_pos hc103_8).trans rfl))))))))), N0, rfl⟩
    refine G_ifYes X0 hx (pc' := 113) (hb hby d7_103) ((if0 _ _).trans (flt (fun q => hc103_8 ((lw_gt _ _).1 q))).2.2.2) (by decide) (by decide) ?_
    refine G_lloadN X0 hx (pc' := 114) rfl (hb hby d7_113) rfl ?_
    refine G_ldc2 X0 hx (pc' := 117) rfl hown (mvT hZ (own_w hw 141 rfl)) (hb hby d7_114) ?_
    refine G_lcmp X0 hx (pc' := 118) rfl (hb hby d7_117)  ?_
    by_cases hc118_9 : (-100000000 : Int64) < v0
    · refine G_ifNo X0 hx (pc' := 121) rfl (hb hby d7_118) ((if0 _ _).trans (tlt ((lw_gt _ _).2 hc118_9)).2.2.2) ?_
      refine G_bipush X0 hx (pc' := 123) rfl (hb hby d7_121) (z := (8 : Int32)) rfl ?_
      refine G_istore X0 hx (pc' := 125) rfl (hb hby d7_123) (L' := #[.val (.long v0), .second, .val (.long v0), .second, .val (.int (8 : Int32))]) rfl ?_
      refine G_goto X0 hx (pc' := 282) (hb hby d7_125)  (by decide) (by decide) ?_
      refine G_lloadN X0 hx (pc' := 283) rfl (hb hby d7_282) rfl ?_
      refine G_lconst X0 hx (pc' := 284) rfl (hb hby d7_283) (z := (0 : Int64)) rfl ?_
      refine G_lcmp X0 hx (pc' := 285) rfl (hb hby d7_284)  ?_
      refine G_ifNo X0 hx (pc' := 288) rfl (hb hby d7_285) ((if0 _ _).trans (tlt ((lw_lt _ _).2 hc3_1)).2.1) ?_
      refine G_iload X0 hx (pc' := 290) rfl (hb hby d7_288) rfl ?_
      refine G_iconst X0 hx (pc' := 291) rfl (hb hby d7_290) (z := (1 : Int32)) rfl ?_
      refine G_iadd X0 hx (pc' := 292) rfl (hb hby d7_291)  ?_
      rw [show ((8 : Int32) + (1 : Int32)) = (9 : Int32) from by decide]
      refine G_goto X0 hx (pc' := 297) (hb hby d7_292)  (by decide) (by decide) ?_
      refine Go.fin X0 hlk (v := some (.int (9 : Int32))) (fun h => by rw [Bd.returns] at h; cases h) (by decide) (by decide) ?_ (fun fs hr => retOut X0 hx Bd.returns rfl (Or.inl ⟨rfl, Or.inl rfl, _, rfl⟩) (hb hby d7_297) hr)
      show Q_decLen Z v0 h0 n0 _ s₁.heap _
      rw [e0]
      exact ⟨congrArg (fun z => some (Value.int z)) (Eq.symm ((if_pos hc3_1).trans ((if_neg hc18_2).trans ((if_neg hc32_3).trans ((if_neg hc46_4).trans ((if_neg hc60_5).trans ((if_neg hc74_6).trans ((if_neg hc88_7).trans ((if_neg hc103_8).trans ((if_pos hc118_9).trans rfl)))))))))), N0, rfl⟩
    refine G_ifYes X0 hx (pc' := 128) (hb hby d7_118) ((if0 _ _).trans (flt (fun q => hc118_9 ((lw_gt _ _).1 q))).2.2.2) (by decide) (by decide) ?_
    refine G_lloadN X0 hx (pc' := 129) rfl (hb hby d7_128) rfl ?_
    refine G_ldc2 X0 hx (pc' := 132) rfl hown (mvT hZ (own_w hw 142 rfl)) (hb hby d7_129) ?_
    refine G_lcmp X0 hx (pc' := 133) rfl (hb hby d7_132)  ?_
    by_cases hc133_10 : (-1000000000 : Int64) < v0
    · refine G_ifNo X0 hx (pc' := 136) rfl (hb hby d7_133) ((if0 _ _).trans (tlt ((lw_gt _ _).2 hc133_10)).2.2.2) ?_
      refine G_bipush X0 hx (pc' := 138) rfl (hb hby d7_136) (z := (9 : Int32)) rfl ?_
      refine G_istore X0 hx (pc' := 140) rfl (hb hby d7_138) (L' := #[.val (.long v0), .second, .val (.long v0), .second, .val (.int (9 : Int32))]) rfl ?_
      refine G_goto X0 hx (pc' := 282) (hb hby d7_140)  (by decide) (by decide) ?_
      refine G_lloadN X0 hx (pc' := 283) rfl (hb hby d7_282) rfl ?_
      refine G_lconst X0 hx (pc' := 284) rfl (hb hby d7_283) (z := (0 : Int64)) rfl ?_
      refine G_lcmp X0 hx (pc' := 285) rfl (hb hby d7_284)  ?_
      refine G_ifNo X0 hx (pc' := 288) rfl (hb hby d7_285) ((if0 _ _).trans (tlt ((lw_lt _ _).2 hc3_1)).2.1) ?_
      refine G_iload X0 hx (pc' := 290) rfl (hb hby d7_288) rfl ?_
      refine G_iconst X0 hx (pc' := 291) rfl (hb hby d7_290) (z := (1 : Int32)) rfl ?_
      refine G_iadd X0 hx (pc' := 292) rfl (hb hby d7_291)  ?_
      rw [show ((9 : Int32) + (1 : Int32)) = (10 : Int32) from by decide]
      refine G_goto X0 hx (pc' := 297) (hb hby d7_292)  (by decide) (by decide) ?_
      refine Go.fin X0 hlk (v := some (.int (10 : Int32))) (fun h => by rw [Bd.returns] at h; cases h) (by decide) (by decide) ?_ (fun fs hr => retOut X0 hx Bd.returns rfl (Or.inl ⟨rfl, Or.inl rfl, _, rfl⟩) (hb hby d7_297) hr)
      show Q_decLen Z v0 h0 n0 _ s₁.heap _
      rw [e0]
      exact ⟨congrArg (fun z => some (Value.int z)) (Eq.symm ((if_pos hc3_1).trans ((if_neg hc18_2).trans ((if_neg hc32_3).trans ((if_neg hc46_4).trans ((if_neg hc60_5).trans ((if_neg hc74_6).trans ((if_neg hc88_7).trans ((if_neg hc103_8).trans ((if_neg hc118_9).trans ((if_pos hc133_10).trans rfl))))))))))), N0, rfl⟩
    refine G_ifYes X0 hx (pc' := 143) (hb hby d7_133) ((if0 _ _).trans (flt (fun q => hc133_10 ((lw_gt _ _).1 q))).2.2.2) (by decide) (by decide) ?_
    refine G_lloadN X0 hx (pc' := 144) rfl (hb hby d7_143) rfl ?_
    refine G_ldc2 X0 hx (pc' := 147) rfl hown (mvT hZ (own_w hw 143 rfl)) (hb hby d7_144) ?_
    refine G_lcmp X0 hx (pc' := 148) rfl (hb hby d7_147)  ?_
    by_cases hc148_11 : (-10000000000 : Int64) < v0
    · refine G_ifNo X0 hx (pc' := 151) rfl (hb hby d7_148) ((if0 _ _).trans (tlt ((lw_gt _ _).2 hc148_11)).2.2.2) ?_
      refine G_bipush X0 hx (pc' := 153) rfl (hb hby d7_151) (z := (10 : Int32)) rfl ?_
      refine G_istore X0 hx (pc' := 155) rfl (hb hby d7_153) (L' := #[.val (.long v0), .second, .val (.long v0), .second, .val (.int (10 : Int32))]) rfl ?_
      refine G_goto X0 hx (pc' := 282) (hb hby d7_155)  (by decide) (by decide) ?_
      refine G_lloadN X0 hx (pc' := 283) rfl (hb hby d7_282) rfl ?_
      refine G_lconst X0 hx (pc' := 284) rfl (hb hby d7_283) (z := (0 : Int64)) rfl ?_
      refine G_lcmp X0 hx (pc' := 285) rfl (hb hby d7_284)  ?_
      refine G_ifNo X0 hx (pc' := 288) rfl (hb hby d7_285) ((if0 _ _).trans (tlt ((lw_lt _ _).2 hc3_1)).2.1) ?_
      refine G_iload X0 hx (pc' := 290) rfl (hb hby d7_288) rfl ?_
      refine G_iconst X0 hx (pc' := 291) rfl (hb hby d7_290) (z := (1 : Int32)) rfl ?_
      refine G_iadd X0 hx (pc' := 292) rfl (hb hby d7_291)  ?_
      rw [show ((10 : Int32) + (1 : Int32)) = (11 : Int32) from by decide]
      refine G_goto X0 hx (pc' := 297) (hb hby d7_292)  (by decide) (by decide) ?_
      refine Go.fin X0 hlk (v := some (.int (11 : Int32))) (fun h => by rw [Bd.returns] at h; cases h) (by decide) (by decide) ?_ (fun fs hr => retOut X0 hx Bd.returns rfl (Or.inl ⟨rfl, Or.inl rfl, _, rfl⟩) (hb hby d7_297) hr)
      show Q_decLen Z v0 h0 n0 _ s₁.heap _
      rw [e0]
      exact ⟨congrArg (fun z => some (Value.int z)) (Eq.symm ((if_pos hc3_1).trans ((if_neg hc18_2).trans ((if_neg hc32_3).trans ((if_neg hc46_4).trans ((if_neg hc60_5).trans ((if_neg hc74_6).trans ((if_neg hc88_7).trans ((if_neg hc103_8).trans ((if_neg hc118_9).trans ((if_neg hc133_10).trans ((if_pos hc148_11).trans rfl)))))))))))), N0, rfl⟩
    refine G_ifYes X0 hx (pc' := 158) (hb hby d7_148) ((if0 _ _).trans (flt (fun q => hc148_11 ((lw_gt _ _).1 q))).2.2.2) (by decide) (by decide) ?_
    refine G_lloadN X0 hx (pc' := 159) rfl (hb hby d7_158) rfl ?_
    refine G_ldc2 X0 hx (pc' := 162) rfl hown (mvT hZ (own_w hw 144 rfl)) (hb hby d7_159) ?_
    refine G_lcmp X0 hx (pc' := 163) rfl (hb hby d7_162)  ?_
    by_cases hc163_12 : (-100000000000 : Int64) < v0
    · refine G_ifNo X0 hx (pc' := 166) rfl (hb hby d7_163) ((if0 _ _).trans (tlt ((lw_gt _ _).2 hc163_12)).2.2.2) ?_
      refine G_bipush X0 hx (pc' := 168) rfl (hb hby d7_166) (z := (11 : Int32)) rfl ?_
      refine G_istore X0 hx (pc' := 170) rfl (hb hby d7_168) (L' := #[.val (.long v0), .second, .val (.long v0), .second, .val (.int (11 : Int32))]) rfl ?_
      refine G_goto X0 hx (pc' := 282) (hb hby d7_170)  (by decide) (by decide) ?_
      refine G_lloadN X0 hx (pc' := 283) rfl (hb hby d7_282) rfl ?_
      refine G_lconst X0 hx (pc' := 284) rfl (hb hby d7_283) (z := (0 : Int64)) rfl ?_
      refine G_lcmp X0 hx (pc' := 285) rfl (hb hby d7_284)  ?_
      refine G_ifNo X0 hx (pc' := 288) rfl (hb hby d7_285) ((if0 _ _).trans (tlt ((lw_lt _ _).2 hc3_1)).2.1) ?_
      refine G_iload X0 hx (pc' := 290) rfl (hb hby d7_288) rfl ?_
      refine G_iconst X0 hx (pc' := 291) rfl (hb hby d7_290) (z := (1 : Int32)) rfl ?_
      refine G_iadd X0 hx (pc' := 292) rfl (hb hby d7_291)  ?_
      rw [show ((11 : Int32) + (1 : Int32)) = (12 : Int32) from by decide]
      refine G_goto X0 hx (pc' := 297) (hb hby d7_292)  (by decide) (by decide) ?_
      refine Go.fin X0 hlk (v := some (.int (12 : Int32))) (fun h => by rw [Bd.returns] at h; cases h) (by decide) (by decide) ?_ (fun fs hr => retOut X0 hx Bd.returns rfl (Or.inl ⟨rfl, Or.inl rfl, _, rfl⟩) (hb hby d7_297) hr)
      show Q_decLen Z v0 h0 n0 _ s₁.heap _
      rw [e0]
      exact ⟨congrArg (fun z => some (Value.int z)) (Eq.symm ((if_pos hc3_1).trans ((if_neg hc18_2).trans ((if_neg hc32_3).trans ((if_neg hc46_4).trans ((if_neg hc60_5).trans ((if_neg hc74_6).trans ((if_neg hc88_7).trans ((if_neg hc103_8).trans ((if_neg hc118_9).trans ((if_neg hc133_10).trans ((if_neg hc148_11).trans ((if_pos hc163_12).trans rfl))))))))))))), N0, rfl⟩
    refine G_ifYes X0 hx (pc' := 173) (hb hby d7_163) ((if0 _ _).trans (flt (fun q => hc163_12 ((lw_gt _ _).1 q))).2.2.2) (by decide) (by decide) ?_
    refine G_lloadN X0 hx (pc' := 174) rfl (hb hby d7_173) rfl ?_
    refine G_ldc2 X0 hx (pc' := 177) rfl hown (mvT hZ (own_w hw 145 rfl)) (hb hby d7_174) ?_
    refine G_lcmp X0 hx (pc' := 178) rfl (hb hby d7_177)  ?_
    by_cases hc178_13 : (-1000000000000 : Int64) < v0
    · refine G_ifNo X0 hx (pc' := 181) rfl (hb hby d7_178) ((if0 _ _).trans (tlt ((lw_gt _ _).2 hc178_13)).2.2.2) ?_
      refine G_bipush X0 hx (pc' := 183) rfl (hb hby d7_181) (z := (12 : Int32)) rfl ?_
      refine G_istore X0 hx (pc' := 185) rfl (hb hby d7_183) (L' := #[.val (.long v0), .second, .val (.long v0), .second, .val (.int (12 : Int32))]) rfl ?_
      refine G_goto X0 hx (pc' := 282) (hb hby d7_185)  (by decide) (by decide) ?_
      refine G_lloadN X0 hx (pc' := 283) rfl (hb hby d7_282) rfl ?_
      refine G_lconst X0 hx (pc' := 284) rfl (hb hby d7_283) (z := (0 : Int64)) rfl ?_
      refine G_lcmp X0 hx (pc' := 285) rfl (hb hby d7_284)  ?_
      refine G_ifNo X0 hx (pc' := 288) rfl (hb hby d7_285) ((if0 _ _).trans (tlt ((lw_lt _ _).2 hc3_1)).2.1) ?_
      refine G_iload X0 hx (pc' := 290) rfl (hb hby d7_288) rfl ?_
      refine G_iconst X0 hx (pc' := 291) rfl (hb hby d7_290) (z := (1 : Int32)) rfl ?_
      refine G_iadd X0 hx (pc' := 292) rfl (hb hby d7_291)  ?_
      rw [show ((12 : Int32) + (1 : Int32)) = (13 : Int32) from by decide]
      refine G_goto X0 hx (pc' := 297) (hb hby d7_292)  (by decide) (by decide) ?_
      refine Go.fin X0 hlk (v := some (.int (13 : Int32))) (fun h => by rw [Bd.returns] at h; cases h) (by decide) (by decide) ?_ (fun fs hr => retOut X0 hx Bd.returns rfl (Or.inl ⟨rfl, Or.inl rfl, _, rfl⟩) (hb hby d7_297) hr)
      show Q_decLen Z v0 h0 n0 _ s₁.heap _
      rw [e0]
      exact ⟨congrArg (fun z => some (Value.int z)) (Eq.symm ((if_pos hc3_1).trans ((if_neg hc18_2).trans ((if_neg hc32_3).trans ((if_neg hc46_4).trans ((if_neg hc60_5).trans ((if_neg hc74_6).trans ((if_neg hc88_7).trans ((if_neg hc103_8).trans ((if_neg hc118_9).trans ((if_neg hc133_10).trans ((if_neg hc148_11).trans ((if_neg hc163_12).trans ((if_pos hc178_13).trans rfl)))))))))))))), N0, rfl⟩
    refine G_ifYes X0 hx (pc' := 188) (hb hby d7_178) ((if0 _ _).trans (flt (fun q => hc178_13 ((lw_gt _ _).1 q))).2.2.2) (by decide) (by decide) ?_
    refine G_lloadN X0 hx (pc' := 189) rfl (hb hby d7_188) rfl ?_
    refine G_ldc2 X0 hx (pc' := 192) rfl hown (mvT hZ (own_w hw 146 rfl)) (hb hby d7_189) ?_
    refine G_lcmp X0 hx (pc' := 193) rfl (hb hby d7_192)  ?_
    by_cases hc193_14 : (-10000000000000 : Int64) < v0
    · refine G_ifNo X0 hx (pc' := 196) rfl (hb hby d7_193) ((if0 _ _).trans (tlt ((lw_gt _ _).2 hc193_14)).2.2.2) ?_
      refine G_bipush X0 hx (pc' := 198) rfl (hb hby d7_196) (z := (13 : Int32)) rfl ?_
      refine G_istore X0 hx (pc' := 200) rfl (hb hby d7_198) (L' := #[.val (.long v0), .second, .val (.long v0), .second, .val (.int (13 : Int32))]) rfl ?_
      refine G_goto X0 hx (pc' := 282) (hb hby d7_200)  (by decide) (by decide) ?_
      refine G_lloadN X0 hx (pc' := 283) rfl (hb hby d7_282) rfl ?_
      refine G_lconst X0 hx (pc' := 284) rfl (hb hby d7_283) (z := (0 : Int64)) rfl ?_
      refine G_lcmp X0 hx (pc' := 285) rfl (hb hby d7_284)  ?_
      refine G_ifNo X0 hx (pc' := 288) rfl (hb hby d7_285) ((if0 _ _).trans (tlt ((lw_lt _ _).2 hc3_1)).2.1) ?_
      refine G_iload X0 hx (pc' := 290) rfl (hb hby d7_288) rfl ?_
      refine G_iconst X0 hx (pc' := 291) rfl (hb hby d7_290) (z := (1 : Int32)) rfl ?_
      refine G_iadd X0 hx (pc' := 292) rfl (hb hby d7_291)  ?_
      rw [show ((13 : Int32) + (1 : Int32)) = (14 : Int32) from by decide]
      refine G_goto X0 hx (pc' := 297) (hb hby d7_292)  (by decide) (by decide) ?_
      refine Go.fin X0 hlk (v := some (.int (14 : Int32))) (fun h => by rw [Bd.returns] at h; cases h) (by decide) (by decide) ?_ (fun fs hr => retOut X0 hx Bd.returns rfl (Or.inl ⟨rfl, Or.inl rfl, _, rfl⟩) (hb hby d7_297) hr)
      show Q_decLen Z v0 h0 n0 _ s₁.heap _
      rw [e0]
      exact ⟨congrArg (fun z => some (Value.int z)) (Eq.symm ((if_pos hc3_1).trans ((if_neg hc18_2).trans ((if_neg hc32_3).trans ((if_neg hc46_4).trans ((if_neg hc60_5).trans ((if_neg hc74_6).trans ((if_neg hc88_7).trans ((if_neg hc103_8).trans ((if_neg hc118_9).trans ((if_neg hc133_10).trans ((if_neg hc148_11).trans ((if_neg hc163_12).trans ((if_neg hc178_13).trans ((if_pos hc193_14).trans rfl))))))))))))))), N0, rfl⟩
    refine G_ifYes X0 hx (pc' := 203) (hb hby d7_193) ((if0 _ _).trans (flt (fun q => hc193_14 ((lw_gt _ _).1 q))).2.2.2) (by decide) (by decide) ?_
    refine G_lloadN X0 hx (pc' := 204) rfl (hb hby d7_203) rfl ?_
    refine G_ldc2 X0 hx (pc' := 207) rfl hown (mvT hZ (own_w hw 147 rfl)) (hb hby d7_204) ?_
    refine G_lcmp X0 hx (pc' := 208) rfl (hb hby d7_207)  ?_
    by_cases hc208_15 : (-100000000000000 : Int64) < v0
    · refine G_ifNo X0 hx (pc' := 211) rfl (hb hby d7_208) ((if0 _ _).trans (tlt ((lw_gt _ _).2 hc208_15)).2.2.2) ?_
      refine G_bipush X0 hx (pc' := 213) rfl (hb hby d7_211) (z := (14 : Int32)) rfl ?_
      refine G_istore X0 hx (pc' := 215) rfl (hb hby d7_213) (L' := #[.val (.long v0), .second, .val (.long v0), .second, .val (.int (14 : Int32))]) rfl ?_
      refine G_goto X0 hx (pc' := 282) (hb hby d7_215)  (by decide) (by decide) ?_
      refine G_lloadN X0 hx (pc' := 283) rfl (hb hby d7_282) rfl ?_
      refine G_lconst X0 hx (pc' := 284) rfl (hb hby d7_283) (z := (0 : Int64)) rfl ?_
      refine G_lcmp X0 hx (pc' := 285) rfl (hb hby d7_284)  ?_
      refine G_ifNo X0 hx (pc' := 288) rfl (hb hby d7_285) ((if0 _ _).trans (tlt ((lw_lt _ _).2 hc3_1)).2.1) ?_
      refine G_iload X0 hx (pc' := 290) rfl (hb hby d7_288) rfl ?_
      refine G_iconst X0 hx (pc' := 291) rfl (hb hby d7_290) (z := (1 : Int32)) rfl ?_
      refine G_iadd X0 hx (pc' := 292) rfl (hb hby d7_291)  ?_
      rw [show ((14 : Int32) + (1 : Int32)) = (15 : Int32) from by decide]
      refine G_goto X0 hx (pc' := 297) (hb hby d7_292)  (by decide) (by decide) ?_
      refine Go.fin X0 hlk (v := some (.int (15 : Int32))) (fun h => by rw [Bd.returns] at h; cases h) (by decide) (by decide) ?_ (fun fs hr => retOut X0 hx Bd.returns rfl (Or.inl ⟨rfl, Or.inl rfl, _, rfl⟩) (hb hby d7_297) hr)
      show Q_decLen Z v0 h0 n0 _ s₁.heap _
      rw [e0]
      exact ⟨congrArg (fun z => some (Value.int z)) (Eq.symm ((if_pos hc3_1).trans ((if_neg hc18_2).trans ((if_neg hc32_3).trans ((if_neg hc46_4).trans ((if_neg hc60_5).trans ((if_neg hc74_6).trans ((if_neg hc88_7).trans ((if_neg hc103_8).trans ((if_neg hc118_9).trans ((if_neg hc133_10).trans ((if_neg hc148_11).trans ((if_neg hc163_12).trans ((if_neg hc178_13).trans ((if_neg hc193_14).trans ((if_pos hc208_15).trans rfl)))))))))))))))), N0, rfl⟩
    refine G_ifYes X0 hx (pc' := 218) (hb hby d7_208) ((if0 _ _).trans (flt (fun q => hc208_15 ((lw_gt _ _).1 q))).2.2.2) (by decide) (by decide) ?_
    refine G_lloadN X0 hx (pc' := 219) rfl (hb hby d7_218) rfl ?_
    refine G_ldc2 X0 hx (pc' := 222) rfl hown (mvT hZ (own_w hw 148 rfl)) (hb hby d7_219) ?_
    refine G_lcmp X0 hx (pc' := 223) rfl (hb hby d7_222)  ?_
    by_cases hc223_16 : (-1000000000000000 : Int64) < v0
    · refine G_ifNo X0 hx (pc' := 226) rfl (hb hby d7_223) ((if0 _ _).trans (tlt ((lw_gt _ _).2 hc223_16)).2.2.2) ?_
      refine G_bipush X0 hx (pc' := 228) rfl (hb hby d7_226) (z := (15 : Int32)) rfl ?_
      refine G_istore X0 hx (pc' := 230) rfl (hb hby d7_228) (L' := #[.val (.long v0), .second, .val (.long v0), .second, .val (.int (15 : Int32))]) rfl ?_
      refine G_goto X0 hx (pc' := 282) (hb hby d7_230)  (by decide) (by decide) ?_
      refine G_lloadN X0 hx (pc' := 283) rfl (hb hby d7_282) rfl ?_
      refine G_lconst X0 hx (pc' := 284) rfl (hb hby d7_283) (z := (0 : Int64)) rfl ?_
      refine G_lcmp X0 hx (pc' := 285) rfl (hb hby d7_284)  ?_
      refine G_ifNo X0 hx (pc' := 288) rfl (hb hby d7_285) ((if0 _ _).trans (tlt ((lw_lt _ _).2 hc3_1)).2.1) ?_
      refine G_iload X0 hx (pc' := 290) rfl (hb hby d7_288) rfl ?_
      refine G_iconst X0 hx (pc' := 291) rfl (hb hby d7_290) (z := (1 : Int32)) rfl ?_
      refine G_iadd X0 hx (pc' := 292) rfl (hb hby d7_291)  ?_
      rw [show ((15 : Int32) + (1 : Int32)) = (16 : Int32) from by decide]
      refine G_goto X0 hx (pc' := 297) (hb hby d7_292)  (by decide) (by decide) ?_
      refine Go.fin X0 hlk (v := some (.int (16 : Int32))) (fun h => by rw [Bd.returns] at h; cases h) (by decide) (by decide) ?_ (fun fs hr => retOut X0 hx Bd.returns rfl (Or.inl ⟨rfl, Or.inl rfl, _, rfl⟩) (hb hby d7_297) hr)
      show Q_decLen Z v0 h0 n0 _ s₁.heap _
      rw [e0]
      exact ⟨congrArg (fun z => some (Value.int z)) (Eq.symm ((if_pos hc3_1).trans ((if_neg hc18_2).trans ((if_neg hc32_3).trans ((if_neg hc46_4).trans ((if_neg hc60_5).trans ((if_neg hc74_6).trans ((if_neg hc88_7).trans ((if_neg hc103_8).trans ((if_neg hc118_9).trans ((if_neg hc133_10).trans ((if_neg hc148_11).trans ((if_neg hc163_12).trans ((if_neg hc178_13).trans ((if_neg hc193_14).trans ((if_neg hc208_15).trans ((if_pos hc223_16).trans rfl))))))))))))))))), N0, rfl⟩
    refine G_ifYes X0 hx (pc' := 233) (hb hby d7_223) ((if0 _ _).trans (flt (fun q => hc223_16 ((lw_gt _ _).1 q))).2.2.2) (by decide) (by decide) ?_
    refine G_lloadN X0 hx (pc' := 234) rfl (hb hby d7_233) rfl ?_
    refine G_ldc2 X0 hx (pc' := 237) rfl hown (mvT hZ (own_w hw 149 rfl)) (hb hby d7_234) ?_
    refine G_lcmp X0 hx (pc' := 238) rfl (hb hby d7_237)  ?_
    by_cases hc238_17 : (-10000000000000000 : Int64) < v0
    · refine G_ifNo X0 hx (pc' := 241) rfl (hb hby d7_238) ((if0 _ _).trans (tlt ((lw_gt _ _).2 hc238_17)).2.2.2) ?_
      refine G_bipush X0 hx (pc' := 243) rfl (hb hby d7_241) (z := (16 : Int32)) rfl ?_
      refine G_istore X0 hx (pc' := 245) rfl (hb hby d7_243) (L' := #[.val (.long v0), .second, .val (.long v0), .second, .val (.int (16 : Int32))]) rfl ?_
      refine G_goto X0 hx (pc' := 282) (hb hby d7_245)  (by decide) (by decide) ?_
      refine G_lloadN X0 hx (pc' := 283) rfl (hb hby d7_282) rfl ?_
      refine G_lconst X0 hx (pc' := 284) rfl (hb hby d7_283) (z := (0 : Int64)) rfl ?_
      refine G_lcmp X0 hx (pc' := 285) rfl (hb hby d7_284)  ?_
      refine G_ifNo X0 hx (pc' := 288) rfl (hb hby d7_285) ((if0 _ _).trans (tlt ((lw_lt _ _).2 hc3_1)).2.1) ?_
      refine G_iload X0 hx (pc' := 290) rfl (hb hby d7_288) rfl ?_
      refine G_iconst X0 hx (pc' := 291) rfl (hb hby d7_290) (z := (1 : Int32)) rfl ?_
      refine G_iadd X0 hx (pc' := 292) rfl (hb hby d7_291)  ?_
      rw [show ((16 : Int32) + (1 : Int32)) = (17 : Int32) from by decide]
      refine G_goto X0 hx (pc' := 297) (hb hby d7_292)  (by decide) (by decide) ?_
      refine Go.fin X0 hlk (v := some (.int (17 : Int32))) (fun h => by rw [Bd.returns] at h; cases h) (by decide) (by decide) ?_ (fun fs hr => retOut X0 hx Bd.returns rfl (Or.inl ⟨rfl, Or.inl rfl, _, rfl⟩) (hb hby d7_297) hr)
      show Q_decLen Z v0 h0 n0 _ s₁.heap _
      rw [e0]
      exact ⟨congrArg (fun z => some (Value.int z)) (Eq.symm ((if_pos hc3_1).trans ((if_neg hc18_2).trans ((if_neg hc32_3).trans ((if_neg hc46_4).trans ((if_neg hc60_5).trans ((if_neg hc74_6).trans ((if_neg hc88_7).trans ((if_neg hc103_8).trans ((if_neg hc118_9).trans ((if_neg hc133_10).trans ((if_neg hc148_11).trans ((if_neg hc163_12).trans ((if_neg hc178_13).trans ((if_neg hc193_14).trans ((if_neg hc208_15).trans ((if_neg hc223_16).trans ((if_pos hc238_17).trans rfl)))))))))))))))))), N0, rfl⟩
    refine G_ifYes X0 hx (pc' := 248) (hb hby d7_238) ((if0 _ _).trans (flt (fun q => hc238_17 ((lw_gt _ _).1 q))).2.2.2) (by decide) (by decide) ?_
    refine G_lloadN X0 hx (pc' := 249) rfl (hb hby d7_248) rfl ?_
    refine G_ldc2 X0 hx (pc' := 252) rfl hown (mvT hZ (own_w hw 150 rfl)) (hb hby d7_249) ?_
    refine G_lcmp X0 hx (pc' := 253) rfl (hb hby d7_252)  ?_
    by_cases hc253_18 : (-100000000000000000 : Int64) < v0
    · refine G_ifNo X0 hx (pc' := 256) rfl (hb hby d7_253) ((if0 _ _).trans (tlt ((lw_gt _ _).2 hc253_18)).2.2.2) ?_
      refine G_bipush X0 hx (pc' := 258) rfl (hb hby d7_256) (z := (17 : Int32)) rfl ?_
      refine G_istore X0 hx (pc' := 260) rfl (hb hby d7_258) (L' := #[.val (.long v0), .second, .val (.long v0), .second, .val (.int (17 : Int32))]) rfl ?_
      refine G_goto X0 hx (pc' := 282) (hb hby d7_260)  (by decide) (by decide) ?_
      refine G_lloadN X0 hx (pc' := 283) rfl (hb hby d7_282) rfl ?_
      refine G_lconst X0 hx (pc' := 284) rfl (hb hby d7_283) (z := (0 : Int64)) rfl ?_
      refine G_lcmp X0 hx (pc' := 285) rfl (hb hby d7_284)  ?_
      refine G_ifNo X0 hx (pc' := 288) rfl (hb hby d7_285) ((if0 _ _).trans (tlt ((lw_lt _ _).2 hc3_1)).2.1) ?_
      refine G_iload X0 hx (pc' := 290) rfl (hb hby d7_288) rfl ?_
      refine G_iconst X0 hx (pc' := 291) rfl (hb hby d7_290) (z := (1 : Int32)) rfl ?_
      refine G_iadd X0 hx (pc' := 292) rfl (hb hby d7_291)  ?_
      rw [show ((17 : Int32) + (1 : Int32)) = (18 : Int32) from by decide]
      refine G_goto X0 hx (pc' := 297) (hb hby d7_292)  (by decide) (by decide) ?_
      refine Go.fin X0 hlk (v := some (.int (18 : Int32))) (fun h => by rw [Bd.returns] at h; cases h) (by decide) (by decide) ?_ (fun fs hr => retOut X0 hx Bd.returns rfl (Or.inl ⟨rfl, Or.inl rfl, _, rfl⟩) (hb hby d7_297) hr)
      show Q_decLen Z v0 h0 n0 _ s₁.heap _
      rw [e0]
      exact ⟨congrArg (fun z => some (Value.int z)) (Eq.symm ((if_pos hc3_1).trans ((if_neg hc18_2).trans ((if_neg hc32_3).trans ((if_neg hc46_4).trans ((if_neg hc60_5).trans ((if_neg hc74_6).trans ((if_neg hc88_7).trans ((if_neg hc103_8).trans ((if_neg hc118_9).trans ((if_neg hc133_10).trans ((if_neg hc148_11).trans ((if_neg hc163_12).trans ((if_neg hc178_13).trans ((if_neg hc193_14).trans ((if_neg hc208_15).trans ((if_neg hc223_16).trans ((if_neg hc238_17).trans ((if_pos hc253_18).trans rfl))))))))))))))))))), N0, rfl⟩
    refine G_ifYes X0 hx (pc' := 263) (hb hby d7_253) ((if0 _ _).trans (flt (fun q => hc253_18 ((lw_gt _ _).1 q))).2.2.2) (by decide) (by decide) ?_
    refine G_lloadN X0 hx (pc' := 264) rfl (hb hby d7_263) rfl ?_
    refine G_ldc2 X0 hx (pc' := 267) rfl hown (mvT hZ (own_w hw 151 rfl)) (hb hby d7_264) ?_
    refine G_lcmp X0 hx (pc' := 268) rfl (hb hby d7_267)  ?_
    by_cases hc268_19 : (-1000000000000000000 : Int64) < v0
    · refine G_ifNo X0 hx (pc' := 271) rfl (hb hby d7_268) ((if0 _ _).trans (tlt ((lw_gt _ _).2 hc268_19)).2.2.2) ?_
      refine G_bipush X0 hx (pc' := 273) rfl (hb hby d7_271) (z := (18 : Int32)) rfl ?_
      refine G_istore X0 hx (pc' := 275) rfl (hb hby d7_273) (L' := #[.val (.long v0), .second, .val (.long v0), .second, .val (.int (18 : Int32))]) rfl ?_
      refine G_goto X0 hx (pc' := 282) (hb hby d7_275)  (by decide) (by decide) ?_
      refine G_lloadN X0 hx (pc' := 283) rfl (hb hby d7_282) rfl ?_
      refine G_lconst X0 hx (pc' := 284) rfl (hb hby d7_283) (z := (0 : Int64)) rfl ?_
      refine G_lcmp X0 hx (pc' := 285) rfl (hb hby d7_284)  ?_
      refine G_ifNo X0 hx (pc' := 288) rfl (hb hby d7_285) ((if0 _ _).trans (tlt ((lw_lt _ _).2 hc3_1)).2.1) ?_
      refine G_iload X0 hx (pc' := 290) rfl (hb hby d7_288) rfl ?_
      refine G_iconst X0 hx (pc' := 291) rfl (hb hby d7_290) (z := (1 : Int32)) rfl ?_
      refine G_iadd X0 hx (pc' := 292) rfl (hb hby d7_291)  ?_
      rw [show ((18 : Int32) + (1 : Int32)) = (19 : Int32) from by decide]
      refine G_goto X0 hx (pc' := 297) (hb hby d7_292)  (by decide) (by decide) ?_
      refine Go.fin X0 hlk (v := some (.int (19 : Int32))) (fun h => by rw [Bd.returns] at h; cases h) (by decide) (by decide) ?_ (fun fs hr => retOut X0 hx Bd.returns rfl (Or.inl ⟨rfl, Or.inl rfl, _, rfl⟩) (hb hby d7_297) hr)
      show Q_decLen Z v0 h0 n0 _ s₁.heap _
      rw [e0]
      exact ⟨congrArg (fun z => some (Value.int z)) (Eq.symm ((if_pos hc3_1).trans ((if_neg hc18_2).trans ((if_neg hc32_3).trans ((if_neg hc46_4).trans ((if_neg hc60_5).trans ((if_neg hc74_6).trans ((if_neg hc88_7).trans ((if_neg hc103_8).trans ((if_neg hc118_9).trans ((if_neg hc133_10).trans ((if_neg hc148_11).trans ((if_neg hc163_12).trans ((if_neg hc178_13).trans ((if_neg hc193_14).trans ((if_neg hc208_15).trans ((if_neg hc223_16).trans ((if_neg hc238_17).trans ((if_neg hc253_18).trans ((if_pos hc268_19).trans rfl)))))))))))))))))))), N0, rfl⟩
    refine G_ifYes X0 hx (pc' := 278) (hb hby d7_268) ((if0 _ _).trans (flt (fun q => hc268_19 ((lw_gt _ _).1 q))).2.2.2) (by decide) (by decide) ?_
    refine G_bipush X0 hx (pc' := 280) rfl (hb hby d7_278) (z := (19 : Int32)) rfl ?_
    refine G_istore X0 hx (pc' := 282) rfl (hb hby d7_280) (L' := #[.val (.long v0), .second, .val (.long v0), .second, .val (.int (19 : Int32))]) rfl ?_
    refine G_lloadN X0 hx (pc' := 283) rfl (hb hby d7_282) rfl ?_
    refine G_lconst X0 hx (pc' := 284) rfl (hb hby d7_283) (z := (0 : Int64)) rfl ?_
    refine G_lcmp X0 hx (pc' := 285) rfl (hb hby d7_284)  ?_
    refine G_ifNo X0 hx (pc' := 288) rfl (hb hby d7_285) ((if0 _ _).trans (tlt ((lw_lt _ _).2 hc3_1)).2.1) ?_
    refine G_iload X0 hx (pc' := 290) rfl (hb hby d7_288) rfl ?_
    refine G_iconst X0 hx (pc' := 291) rfl (hb hby d7_290) (z := (1 : Int32)) rfl ?_
    refine G_iadd X0 hx (pc' := 292) rfl (hb hby d7_291)  ?_
    rw [show ((19 : Int32) + (1 : Int32)) = (20 : Int32) from by decide]
    refine G_goto X0 hx (pc' := 297) (hb hby d7_292)  (by decide) (by decide) ?_
    refine Go.fin X0 hlk (v := some (.int (20 : Int32))) (fun h => by rw [Bd.returns] at h; cases h) (by decide) (by decide) ?_ (fun fs hr => retOut X0 hx Bd.returns rfl (Or.inl ⟨rfl, Or.inl rfl, _, rfl⟩) (hb hby d7_297) hr)
    show Q_decLen Z v0 h0 n0 _ s₁.heap _
    rw [e0]
    exact ⟨congrArg (fun z => some (Value.int z)) (Eq.symm ((if_pos hc3_1).trans ((if_neg hc18_2).trans ((if_neg hc32_3).trans ((if_neg hc46_4).trans ((if_neg hc60_5).trans ((if_neg hc74_6).trans ((if_neg hc88_7).trans ((if_neg hc103_8).trans ((if_neg hc118_9).trans ((if_neg hc133_10).trans ((if_neg hc148_11).trans ((if_neg hc163_12).trans ((if_neg hc178_13).trans ((if_neg hc193_14).trans ((if_neg hc208_15).trans ((if_neg hc223_16).trans ((if_neg hc238_17).trans ((if_neg hc253_18).trans ((if_neg hc268_19).trans rfl)))))))))))))))))))), N0, rfl⟩
  refine G_ifYes X0 hx (pc' := 10) (hb hby d7_3) ((if0 _ _).trans (flt (fun q => hc3_1 ((lw_lt _ _).1 q))).2.1) (by decide) (by decide) ?_
  refine G_lloadN X0 hx (pc' := 11) rfl (hb hby d7_10) rfl ?_
  refine G_lneg X0 hx (pc' := 12) rfl (hb hby d7_11)  ?_
  refine G_lstoreN X0 hx (pc' := 13) rfl (hb hby d7_12) (L' := #[.val (.long v0), .second, .val (.long (-v0)), .second, .unset]) rfl ?_
  refine G_lloadN X0 hx (pc' := 14) rfl (hb hby d7_13) rfl ?_
  refine G_ldc2 X0 hx (pc' := 17) rfl hown (mvT hZ (own_w hw 49 rfl)) (hb hby d7_14) ?_
  refine G_lcmp X0 hx (pc' := 18) rfl (hb hby d7_17)  ?_
  by_cases hc18_20 : (-10 : Int64) < (-v0)
  · refine G_ifNo X0 hx (pc' := 21) rfl (hb hby d7_18) ((if0 _ _).trans (tlt ((lw_gt _ _).2 hc18_20)).2.2.2) ?_
    refine G_iconst X0 hx (pc' := 22) rfl (hb hby d7_21) (z := (1 : Int32)) rfl ?_
    refine G_istore X0 hx (pc' := 24) rfl (hb hby d7_22) (L' := #[.val (.long v0), .second, .val (.long (-v0)), .second, .val (.int (1 : Int32))]) rfl ?_
    refine G_goto X0 hx (pc' := 282) (hb hby d7_24)  (by decide) (by decide) ?_
    refine G_lloadN X0 hx (pc' := 283) rfl (hb hby d7_282) rfl ?_
    refine G_lconst X0 hx (pc' := 284) rfl (hb hby d7_283) (z := (0 : Int64)) rfl ?_
    refine G_lcmp X0 hx (pc' := 285) rfl (hb hby d7_284)  ?_
    refine G_ifYes X0 hx (pc' := 295) (hb hby d7_285) ((if0 _ _).trans (flt (fun q => hc3_1 ((lw_lt _ _).1 q))).2.1) (by decide) (by decide) ?_
    refine G_iload X0 hx (pc' := 297) rfl (hb hby d7_295) rfl ?_
    refine Go.fin X0 hlk (v := some (.int (1 : Int32))) (fun h => by rw [Bd.returns] at h; cases h) (by decide) (by decide) ?_ (fun fs hr => retOut X0 hx Bd.returns rfl (Or.inl ⟨rfl, Or.inl rfl, _, rfl⟩) (hb hby d7_297) hr)
    show Q_decLen Z v0 h0 n0 _ s₁.heap _
    rw [e0]
    exact ⟨congrArg (fun z => some (Value.int z)) (Eq.symm ((if_neg hc3_1).trans ((if_pos hc18_20).trans rfl))), N0, rfl⟩
  refine G_ifYes X0 hx (pc' := 27) (hb hby d7_18) ((if0 _ _).trans (flt (fun q => hc18_20 ((lw_gt _ _).1 q))).2.2.2) (by decide) (by decide) ?_
  refine G_lloadN X0 hx (pc' := 28) rfl (hb hby d7_27) rfl ?_
  refine G_ldc2 X0 hx (pc' := 31) rfl hown (mvT hZ (own_w hw 135 rfl)) (hb hby d7_28) ?_
  refine G_lcmp X0 hx (pc' := 32) rfl (hb hby d7_31)  ?_
  by_cases hc32_21 : (-100 : Int64) < (-v0)
  · refine G_ifNo X0 hx (pc' := 35) rfl (hb hby d7_32) ((if0 _ _).trans (tlt ((lw_gt _ _).2 hc32_21)).2.2.2) ?_
    refine G_iconst X0 hx (pc' := 36) rfl (hb hby d7_35) (z := (2 : Int32)) rfl ?_
    refine G_istore X0 hx (pc' := 38) rfl (hb hby d7_36) (L' := #[.val (.long v0), .second, .val (.long (-v0)), .second, .val (.int (2 : Int32))]) rfl ?_
    refine G_goto X0 hx (pc' := 282) (hb hby d7_38)  (by decide) (by decide) ?_
    refine G_lloadN X0 hx (pc' := 283) rfl (hb hby d7_282) rfl ?_
    refine G_lconst X0 hx (pc' := 284) rfl (hb hby d7_283) (z := (0 : Int64)) rfl ?_
    refine G_lcmp X0 hx (pc' := 285) rfl (hb hby d7_284)  ?_
    refine G_ifYes X0 hx (pc' := 295) (hb hby d7_285) ((if0 _ _).trans (flt (fun q => hc3_1 ((lw_lt _ _).1 q))).2.1) (by decide) (by decide) ?_
    refine G_iload X0 hx (pc' := 297) rfl (hb hby d7_295) rfl ?_
    refine Go.fin X0 hlk (v := some (.int (2 : Int32))) (fun h => by rw [Bd.returns] at h; cases h) (by decide) (by decide) ?_ (fun fs hr => retOut X0 hx Bd.returns rfl (Or.inl ⟨rfl, Or.inl rfl, _, rfl⟩) (hb hby d7_297) hr)
    show Q_decLen Z v0 h0 n0 _ s₁.heap _
    rw [e0]
    exact ⟨congrArg (fun z => some (Value.int z)) (Eq.symm ((if_neg hc3_1).trans ((if_neg hc18_20).trans ((if_pos hc32_21).trans rfl)))), N0, rfl⟩
  refine G_ifYes X0 hx (pc' := 41) (hb hby d7_32) ((if0 _ _).trans (flt (fun q => hc32_21 ((lw_gt _ _).1 q))).2.2.2) (by decide) (by decide) ?_
  refine G_lloadN X0 hx (pc' := 42) rfl (hb hby d7_41) rfl ?_
  refine G_ldc2 X0 hx (pc' := 45) rfl hown (mvT hZ (own_w hw 136 rfl)) (hb hby d7_42) ?_
  refine G_lcmp X0 hx (pc' := 46) rfl (hb hby d7_45)  ?_
  by_cases hc46_22 : (-1000 : Int64) < (-v0)
  · refine G_ifNo X0 hx (pc' := 49) rfl (hb hby d7_46) ((if0 _ _).trans (tlt ((lw_gt _ _).2 hc46_22)).2.2.2) ?_
    refine G_iconst X0 hx (pc' := 50) rfl (hb hby d7_49) (z := (3 : Int32)) rfl ?_
    refine G_istore X0 hx (pc' := 52) rfl (hb hby d7_50) (L' := #[.val (.long v0), .second, .val (.long (-v0)), .second, .val (.int (3 : Int32))]) rfl ?_
    refine G_goto X0 hx (pc' := 282) (hb hby d7_52)  (by decide) (by decide) ?_
    refine G_lloadN X0 hx (pc' := 283) rfl (hb hby d7_282) rfl ?_
    refine G_lconst X0 hx (pc' := 284) rfl (hb hby d7_283) (z := (0 : Int64)) rfl ?_
    refine G_lcmp X0 hx (pc' := 285) rfl (hb hby d7_284)  ?_
    refine G_ifYes X0 hx (pc' := 295) (hb hby d7_285) ((if0 _ _).trans (flt (fun q => hc3_1 ((lw_lt _ _).1 q))).2.1) (by decide) (by decide) ?_
    refine G_iload X0 hx (pc' := 297) rfl (hb hby d7_295) rfl ?_
    refine Go.fin X0 hlk (v := some (.int (3 : Int32))) (fun h => by rw [Bd.returns] at h; cases h) (by decide) (by decide) ?_ (fun fs hr => retOut X0 hx Bd.returns rfl (Or.inl ⟨rfl, Or.inl rfl, _, rfl⟩) (hb hby d7_297) hr)
    show Q_decLen Z v0 h0 n0 _ s₁.heap _
    rw [e0]
    exact ⟨congrArg (fun z => some (Value.int z)) (Eq.symm ((if_neg hc3_1).trans ((if_neg hc18_20).trans ((if_neg hc32_21).trans ((if_pos hc46_22).trans rfl))))), N0, rfl⟩
  refine G_ifYes X0 hx (pc' := 55) (hb hby d7_46) ((if0 _ _).trans (flt (fun q => hc46_22 ((lw_gt _ _).1 q))).2.2.2) (by decide) (by decide) ?_
  refine G_lloadN X0 hx (pc' := 56) rfl (hb hby d7_55) rfl ?_
  refine G_ldc2 X0 hx (pc' := 59) rfl hown (mvT hZ (own_w hw 137 rfl)) (hb hby d7_56) ?_
  refine G_lcmp X0 hx (pc' := 60) rfl (hb hby d7_59)  ?_
  by_cases hc60_23 : (-10000 : Int64) < (-v0)
  · refine G_ifNo X0 hx (pc' := 63) rfl (hb hby d7_60) ((if0 _ _).trans (tlt ((lw_gt _ _).2 hc60_23)).2.2.2) ?_
    refine G_iconst X0 hx (pc' := 64) rfl (hb hby d7_63) (z := (4 : Int32)) rfl ?_
    refine G_istore X0 hx (pc' := 66) rfl (hb hby d7_64) (L' := #[.val (.long v0), .second, .val (.long (-v0)), .second, .val (.int (4 : Int32))]) rfl ?_
    refine G_goto X0 hx (pc' := 282) (hb hby d7_66)  (by decide) (by decide) ?_
    refine G_lloadN X0 hx (pc' := 283) rfl (hb hby d7_282) rfl ?_
    refine G_lconst X0 hx (pc' := 284) rfl (hb hby d7_283) (z := (0 : Int64)) rfl ?_
    refine G_lcmp X0 hx (pc' := 285) rfl (hb hby d7_284)  ?_
    refine G_ifYes X0 hx (pc' := 295) (hb hby d7_285) ((if0 _ _).trans (flt (fun q => hc3_1 ((lw_lt _ _).1 q))).2.1) (by decide) (by decide) ?_
    refine G_iload X0 hx (pc' := 297) rfl (hb hby d7_295) rfl ?_
    refine Go.fin X0 hlk (v := some (.int (4 : Int32))) (fun h => by rw [Bd.returns] at h; cases h) (by decide) (by decide) ?_ (fun fs hr => retOut X0 hx Bd.returns rfl (Or.inl ⟨rfl, Or.inl rfl, _, rfl⟩) (hb hby d7_297) hr)
    show Q_decLen Z v0 h0 n0 _ s₁.heap _
    rw [e0]
    exact ⟨congrArg (fun z => some (Value.int z)) (Eq.symm ((if_neg hc3_1).trans ((if_neg hc18_20).trans ((if_neg hc32_21).trans ((if_neg hc46_22).trans ((if_pos hc60_23).trans rfl)))))), N0, rfl⟩
  refine G_ifYes X0 hx (pc' := 69) (hb hby d7_60) ((if0 _ _).trans (flt (fun q => hc60_23 ((lw_gt _ _).1 q))).2.2.2) (by decide) (by decide) ?_
  refine G_lloadN X0 hx (pc' := 70) rfl (hb hby d7_69) rfl ?_
  refine G_ldc2 X0 hx (pc' := 73) rfl hown (mvT hZ (own_w hw 138 rfl)) (hb hby d7_70) ?_
  refine G_lcmp X0 hx (pc' := 74) rfl (hb hby d7_73)  ?_
  by_cases hc74_24 : (-100000 : Int64) < (-v0)
  · refine G_ifNo X0 hx (pc' := 77) rfl (hb hby d7_74) ((if0 _ _).trans (tlt ((lw_gt _ _).2 hc74_24)).2.2.2) ?_
    refine G_iconst X0 hx (pc' := 78) rfl (hb hby d7_77) (z := (5 : Int32)) rfl ?_
    refine G_istore X0 hx (pc' := 80) rfl (hb hby d7_78) (L' := #[.val (.long v0), .second, .val (.long (-v0)), .second, .val (.int (5 : Int32))]) rfl ?_
    refine G_goto X0 hx (pc' := 282) (hb hby d7_80)  (by decide) (by decide) ?_
    refine G_lloadN X0 hx (pc' := 283) rfl (hb hby d7_282) rfl ?_
    refine G_lconst X0 hx (pc' := 284) rfl (hb hby d7_283) (z := (0 : Int64)) rfl ?_
    refine G_lcmp X0 hx (pc' := 285) rfl (hb hby d7_284)  ?_
    refine G_ifYes X0 hx (pc' := 295) (hb hby d7_285) ((if0 _ _).trans (flt (fun q => hc3_1 ((lw_lt _ _).1 q))).2.1) (by decide) (by decide) ?_
    refine G_iload X0 hx (pc' := 297) rfl (hb hby d7_295) rfl ?_
    refine Go.fin X0 hlk (v := some (.int (5 : Int32))) (fun h => by rw [Bd.returns] at h; cases h) (by decide) (by decide) ?_ (fun fs hr => retOut X0 hx Bd.returns rfl (Or.inl ⟨rfl, Or.inl rfl, _, rfl⟩) (hb hby d7_297) hr)
    show Q_decLen Z v0 h0 n0 _ s₁.heap _
    rw [e0]
    exact ⟨congrArg (fun z => some (Value.int z)) (Eq.symm ((if_neg hc3_1).trans ((if_neg hc18_20).trans ((if_neg hc32_21).trans ((if_neg hc46_22).trans ((if_neg hc60_23).trans ((if_pos hc74_24).trans rfl))))))), N0, rfl⟩
  refine G_ifYes X0 hx (pc' := 83) (hb hby d7_74) ((if0 _ _).trans (flt (fun q => hc74_24 ((lw_gt _ _).1 q))).2.2.2) (by decide) (by decide) ?_
  refine G_lloadN X0 hx (pc' := 84) rfl (hb hby d7_83) rfl ?_
  refine G_ldc2 X0 hx (pc' := 87) rfl hown (mvT hZ (own_w hw 139 rfl)) (hb hby d7_84) ?_
  refine G_lcmp X0 hx (pc' := 88) rfl (hb hby d7_87)  ?_
  by_cases hc88_25 : (-1000000 : Int64) < (-v0)
  · refine G_ifNo X0 hx (pc' := 91) rfl (hb hby d7_88) ((if0 _ _).trans (tlt ((lw_gt _ _).2 hc88_25)).2.2.2) ?_
    refine G_bipush X0 hx (pc' := 93) rfl (hb hby d7_91) (z := (6 : Int32)) rfl ?_
    refine G_istore X0 hx (pc' := 95) rfl (hb hby d7_93) (L' := #[.val (.long v0), .second, .val (.long (-v0)), .second, .val (.int (6 : Int32))]) rfl ?_
    refine G_goto X0 hx (pc' := 282) (hb hby d7_95)  (by decide) (by decide) ?_
    refine G_lloadN X0 hx (pc' := 283) rfl (hb hby d7_282) rfl ?_
    refine G_lconst X0 hx (pc' := 284) rfl (hb hby d7_283) (z := (0 : Int64)) rfl ?_
    refine G_lcmp X0 hx (pc' := 285) rfl (hb hby d7_284)  ?_
    refine G_ifYes X0 hx (pc' := 295) (hb hby d7_285) ((if0 _ _).trans (flt (fun q => hc3_1 ((lw_lt _ _).1 q))).2.1) (by decide) (by decide) ?_
    refine G_iload X0 hx (pc' := 297) rfl (hb hby d7_295) rfl ?_
    refine Go.fin X0 hlk (v := some (.int (6 : Int32))) (fun h => by rw [Bd.returns] at h; cases h) (by decide) (by decide) ?_ (fun fs hr => retOut X0 hx Bd.returns rfl (Or.inl ⟨rfl, Or.inl rfl, _, rfl⟩) (hb hby d7_297) hr)
    show Q_decLen Z v0 h0 n0 _ s₁.heap _
    rw [e0]
    exact ⟨congrArg (fun z => some (Value.int z)) (Eq.symm ((if_neg hc3_1).trans ((if_neg hc18_20).trans ((if_neg hc32_21).trans ((if_neg hc46_22).trans ((if_neg hc60_23).trans ((if_neg hc74_24).trans ((if_pos hc88_25).trans rfl)))))))), N0, rfl⟩
  refine G_ifYes X0 hx (pc' := 98) (hb hby d7_88) ((if0 _ _).trans (flt (fun q => hc88_25 ((lw_gt _ _).1 q))).2.2.2) (by decide) (by decide) ?_
  refine G_lloadN X0 hx (pc' := 99) rfl (hb hby d7_98) rfl ?_
  refine G_ldc2 X0 hx (pc' := 102) rfl hown (mvT hZ (own_w hw 140 rfl)) (hb hby d7_99) ?_
  refine G_lcmp X0 hx (pc' := 103) rfl (hb hby d7_102)  ?_
  by_cases hc103_26 : (-10000000 : Int64) < (-v0)
  · refine G_ifNo X0 hx (pc' := 106) rfl (hb hby d7_103) ((if0 _ _).trans (tlt ((lw_gt _ _).2 hc103_26)).2.2.2) ?_
    refine G_bipush X0 hx (pc' := 108) rfl (hb hby d7_106) (z := (7 : Int32)) rfl ?_
    refine G_istore X0 hx (pc' := 110) rfl (hb hby d7_108) (L' := #[.val (.long v0), .second, .val (.long (-v0)), .second, .val (.int (7 : Int32))]) rfl ?_
    refine G_goto X0 hx (pc' := 282) (hb hby d7_110)  (by decide) (by decide) ?_
    refine G_lloadN X0 hx (pc' := 283) rfl (hb hby d7_282) rfl ?_
    refine G_lconst X0 hx (pc' := 284) rfl (hb hby d7_283) (z := (0 : Int64)) rfl ?_
    refine G_lcmp X0 hx (pc' := 285) rfl (hb hby d7_284)  ?_
    refine G_ifYes X0 hx (pc' := 295) (hb hby d7_285) ((if0 _ _).trans (flt (fun q => hc3_1 ((lw_lt _ _).1 q))).2.1) (by decide) (by decide) ?_
    refine G_iload X0 hx (pc' := 297) rfl (hb hby d7_295) rfl ?_
    refine Go.fin X0 hlk (v := some (.int (7 : Int32))) (fun h => by rw [Bd.returns] at h; cases h) (by decide) (by decide) ?_ (fun fs hr => retOut X0 hx Bd.returns rfl (Or.inl ⟨rfl, Or.inl rfl, _, rfl⟩) (hb hby d7_297) hr)
    show Q_decLen Z v0 h0 n0 _ s₁.heap _
    rw [e0]
    exact ⟨congrArg (fun z => some (Value.int z)) (Eq.symm ((if_neg hc3_1).trans ((if_neg hc18_20).trans ((if_neg hc32_21).trans ((if_neg hc46_22).trans ((if_neg hc60_23).trans ((if_neg hc74_24).trans ((if_neg hc88_25).trans ((if_pos hc103_26).trans rfl))))))))), N0, rfl⟩
  refine G_ifYes X0 hx (pc' := 113) (hb hby d7_103) ((if0 _ _).trans (flt (fun q => hc103_26 ((lw_gt _ _).1 q))).2.2.2) (by decide) (by decide) ?_
  refine G_lloadN X0 hx (pc' := 114) rfl (hb hby d7_113) rfl ?_
  refine G_ldc2 X0 hx (pc' := 117) rfl hown (mvT hZ (own_w hw 141 rfl)) (hb hby d7_114) ?_
  refine G_lcmp X0 hx (pc' := 118) rfl (hb hby d7_117)  ?_
  by_cases hc118_27 : (-100000000 : Int64) < (-v0)
  · refine G_ifNo X0 hx (pc' := 121) rfl (hb hby d7_118) ((if0 _ _).trans (tlt ((lw_gt _ _).2 hc118_27)).2.2.2) ?_
    refine G_bipush X0 hx (pc' := 123) rfl (hb hby d7_121) (z := (8 : Int32)) rfl ?_
    refine G_istore X0 hx (pc' := 125) rfl (hb hby d7_123) (L' := #[.val (.long v0), .second, .val (.long (-v0)), .second, .val (.int (8 : Int32))]) rfl ?_
    refine G_goto X0 hx (pc' := 282) (hb hby d7_125)  (by decide) (by decide) ?_
    refine G_lloadN X0 hx (pc' := 283) rfl (hb hby d7_282) rfl ?_
    refine G_lconst X0 hx (pc' := 284) rfl (hb hby d7_283) (z := (0 : Int64)) rfl ?_
    refine G_lcmp X0 hx (pc' := 285) rfl (hb hby d7_284)  ?_
    refine G_ifYes X0 hx (pc' := 295) (hb hby d7_285) ((if0 _ _).trans (flt (fun q => hc3_1 ((lw_lt _ _).1 q))).2.1) (by decide) (by decide) ?_
    refine G_iload X0 hx (pc' := 297) rfl (hb hby d7_295) rfl ?_
    refine Go.fin X0 hlk (v := some (.int (8 : Int32))) (fun h => by rw [Bd.returns] at h; cases h) (by decide) (by decide) ?_ (fun fs hr => retOut X0 hx Bd.returns rfl (Or.inl ⟨rfl, Or.inl rfl, _, rfl⟩) (hb hby d7_297) hr)
    show Q_decLen Z v0 h0 n0 _ s₁.heap _
    rw [e0]
    exact ⟨congrArg (fun z => some (Value.int z)) (Eq.symm ((if_neg hc3_1).trans ((if_neg hc18_20).trans ((if_neg hc32_21).trans ((if_neg hc46_22).trans ((if_neg hc60_23).trans ((if_neg hc74_24).trans ((if_neg hc88_25).trans ((if_neg hc103_26).trans ((if_pos hc118_27).trans rfl)))))))))), N0, rfl⟩
  refine G_ifYes X0 hx (pc' := 128) (hb hby d7_118) ((if0 _ _).trans (flt (fun q => hc118_27 ((lw_gt _ _).1 q))).2.2.2) (by decide) (by decide) ?_
  refine G_lloadN X0 hx (pc' := 129) rfl (hb hby d7_128) rfl ?_
  refine G_ldc2 X0 hx (pc' := 132) rfl hown (mvT hZ (own_w hw 142 rfl)) (hb hby d7_129) ?_
  refine G_lcmp X0 hx (pc' := 133) rfl (hb hby d7_132)  ?_
  by_cases hc133_28 : (-1000000000 : Int64) < (-v0)
  · refine G_ifNo X0 hx (pc' := 136) rfl (hb hby d7_133) ((if0 _ _).trans (tlt ((lw_gt _ _).2 hc133_28)).2.2.2) ?_
    refine G_bipush X0 hx (pc' := 138) rfl (hb hby d7_136) (z := (9 : Int32)) rfl ?_
    refine G_istore X0 hx (pc' := 140) rfl (hb hby d7_138) (L' := #[.val (.long v0), .second, .val (.long (-v0)), .second, .val (.int (9 : Int32))]) rfl ?_
    refine G_goto X0 hx (pc' := 282) (hb hby d7_140)  (by decide) (by decide) ?_
    refine G_lloadN X0 hx (pc' := 283) rfl (hb hby d7_282) rfl ?_
    refine G_lconst X0 hx (pc' := 284) rfl (hb hby d7_283) (z := (0 : Int64)) rfl ?_
    refine G_lcmp X0 hx (pc' := 285) rfl (hb hby d7_284)  ?_
    refine G_ifYes X0 hx (pc' := 295) (hb hby d7_285) ((if0 _ _).trans (flt (fun q => hc3_1 ((lw_lt _ _).1 q))).2.1) (by decide) (by decide) ?_
    refine G_iload X0 hx (pc' := 297) rfl (hb hby d7_295) rfl ?_
    refine Go.fin X0 hlk (v := some (.int (9 : Int32))) (fun h => by rw [Bd.returns] at h; cases h) (by decide) (by decide) ?_ (fun fs hr => retOut X0 hx Bd.returns rfl (Or.inl ⟨rfl, Or.inl rfl, _, rfl⟩) (hb hby d7_297) hr)
    show Q_decLen Z v0 h0 n0 _ s₁.heap _
    rw [e0]
    exact ⟨congrArg (fun z => some (Value.int z)) (Eq.symm ((if_neg hc3_1).trans ((if_neg hc18_20).trans ((if_neg hc32_21).trans ((if_neg hc46_22).trans ((if_neg hc60_23).trans ((if_neg hc74_24).trans ((if_neg hc88_25).trans ((if_neg hc103_26).trans ((if_neg hc118_27).trans ((if_pos hc133_28).trans rfl))))))))))), N0, rfl⟩
  refine G_ifYes X0 hx (pc' := 143) (hb hby d7_133) ((if0 _ _).trans (flt (fun q => hc133_28 ((lw_gt _ _).1 q))).2.2.2) (by decide) (by decide) ?_
  refine G_lloadN X0 hx (pc' := 144) rfl (hb hby d7_143) rfl ?_
  refine G_ldc2 X0 hx (pc' := 147) rfl hown (mvT hZ (own_w hw 143 rfl)) (hb hby d7_144) ?_
  refine G_lcmp X0 hx (pc' := 148) rfl (hb hby d7_147)  ?_
  by_cases hc148_29 : (-10000000000 : Int64) < (-v0)
  · refine G_ifNo X0 hx (pc' := 151) rfl (hb hby d7_148) ((if0 _ _).trans (tlt ((lw_gt _ _).2 hc148_29)).2.2.2) ?_
    refine G_bipush X0 hx (pc' := 153) rfl (hb hby d7_151) (z := (10 : Int32)) rfl ?_
    refine G_istore X0 hx (pc' := 155) rfl (hb hby d7_153) (L' := #[.val (.long v0), .second, .val (.long (-v0)), .second, .val (.int (10 : Int32))]) rfl ?_
    refine G_goto X0 hx (pc' := 282) (hb hby d7_155)  (by decide) (by decide) ?_
    refine G_lloadN X0 hx (pc' := 283) rfl (hb hby d7_282) rfl ?_
    refine G_lconst X0 hx (pc' := 284) rfl (hb hby d7_283) (z := (0 : Int64)) rfl ?_
    refine G_lcmp X0 hx (pc' := 285) rfl (hb hby d7_284)  ?_
    refine G_ifYes X0 hx (pc' := 295) (hb hby d7_285) ((if0 _ _).trans (flt (fun q => hc3_1 ((lw_lt _ _).1 q))).2.1) (by decide) (by decide) ?_
    refine G_iload X0 hx (pc' := 297) rfl (hb hby d7_295) rfl ?_
    refine Go.fin X0 hlk (v := some (.int (10 : Int32))) (fun h => by rw [Bd.returns] at h; cases h) (by decide) (by decide) ?_ (fun fs hr => retOut X0 hx Bd.returns rfl (Or.inl ⟨rfl, Or.inl rfl, _, rfl⟩) (hb hby d7_297) hr)
    show Q_decLen Z v0 h0 n0 _ s₁.heap _
    rw [e0]
    exact ⟨congrArg (fun z => some (Value.int z)) (Eq.symm ((if_neg hc3_1).trans ((if_neg hc18_20).trans ((if_neg hc32_21).trans ((if_neg hc46_22).trans ((if_neg hc60_23).trans ((if_neg hc74_24).trans ((if_neg hc88_25).trans ((if_neg hc103_26).trans ((if_neg hc118_27).trans ((if_neg hc133_28).trans ((if_pos hc148_29).trans rfl)))))))))))), N0, rfl⟩
  refine G_ifYes X0 hx (pc' := 158) (hb hby d7_148) ((if0 _ _).trans (flt (fun q => hc148_29 ((lw_gt _ _).1 q))).2.2.2) (by decide) (by decide) ?_
  refine G_lloadN X0 hx (pc' := 159) rfl (hb hby d7_158) rfl ?_
  refine G_ldc2 X0 hx (pc' := 162) rfl hown (mvT hZ (own_w hw 144 rfl)) (hb hby d7_159) ?_
  refine G_lcmp X0 hx (pc' := 163) rfl (hb hby d7_162)  ?_
  by_cases hc163_30 : (-100000000000 : Int64) < (-v0)
  · refine G_ifNo X0 hx (pc' := 166) rfl (hb hby d7_163) ((if0 _ _).trans (tlt ((lw_gt _ _).2 hc163_30)).2.2.2) ?_
    refine G_bipush X0 hx (pc' := 168) rfl (hb hby d7_166) (z := (11 : Int32)) rfl ?_
    refine G_istore X0 hx (pc' := 170) rfl (hb hby d7_168) (L' := #[.val (.long v0), .second, .val (.long (-v0)), .second, .val (.int (11 : Int32))]) rfl ?_
    refine G_goto X0 hx (pc' := 282) (hb hby d7_170)  (by decide) (by decide) ?_
    refine G_lloadN X0 hx (pc' := 283) rfl (hb hby d7_282) rfl ?_
    refine G_lconst X0 hx (pc' := 284) rfl (hb hby d7_283) (z := (0 : Int64)) rfl ?_
    refine G_lcmp X0 hx (pc' := 285) rfl (hb hby d7_284)  ?_
    refine G_ifYes X0 hx (pc' := 295) (hb hby d7_285) ((if0 _ _).trans (flt (fun q => hc3_1 ((lw_lt _ _).1 q))).2.1) (by decide) (by decide) ?_
    refine G_iload X0 hx (pc' := 297) rfl (hb hby d7_295) rfl ?_
    refine Go.fin X0 hlk (v := some (.int (11 : Int32))) (fun h => by rw [Bd.returns] at h; cases h) (by decide) (by decide) ?_ (fun fs hr => retOut X0 hx Bd.returns rfl (Or.inl ⟨rfl, Or.inl rfl, _, rfl⟩) (hb hby d7_297) hr)
    show Q_decLen Z v0 h0 n0 _ s₁.heap _
    rw [e0]
    exact ⟨congrArg (fun z => some (Value.int z)) (Eq.symm ((if_neg hc3_1).trans ((if_neg hc18_20).trans ((if_neg hc32_21).trans ((if_neg hc46_22).trans ((if_neg hc60_23).trans ((if_neg hc74_24).trans ((if_neg hc88_25).trans ((if_neg hc103_26).trans ((if_neg hc118_27).trans ((if_neg hc133_28).trans ((if_neg hc148_29).trans ((if_pos hc163_30).trans rfl))))))))))))), N0, rfl⟩
  refine G_ifYes X0 hx (pc' := 173) (hb hby d7_163) ((if0 _ _).trans (flt (fun q => hc163_30 ((lw_gt _ _).1 q))).2.2.2) (by decide) (by decide) ?_
  refine G_lloadN X0 hx (pc' := 174) rfl (hb hby d7_173) rfl ?_
  refine G_ldc2 X0 hx (pc' := 177) rfl hown (mvT hZ (own_w hw 145 rfl)) (hb hby d7_174) ?_
  refine G_lcmp X0 hx (pc' := 178) rfl (hb hby d7_177)  ?_
  by_cases hc178_31 : (-1000000000000 : Int64) < (-v0)
  · refine G_ifNo X0 hx (pc' := 181) rfl (hb hby d7_178) ((if0 _ _).trans (tlt ((lw_gt _ _).2 hc178_31)).2.2.2) ?_
    refine G_bipush X0 hx (pc' := 183) rfl (hb hby d7_181) (z := (12 : Int32)) rfl ?_
    refine G_istore X0 hx (pc' := 185) rfl (hb hby d7_183) (L' := #[.val (.long v0), .second, .val (.long (-v0)), .second, .val (.int (12 : Int32))]) rfl ?_
    refine G_goto X0 hx (pc' := 282) (hb hby d7_185)  (by decide) (by decide) ?_
    refine G_lloadN X0 hx (pc' := 283) rfl (hb hby d7_282) rfl ?_
    refine G_lconst X0 hx (pc' := 284) rfl (hb hby d7_283) (z := (0 : Int64)) rfl ?_
    refine G_lcmp X0 hx (pc' := 285) rfl (hb hby d7_284)  ?_
    refine G_ifYes X0 hx (pc' := 295) (hb hby d7_285) ((if0 _ _).trans (flt (fun q => hc3_1 ((lw_lt _ _).1 q))).2.1) (by decide) (by decide) ?_
    refine G_iload X0 hx (pc' := 297) rfl (hb hby d7_295) rfl ?_
    refine Go.fin X0 hlk (v := some (.int (12 : Int32))) (fun h => by rw [Bd.returns] at h; cases h) (by decide) (by decide) ?_ (fun fs hr => retOut X0 hx Bd.returns rfl (Or.inl ⟨rfl, Or.inl rfl, _, rfl⟩) (hb hby d7_297) hr)
    show Q_decLen Z v0 h0 n0 _ s₁.heap _
    rw [e0]
    exact ⟨congrArg (fun z => some (Value.int z)) (Eq.symm ((if_neg hc3_1).trans ((if_neg hc18_20).trans ((if_neg hc32_21).trans ((if_neg hc46_22).trans ((if_neg hc60_23).trans ((if_neg hc74_24).trans ((if_neg hc88_25).trans ((if_neg hc103_26).trans ((if_neg hc118_27).trans ((if_neg hc133_28).trans ((if_neg hc148_29).trans ((if_neg hc163_30).trans ((if_pos hc178_31).trans rfl)))))))))))))), N0, rfl⟩
  refine G_ifYes X0 hx (pc' := 188) (hb hby d7_178) ((if0 _ _).trans (flt (fun q => hc178_31 ((lw_gt _ _).1 q))).2.2.2) (by decide) (by decide) ?_
  refine G_lloadN X0 hx (pc' := 189) rfl (hb hby d7_188) rfl ?_
  refine G_ldc2 X0 hx (pc' := 192) rfl hown (mvT hZ (own_w hw 146 rfl)) (hb hby d7_189) ?_
  refine G_lcmp X0 hx (pc' := 193) rfl (hb hby d7_192)  ?_
  by_cases hc193_32 : (-10000000000000 : Int64) < (-v0)
  · refine G_ifNo X0 hx (pc' := 196) rfl (hb hby d7_193) ((if0 _ _).trans (tlt ((lw_gt _ _).2 hc193_32)).2.2.2) ?_
    refine G_bipush X0 hx (pc' := 198) rfl (hb hby d7_196) (z := (13 : Int32)) rfl ?_
    refine G_istore X0 hx (pc' := 200) rfl (hb hby d7_198) (L' := #[.val (.long v0), .second, .val (.long (-v0)), .second, .val (.int (13 : Int32))]) rfl ?_
    refine G_goto X0 hx (pc' := 282) (hb hby d7_200)  (by decide) (by decide) ?_
    refine G_lloadN X0 hx (pc' := 283) rfl (hb hby d7_282) rfl ?_
    refine G_lconst X0 hx (pc' := 284) rfl (hb hby d7_283) (z := (0 : Int64)) rfl ?_
    refine G_lcmp X0 hx (pc' := 285) rfl (hb hby d7_284)  ?_
    refine G_ifYes X0 hx (pc' := 295) (hb hby d7_285) ((if0 _ _).trans (flt (fun q => hc3_1 ((lw_lt _ _).1 q))).2.1) (by decide) (by decide) ?_
    refine G_iload X0 hx (pc' := 297) rfl (hb hby d7_295) rfl ?_
    refine Go.fin X0 hlk (v := some (.int (13 : Int32))) (fun h => by rw [Bd.returns] at h; cases h) (by decide) (by decide) ?_ (fun fs hr => retOut X0 hx Bd.returns rfl (Or.inl ⟨rfl, Or.inl rfl, _, rfl⟩) (hb hby d7_297) hr)
    show Q_decLen Z v0 h0 n0 _ s₁.heap _
    rw [e0]
    exact ⟨congrArg (fun z => some (Value.int z)) (Eq.symm ((if_neg hc3_1).trans ((if_neg hc18_20).trans ((if_neg hc32_21).trans ((if_neg hc46_22).trans ((if_neg hc60_23).trans ((if_neg hc74_24).trans ((if_neg hc88_25).trans ((if_neg hc103_26).trans ((if_neg hc118_27).trans ((if_neg hc133_28).trans ((if_neg hc148_29).trans ((if_neg hc163_30).trans ((if_neg hc178_31).trans ((if_pos hc193_32).trans rfl))))))))))))))), N0, rfl⟩
  refine G_ifYes X0 hx (pc' := 203) (hb hby d7_193) ((if0 _ _).trans (flt (fun q => hc193_32 ((lw_gt _ _).1 q))).2.2.2) (by decide) (by decide) ?_
  refine G_lloadN X0 hx (pc' := 204) rfl (hb hby d7_203) rfl ?_
  refine G_ldc2 X0 hx (pc' := 207) rfl hown (mvT hZ (own_w hw 147 rfl)) (hb hby d7_204) ?_
  refine G_lcmp X0 hx (pc' := 208) rfl (hb hby d7_207)  ?_
  by_cases hc208_33 : (-100000000000000 : Int64) < (-v0)
  · refine G_ifNo X0 hx (pc' := 211) rfl (hb hby d7_208) ((if0 _ _).trans (tlt ((lw_gt _ _).2 hc208_33)).2.2.2) ?_
    refine G_bipush X0 hx (pc' := 213) rfl (hb hby d7_211) (z := (14 : Int32)) rfl ?_
    refine G_istore X0 hx (pc' := 215) rfl (hb hby d7_213) (L' := #[.val (.long v0), .second, .val (.long (-v0)), .second, .val (.int (14 : Int32))]) rfl ?_
    refine G_goto X0 hx (pc' := 282) (hb hby d7_215)  (by decide) (by decide) ?_
    refine G_lloadN X0 hx (pc' := 283) rfl (hb hby d7_282) rfl ?_
    refine G_lconst X0 hx (pc' := 284) rfl (hb hby d7_283) (z := (0 : Int64)) rfl ?_
    refine G_lcmp X0 hx (pc' := 285) rfl (hb hby d7_284)  ?_
    refine G_ifYes X0 hx (pc' := 295) (hb hby d7_285) ((if0 _ _).trans (flt (fun q => hc3_1 ((lw_lt _ _).1 q))).2.1) (by decide) (by decide) ?_
    refine G_iload X0 hx (pc' := 297) rfl (hb hby d7_295) rfl ?_
    refine Go.fin X0 hlk (v := some (.int (14 : Int32))) (fun h => by rw [Bd.returns] at h; cases h) (by decide) (by decide) ?_ (fun fs hr => retOut X0 hx Bd.returns rfl (Or.inl ⟨rfl, Or.inl rfl, _, rfl⟩) (hb hby d7_297) hr)
    show Q_decLen Z v0 h0 n0 _ s₁.heap _
    rw [e0]
    exact ⟨congrArg (fun z => some (Value.int z)) (Eq.symm ((if_neg hc3_1).trans ((if_neg hc18_20).trans ((if_neg hc32_21).trans ((if_neg hc46_22).trans ((if_neg hc60_23).trans ((if_neg hc74_24).trans ((if_neg hc88_25).trans ((if_neg hc103_26).trans ((if_neg hc118_27).trans ((if_neg hc133_28).trans ((if_neg hc148_29).trans ((if_neg hc163_30).trans ((if_neg hc178_31).trans ((if_neg hc193_32).trans ((if_pos hc208_33).trans rfl)))))))))))))))), N0, rfl⟩
  refine G_ifYes X0 hx (pc' := 218) (hb hby d7_208) ((if0 _ _).trans (flt (fun q => hc208_33 ((lw_gt _ _).1 q))).2.2.2) (by decide) (by decide) ?_
  refine G_lloadN X0 hx (pc' := 219) rfl (hb hby d7_218) rfl ?_
  refine G_ldc2 X0 hx (pc' := 222) rfl hown (mvT hZ (own_w hw 148 rfl)) (hb hby d7_219) ?_
  refine G_lcmp X0 hx (pc' := 223) rfl (hb hby d7_222)  ?_
  by_cases hc223_34 : (-1000000000000000 : Int64) < (-v0)
  · refine G_ifNo X0 hx (pc' := 226) rfl (hb hby d7_223) ((if0 _ _).trans (tlt ((lw_gt _ _).2 hc223_34)).2.2.2) ?_
    refine G_bipush X0 hx (pc' := 228) rfl (hb hby d7_226) (z := (15 : Int32)) rfl ?_
    refine G_istore X0 hx (pc' := 230) rfl (hb hby d7_228) (L' := #[.val (.long v0), .second, .val (.long (-v0)), .second, .val (.int (15 : Int32))]) rfl ?_
    refine G_goto X0 hx (pc' := 282) (hb hby d7_230)  (by decide) (by decide) ?_
    refine G_lloadN X0 hx (pc' := 283) rfl (hb hby d7_282) rfl ?_
    refine G_lconst X0 hx (pc' := 284) rfl (hb hby d7_283) (z := (0 : Int64)) rfl ?_
    refine G_lcmp X0 hx (pc' := 285) rfl (hb hby d7_284)  ?_
    refine G_ifYes X0 hx (pc' := 295) (hb hby d7_285) ((if0 _ _).trans (flt (fun q => hc3_1 ((lw_lt _ _).1 q))).2.1) (by decide) (by decide) ?_
    refine G_iload X0 hx (pc' := 297) rfl (hb hby d7_295) rfl ?_
    refine Go.fin X0 hlk (v := some (.int (15 : Int32))) (fun h => by rw [Bd.returns] at h; cases h) (by decide) (by decide) ?_ (fun fs hr => retOut X0 hx Bd.returns rfl (Or.inl ⟨rfl, Or.inl rfl, _, rfl⟩) (hb hby d7_297) hr)
    show Q_decLen Z v0 h0 n0 _ s₁.heap _
    rw [e0]
    exact ⟨congrArg (fun z => some (Value.int z)) (Eq.symm ((if_neg hc3_1).trans ((if_neg hc18_20).trans ((if_neg hc32_21).trans ((if_neg hc46_22).trans ((if_neg hc60_23).trans ((if_neg hc74_24).trans ((if_neg hc88_25).trans ((if_neg hc103_26).trans ((if_neg hc118_27).trans ((if_neg hc133_28).trans ((if_neg hc148_29).trans ((if_neg hc163_30).trans ((if_neg hc178_31).trans ((if_neg hc193_32).trans ((if_neg hc208_33).trans ((if_pos hc223_34).trans rfl))))))))))))))))), N0, rfl⟩
  refine G_ifYes X0 hx (pc' := 233) (hb hby d7_223) ((if0 _ _).trans (flt (fun q => hc223_34 ((lw_gt _ _).1 q))).2.2.2) (by decide) (by decide) ?_
  refine G_lloadN X0 hx (pc' := 234) rfl (hb hby d7_233) rfl ?_
  refine G_ldc2 X0 hx (pc' := 237) rfl hown (mvT hZ (own_w hw 149 rfl)) (hb hby d7_234) ?_
  refine G_lcmp X0 hx (pc' := 238) rfl (hb hby d7_237)  ?_
  by_cases hc238_35 : (-10000000000000000 : Int64) < (-v0)
  · refine G_ifNo X0 hx (pc' := 241) rfl (hb hby d7_238) ((if0 _ _).trans (tlt ((lw_gt _ _).2 hc238_35)).2.2.2) ?_
    refine G_bipush X0 hx (pc' := 243) rfl (hb hby d7_241) (z := (16 : Int32)) rfl ?_
    refine G_istore X0 hx (pc' := 245) rfl (hb hby d7_243) (L' := #[.val (.long v0), .second, .val (.long (-v0)), .second, .val (.int (16 : Int32))]) rfl ?_
    refine G_goto X0 hx (pc' := 282) (hb hby d7_245)  (by decide) (by decide) ?_
    refine G_lloadN X0 hx (pc' := 283) rfl (hb hby d7_282) rfl ?_
    refine G_lconst X0 hx (pc' := 284) rfl (hb hby d7_283) (z := (0 : Int64)) rfl ?_
    refine G_lcmp X0 hx (pc' := 285) rfl (hb hby d7_284)  ?_
    refine G_ifYes X0 hx (pc' := 295) (hb hby d7_285) ((if0 _ _).trans (flt (fun q => hc3_1 ((lw_lt _ _).1 q))).2.1) (by decide) (by decide) ?_
    refine G_iload X0 hx (pc' := 297) rfl (hb hby d7_295) rfl ?_
    refine Go.fin X0 hlk (v := some (.int (16 : Int32))) (fun h => by rw [Bd.returns] at h; cases h) (by decide) (by decide) ?_ (fun fs hr => retOut X0 hx Bd.returns rfl (Or.inl ⟨rfl, Or.inl rfl, _, rfl⟩) (hb hby d7_297) hr)
    show Q_decLen Z v0 h0 n0 _ s₁.heap _
    rw [e0]
    exact ⟨congrArg (fun z => some (Value.int z)) (Eq.symm ((if_neg hc3_1).trans ((if_neg hc18_20).trans ((if_neg hc32_21).trans ((if_neg hc46_22).trans ((if_neg hc60_23).trans ((if_neg hc74_24).trans ((if_neg hc88_25).trans ((if_neg hc103_26).trans ((if_neg hc118_27).trans ((if_neg hc133_28).trans ((if_neg hc148_29).trans ((if_neg hc163_30).trans ((if_neg hc178_31).trans ((if_neg hc193_32).trans ((if_neg hc208_33).trans ((if_neg hc223_34).trans ((if_pos hc238_35).trans rfl)))))))))))))))))), N0, rfl⟩
  refine G_ifYes X0 hx (pc' := 248) (hb hby d7_238) ((if0 _ _).trans (flt (fun q => hc238_35 ((lw_gt _ _).1 q))).2.2.2) (by decide) (by decide) ?_
  refine G_lloadN X0 hx (pc' := 249) rfl (hb hby d7_248) rfl ?_
  refine G_ldc2 X0 hx (pc' := 252) rfl hown (mvT hZ (own_w hw 150 rfl)) (hb hby d7_249) ?_
  refine G_lcmp X0 hx (pc' := 253) rfl (hb hby d7_252)  ?_
  by_cases hc253_36 : (-100000000000000000 : Int64) < (-v0)
  · refine G_ifNo X0 hx (pc' := 256) rfl (hb hby d7_253) ((if0 _ _).trans (tlt ((lw_gt _ _).2 hc253_36)).2.2.2) ?_
    refine G_bipush X0 hx (pc' := 258) rfl (hb hby d7_256) (z := (17 : Int32)) rfl ?_
    refine G_istore X0 hx (pc' := 260) rfl (hb hby d7_258) (L' := #[.val (.long v0), .second, .val (.long (-v0)), .second, .val (.int (17 : Int32))]) rfl ?_
    refine G_goto X0 hx (pc' := 282) (hb hby d7_260)  (by decide) (by decide) ?_
    refine G_lloadN X0 hx (pc' := 283) rfl (hb hby d7_282) rfl ?_
    refine G_lconst X0 hx (pc' := 284) rfl (hb hby d7_283) (z := (0 : Int64)) rfl ?_
    refine G_lcmp X0 hx (pc' := 285) rfl (hb hby d7_284)  ?_
    refine G_ifYes X0 hx (pc' := 295) (hb hby d7_285) ((if0 _ _).trans (flt (fun q => hc3_1 ((lw_lt _ _).1 q))).2.1) (by decide) (by decide) ?_
    refine G_iload X0 hx (pc' := 297) rfl (hb hby d7_295) rfl ?_
    refine Go.fin X0 hlk (v := some (.int (17 : Int32))) (fun h => by rw [Bd.returns] at h; cases h) (by decide) (by decide) ?_ (fun fs hr => retOut X0 hx Bd.returns rfl (Or.inl ⟨rfl, Or.inl rfl, _, rfl⟩) (hb hby d7_297) hr)
    show Q_decLen Z v0 h0 n0 _ s₁.heap _
    rw [e0]
    exact ⟨congrArg (fun z => some (Value.int z)) (Eq.symm ((if_neg hc3_1).trans ((if_neg hc18_20).trans ((if_neg hc32_21).trans ((if_neg hc46_22).trans ((if_neg hc60_23).trans ((if_neg hc74_24).trans ((if_neg hc88_25).trans ((if_neg hc103_26).trans ((if_neg hc118_27).trans ((if_neg hc133_28).trans ((if_neg hc148_29).trans ((if_neg hc163_30).trans ((if_neg hc178_31).trans ((if_neg hc193_32).trans ((if_neg hc208_33).trans ((if_neg hc223_34).trans ((if_neg hc238_35).trans ((if_pos hc253_36).trans rfl))))))))))))))))))), N0, rfl⟩
  refine G_ifYes X0 hx (pc' := 263) (hb hby d7_253) ((if0 _ _).trans (flt (fun q => hc253_36 ((lw_gt _ _).1 q))).2.2.2) (by decide) (by decide) ?_
  refine G_lloadN X0 hx (pc' := 264) rfl (hb hby d7_263) rfl ?_
  refine G_ldc2 X0 hx (pc' := 267) rfl hown (mvT hZ (own_w hw 151 rfl)) (hb hby d7_264) ?_
  refine G_lcmp X0 hx (pc' := 268) rfl (hb hby d7_267)  ?_
  by_cases hc268_37 : (-1000000000000000000 : Int64) < (-v0)
  · refine G_ifNo X0 hx (pc' := 271) rfl (hb hby d7_268) ((if0 _ _).trans (tlt ((lw_gt _ _).2 hc268_37)).2.2.2) ?_
    refine G_bipush X0 hx (pc' := 273) rfl (hb hby d7_271) (z := (18 : Int32)) rfl ?_
    refine G_istore X0 hx (pc' := 275) rfl (hb hby d7_273) (L' := #[.val (.long v0), .second, .val (.long (-v0)), .second, .val (.int (18 : Int32))]) rfl ?_
    refine G_goto X0 hx (pc' := 282) (hb hby d7_275)  (by decide) (by decide) ?_
    refine G_lloadN X0 hx (pc' := 283) rfl (hb hby d7_282) rfl ?_
    refine G_lconst X0 hx (pc' := 284) rfl (hb hby d7_283) (z := (0 : Int64)) rfl ?_
    refine G_lcmp X0 hx (pc' := 285) rfl (hb hby d7_284)  ?_
    refine G_ifYes X0 hx (pc' := 295) (hb hby d7_285) ((if0 _ _).trans (flt (fun q => hc3_1 ((lw_lt _ _).1 q))).2.1) (by decide) (by decide) ?_
    refine G_iload X0 hx (pc' := 297) rfl (hb hby d7_295) rfl ?_
    refine Go.fin X0 hlk (v := some (.int (18 : Int32))) (fun h => by rw [Bd.returns] at h; cases h) (by decide) (by decide) ?_ (fun fs hr => retOut X0 hx Bd.returns rfl (Or.inl ⟨rfl, Or.inl rfl, _, rfl⟩) (hb hby d7_297) hr)
    show Q_decLen Z v0 h0 n0 _ s₁.heap _
    rw [e0]
    exact ⟨congrArg (fun z => some (Value.int z)) (Eq.symm ((if_neg hc3_1).trans ((if_neg hc18_20).trans ((if_neg hc32_21).trans ((if_neg hc46_22).trans ((if_neg hc60_23).trans ((if_neg hc74_24).trans ((if_neg hc88_25).trans ((if_neg hc103_26).trans ((if_neg hc118_27).trans ((if_neg hc133_28).trans ((if_neg hc148_29).trans ((if_neg hc163_30).trans ((if_neg hc178_31).trans ((if_neg hc193_32).trans ((if_neg hc208_33).trans ((if_neg hc223_34).trans ((if_neg hc238_35).trans ((if_neg hc253_36).trans ((if_pos hc268_37).trans rfl)))))))))))))))))))), N0, rfl⟩
  refine G_ifYes X0 hx (pc' := 278) (hb hby d7_268) ((if0 _ _).trans (flt (fun q => hc268_37 ((lw_gt _ _).1 q))).2.2.2) (by decide) (by decide) ?_
  refine G_bipush X0 hx (pc' := 280) rfl (hb hby d7_278) (z := (19 : Int32)) rfl ?_
  refine G_istore X0 hx (pc' := 282) rfl (hb hby d7_280) (L' := #[.val (.long v0), .second, .val (.long (-v0)), .second, .val (.int (19 : Int32))]) rfl ?_
  refine G_lloadN X0 hx (pc' := 283) rfl (hb hby d7_282) rfl ?_
  refine G_lconst X0 hx (pc' := 284) rfl (hb hby d7_283) (z := (0 : Int64)) rfl ?_
  refine G_lcmp X0 hx (pc' := 285) rfl (hb hby d7_284)  ?_
  refine G_ifYes X0 hx (pc' := 295) (hb hby d7_285) ((if0 _ _).trans (flt (fun q => hc3_1 ((lw_lt _ _).1 q))).2.1) (by decide) (by decide) ?_
  refine G_iload X0 hx (pc' := 297) rfl (hb hby d7_295) rfl ?_
  refine Go.fin X0 hlk (v := some (.int (19 : Int32))) (fun h => by rw [Bd.returns] at h; cases h) (by decide) (by decide) ?_ (fun fs hr => retOut X0 hx Bd.returns rfl (Or.inl ⟨rfl, Or.inl rfl, _, rfl⟩) (hb hby d7_297) hr)
  show Q_decLen Z v0 h0 n0 _ s₁.heap _
  rw [e0]
  exact ⟨congrArg (fun z => some (Value.int z)) (Eq.symm ((if_neg hc3_1).trans ((if_neg hc18_20).trans ((if_neg hc32_21).trans ((if_neg hc46_22).trans ((if_neg hc60_23).trans ((if_neg hc74_24).trans ((if_neg hc88_25).trans ((if_neg hc103_26).trans ((if_neg hc118_27).trans ((if_neg hc133_28).trans ((if_neg hc148_29).trans ((if_neg hc163_30).trans ((if_neg hc178_31).trans ((if_neg hc193_32).trans ((if_neg hc208_33).trans ((if_neg hc223_34).trans ((if_neg hc238_35).trans ((if_neg hc253_36).trans ((if_neg hc268_37).trans rfl)))))))))))))))))))), N0, rfl⟩
theorem d8_0 : decode prog_28_method_10_code 0 = .ok (.lload_n 0, 1) := by decide +kernel
theorem d8_1 : decode prog_28_method_10_code 1 = .ok (.lconst 0, 1) := by decide +kernel
theorem d8_2 : decode prog_28_method_10_code 2 = .ok (.lcmp, 1) := by decide +kernel
theorem d8_3 : decode prog_28_method_10_code 3 = .ok (.ifCond .ge 7, 3) := by decide +kernel
theorem d8_6 : decode prog_28_method_10_code 6 = .ok (.lload_n 0, 1) := by decide +kernel
theorem d8_7 : decode prog_28_method_10_code 7 = .ok (.goto 5, 3) := by decide +kernel
theorem d8_12 : decode prog_28_method_10_code 12 = .ok (.lstore_n 2, 1) := by decide +kernel
theorem d8_13 : decode prog_28_method_10_code 13 = .ok (.iconst 1, 1) := by decide +kernel
theorem d8_14 : decode prog_28_method_10_code 14 = .ok (.istore 4, 2) := by decide +kernel
theorem d8_16 : decode prog_28_method_10_code 16 = .ok (.ldc2_w 101, 3) := by decide +kernel
theorem d8_19 : decode prog_28_method_10_code 19 = .ok (.lstore 5, 2) := by decide +kernel
theorem d8_21 : decode prog_28_method_10_code 21 = .ok (.iload 4, 2) := by decide +kernel
theorem d8_23 : decode prog_28_method_10_code 23 = .ok (.bipush 18, 2) := by decide +kernel
theorem d8_25 : decode prog_28_method_10_code 25 = .ok (.if_icmp .gt 24, 3) := by decide +kernel
theorem d8_28 : decode prog_28_method_10_code 28 = .ok (.lload_n 2, 1) := by decide +kernel
theorem d8_29 : decode prog_28_method_10_code 29 = .ok (.lload 5, 2) := by decide +kernel
theorem d8_31 : decode prog_28_method_10_code 31 = .ok (.lcmp, 1) := by decide +kernel
theorem d8_32 : decode prog_28_method_10_code 32 = .ok (.ifCond .gt 17, 3) := by decide +kernel
theorem d8_49 : decode prog_28_method_10_code 49 = .ok (.lload_n 0, 1) := by decide +kernel
theorem d8_50 : decode prog_28_method_10_code 50 = .ok (.lconst 0, 1) := by decide +kernel
theorem d8_51 : decode prog_28_method_10_code 51 = .ok (.lcmp, 1) := by decide +kernel
theorem d8_52 : decode prog_28_method_10_code 52 = .ok (.ifCond .ge 10, 3) := by decide +kernel
theorem d8_55 : decode prog_28_method_10_code 55 = .ok (.iload 4, 2) := by decide +kernel
theorem d8_57 : decode prog_28_method_10_code 57 = .ok (.iconst 1, 1) := by decide +kernel
theorem d8_58 : decode prog_28_method_10_code 58 = .ok (.iadd, 1) := by decide +kernel
theorem d8_59 : decode prog_28_method_10_code 59 = .ok (.goto 5, 3) := by decide +kernel
theorem d8_64 : decode prog_28_method_10_code 64 = .ok (.ireturn, 1) := by decide +kernel
theorem d8_35 : decode prog_28_method_10_code 35 = .ok (.iinc 4 1, 3) := by decide +kernel
theorem d8_38 : decode prog_28_method_10_code 38 = .ok (.lload 5, 2) := by decide +kernel
theorem d8_40 : decode prog_28_method_10_code 40 = .ok (.ldc2_w 103, 3) := by decide +kernel
theorem d8_43 : decode prog_28_method_10_code 43 = .ok (.lmul, 1) := by decide +kernel
theorem d8_44 : decode prog_28_method_10_code 44 = .ok (.lstore 5, 2) := by decide +kernel
theorem d8_46 : decode prog_28_method_10_code 46 = .ok (.goto (-25), 3) := by decide +kernel
theorem d8_10 : decode prog_28_method_10_code 10 = .ok (.lload_n 0, 1) := by decide +kernel
theorem d8_11 : decode prog_28_method_10_code 11 = .ok (.lneg, 1) := by decide +kernel
theorem d8_62 : decode prog_28_method_10_code 62 = .ok (.iload 4, 2) := by decide +kernel
def f_textLen (v0 : Int64) : Int32 := (if v0 < (0 : Int64) then (if (-10 : Int64) < v0 then (2 : Int32) else (if (-100 : Int64) < v0 then (3 : Int32) else (if (-1000 : Int64) < v0 then (4 : Int32) else (if (-10000 : Int64) < v0 then (5 : Int32) else (if (-100000 : Int64) < v0 then (6 : Int32) else (if (-1000000 : Int64) < v0 then (7 : Int32) else (if (-10000000 : Int64) < v0 then (8 : Int32) else (if (-100000000 : Int64) < v0 then (9 : Int32) else (if (-1000000000 : Int64) < v0 then (10 : Int32) else (if (-10000000000 : Int64) < v0 then (11 : Int32) else (if (-100000000000 : Int64) < v0 then (12 : Int32) else (if (-1000000000000 : Int64) < v0 then (13 : Int32) else (if (-10000000000000 : Int64) < v0 then (14 : Int32) else (if (-100000000000000 : Int64) < v0 then (15 : Int32) else (if (-1000000000000000 : Int64) < v0 then (16 : Int32) else (if (-10000000000000000 : Int64) < v0 then (17 : Int32) else (if (-100000000000000000 : Int64) < v0 then (18 : Int32) else (if (-1000000000000000000 : Int64) < v0 then (19 : Int32) else (20 : Int32))))))))))))))))))) else (if (-10 : Int64) < (-v0) then (1 : Int32) else (if (-100 : Int64) < (-v0) then (2 : Int32) else (if (-1000 : Int64) < (-v0) then (3 : Int32) else (if (-10000 : Int64) < (-v0) then (4 : Int32) else (if (-100000 : Int64) < (-v0) then (5 : Int32) else (if (-1000000 : Int64) < (-v0) then (6 : Int32) else (if (-10000000 : Int64) < (-v0) then (7 : Int32) else (if (-100000000 : Int64) < (-v0) then (8 : Int32) else (if (-1000000000 : Int64) < (-v0) then (9 : Int32) else (if (-10000000000 : Int64) < (-v0) then (10 : Int32) else (if (-100000000000 : Int64) < (-v0) then (11 : Int32) else (if (-1000000000000 : Int64) < (-v0) then (12 : Int32) else (if (-10000000000000 : Int64) < (-v0) then (13 : Int32) else (if (-100000000000000 : Int64) < (-v0) then (14 : Int32) else (if (-1000000000000000 : Int64) < (-v0) then (15 : Int32) else (if (-10000000000000000 : Int64) < (-v0) then (16 : Int32) else (if (-100000000000000000 : Int64) < (-v0) then (17 : Int32) else (if (-1000000000000000000 : Int64) < (-v0) then (18 : Int32) else (19 : Int32))))))))))))))))))))
theorem ef_textLen (m : MethodId) (v0 : Int64) : entryFrame m #[(.long v0)] 7 = mkF m 0 #[.val (.long v0), .second, .unset, .unset, .unset, .unset, .unset] [] := by first | (simp [entryFrame, mkF, argsToLocals, Value.category]; done) | rfl
def Q_textLen (Z : State) (v0 : Int64) (h0 : Heap) (n0 : Nat) (v : Option Value) (h : Heap) (L : List Loc) : Prop := v = some (.int (f_textLen v0)) ∧ Fr n0 L ∧ h = h0
set_option maxRecDepth 65536 in
set_option maxHeartbeats 40000000 in
theorem rm_textLen (l : Launch) (Z : State) (a0 : Array Value) (hw : ∀ d ∈ tables_1, d.before a0 Z = true) (ws : List Jvm.Cond) (v0 : Int64) (h0 : Heap) (n0 : Nat) (Z0 : n0 ≤ h0.size) :
    MetFree l (⟨"com/example/colonwise/colonwise/model/BencodeInteger", "textLength", "(J)I"⟩ : MethodName) (head1 (Jvm.Cond.code (⟨"com/example/colonwise/colonwise/model/BencodeInteger", "textLength", "(J)I"⟩ : MethodName) prog_28_method_10_code 7 (some .int) :: ws) ({ frames := 0, cells := 0, slots := 0, locals := 0 } : Room)) (fun a U => a = #[(.long v0)] ∧ Z.Warmed39 U.vm ∧ U.heap = h0) (fun _ _ _ _ _ => True) (fun _ U o U' => ∃ v L, o = .returned v ∧ Q_textLen Z v0 h0 n0 v U'.heap L ∧ FrameEnd U o U' L ({ frames := 0, cells := 0, slots := 0, locals := 0 } : Room).cells ({ frames := 0, cells := 0, slots := 0, locals := 0 } : Room).slots) := by
  refine MetFree.of_bodySF (plainFor_of_name (by first | (simp [plainName, overriddenIn]; done) | decide +kernel)) hisR ?_
  intro p e s m args below meth c s₁ Bd hml0 hP hK
  obtain ⟨rfl, hZ, hh⟩ := hP
  have hx := Bd.exec
  have hby := Bd.bytes
  have hml : c.maxLocals = 7 := hml0
  have hown : s.vm.findClass "com/example/colonwise/colonwise/model/BencodeInteger" = some m.cls := findClass_of_methodNamed Bd.named
  have hnm := (name_of_methodNamed Bd.named Bd.method).1
  have hlk : meth.locks = false := Bd.notSynchronized
  have X0 : Stand p l e ({ frames := 0, cells := 0, slots := 0, locals := 0 } : Room) s m #[(.long v0)] below meth c s₁ [] 0 0 := Stand.of_body Bd
  have e0 : s₁.heap = h0 := by rw [← hh, Bd.state]; rfl
  have N0 := Fr.nil n0
  refine Go.enter (Q := Q_textLen Z v0 h0 n0) (C := ({ frames := 0, cells := 0, slots := 0, locals := 0 } : Room).cells) (N := ({ frames := 0, cells := 0, slots := 0, locals := 0 } : Room).slots) (ef_textLen m v0) ?_
  show Go p e below s _ _ _ s₁ (mkF m 0 #[.val (.long v0), .second, .unset, .unset, .unset, .unset, .unset] [])
  refine G_lloadN X0 hx (pc' := 1) rfl (hb hby d8_0) rfl ?_
  refine G_lconst X0 hx (pc' := 2) rfl (hb hby d8_1) (z := (0 : Int64)) rfl ?_
  refine G_lcmp X0 hx (pc' := 3) rfl (hb hby d8_2)  ?_
  by_cases hc3_1 : v0 < (0 : Int64)
  · refine G_ifNo X0 hx (pc' := 6) rfl (hb hby d8_3) ((if0 _ _).trans (tlt ((lw_lt _ _).2 hc3_1)).2.1) ?_
    refine G_lloadN X0 hx (pc' := 7) rfl (hb hby d8_6) rfl ?_
    refine G_goto X0 hx (pc' := 12) (hb hby d8_7)  (by decide) (by decide) ?_
    refine G_lstoreN X0 hx (pc' := 13) rfl (hb hby d8_12) (L' := #[.val (.long v0), .second, .val (.long v0), .second, .unset, .unset, .unset]) rfl ?_
    refine G_iconst X0 hx (pc' := 14) rfl (hb hby d8_13) (z := (1 : Int32)) rfl ?_
    refine G_istore X0 hx (pc' := 16) rfl (hb hby d8_14) (L' := #[.val (.long v0), .second, .val (.long v0), .second, .val (.int (1 : Int32)), .unset, .unset]) rfl ?_
    refine G_ldc2 X0 hx (pc' := 19) rfl hown (mvT hZ (own_w hw 58 rfl)) (hb hby d8_16) ?_
    refine G_lstore X0 hx (pc' := 21) rfl (hb hby d8_19) (L' := #[.val (.long v0), .second, .val (.long v0), .second, .val (.int (1 : Int32)), .val (.long (-10 : Int64)), .second]) rfl ?_
    refine G_iload X0 hx (pc' := 23) rfl (hb hby d8_21) rfl ?_
    refine G_bipush X0 hx (pc' := 25) rfl (hb hby d8_23) (z := (18 : Int32)) rfl ?_
    refine G_icmpNo X0 hx (pc' := 28) rfl (hb hby d8_25) (flt (by decide : ¬ ((18 : Int32) < (1 : Int32)))).2.2.1 ?_
    refine G_lloadN X0 hx (pc' := 29) rfl (hb hby d8_28) rfl ?_
    refine G_lload X0 hx (pc' := 31) rfl (hb hby d8_29) rfl ?_
    refine G_lcmp X0 hx (pc' := 32) rfl (hb hby d8_31)  ?_
    by_cases hc32_2 : (-10 : Int64) < v0
    · refine G_ifYes X0 hx (pc' := 49) (hb hby d8_32) ((if0 _ _).trans (tlt ((lw_gt _ _).2 hc32_2)).2.2.1) (by decide) (by decide) ?_
      refine G_lloadN X0 hx (pc' := 50) rfl (hb hby d8_49) rfl ?_
      refine G_lconst X0 hx (pc' := 51) rfl (hb hby d8_50) (z := (0 : Int64)) rfl ?_
      refine G_lcmp X0 hx (pc' := 52) rfl (hb hby d8_51)  ?_
      refine G_ifNo X0 hx (pc' := 55) rfl (hb hby d8_52) ((if0 _ _).trans (tlt ((lw_lt _ _).2 hc3_1)).2.1) ?_
      refine G_iload X0 hx (pc' := 57) rfl (hb hby d8_55) rfl ?_
      refine G_iconst X0 hx (pc' := 58) rfl (hb hby d8_57) (z := (1 : Int32)) rfl ?_
      refine G_iadd X0 hx (pc' := 59) rfl (hb hby d8_58)  ?_
      rw [show ((1 : Int32) + (1 : Int32)) = (2 : Int32) from by decide]
      refine G_goto X0 hx (pc' := 64) (hb hby d8_59)  (by decide) (by decide) ?_
      refine Go.fin X0 hlk (v := some (.int (2 : Int32))) (fun h => by rw [Bd.returns] at h; cases h) (by decide) (by decide) ?_ (fun fs hr => retOut X0 hx Bd.returns rfl (Or.inl ⟨rfl, Or.inl rfl, _, rfl⟩) (hb hby d8_64) hr)
      show Q_textLen Z v0 h0 n0 _ s₁.heap _
      rw [e0]
      exact ⟨congrArg (fun z => some (Value.int z)) (Eq.symm ((if_pos hc3_1).trans ((if_pos hc32_2).trans rfl))), N0, rfl⟩
    refine G_ifNo X0 hx (pc' := 35) rfl (hb hby d8_32) ((if0 _ _).trans (flt (fun q => hc32_2 ((lw_gt _ _).1 q))).2.2.1) ?_
    refine G_iinc X0 hx (pc' := 38) rfl (hb hby d8_35) rfl (z := (2 : Int32)) rfl (L' := #[.val (.long v0), .second, .val (.long v0), .second, .val (.int (2 : Int32)), .val (.long (-10 : Int64)), .second]) rfl ?_
    refine G_lload X0 hx (pc' := 40) rfl (hb hby d8_38) rfl ?_
    refine G_ldc2 X0 hx (pc' := 43) rfl hown (mvT hZ (own_w hw 152 rfl)) (hb hby d8_40) ?_
    refine G_lmul X0 hx (pc' := 44) rfl (hb hby d8_43)  ?_
    rw [show ((-10 : Int64) * (10 : Int64)) = (-100 : Int64) from by decide]
    refine G_lstore X0 hx (pc' := 46) rfl (hb hby d8_44) (L' := #[.val (.long v0), .second, .val (.long v0), .second, .val (.int (2 : Int32)), .val (.long (-100 : Int64)), .second]) rfl ?_
    refine G_goto X0 hx (pc' := 21) (hb hby d8_46)  (by decide) (by decide) ?_
    refine G_iload X0 hx (pc' := 23) rfl (hb hby d8_21) rfl ?_
    refine G_bipush X0 hx (pc' := 25) rfl (hb hby d8_23) (z := (18 : Int32)) rfl ?_
    refine G_icmpNo X0 hx (pc' := 28) rfl (hb hby d8_25) (flt (by decide : ¬ ((18 : Int32) < (2 : Int32)))).2.2.1 ?_
    refine G_lloadN X0 hx (pc' := 29) rfl (hb hby d8_28) rfl ?_
    refine G_lload X0 hx (pc' := 31) rfl (hb hby d8_29) rfl ?_
    refine G_lcmp X0 hx (pc' := 32) rfl (hb hby d8_31)  ?_
    by_cases hc32_3 : (-100 : Int64) < v0
    · refine G_ifYes X0 hx (pc' := 49) (hb hby d8_32) ((if0 _ _).trans (tlt ((lw_gt _ _).2 hc32_3)).2.2.1) (by decide) (by decide) ?_
      refine G_lloadN X0 hx (pc' := 50) rfl (hb hby d8_49) rfl ?_
      refine G_lconst X0 hx (pc' := 51) rfl (hb hby d8_50) (z := (0 : Int64)) rfl ?_
      refine G_lcmp X0 hx (pc' := 52) rfl (hb hby d8_51)  ?_
      refine G_ifNo X0 hx (pc' := 55) rfl (hb hby d8_52) ((if0 _ _).trans (tlt ((lw_lt _ _).2 hc3_1)).2.1) ?_
      refine G_iload X0 hx (pc' := 57) rfl (hb hby d8_55) rfl ?_
      refine G_iconst X0 hx (pc' := 58) rfl (hb hby d8_57) (z := (1 : Int32)) rfl ?_
      refine G_iadd X0 hx (pc' := 59) rfl (hb hby d8_58)  ?_
      rw [show ((2 : Int32) + (1 : Int32)) = (3 : Int32) from by decide]
      refine G_goto X0 hx (pc' := 64) (hb hby d8_59)  (by decide) (by decide) ?_
      refine Go.fin X0 hlk (v := some (.int (3 : Int32))) (fun h => by rw [Bd.returns] at h; cases h) (by decide) (by decide) ?_ (fun fs hr => retOut X0 hx Bd.returns rfl (Or.inl ⟨rfl, Or.inl rfl, _, rfl⟩) (hb hby d8_64) hr)
      show Q_textLen Z v0 h0 n0 _ s₁.heap _
      rw [e0]
      exact ⟨congrArg (fun z => some (Value.int z)) (Eq.symm ((if_pos hc3_1).trans ((if_neg hc32_2).trans ((if_pos hc32_3).trans rfl)))), N0, rfl⟩
    refine G_ifNo X0 hx (pc' := 35) rfl (hb hby d8_32) ((if0 _ _).trans (flt (fun q => hc32_3 ((lw_gt _ _).1 q))).2.2.1) ?_
    refine G_iinc X0 hx (pc' := 38) rfl (hb hby d8_35) rfl (z := (3 : Int32)) rfl (L' := #[.val (.long v0), .second, .val (.long v0), .second, .val (.int (3 : Int32)), .val (.long (-100 : Int64)), .second]) rfl ?_
    refine G_lload X0 hx (pc' := 40) rfl (hb hby d8_38) rfl ?_
    refine G_ldc2 X0 hx (pc' := 43) rfl hown (mvT hZ (own_w hw 152 rfl)) (hb hby d8_40) ?_
    refine G_lmul X0 hx (pc' := 44) rfl (hb hby d8_43)  ?_
    rw [show ((-100 : Int64) * (10 : Int64)) = (-1000 : Int64) from by decide]
    refine G_lstore X0 hx (pc' := 46) rfl (hb hby d8_44) (L' := #[.val (.long v0), .second, .val (.long v0), .second, .val (.int (3 : Int32)), .val (.long (-1000 : Int64)), .second]) rfl ?_
    refine G_goto X0 hx (pc' := 21) (hb hby d8_46)  (by decide) (by decide) ?_
    refine G_iload X0 hx (pc' := 23) rfl (hb hby d8_21) rfl ?_
    refine G_bipush X0 hx (pc' := 25) rfl (hb hby d8_23) (z := (18 : Int32)) rfl ?_
    refine G_icmpNo X0 hx (pc' := 28) rfl (hb hby d8_25) (flt (by decide : ¬ ((18 : Int32) < (3 : Int32)))).2.2.1 ?_
    refine G_lloadN X0 hx (pc' := 29) rfl (hb hby d8_28) rfl ?_
    refine G_lload X0 hx (pc' := 31) rfl (hb hby d8_29) rfl ?_
    refine G_lcmp X0 hx (pc' := 32) rfl (hb hby d8_31)  ?_
    by_cases hc32_4 : (-1000 : Int64) < v0
    · refine G_ifYes X0 hx (pc' := 49) (hb hby d8_32) ((if0 _ _).trans (tlt ((lw_gt _ _).2 hc32_4)).2.2.1) (by decide) (by decide) ?_
      refine G_lloadN X0 hx (pc' := 50) rfl (hb hby d8_49) rfl ?_
      refine G_lconst X0 hx (pc' := 51) rfl (hb hby d8_50) (z := (0 : Int64)) rfl ?_
      refine G_lcmp X0 hx (pc' := 52) rfl (hb hby d8_51)  ?_
      refine G_ifNo X0 hx (pc' := 55) rfl (hb hby d8_52) ((if0 _ _).trans (tlt ((lw_lt _ _).2 hc3_1)).2.1) ?_
      refine G_iload X0 hx (pc' := 57) rfl (hb hby d8_55) rfl ?_
      refine G_iconst X0 hx (pc' := 58) rfl (hb hby d8_57) (z := (1 : Int32)) rfl ?_
      refine G_iadd X0 hx (pc' := 59) rfl (hb hby d8_58)  ?_
      rw [show ((3 : Int32) + (1 : Int32)) = (4 : Int32) from by decide]
      refine G_goto X0 hx (pc' := 64) (hb hby d8_59)  (by decide) (by decide) ?_
      refine Go.fin X0 hlk (v := some (.int (4 : Int32))) (fun h => by rw [Bd.returns] at h; cases h) (by decide) (by decide) ?_ (fun fs hr => retOut X0 hx Bd.returns rfl (Or.inl ⟨rfl, Or.inl rfl, _, rfl⟩) (hb hby d8_64) hr)
      show Q_textLen Z v0 h0 n0 _ s₁.heap _
      rw [e0]
      exact ⟨congrArg (fun z => some (Value.int z)) (Eq.symm ((if_pos hc3_1).trans ((if_neg hc32_2).trans ((if_neg hc32_3).trans ((if_pos hc32_4).trans rfl))))), N0, rfl⟩
    refine G_ifNo X0 hx (pc' := 35) rfl (hb hby d8_32) ((if0 _ _).trans (flt (fun q => hc32_4 ((lw_gt _ _).1 q))).2.2.1) ?_
    refine G_iinc X0 hx (pc' := 38) rfl (hb hby d8_35) rfl (z := (4 : Int32)) rfl (L' := #[.val (.long v0), .second, .val (.long v0), .second, .val (.int (4 : Int32)), .val (.long (-1000 : Int64)), .second]) rfl ?_
    refine G_lload X0 hx (pc' := 40) rfl (hb hby d8_38) rfl ?_
    refine G_ldc2 X0 hx (pc' := 43) rfl hown (mvT hZ (own_w hw 152 rfl)) (hb hby d8_40) ?_
    refine G_lmul X0 hx (pc' := 44) rfl (hb hby d8_43)  ?_
    rw [show ((-1000 : Int64) * (10 : Int64)) = (-10000 : Int64) from by decide]
    refine G_lstore X0 hx (pc' := 46) rfl (hb hby d8_44) (L' := #[.val (.long v0), .second, .val (.long v0), .second, .val (.int (4 : Int32)), .val (.long (-10000 : Int64)), .second]) rfl ?_
    refine G_goto X0 hx (pc' := 21) (hb hby d8_46)  (by decide) (by decide) ?_
    refine G_iload X0 hx (pc' := 23) rfl (hb hby d8_21) rfl ?_
    refine G_bipush X0 hx (pc' := 25) rfl (hb hby d8_23) (z := (18 : Int32)) rfl ?_
    refine G_icmpNo X0 hx (pc' := 28) rfl (hb hby d8_25) (flt (by decide : ¬ ((18 : Int32) < (4 : Int32)))).2.2.1 ?_
    refine G_lloadN X0 hx (pc' := 29) rfl (hb hby d8_28) rfl ?_
    refine G_lload X0 hx (pc' := 31) rfl (hb hby d8_29) rfl ?_
    refine G_lcmp X0 hx (pc' := 32) rfl (hb hby d8_31)  ?_
    by_cases hc32_5 : (-10000 : Int64) < v0
    · refine G_ifYes X0 hx (pc' := 49) (hb hby d8_32) ((if0 _ _).trans (tlt ((lw_gt _ _).2 hc32_5)).2.2.1) (by decide) (by decide) ?_
      refine G_lloadN X0 hx (pc' := 50) rfl (hb hby d8_49) rfl ?_
      refine G_lconst X0 hx (pc' := 51) rfl (hb hby d8_50) (z := (0 : Int64)) rfl ?_
      refine G_lcmp X0 hx (pc' := 52) rfl (hb hby d8_51)  ?_
      refine G_ifNo X0 hx (pc' := 55) rfl (hb hby d8_52) ((if0 _ _).trans (tlt ((lw_lt _ _).2 hc3_1)).2.1) ?_
      refine G_iload X0 hx (pc' := 57) rfl (hb hby d8_55) rfl ?_
      refine G_iconst X0 hx (pc' := 58) rfl (hb hby d8_57) (z := (1 : Int32)) rfl ?_
      refine G_iadd X0 hx (pc' := 59) rfl (hb hby d8_58)  ?_
      rw [show ((4 : Int32) + (1 : Int32)) = (5 : Int32) from by decide]
      refine G_goto X0 hx (pc' := 64) (hb hby d8_59)  (by decide) (by decide) ?_
      refine Go.fin X0 hlk (v := some (.int (5 : Int32))) (fun h => by rw [Bd.returns] at h; cases h) (by decide) (by decide) ?_ (fun fs hr => retOut X0 hx Bd.returns rfl (Or.inl ⟨rfl, Or.inl rfl, _, rfl⟩) (hb hby d8_64) hr)
      show Q_textLen Z v0 h0 n0 _ s₁.heap _
      rw [e0]
      exact ⟨congrArg (fun z => some (Value.int z)) (Eq.symm ((if_pos hc3_1).trans ((if_neg hc32_2).trans ((if_neg hc32_3).trans ((if_neg hc32_4).trans ((if_pos hc32_5).trans rfl)))))), N0, rfl⟩
    refine G_ifNo X0 hx (pc' := 35) rfl (hb hby d8_32) ((if0 _ _).trans (flt (fun q => hc32_5 ((lw_gt _ _).1 q))).2.2.1) ?_
    refine G_iinc X0 hx (pc' := 38) rfl (hb hby d8_35) rfl (z := (5 : Int32)) rfl (L' := #[.val (.long v0), .second, .val (.long v0), .second, .val (.int (5 : Int32)), .val (.long (-10000 : Int64)), .second]) rfl ?_
    refine G_lload X0 hx (pc' := 40) rfl (hb hby d8_38) rfl ?_
    refine G_ldc2 X0 hx (pc' := 43) rfl hown (mvT hZ (own_w hw 152 rfl)) (hb hby d8_40) ?_
    refine G_lmul X0 hx (pc' := 44) rfl (hb hby d8_43)  ?_
    rw [show ((-10000 : Int64) * (10 : Int64)) = (-100000 : Int64) from by decide]
    refine G_lstore X0 hx (pc' := 46) rfl (hb hby d8_44) (L' := #[.val (.long v0), .second, .val (.long v0), .second, .val (.int (5 : Int32)), .val (.long (-100000 : Int64)), .second]) rfl ?_
    refine G_goto X0 hx (pc' := 21) (hb hby d8_46)  (by decide) (by decide) ?_
    refine G_iload X0 hx (pc' := 23) rfl (hb hby d8_21) rfl ?_
    refine G_bipush X0 hx (pc' := 25) rfl (hb hby d8_23) (z := (18 : Int32)) rfl ?_
    refine G_icmpNo X0 hx (pc' := 28) rfl (hb hby d8_25) (flt (by decide : ¬ ((18 : Int32) < (5 : Int32)))).2.2.1 ?_
    refine G_lloadN X0 hx (pc' := 29) rfl (hb hby d8_28) rfl ?_
    refine G_lload X0 hx (pc' := 31) rfl (hb hby d8_29) rfl ?_
    refine G_lcmp X0 hx (pc' := 32) rfl (hb hby d8_31)  ?_
    by_cases hc32_6 : (-100000 : Int64) < v0
    · refine G_ifYes X0 hx (pc' := 49) (hb hby d8_32) ((if0 _ _).trans (tlt ((lw_gt _ _).2 hc32_6)).2.2.1) (by decide) (by decide) ?_
      refine G_lloadN X0 hx (pc' := 50) rfl (hb hby d8_49) rfl ?_
      refine G_lconst X0 hx (pc' := 51) rfl (hb hby d8_50) (z := (0 : Int64)) rfl ?_
      refine G_lcmp X0 hx (pc' := 52) rfl (hb hby d8_51)  ?_
      refine G_ifNo X0 hx (pc' := 55) rfl (hb hby d8_52) ((if0 _ _).trans (tlt ((lw_lt _ _).2 hc3_1)).2.1) ?_
      refine G_iload X0 hx (pc' := 57) rfl (hb hby d8_55) rfl ?_
      refine G_iconst X0 hx (pc' := 58) rfl (hb hby d8_57) (z := (1 : Int32)) rfl ?_
      refine G_iadd X0 hx (pc' := 59) rfl (hb hby d8_58)  ?_
      rw [show ((5 : Int32) + (1 : Int32)) = (6 : Int32) from by decide]
      refine G_goto X0 hx (pc' := 64) (hb hby d8_59)  (by decide) (by decide) ?_
      refine Go.fin X0 hlk (v := some (.int (6 : Int32))) (fun h => by rw [Bd.returns] at h; cases h) (by decide) (by decide) ?_ (fun fs hr => retOut X0 hx Bd.returns rfl (Or.inl ⟨rfl, Or.inl rfl, _, rfl⟩) (hb hby d8_64) hr)
      show Q_textLen Z v0 h0 n0 _ s₁.heap _
      rw [e0]
      exact ⟨congrArg (fun z => some (Value.int z)) (Eq.symm ((if_pos hc3_1).trans ((if_neg hc32_2).trans ((if_neg hc32_3).trans ((if_neg hc32_4).trans ((if_neg hc32_5).trans ((if_pos hc32_6).trans rfl))))))), N0, rfl⟩
    refine G_ifNo X0 hx (pc' := 35) rfl (hb hby d8_32) ((if0 _ _).trans (flt (fun q => hc32_6 ((lw_gt _ _).1 q))).2.2.1) ?_
    refine G_iinc X0 hx (pc' := 38) rfl (hb hby d8_35) rfl (z := (6 : Int32)) rfl (L' := #[.val (.long v0), .second, .val (.long v0), .second, .val (.int (6 : Int32)), .val (.long (-100000 : Int64)), .second]) rfl ?_
    refine G_lload X0 hx (pc' := 40) rfl (hb hby d8_38) rfl ?_
    refine G_ldc2 X0 hx (pc' := 43) rfl hown (mvT hZ (own_w hw 152 rfl)) (hb hby d8_40) ?_
    refine G_lmul X0 hx (pc' := 44) rfl (hb hby d8_43)  ?_
    rw [show ((-100000 : Int64) * (10 : Int64)) = (-1000000 : Int64) from by decide]
    refine G_lstore X0 hx (pc' := 46) rfl (hb hby d8_44) (L' := #[.val (.long v0), .second, .val (.long v0), .second, .val (.int (6 : Int32)), .val (.long (-1000000 : Int64)), .second]) rfl ?_
    refine G_goto X0 hx (pc' := 21) (hb hby d8_46)  (by decide) (by decide) ?_
    refine G_iload X0 hx (pc' := 23) rfl (hb hby d8_21) rfl ?_
    refine G_bipush X0 hx (pc' := 25) rfl (hb hby d8_23) (z := (18 : Int32)) rfl ?_
    refine G_icmpNo X0 hx (pc' := 28) rfl (hb hby d8_25) (flt (by decide : ¬ ((18 : Int32) < (6 : Int32)))).2.2.1 ?_
    refine G_lloadN X0 hx (pc' := 29) rfl (hb hby d8_28) rfl ?_
    refine G_lload X0 hx (pc' := 31) rfl (hb hby d8_29) rfl ?_
    refine G_lcmp X0 hx (pc' := 32) rfl (hb hby d8_31)  ?_
    by_cases hc32_7 : (-1000000 : Int64) < v0
    · refine G_ifYes X0 hx (pc' := 49) (hb hby d8_32) ((if0 _ _).trans (tlt ((lw_gt _ _).2 hc32_7)).2.2.1) (by decide) (by decide) ?_
      refine G_lloadN X0 hx (pc' := 50) rfl (hb hby d8_49) rfl ?_
      refine G_lconst X0 hx (pc' := 51) rfl (hb hby d8_50) (z := (0 : Int64)) rfl ?_
      refine G_lcmp X0 hx (pc' := 52) rfl (hb hby d8_51)  ?_
      refine G_ifNo X0 hx (pc' := 55) rfl (hb hby d8_52) ((if0 _ _).trans (tlt ((lw_lt _ _).2 hc3_1)).2.1) ?_
      refine G_iload X0 hx (pc' := 57) rfl (hb hby d8_55) rfl ?_
      refine G_iconst X0 hx (pc' := 58) rfl (hb hby d8_57) (z := (1 : Int32)) rfl ?_
      refine G_iadd X0 hx (pc' := 59) rfl (hb hby d8_58)  ?_
      rw [show ((6 : Int32) + (1 : Int32)) = (7 : Int32) from by decide]
      refine G_goto X0 hx (pc' := 64) (hb hby d8_59)  (by decide) (by decide) ?_
      refine Go.fin X0 hlk (v := some (.int (7 : Int32))) (fun h => by rw [Bd.returns] at h; cases h) (by decide) (by decide) ?_ (fun fs hr => retOut X0 hx Bd.returns rfl (Or.inl ⟨rfl, Or.inl rfl, _, rfl⟩) (hb hby d8_64) hr)
      show Q_textLen Z v0 h0 n0 _ s₁.heap _
      rw [e0]
      exact ⟨congrArg (fun z => some (Value.int z)) (Eq.symm ((if_pos hc3_1).trans ((if_neg hc32_2).trans ((if_neg hc32_3).trans ((if_neg hc32_4).trans ((if_neg hc32_5).trans ((if_neg hc32_6).trans ((if_pos hc32_7).trans rfl)))))))), N0, rfl⟩
    refine G_ifNo X0 hx (pc' := 35) rfl (hb hby d8_32) ((if0 _ _).trans (flt (fun q => hc32_7 ((lw_gt _ _).1 q))).2.2.1) ?_
    refine G_iinc X0 hx (pc' := 38) rfl (hb hby d8_35) rfl (z := (7 : Int32)) rfl (L' := #[.val (.long v0), .second, .val (.long v0), .second, .val (.int (7 : Int32)), .val (.long (-1000000 : Int64)), .second]) rfl ?_
    refine G_lload X0 hx (pc' := 40) rfl (hb hby d8_38) rfl ?_
    refine G_ldc2 X0 hx (pc' := 43) rfl hown (mvT hZ (own_w hw 152 rfl)) (hb hby d8_40) ?_
    refine G_lmul X0 hx (pc' := 44) rfl (hb hby d8_43)  ?_
    rw [show ((-1000000 : Int64) * (10 : Int64)) = (-10000000 : Int64) from by decide]
    refine G_lstore X0 hx (pc' := 46) rfl (hb hby d8_44) (L' := #[.val (.long v0), .second, .val (.long v0), .second, .val (.int (7 : Int32)), .val (.long (-10000000 : Int64)), .second]) rfl ?_
    refine G_goto X0 hx (pc' := 21) (hb hby d8_46)  (by decide) (by decide) ?_
    refine G_iload X0 hx (pc' := 23) rfl (hb hby d8_21) rfl ?_
    refine G_bipush X0 hx (pc' := 25) rfl (hb hby d8_23) (z := (18 : Int32)) rfl ?_
    refine G_icmpNo X0 hx (pc' := 28) rfl (hb hby d8_25) (flt (by decide : ¬ ((18 : Int32) < (7 : Int32)))).2.2.1 ?_
    refine G_lloadN X0 hx (pc' := 29) rfl (hb hby d8_28) rfl ?_
    refine G_lload X0 hx (pc' := 31) rfl (hb hby d8_29) rfl ?_
    refine G_lcmp X0 hx (pc' := 32) rfl (hb hby d8_31)  ?_
    by_cases hc32_8 : (-10000000 : Int64) < v0
    · refine G_ifYes X0 hx (pc' := 49) (hb hby d8_32) ((if0 _ _).trans (tlt ((lw_gt _ _).2 hc32_8)).2.2.1) (by decide) (by decide) ?_
      refine G_lloadN X0 hx (pc' := 50) rfl (hb hby d8_49) rfl ?_
      refine G_lconst X0 hx (pc' := 51) rfl (hb hby d8_50) (z := (0 : Int64)) rfl ?_
      refine G_lcmp X0 hx (pc' := 52) rfl (hb hby d8_51)  ?_
      refine G_ifNo X0 hx (pc' := 55) rfl (hb hby d8_52) ((if0 _ _).trans (tlt ((lw_lt _ _).2 hc3_1)).2.1) ?_
      refine G_iload X0 hx (pc' := 57) rfl (hb hby d8_55) rfl ?_
      refine G_iconst X0 hx (pc' := 58) rfl (hb hby d8_57) (z := (1 : Int32)) rfl ?_
      refine G_iadd X0 hx (pc' := 59) rfl (hb hby d8_58)  ?_
      rw [show ((7 : Int32) + (1 : Int32)) = (8 : Int32) from by decide]
      refine G_goto X0 hx (pc' := 64) (hb hby d8_59)  (by decide) (by decide) ?_
      refine Go.fin X0 hlk (v := some (.int (8 : Int32))) (fun h => by rw [Bd.returns] at h; cases h) (by decide) (by decide) ?_ (fun fs hr => retOut X0 hx Bd.returns rfl (Or.inl ⟨rfl, Or.inl rfl, _, rfl⟩) (hb hby d8_64) hr)
      show Q_textLen Z v0 h0 n0 _ s₁.heap _
      rw [e0]
      exact ⟨congrArg (fun z => some (Value.int z)) (Eq.symm ((if_pos hc3_1).trans ((if_neg hc32_2).trans ((if_neg hc32_3).trans ((if_neg hc32_4).trans ((if_neg hc32_5).trans ((if_neg hc32_6).trans ((if_neg hc32_7).trans ((if_pos hc32_8).trans rfl))))))))), N0, rfl⟩
    refine G_ifNo X0 hx (pc' := 35) rfl (hb hby d8_32) ((if0 _ _).trans (flt (fun q => hc32_8 ((lw_gt _ _).1 q))).2.2.1) ?_
    refine G_iinc X0 hx (pc' := 38) rfl (hb hby d8_35) rfl (z := (8 : Int32)) rfl (L' := #[.val (.long v0), .second, .val (.long v0), .second, .val (.int (8 : Int32)), .val (.long (-10000000 : Int64)), .second]) rfl ?_
    refine G_lload X0 hx (pc' := 40) rfl (hb hby d8_38) rfl ?_
    refine G_ldc2 X0 hx (pc' := 43) rfl hown (mvT hZ (own_w hw 152 rfl)) (hb hby d8_40) ?_
    refine G_lmul X0 hx (pc' := 44) rfl (hb hby d8_43)  ?_
    rw [show ((-10000000 : Int64) * (10 : Int64)) = (-100000000 : Int64) from by decide]
    refine G_lstore X0 hx (pc' := 46) rfl (hb hby d8_44) (L' := #[.val (.long v0), .second, .val (.long v0), .second, .val (.int (8 : Int32)), .val (.long (-100000000 : Int64)), .second]) rfl ?_
    refine G_goto X0 hx (pc' := 21) (hb hby d8_46)  (by decide) (by decide) ?_
    refine G_iload X0 hx (pc' := 23) rfl (hb hby d8_21) rfl ?_
    refine G_bipush X0 hx (pc' := 25) rfl (hb hby d8_23) (z := (18 : Int32)) rfl ?_
    refine G_icmpNo X0 hx (pc' := 28) rfl (hb hby d8_25) (flt (by decide : ¬ ((18 : Int32) < (8 : Int32)))).2.2.1 ?_
    refine G_lloadN X0 hx (pc' := 29) rfl (hb hby d8_28) rfl ?_
    refine G_lload X0 hx (pc' := 31) rfl (hb hby d8_29) rfl ?_
    refine G_lcmp X0 hx (pc' := 32) rfl (hb hby d8_31)  ?_
    by_cases hc32_9 : (-100000000 : Int64) < v0
    · refine G_ifYes X0 hx (pc' := 49) (hb hby d8_32) ((if0 _ _).trans (tlt ((lw_gt _ _).2 hc32_9)).2.2.1) (by decide) (by decide) ?_
      refine G_lloadN X0 hx (pc' := 50) rfl (hb hby d8_49) rfl ?_
      refine G_lconst X0 hx (pc' := 51) rfl (hb hby d8_50) (z := (0 : Int64)) rfl ?_
      refine G_lcmp X0 hx (pc' := 52) rfl (hb hby d8_51)  ?_
      refine G_ifNo X0 hx (pc' := 55) rfl (hb hby d8_52) ((if0 _ _).trans (tlt ((lw_lt _ _).2 hc3_1)).2.1) ?_
      refine G_iload X0 hx (pc' := 57) rfl (hb hby d8_55) rfl ?_
      refine G_iconst X0 hx (pc' := 58) rfl (hb hby d8_57) (z := (1 : Int32)) rfl ?_
      refine G_iadd X0 hx (pc' := 59) rfl (hb hby d8_58)  ?_
      rw [show ((8 : Int32) + (1 : Int32)) = (9 : Int32) from by decide]
      refine G_goto X0 hx (pc' := 64) (hb hby d8_59)  (by decide) (by decide) ?_
      refine Go.fin X0 hlk (v := some (.int (9 : Int32))) (fun h => by rw [Bd.returns] at h; cases h) (by decide) (by decide) ?_ (fun fs hr => retOut X0 hx Bd.returns rfl (Or.inl ⟨rfl, Or.inl rfl, _, rfl⟩) (hb hby d8_64) hr)
      show Q_textLen Z v0 h0 n0 _ s₁.heap _
      rw [e0]
      exact ⟨congrArg (fun z => some (Value.int z)) (Eq.symm ((if_pos hc3_1).trans ((if_neg hc32_2).trans ((if_neg hc32_3).trans ((if_neg hc32_4).trans ((if_neg hc32_5).trans ((if_neg hc32_6).trans ((if_neg hc32_7).trans ((if_neg hc32_8).trans ((if_pos hc32_9).trans rfl)))))))))), N0, rfl⟩
    refine G_ifNo X0 hx (pc' := 35) rfl (hb hby d8_32) ((if0 _ _).trans (flt (fun q => hc32_9 ((lw_gt _ _).1 q))).2.2.1) ?_
    refine G_iinc X0 hx (pc' := 38) rfl (hb hby d8_35) rfl (z := (9 : Int32)) rfl (L' := #[.val (.long v0), .second, .val (.long v0), .second, .val (.int (9 : Int32)), .val (.long (-100000000 : Int64)), .second]) rfl ?_
    refine G_lload X0 hx (pc' := 40) rfl (hb hby d8_38) rfl ?_
    refine G_ldc2 X0 hx (pc' := 43) rfl hown (mvT hZ (own_w hw 152 rfl)) (hb hby d8_40) ?_
    refine G_lmul X0 hx (pc' := 44) rfl (hb hby d8_43)  ?_
    rw [show ((-100000000 : Int64) * (10 : Int64)) = (-1000000000 : Int64) from by decide]
    refine G_lstore X0 hx (pc' := 46) rfl (hb hby d8_44) (L' := #[.val (.long v0), .second, .val (.long v0), .second, .val (.int (9 : Int32)), .val (.long (-1000000000 : Int64)), .second]) rfl ?_
    refine G_goto X0 hx (pc' := 21) (hb hby d8_46)  (by decide) (by decide) ?_
    refine G_iload X0 hx (pc' := 23) rfl (hb hby d8_21) rfl ?_
    refine G_bipush X0 hx (pc' := 25) rfl (hb hby d8_23) (z := (18 : Int32)) rfl ?_
    refine G_icmpNo X0 hx (pc' := 28) rfl (hb hby d8_25) (flt (by decide : ¬ ((18 : Int32) < (9 : Int32)))).2.2.1 ?_
    refine G_lloadN X0 hx (pc' := 29) rfl (hb hby d8_28) rfl ?_
    refine G_lload X0 hx (pc' := 31) rfl (hb hby d8_29) rfl ?_
    refine G_lcmp X0 hx (pc' := 32) rfl (hb hby d8_31)  ?_
    by_cases hc32_10 : (-1000000000 : Int64) < v0
    · refine G_ifYes X0 hx (pc' := 49) (hb hby d8_32) ((if0 _ _).trans (tlt ((lw_gt _ _).2 hc32_10)).2.2.1) (by decide) (by decide) ?_
      refine G_lloadN X0 hx (pc' := 50) rfl (hb hby d8_49) rfl ?_
      refine G_lconst X0 hx (pc' := 51) rfl (hb hby d8_50) (z := (0 : Int64)) rfl ?_
      refine G_lcmp X0 hx (pc' := 52) rfl (hb hby d8_51)  ?_
      refine G_ifNo X0 hx (pc' := 55) rfl (hb hby d8_52) ((if0 _ _).trans (tlt ((lw_lt _ _).2 hc3_1)).2.1) ?_
      refine G_iload X0 hx (pc' := 57) rfl (hb hby d8_55) rfl ?_
      refine G_iconst X0 hx (pc' := 58) rfl (hb hby d8_57) (z := (1 : Int32)) rfl ?_
      refine G_iadd X0 hx (pc' := 59) rfl (hb hby d8_58)  ?_
      rw [show ((9 : Int32) + (1 : Int32)) = (10 : Int32) from by decide]
      refine G_goto X0 hx (pc' := 64) (hb hby d8_59)  (by decide) (by decide) ?_
      refine Go.fin X0 hlk (v := some (.int (10 : Int32))) (fun h => by rw [Bd.returns] at h; cases h) (by decide) (by decide) ?_ (fun fs hr => retOut X0 hx Bd.returns rfl (Or.inl ⟨rfl, Or.inl rfl, _, rfl⟩) (hb hby d8_64) hr)
      show Q_textLen Z v0 h0 n0 _ s₁.heap _
      rw [e0]
      exact ⟨congrArg (fun z => some (Value.int z)) (Eq.symm ((if_pos hc3_1).trans ((if_neg hc32_2).trans ((if_neg hc32_3).trans ((if_neg hc32_4).trans ((if_neg hc32_5).trans ((if_neg hc32_6).trans ((if_neg hc32_7).trans ((if_neg hc32_8).trans ((if_neg hc32_9).trans ((if_pos hc32_10).trans rfl))))))))))), N0, rfl⟩
    refine G_ifNo X0 hx (pc' := 35) rfl (hb hby d8_32) ((if0 _ _).trans (flt (fun q => hc32_10 ((lw_gt _ _).1 q))).2.2.1) ?_
    refine G_iinc X0 hx (pc' := 38) rfl (hb hby d8_35) rfl (z := (10 : Int32)) rfl (L' := #[.val (.long v0), .second, .val (.long v0), .second, .val (.int (10 : Int32)), .val (.long (-1000000000 : Int64)), .second]) rfl ?_
    refine G_lload X0 hx (pc' := 40) rfl (hb hby d8_38) rfl ?_
    refine G_ldc2 X0 hx (pc' := 43) rfl hown (mvT hZ (own_w hw 152 rfl)) (hb hby d8_40) ?_
    refine G_lmul X0 hx (pc' := 44) rfl (hb hby d8_43)  ?_
    rw [show ((-1000000000 : Int64) * (10 : Int64)) = (-10000000000 : Int64) from by decide]
    refine G_lstore X0 hx (pc' := 46) rfl (hb hby d8_44) (L' := #[.val (.long v0), .second, .val (.long v0), .second, .val (.int (10 : Int32)), .val (.long (-10000000000 : Int64)), .second]) rfl ?_
    refine G_goto X0 hx (pc' := 21) (hb hby d8_46)  (by decide) (by decide) ?_
    refine G_iload X0 hx (pc' := 23) rfl (hb hby d8_21) rfl ?_
    refine G_bipush X0 hx (pc' := 25) rfl (hb hby d8_23) (z := (18 : Int32)) rfl ?_
    refine G_icmpNo X0 hx (pc' := 28) rfl (hb hby d8_25) (flt (by decide : ¬ ((18 : Int32) < (10 : Int32)))).2.2.1 ?_
    refine G_lloadN X0 hx (pc' := 29) rfl (hb hby d8_28) rfl ?_
    refine G_lload X0 hx (pc' := 31) rfl (hb hby d8_29) rfl ?_
    refine G_lcmp X0 hx (pc' := 32) rfl (hb hby d8_31)  ?_
    by_cases hc32_11 : (-10000000000 : Int64) < v0
    · refine G_ifYes X0 hx (pc' := 49) (hb hby d8_32) ((if0 _ _).trans (tlt ((lw_gt _ _).2 hc32_11)).2.2.1) (by decide) (by decide) ?_
      refine G_lloadN X0 hx (pc' := 50) rfl (hb hby d8_49) rfl ?_
      refine G_lconst X0 hx (pc' := 51) rfl (hb hby d8_50) (z := (0 : Int64)) rfl ?_
      refine G_lcmp X0 hx (pc' := 52) rfl (hb hby d8_51)  ?_
      refine G_ifNo X0 hx (pc' := 55) rfl (hb hby d8_52) ((if0 _ _).trans (tlt ((lw_lt _ _).2 hc3_1)).2.1) ?_
      refine G_iload X0 hx (pc' := 57) rfl (hb hby d8_55) rfl ?_
      refine G_iconst X0 hx (pc' := 58) rfl (hb hby d8_57) (z := (1 : Int32)) rfl ?_
      refine G_iadd X0 hx (pc' := 59) rfl (hb hby d8_58)  ?_
      rw [show ((10 : Int32) + (1 : Int32)) = (11 : Int32) from by decide]
      refine G_goto X0 hx (pc' := 64) (hb hby d8_59)  (by decide) (by decide) ?_
      refine Go.fin X0 hlk (v := some (.int (11 : Int32))) (fun h => by rw [Bd.returns] at h; cases h) (by decide) (by decide) ?_ (fun fs hr => retOut X0 hx Bd.returns rfl (Or.inl ⟨rfl, Or.inl rfl, _, rfl⟩) (hb hby d8_64) hr)
      show Q_textLen Z v0 h0 n0 _ s₁.heap _
      rw [e0]
      exact ⟨congrArg (fun z => some (Value.int z)) (Eq.symm ((if_pos hc3_1).trans ((if_neg hc32_2).trans ((if_neg hc32_3).trans ((if_neg hc32_4).trans ((if_neg hc32_5).trans ((if_neg hc32_6).trans ((if_neg hc32_7).trans ((if_neg hc32_8).trans ((if_neg hc32_9).trans ((if_neg hc32_10).trans ((if_pos hc32_11).trans rfl)))))))))))), N0, rfl⟩
    refine G_ifNo X0 hx (pc' := 35) rfl (hb hby d8_32) ((if0 _ _).trans (flt (fun q => hc32_11 ((lw_gt _ _).1 q))).2.2.1) ?_
    refine G_iinc X0 hx (pc' := 38) rfl (hb hby d8_35) rfl (z := (11 : Int32)) rfl (L' := #[.val (.long v0), .second, .val (.long v0), .second, .val (.int (11 : Int32)), .val (.long (-10000000000 : Int64)), .second]) rfl ?_
    refine G_lload X0 hx (pc' := 40) rfl (hb hby d8_38) rfl ?_
    refine G_ldc2 X0 hx (pc' := 43) rfl hown (mvT hZ (own_w hw 152 rfl)) (hb hby d8_40) ?_
    refine G_lmul X0 hx (pc' := 44) rfl (hb hby d8_43)  ?_
    rw [show ((-10000000000 : Int64) * (10 : Int64)) = (-100000000000 : Int64) from by decide]
    refine G_lstore X0 hx (pc' := 46) rfl (hb hby d8_44) (L' := #[.val (.long v0), .second, .val (.long v0), .second, .val (.int (11 : Int32)), .val (.long (-100000000000 : Int64)), .second]) rfl ?_
    refine G_goto X0 hx (pc' := 21) (hb hby d8_46)  (by decide) (by decide) ?_
    refine G_iload X0 hx (pc' := 23) rfl (hb hby d8_21) rfl ?_
    refine G_bipush X0 hx (pc' := 25) rfl (hb hby d8_23) (z := (18 : Int32)) rfl ?_
    refine G_icmpNo X0 hx (pc' := 28) rfl (hb hby d8_25) (flt (by decide : ¬ ((18 : Int32) < (11 : Int32)))).2.2.1 ?_
    refine G_lloadN X0 hx (pc' := 29) rfl (hb hby d8_28) rfl ?_
    refine G_lload X0 hx (pc' := 31) rfl (hb hby d8_29) rfl ?_
    refine G_lcmp X0 hx (pc' := 32) rfl (hb hby d8_31)  ?_
    by_cases hc32_12 : (-100000000000 : Int64) < v0
    · refine G_ifYes X0 hx (pc' := 49) (hb hby d8_32) ((if0 _ _).trans (tlt ((lw_gt _ _).2 hc32_12)).2.2.1) (by decide) (by decide) ?_
      refine G_lloadN X0 hx (pc' := 50) rfl (hb hby d8_49) rfl ?_
      refine G_lconst X0 hx (pc' := 51) rfl (hb hby d8_50) (z := (0 : Int64)) rfl ?_
      refine G_lcmp X0 hx (pc' := 52) rfl (hb hby d8_51)  ?_
      refine G_ifNo X0 hx (pc' := 55) rfl (hb hby d8_52) ((if0 _ _).trans (tlt ((lw_lt _ _).2 hc3_1)).2.1) ?_
      refine G_iload X0 hx (pc' := 57) rfl (hb hby d8_55) rfl ?_
      refine G_iconst X0 hx (pc' := 58) rfl (hb hby d8_57) (z := (1 : Int32)) rfl ?_
      refine G_iadd X0 hx (pc' := 59) rfl (hb hby d8_58)  ?_
      rw [show ((11 : Int32) + (1 : Int32)) = (12 : Int32) from by decide]
      refine G_goto X0 hx (pc' := 64) (hb hby d8_59)  (by decide) (by decide) ?_
      refine Go.fin X0 hlk (v := some (.int (12 : Int32))) (fun h => by rw [Bd.returns] at h; cases h) (by decide) (by decide) ?_ (fun fs hr => retOut X0 hx Bd.returns rfl (Or.inl ⟨rfl, Or.inl rfl, _, rfl⟩) (hb hby d8_64) hr)
      show Q_textLen Z v0 h0 n0 _ s₁.heap _
      rw [e0]
      exact ⟨congrArg (fun z => some (Value.int z)) (Eq.symm ((if_pos hc3_1).trans ((if_neg hc32_2).trans ((if_neg hc32_3).trans ((if_neg hc32_4).trans ((if_neg hc32_5).trans ((if_neg hc32_6).trans ((if_neg hc32_7).trans ((if_neg hc32_8).trans ((if_neg hc32_9).trans ((if_neg hc32_10).trans ((if_neg hc32_11).trans ((if_pos hc32_12).trans rfl))))))))))))), N0, rfl⟩
    refine G_ifNo X0 hx (pc' := 35) rfl (hb hby d8_32) ((if0 _ _).trans (flt (fun q => hc32_12 ((lw_gt _ _).1 q))).2.2.1) ?_
    refine G_iinc X0 hx (pc' := 38) rfl (hb hby d8_35) rfl (z := (12 : Int32)) rfl (L' := #[.val (.long v0), .second, .val (.long v0), .second, .val (.int (12 : Int32)), .val (.long (-100000000000 : Int64)), .second]) rfl ?_
    refine G_lload X0 hx (pc' := 40) rfl (hb hby d8_38) rfl ?_
    refine G_ldc2 X0 hx (pc' := 43) rfl hown (mvT hZ (own_w hw 152 rfl)) (hb hby d8_40) ?_
    refine G_lmul X0 hx (pc' := 44) rfl (hb hby d8_43)  ?_
    rw [show ((-100000000000 : Int64) * (10 : Int64)) = (-1000000000000 : Int64) from by decide]
    refine G_lstore X0 hx (pc' := 46) rfl (hb hby d8_44) (L' := #[.val (.long v0), .second, .val (.long v0), .second, .val (.int (12 : Int32)), .val (.long (-1000000000000 : Int64)), .second]) rfl ?_
    refine G_goto X0 hx (pc' := 21) (hb hby d8_46)  (by decide) (by decide) ?_
    refine G_iload X0 hx (pc' := 23) rfl (hb hby d8_21) rfl ?_
    refine G_bipush X0 hx (pc' := 25) rfl (hb hby d8_23) (z := (18 : Int32)) rfl ?_
    refine G_icmpNo X0 hx (pc' := 28) rfl (hb hby d8_25) (flt (by decide : ¬ ((18 : Int32) < (12 : Int32)))).2.2.1 ?_
    refine G_lloadN X0 hx (pc' := 29) rfl (hb hby d8_28) rfl ?_
    refine G_lload X0 hx (pc' := 31) rfl (hb hby d8_29) rfl ?_
    refine G_lcmp X0 hx (pc' := 32) rfl (hb hby d8_31)  ?_
    by_cases hc32_13 : (-1000000000000 : Int64) < v0
    · refine G_ifYes X0 hx (pc' := 49) (hb hby d8_32) ((if0 _ _).trans (tlt ((lw_gt _ _).2 hc32_13)).2.2.1) (by decide) (by decide) ?_
      refine G_lloadN X0 hx (pc' := 50) rfl (hb hby d8_49) rfl ?_
      refine G_lconst X0 hx (pc' := 51) rfl (hb hby d8_50) (z := (0 : Int64)) rfl ?_
      refine G_lcmp X0 hx (pc' := 52) rfl (hb hby d8_51)  ?_
      refine G_ifNo X0 hx (pc' := 55) rfl (hb hby d8_52) ((if0 _ _).trans (tlt ((lw_lt _ _).2 hc3_1)).2.1) ?_
      refine G_iload X0 hx (pc' := 57) rfl (hb hby d8_55) rfl ?_
      refine G_iconst X0 hx (pc' := 58) rfl (hb hby d8_57) (z := (1 : Int32)) rfl ?_
      refine G_iadd X0 hx (pc' := 59) rfl (hb hby d8_58)  ?_
      rw [show ((12 : Int32) + (1 : Int32)) = (13 : Int32) from by decide]
      refine G_goto X0 hx (pc' := 64) (hb hby d8_59)  (by decide) (by decide) ?_
      refine Go.fin X0 hlk (v := some (.int (13 : Int32))) (fun h => by rw [Bd.returns] at h; cases h) (by decide) (by decide) ?_ (fun fs hr => retOut X0 hx Bd.returns rfl (Or.inl ⟨rfl, Or.inl rfl, _, rfl⟩) (hb hby d8_64) hr)
      show Q_textLen Z v0 h0 n0 _ s₁.heap _
      rw [e0]
      exact ⟨congrArg (fun z => some (Value.int z)) (Eq.symm ((if_pos hc3_1).trans ((if_neg hc32_2).trans ((if_neg hc32_3).trans ((if_neg hc32_4).trans ((if_neg hc32_5).trans ((if_neg hc32_6).trans ((if_neg hc32_7).trans ((if_neg hc32_8).trans ((if_neg hc32_9).trans ((if_neg hc32_10).trans ((if_neg hc32_11).trans ((if_neg hc32_12).trans ((if_pos hc32_13).trans rfl)))))))))))))), N0, rfl⟩
    refine G_ifNo X0 hx (pc' := 35) rfl (hb hby d8_32) ((if0 _ _).trans (flt (fun q => hc32_13 ((lw_gt _ _).1 q))).2.2.1) ?_
    refine G_iinc X0 hx (pc' := 38) rfl (hb hby d8_35) rfl (z := (13 : Int32)) rfl (L' := #[.val (.long v0), .second, .val (.long v0), .second, .val (.int (13 : Int32)), .val (.long (-1000000000000 : Int64)), .second]) rfl ?_
    refine G_lload X0 hx (pc' := 40) rfl (hb hby d8_38) rfl ?_
    refine G_ldc2 X0 hx (pc' := 43) rfl hown (mvT hZ (own_w hw 152 rfl)) (hb hby d8_40) ?_
    refine G_lmul X0 hx (pc' := 44) rfl (hb hby d8_43)  ?_
    rw [show ((-1000000000000 : Int64) * (10 : Int64)) = (-10000000000000 : Int64) from by decide]
    refine G_lstore X0 hx (pc' := 46) rfl (hb hby d8_44) (L' := #[.val (.long v0), .second, .val (.long v0), .second, .val (.int (13 : Int32)), .val (.long (-10000000000000 : Int64)), .second]) rfl ?_
    refine G_goto X0 hx (pc' := 21) (hb hby d8_46)  (by decide) (by decide) ?_
    refine G_iload X0 hx (pc' := 23) rfl (hb hby d8_21) rfl ?_
    refine G_bipush X0 hx (pc' := 25) rfl (hb hby d8_23) (z := (18 : Int32)) rfl ?_
    refine G_icmpNo X0 hx (pc' := 28) rfl (hb hby d8_25) (flt (by decide : ¬ ((18 : Int32) < (13 : Int32)))).2.2.1 ?_
    refine G_lloadN X0 hx (pc' := 29) rfl (hb hby d8_28) rfl ?_
    refine G_lload X0 hx (pc' := 31) rfl (hb hby d8_29) rfl ?_
    refine G_lcmp X0 hx (pc' := 32) rfl (hb hby d8_31)  ?_
    by_cases hc32_14 : (-10000000000000 : Int64) < v0
    · refine G_ifYes X0 hx (pc' := 49) (hb hby d8_32) ((if0 _ _).trans (tlt ((lw_gt _ _).2 hc32_14)).2.2.1) (by decide) (by decide) ?_
      refine G_lloadN X0 hx (pc' := 50) rfl (hb hby d8_49) rfl ?_
      refine G_lconst X0 hx (pc' := 51) rfl (hb hby d8_50) (z := (0 : Int64)) rfl ?_
      refine G_lcmp X0 hx (pc' := 52) rfl (hb hby d8_51)  ?_
      refine G_ifNo X0 hx (pc' := 55) rfl (hb hby d8_52) ((if0 _ _).trans (tlt ((lw_lt _ _).2 hc3_1)).2.1) ?_
      refine G_iload X0 hx (pc' := 57) rfl (hb hby d8_55) rfl ?_
      refine G_iconst X0 hx (pc' := 58) rfl (hb hby d8_57) (z := (1 : Int32)) rfl ?_
      refine G_iadd X0 hx (pc' := 59) rfl (hb hby d8_58)  ?_
      rw [show ((13 : Int32) + (1 : Int32)) = (14 : Int32) from by decide]
      refine G_goto X0 hx (pc' := 64) (hb hby d8_59)  (by decide) (by decide) ?_
      refine Go.fin X0 hlk (v := some (.int (14 : Int32))) (fun h => by rw [Bd.returns] at h; cases h) (by decide) (by decide) ?_ (fun fs hr => retOut X0 hx Bd.returns rfl (Or.inl ⟨rfl, Or.inl rfl, _, rfl⟩) (hb hby d8_64) hr)
      show Q_textLen Z v0 h0 n0 _ s₁.heap _
      rw [e0]
      exact ⟨congrArg (fun z => some (Value.int z)) (Eq.symm ((if_pos hc3_1).trans ((if_neg hc32_2).trans ((if_neg hc32_3).trans ((if_neg hc32_4).trans ((if_neg hc32_5).trans ((if_neg hc32_6).trans ((if_neg hc32_7).trans ((if_neg hc32_8).trans ((if_neg hc32_9).trans ((if_neg hc32_10).trans ((if_neg hc32_11).trans ((if_neg hc32_12).trans ((if_neg hc32_13).trans ((if_pos hc32_14).trans rfl))))))))))))))), N0, rfl⟩
    refine G_ifNo X0 hx (pc' := 35) rfl (hb hby d8_32) ((if0 _ _).trans (flt (fun q => hc32_14 ((lw_gt _ _).1 q))).2.2.1) ?_
    refine G_iinc X0 hx (pc' := 38) rfl (hb hby d8_35) rfl (z := (14 : Int32)) rfl (L' := #[.val (.long v0), .second, .val (.long v0), .second, .val (.int (14 : Int32)), .val (.long (-10000000000000 : Int64)), .second]) rfl ?_
    refine G_lload X0 hx (pc' := 40) rfl (hb hby d8_38) rfl ?_
    refine G_ldc2 X0 hx (pc' := 43) rfl hown (mvT hZ (own_w hw 152 rfl)) (hb hby d8_40) ?_
    refine G_lmul X0 hx (pc' := 44) rfl (hb hby d8_43)  ?_
    rw [show ((-10000000000000 : Int64) * (10 : Int64)) = (-100000000000000 : Int64) from by decide]
    refine G_lstore X0 hx (pc' := 46) rfl (hb hby d8_44) (L' := #[.val (.long v0), .second, .val (.long v0), .second, .val (.int (14 : Int32)), .val (.long (-100000000000000 : Int64)), .second]) rfl ?_
    refine G_goto X0 hx (pc' := 21) (hb hby d8_46)  (by decide) (by decide) ?_
    refine G_iload X0 hx (pc' := 23) rfl (hb hby d8_21) rfl ?_
    refine G_bipush X0 hx (pc' := 25) rfl (hb hby d8_23) (z := (18 : Int32)) rfl ?_
    refine G_icmpNo X0 hx (pc' := 28) rfl (hb hby d8_25) (flt (by decide : ¬ ((18 : Int32) < (14 : Int32)))).2.2.1 ?_
    refine G_lloadN X0 hx (pc' := 29) rfl (hb hby d8_28) rfl ?_
    refine G_lload X0 hx (pc' := 31) rfl (hb hby d8_29) rfl ?_
    refine G_lcmp X0 hx (pc' := 32) rfl (hb hby d8_31)  ?_
    by_cases hc32_15 : (-100000000000000 : Int64) < v0
    · refine G_ifYes X0 hx (pc' := 49) (hb hby d8_32) ((if0 _ _).trans (tlt ((lw_gt _ _).2 hc32_15)).2.2.1) (by decide) (by decide) ?_
      refine G_lloadN X0 hx (pc' := 50) rfl (hb hby d8_49) rfl ?_
      refine G_lconst X0 hx (pc' := 51) rfl (hb hby d8_50) (z := (0 : Int64)) rfl ?_
      refine G_lcmp X0 hx (pc' := 52) rfl (hb hby d8_51)  ?_
      refine G_ifNo X0 hx (pc' := 55) rfl (hb hby d8_52) ((if0 _ _).trans (tlt ((lw_lt _ _).2 hc3_1)).2.1) ?_
      refine G_iload X0 hx (pc' := 57) rfl (hb hby d8_55) rfl ?_
      refine G_iconst X0 hx (pc' := 58) rfl (hb hby d8_57) (z := (1 : Int32)) rfl ?_
      refine G_iadd X0 hx (pc' := 59) rfl (hb hby d8_58)  ?_
      rw [show ((14 : Int32) + (1 : Int32)) = (15 : Int32) from by decide]
      refine G_goto X0 hx (pc' := 64) (hb hby d8_59)  (by decide) (by decide) ?_
      refine Go.fin X0 hlk (v := some (.int (15 : Int32))) (fun h => by rw [Bd.returns] at h; cases h) (by decide) (by decide) ?_ (fun fs hr => retOut X0 hx Bd.returns rfl (Or.inl ⟨rfl, Or.inl rfl, _, rfl⟩) (hb hby d8_64) hr)
      show Q_textLen Z v0 h0 n0 _ s₁.heap _
      rw [e0]
      exact ⟨congrArg (fun z => some (Value.int z)) (Eq.symm ((if_pos hc3_1).trans ((if_neg hc32_2).trans ((if_neg hc32_3).trans ((if_neg hc32_4).trans ((if_neg hc32_5).trans ((if_neg hc32_6).trans ((if_neg hc32_7).trans ((if_neg hc32_8).trans ((if_neg hc32_9).trans ((if_neg hc32_10).trans ((if_neg hc32_11).trans ((if_neg hc32_12).trans ((if_neg hc32_13).trans ((if_neg hc32_14).trans ((if_pos hc32_15).trans rfl)))))))))))))))), N0, rfl⟩
    refine G_ifNo X0 hx (pc' := 35) rfl (hb hby d8_32) ((if0 _ _).trans (flt (fun q => hc32_15 ((lw_gt _ _).1 q))).2.2.1) ?_
    refine G_iinc X0 hx (pc' := 38) rfl (hb hby d8_35) rfl (z := (15 : Int32)) rfl (L' := #[.val (.long v0), .second, .val (.long v0), .second, .val (.int (15 : Int32)), .val (.long (-100000000000000 : Int64)), .second]) rfl ?_
    refine G_lload X0 hx (pc' := 40) rfl (hb hby d8_38) rfl ?_
    refine G_ldc2 X0 hx (pc' := 43) rfl hown (mvT hZ (own_w hw 152 rfl)) (hb hby d8_40) ?_
    refine G_lmul X0 hx (pc' := 44) rfl (hb hby d8_43)  ?_
    rw [show ((-100000000000000 : Int64) * (10 : Int64)) = (-1000000000000000 : Int64) from by decide]
    refine G_lstore X0 hx (pc' := 46) rfl (hb hby d8_44) (L' := #[.val (.long v0), .second, .val (.long v0), .second, .val (.int (15 : Int32)), .val (.long (-1000000000000000 : Int64)), .second]) rfl ?_
    refine G_goto X0 hx (pc' := 21) (hb hby d8_46)  (by decide) (by decide) ?_
    refine G_iload X0 hx (pc' := 23) rfl (hb hby d8_21) rfl ?_
    refine G_bipush X0 hx (pc' := 25) rfl (hb hby d8_23) (z := (18 : Int32)) rfl ?_
    refine G_icmpNo X0 hx (pc' := 28) rfl (hb hby d8_25) (flt (by decide : ¬ ((18 : Int32) < (15 : Int32)))).2.2.1 ?_
    refine G_lloadN X0 hx (pc' := 29) rfl (hb hby d8_28) rfl ?_
    refine G_lload X0 hx (pc' := 31) rfl (hb hby d8_29) rfl ?_
    refine G_lcmp X0 hx (pc' := 32) rfl (hb hby d8_31)  ?_
    by_cases hc32_16 : (-1000000000000000 : Int64) < v0
    · refine G_ifYes X0 hx (pc' := 49) (hb hby d8_32) ((if0 _ _).trans (tlt ((lw_gt _ _).2 hc32_16)).2.2.1) (by decide) (by decide) ?_
      refine G_lloadN X0 hx (pc' := 50) rfl (hb hby d8_49) rfl ?_
      refine G_lconst X0 hx (pc' := 51) rfl (hb hby d8_50) (z := (0 : Int64)) rfl ?_
      refine G_lcmp X0 hx (pc' := 52) rfl (hb hby d8_51)  ?_
      refine G_ifNo X0 hx (pc' := 55) rfl (hb hby d8_52) ((if0 _ _).trans (tlt ((lw_lt _ _).2 hc3_1)).2.1) ?_
      refine G_iload X0 hx (pc' := 57) rfl (hb hby d8_55) rfl ?_
      refine G_iconst X0 hx (pc' := 58) rfl (hb hby d8_57) (z := (1 : Int32)) rfl ?_
      refine G_iadd X0 hx (pc' := 59) rfl (hb hby d8_58)  ?_
      rw [show ((15 : Int32) + (1 : Int32)) = (16 : Int32) from by decide]
      refine G_goto X0 hx (pc' := 64) (hb hby d8_59)  (by decide) (by decide) ?_
      refine Go.fin X0 hlk (v := some (.int (16 : Int32))) (fun h => by rw [Bd.returns] at h; cases h) (by decide) (by decide) ?_ (fun fs hr => retOut X0 hx Bd.returns rfl (Or.inl ⟨rfl, Or.inl rfl, _, rfl⟩) (hb hby d8_64) hr)
      show Q_textLen Z v0 h0 n0 _ s₁.heap _
      rw [e0]
      exact ⟨congrArg (fun z => some (Value.int z)) (Eq.symm ((if_pos hc3_1).trans ((if_neg hc32_2).trans ((if_neg hc32_3).trans ((if_neg hc32_4).trans ((if_neg hc32_5).trans ((if_neg hc32_6).trans ((if_neg hc32_7).trans ((if_neg hc32_8).trans ((if_neg hc32_9).trans ((if_neg hc32_10).trans ((if_neg hc32_11).trans ((if_neg hc32_12).trans ((if_neg hc32_13).trans ((if_neg hc32_14).trans ((if_neg hc32_15).trans ((if_pos hc32_16).trans rfl))))))))))))))))), N0, rfl⟩
    refine G_ifNo X0 hx (pc' := 35) rfl (hb hby d8_32) ((if0 _ _).trans (flt (fun q => hc32_16 ((lw_gt _ _).1 q))).2.2.1) ?_
    refine G_iinc X0 hx (pc' := 38) rfl (hb hby d8_35) rfl (z := (16 : Int32)) rfl (L' := #[.val (.long v0), .second, .val (.long v0), .second, .val (.int (16 : Int32)), .val (.long (-1000000000000000 : Int64)), .second]) rfl ?_
    refine G_lload X0 hx (pc' := 40) rfl (hb hby d8_38) rfl ?_
    refine G_ldc2 X0 hx (pc' := 43) rfl hown (mvT hZ (own_w hw 152 rfl)) (hb hby d8_40) ?_
    refine G_lmul X0 hx (pc' := 44) rfl (hb hby d8_43)  ?_
    rw [show ((-1000000000000000 : Int64) * (10 : Int64)) = (-10000000000000000 : Int64) from by decide]
    refine G_lstore X0 hx (pc' := 46) rfl (hb hby d8_44) (L' := #[.val (.long v0), .second, .val (.long v0), .second, .val (.int (16 : Int32)), .val (.long (-10000000000000000 : Int64)), .second]) rfl ?_
    refine G_goto X0 hx (pc' := 21) (hb hby d8_46)  (by decide) (by decide) ?_
    refine G_iload X0 hx (pc' := 23) rfl (hb hby d8_21) rfl ?_
    refine G_bipush X0 hx (pc' := 25) rfl (hb hby d8_23) (z := (18 : Int32)) rfl ?_
    refine G_icmpNo X0 hx (pc' := 28) rfl (hb hby d8_25) (flt (by decide : ¬ ((18 : Int32) < (16 : Int32)))).2.2.1 ?_
    refine G_lloadN X0 hx (pc' := 29) rfl (hb hby d8_28) rfl ?_
    refine G_lload X0 hx (pc' := 31) rfl (hb hby d8_29) rfl ?_
    refine G_lcmp X0 hx (pc' := 32) rfl (hb hby d8_31)  ?_
    by_cases hc32_17 : (-10000000000000000 : Int64) < v0
    · refine G_ifYes X0 hx (pc' := 49) (hb hby d8_32) ((if0 _ _).trans (tlt ((lw_gt _ _).2 hc32_17)).2.2.1) (by decide) (by decide) ?_
      refine G_lloadN X0 hx (pc' := 50) rfl (hb hby d8_49) rfl ?_
      refine G_lconst X0 hx (pc' := 51) rfl (hb hby d8_50) (z := (0 : Int64)) rfl ?_
      refine G_lcmp X0 hx (pc' := 52) rfl (hb hby d8_51)  ?_
      refine G_ifNo X0 hx (pc' := 55) rfl (hb hby d8_52) ((if0 _ _).trans (tlt ((lw_lt _ _).2 hc3_1)).2.1) ?_
      refine G_iload X0 hx (pc' := 57) rfl (hb hby d8_55) rfl ?_
      refine G_iconst X0 hx (pc' := 58) rfl (hb hby d8_57) (z := (1 : Int32)) rfl ?_
      refine G_iadd X0 hx (pc' := 59) rfl (hb hby d8_58)  ?_
      rw [show ((16 : Int32) + (1 : Int32)) = (17 : Int32) from by decide]
      refine G_goto X0 hx (pc' := 64) (hb hby d8_59)  (by decide) (by decide) ?_
      refine Go.fin X0 hlk (v := some (.int (17 : Int32))) (fun h => by rw [Bd.returns] at h; cases h) (by decide) (by decide) ?_ (fun fs hr => retOut X0 hx Bd.returns rfl (Or.inl ⟨rfl, Or.inl rfl, _, rfl⟩) (hb hby d8_64) hr)
      show Q_textLen Z v0 h0 n0 _ s₁.heap _
      rw [e0]
      exact ⟨congrArg (fun z => some (Value.int z)) (Eq.symm ((if_pos hc3_1).trans ((if_neg hc32_2).trans ((if_neg hc32_3).trans ((if_neg hc32_4).trans ((if_neg hc32_5).trans ((if_neg hc32_6).trans ((if_neg hc32_7).trans ((if_neg hc32_8).trans ((if_neg hc32_9).trans ((if_neg hc32_10).trans ((if_neg hc32_11).trans ((if_neg hc32_12).trans ((if_neg hc32_13).trans ((if_neg hc32_14).trans ((if_neg hc32_15).trans ((if_neg hc32_16).trans ((if_pos hc32_17).trans rfl)))))))))))))))))), N0, rfl⟩
    refine G_ifNo X0 hx (pc' := 35) rfl (hb hby d8_32) ((if0 _ _).trans (flt (fun q => hc32_17 ((lw_gt _ _).1 q))).2.2.1) ?_
    refine G_iinc X0 hx (pc' := 38) rfl (hb hby d8_35) rfl (z := (17 : Int32)) rfl (L' := #[.val (.long v0), .second, .val (.long v0), .second, .val (.int (17 : Int32)), .val (.long (-10000000000000000 : Int64)), .second]) rfl ?_
    refine G_lload X0 hx (pc' := 40) rfl (hb hby d8_38) rfl ?_
    refine G_ldc2 X0 hx (pc' := 43) rfl hown (mvT hZ (own_w hw 152 rfl)) (hb hby d8_40) ?_
    refine G_lmul X0 hx (pc' := 44) rfl (hb hby d8_43)  ?_
    rw [show ((-10000000000000000 : Int64) * (10 : Int64)) = (-100000000000000000 : Int64) from by decide]
    refine G_lstore X0 hx (pc' := 46) rfl (hb hby d8_44) (L' := #[.val (.long v0), .second, .val (.long v0), .second, .val (.int (17 : Int32)), .val (.long (-100000000000000000 : Int64)), .second]) rfl ?_
    refine G_goto X0 hx (pc' := 21) (hb hby d8_46)  (by decide) (by decide) ?_
    refine G_iload X0 hx (pc' := 23) rfl (hb hby d8_21) rfl ?_
    refine G_bipush X0 hx (pc' := 25) rfl (hb hby d8_23) (z := (18 : Int32)) rfl ?_
    refine G_icmpNo X0 hx (pc' := 28) rfl (hb hby d8_25) (flt (by decide : ¬ ((18 : Int32) < (17 : Int32)))).2.2.1 ?_
    refine G_lloadN X0 hx (pc' := 29) rfl (hb hby d8_28) rfl ?_
    refine G_lload X0 hx (pc' := 31) rfl (hb hby d8_29) rfl ?_
    refine G_lcmp X0 hx (pc' := 32) rfl (hb hby d8_31)  ?_
    by_cases hc32_18 : (-100000000000000000 : Int64) < v0
    · refine G_ifYes X0 hx (pc' := 49) (hb hby d8_32) ((if0 _ _).trans (tlt ((lw_gt _ _).2 hc32_18)).2.2.1) (by decide) (by decide) ?_
      refine G_lloadN X0 hx (pc' := 50) rfl (hb hby d8_49) rfl ?_
      refine G_lconst X0 hx (pc' := 51) rfl (hb hby d8_50) (z := (0 : Int64)) rfl ?_
      refine G_lcmp X0 hx (pc' := 52) rfl (hb hby d8_51)  ?_
      refine G_ifNo X0 hx (pc' := 55) rfl (hb hby d8_52) ((if0 _ _).trans (tlt ((lw_lt _ _).2 hc3_1)).2.1) ?_
      refine G_iload X0 hx (pc' := 57) rfl (hb hby d8_55) rfl ?_
      refine G_iconst X0 hx (pc' := 58) rfl (hb hby d8_57) (z := (1 : Int32)) rfl ?_
      refine G_iadd X0 hx (pc' := 59) rfl (hb hby d8_58)  ?_
      rw [show ((17 : Int32) + (1 : Int32)) = (18 : Int32) from by decide]
      refine G_goto X0 hx (pc' := 64) (hb hby d8_59)  (by decide) (by decide) ?_
      refine Go.fin X0 hlk (v := some (.int (18 : Int32))) (fun h => by rw [Bd.returns] at h; cases h) (by decide) (by decide) ?_ (fun fs hr => retOut X0 hx Bd.returns rfl (Or.inl ⟨rfl, Or.inl rfl, _, rfl⟩) (hb hby d8_64) hr)
      show Q_textLen Z v0 h0 n0 _ s₁.heap _
      rw [e0]
      exact ⟨congrArg (fun z => some (Value.int z)) (Eq.symm ((if_pos hc3_1).trans ((if_neg hc32_2).trans ((if_neg hc32_3).trans ((if_neg hc32_4).trans ((if_neg hc32_5).trans ((if_neg hc32_6).trans ((if_neg hc32_7).trans ((if_neg hc32_8).trans ((if_neg hc32_9).trans ((if_neg hc32_10).trans ((if_neg hc32_11).trans ((if_neg hc32_12).trans ((if_neg hc32_13).trans ((if_neg hc32_14).trans ((if_neg hc32_15).trans ((if_neg hc32_16).trans ((if_neg hc32_17).trans ((if_pos hc32_18).trans rfl))))))))))))))))))), N0, rfl⟩
    refine G_ifNo X0 hx (pc' := 35) rfl (hb hby d8_32) ((if0 _ _).trans (flt (fun q => hc32_18 ((lw_gt _ _).1 q))).2.2.1) ?_
    refine G_iinc X0 hx (pc' := 38) rfl (hb hby d8_35) rfl (z := (18 : Int32)) rfl (L' := #[.val (.long v0), .second, .val (.long v0), .second, .val (.int (18 : Int32)), .val (.long (-100000000000000000 : Int64)), .second]) rfl ?_
    refine G_lload X0 hx (pc' := 40) rfl (hb hby d8_38) rfl ?_
    refine G_ldc2 X0 hx (pc' := 43) rfl hown (mvT hZ (own_w hw 152 rfl)) (hb hby d8_40) ?_
    refine G_lmul X0 hx (pc' := 44) rfl (hb hby d8_43)  ?_
    rw [show ((-100000000000000000 : Int64) * (10 : Int64)) = (-1000000000000000000 : Int64) from by decide]
    refine G_lstore X0 hx (pc' := 46) rfl (hb hby d8_44) (L' := #[.val (.long v0), .second, .val (.long v0), .second, .val (.int (18 : Int32)), .val (.long (-1000000000000000000 : Int64)), .second]) rfl ?_
    refine G_goto X0 hx (pc' := 21) (hb hby d8_46)  (by decide) (by decide) ?_
    refine G_iload X0 hx (pc' := 23) rfl (hb hby d8_21) rfl ?_
    refine G_bipush X0 hx (pc' := 25) rfl (hb hby d8_23) (z := (18 : Int32)) rfl ?_
    refine G_icmpNo X0 hx (pc' := 28) rfl (hb hby d8_25) (flt (by decide : ¬ ((18 : Int32) < (18 : Int32)))).2.2.1 ?_
    refine G_lloadN X0 hx (pc' := 29) rfl (hb hby d8_28) rfl ?_
    refine G_lload X0 hx (pc' := 31) rfl (hb hby d8_29) rfl ?_
    refine G_lcmp X0 hx (pc' := 32) rfl (hb hby d8_31)  ?_
    by_cases hc32_19 : (-1000000000000000000 : Int64) < v0
    · refine G_ifYes X0 hx (pc' := 49) (hb hby d8_32) ((if0 _ _).trans (tlt ((lw_gt _ _).2 hc32_19)).2.2.1) (by decide) (by decide) ?_
      refine G_lloadN X0 hx (pc' := 50) rfl (hb hby d8_49) rfl ?_
      refine G_lconst X0 hx (pc' := 51) rfl (hb hby d8_50) (z := (0 : Int64)) rfl ?_
      refine G_lcmp X0 hx (pc' := 52) rfl (hb hby d8_51)  ?_
      refine G_ifNo X0 hx (pc' := 55) rfl (hb hby d8_52) ((if0 _ _).trans (tlt ((lw_lt _ _).2 hc3_1)).2.1) ?_
      refine G_iload X0 hx (pc' := 57) rfl (hb hby d8_55) rfl ?_
      refine G_iconst X0 hx (pc' := 58) rfl (hb hby d8_57) (z := (1 : Int32)) rfl ?_
      refine G_iadd X0 hx (pc' := 59) rfl (hb hby d8_58)  ?_
      rw [show ((18 : Int32) + (1 : Int32)) = (19 : Int32) from by decide]
      refine G_goto X0 hx (pc' := 64) (hb hby d8_59)  (by decide) (by decide) ?_
      refine Go.fin X0 hlk (v := some (.int (19 : Int32))) (fun h => by rw [Bd.returns] at h; cases h) (by decide) (by decide) ?_ (fun fs hr => retOut X0 hx Bd.returns rfl (Or.inl ⟨rfl, Or.inl rfl, _, rfl⟩) (hb hby d8_64) hr)
      show Q_textLen Z v0 h0 n0 _ s₁.heap _
      rw [e0]
      exact ⟨congrArg (fun z => some (Value.int z)) (Eq.symm ((if_pos hc3_1).trans ((if_neg hc32_2).trans ((if_neg hc32_3).trans ((if_neg hc32_4).trans ((if_neg hc32_5).trans ((if_neg hc32_6).trans ((if_neg hc32_7).trans ((if_neg hc32_8).trans ((if_neg hc32_9).trans ((if_neg hc32_10).trans ((if_neg hc32_11).trans ((if_neg hc32_12).trans ((if_neg hc32_13).trans ((if_neg hc32_14).trans ((if_neg hc32_15).trans ((if_neg hc32_16).trans ((if_neg hc32_17).trans ((if_neg hc32_18).trans ((if_pos hc32_19).trans rfl)))))))))))))))))))), N0, rfl⟩
    refine G_ifNo X0 hx (pc' := 35) rfl (hb hby d8_32) ((if0 _ _).trans (flt (fun q => hc32_19 ((lw_gt _ _).1 q))).2.2.1) ?_
    refine G_iinc X0 hx (pc' := 38) rfl (hb hby d8_35) rfl (z := (19 : Int32)) rfl (L' := #[.val (.long v0), .second, .val (.long v0), .second, .val (.int (19 : Int32)), .val (.long (-1000000000000000000 : Int64)), .second]) rfl ?_
    refine G_lload X0 hx (pc' := 40) rfl (hb hby d8_38) rfl ?_
    refine G_ldc2 X0 hx (pc' := 43) rfl hown (mvT hZ (own_w hw 152 rfl)) (hb hby d8_40) ?_
    refine G_lmul X0 hx (pc' := 44) rfl (hb hby d8_43)  ?_
    rw [show ((-1000000000000000000 : Int64) * (10 : Int64)) = (8446744073709551616 : Int64) from by decide]
    refine G_lstore X0 hx (pc' := 46) rfl (hb hby d8_44) (L' := #[.val (.long v0), .second, .val (.long v0), .second, .val (.int (19 : Int32)), .val (.long (8446744073709551616 : Int64)), .second]) rfl ?_
    refine G_goto X0 hx (pc' := 21) (hb hby d8_46)  (by decide) (by decide) ?_
    refine G_iload X0 hx (pc' := 23) rfl (hb hby d8_21) rfl ?_
    refine G_bipush X0 hx (pc' := 25) rfl (hb hby d8_23) (z := (18 : Int32)) rfl ?_
    refine G_icmpYes X0 hx (pc' := 49) (hb hby d8_25) (tlt (by decide : (18 : Int32) < (19 : Int32))).2.2.1 (by decide) (by decide) ?_
    refine G_lloadN X0 hx (pc' := 50) rfl (hb hby d8_49) rfl ?_
    refine G_lconst X0 hx (pc' := 51) rfl (hb hby d8_50) (z := (0 : Int64)) rfl ?_
    refine G_lcmp X0 hx (pc' := 52) rfl (hb hby d8_51)  ?_
    refine G_ifNo X0 hx (pc' := 55) rfl (hb hby d8_52) ((if0 _ _).trans (tlt ((lw_lt _ _).2 hc3_1)).2.1) ?_
    refine G_iload X0 hx (pc' := 57) rfl (hb hby d8_55) rfl ?_
    refine G_iconst X0 hx (pc' := 58) rfl (hb hby d8_57) (z := (1 : Int32)) rfl ?_
    refine G_iadd X0 hx (pc' := 59) rfl (hb hby d8_58)  ?_
    rw [show ((19 : Int32) + (1 : Int32)) = (20 : Int32) from by decide]
    refine G_goto X0 hx (pc' := 64) (hb hby d8_59)  (by decide) (by decide) ?_
    refine Go.fin X0 hlk (v := some (.int (20 : Int32))) (fun h => by rw [Bd.returns] at h; cases h) (by decide) (by decide) ?_ (fun fs hr => retOut X0 hx Bd.returns rfl (Or.inl ⟨rfl, Or.inl rfl, _, rfl⟩) (hb hby d8_64) hr)
    show Q_textLen Z v0 h0 n0 _ s₁.heap _
    rw [e0]
    exact ⟨congrArg (fun z => some (Value.int z)) (Eq.symm ((if_pos hc3_1).trans ((if_neg hc32_2).trans ((if_neg hc32_3).trans ((if_neg hc32_4).trans ((if_neg hc32_5).trans ((if_neg hc32_6).trans ((if_neg hc32_7).trans ((if_neg hc32_8).trans ((if_neg hc32_9).trans ((if_neg hc32_10).trans ((if_neg hc32_11).trans ((if_neg hc32_12).trans ((if_neg hc32_13).trans ((if_neg hc32_14).trans ((if_neg hc32_15).trans ((if_neg hc32_16).trans ((if_neg hc32_17).trans ((if_neg hc32_18).trans ((if_neg hc32_19).trans rfl)))))))))))))))))))), N0, rfl⟩
  refine G_ifYes X0 hx (pc' := 10) (hb hby d8_3) ((if0 _ _).trans (flt (fun q => hc3_1 ((lw_lt _ _).1 q))).2.1) (by decide) (by decide) ?_
  refine G_lloadN X0 hx (pc' := 11) rfl (hb hby d8_10) rfl ?_
  refine G_lneg X0 hx (pc' := 12) rfl (hb hby d8_11)  ?_
  refine G_lstoreN X0 hx (pc' := 13) rfl (hb hby d8_12) (L' := #[.val (.long v0), .second, .val (.long (-v0)), .second, .unset, .unset, .unset]) rfl ?_
  refine G_iconst X0 hx (pc' := 14) rfl (hb hby d8_13) (z := (1 : Int32)) rfl ?_
  refine G_istore X0 hx (pc' := 16) rfl (hb hby d8_14) (L' := #[.val (.long v0), .second, .val (.long (-v0)), .second, .val (.int (1 : Int32)), .unset, .unset]) rfl ?_
  refine G_ldc2 X0 hx (pc' := 19) rfl hown (mvT hZ (own_w hw 58 rfl)) (hb hby d8_16) ?_
  refine G_lstore X0 hx (pc' := 21) rfl (hb hby d8_19) (L' := #[.val (.long v0), .second, .val (.long (-v0)), .second, .val (.int (1 : Int32)), .val (.long (-10 : Int64)), .second]) rfl ?_
  refine G_iload X0 hx (pc' := 23) rfl (hb hby d8_21) rfl ?_
  refine G_bipush X0 hx (pc' := 25) rfl (hb hby d8_23) (z := (18 : Int32)) rfl ?_
  refine G_icmpNo X0 hx (pc' := 28) rfl (hb hby d8_25) (flt (by decide : ¬ ((18 : Int32) < (1 : Int32)))).2.2.1 ?_
  refine G_lloadN X0 hx (pc' := 29) rfl (hb hby d8_28) rfl ?_
  refine G_lload X0 hx (pc' := 31) rfl (hb hby d8_29) rfl ?_
  refine G_lcmp X0 hx (pc' := 32) rfl (hb hby d8_31)  ?_
  by_cases hc32_20 : (-10 : Int64) < (-v0)
  · refine G_ifYes X0 hx (pc' := 49) (hb hby d8_32) ((if0 _ _).trans (tlt ((lw_gt _ _).2 hc32_20)).2.2.1) (by decide) (by decide) ?_
    refine G_lloadN X0 hx (pc' := 50) rfl (hb hby d8_49) rfl ?_
    refine G_lconst X0 hx (pc' := 51) rfl (hb hby d8_50) (z := (0 : Int64)) rfl ?_
    refine G_lcmp X0 hx (pc' := 52) rfl (hb hby d8_51)  ?_
    refine G_ifYes X0 hx (pc' := 62) (hb hby d8_52) ((if0 _ _).trans (flt (fun q => hc3_1 ((lw_lt _ _).1 q))).2.1) (by decide) (by decide) ?_
    refine G_iload X0 hx (pc' := 64) rfl (hb hby d8_62) rfl ?_
    refine Go.fin X0 hlk (v := some (.int (1 : Int32))) (fun h => by rw [Bd.returns] at h; cases h) (by decide) (by decide) ?_ (fun fs hr => retOut X0 hx Bd.returns rfl (Or.inl ⟨rfl, Or.inl rfl, _, rfl⟩) (hb hby d8_64) hr)
    show Q_textLen Z v0 h0 n0 _ s₁.heap _
    rw [e0]
    exact ⟨congrArg (fun z => some (Value.int z)) (Eq.symm ((if_neg hc3_1).trans ((if_pos hc32_20).trans rfl))), N0, rfl⟩
  refine G_ifNo X0 hx (pc' := 35) rfl (hb hby d8_32) ((if0 _ _).trans (flt (fun q => hc32_20 ((lw_gt _ _).1 q))).2.2.1) ?_
  refine G_iinc X0 hx (pc' := 38) rfl (hb hby d8_35) rfl (z := (2 : Int32)) rfl (L' := #[.val (.long v0), .second, .val (.long (-v0)), .second, .val (.int (2 : Int32)), .val (.long (-10 : Int64)), .second]) rfl ?_
  refine G_lload X0 hx (pc' := 40) rfl (hb hby d8_38) rfl ?_
  refine G_ldc2 X0 hx (pc' := 43) rfl hown (mvT hZ (own_w hw 152 rfl)) (hb hby d8_40) ?_
  refine G_lmul X0 hx (pc' := 44) rfl (hb hby d8_43)  ?_
  rw [show ((-10 : Int64) * (10 : Int64)) = (-100 : Int64) from by decide]
  refine G_lstore X0 hx (pc' := 46) rfl (hb hby d8_44) (L' := #[.val (.long v0), .second, .val (.long (-v0)), .second, .val (.int (2 : Int32)), .val (.long (-100 : Int64)), .second]) rfl ?_
  refine G_goto X0 hx (pc' := 21) (hb hby d8_46)  (by decide) (by decide) ?_
  refine G_iload X0 hx (pc' := 23) rfl (hb hby d8_21) rfl ?_
  refine G_bipush X0 hx (pc' := 25) rfl (hb hby d8_23) (z := (18 : Int32)) rfl ?_
  refine G_icmpNo X0 hx (pc' := 28) rfl (hb hby d8_25) (flt (by decide : ¬ ((18 : Int32) < (2 : Int32)))).2.2.1 ?_
  refine G_lloadN X0 hx (pc' := 29) rfl (hb hby d8_28) rfl ?_
  refine G_lload X0 hx (pc' := 31) rfl (hb hby d8_29) rfl ?_
  refine G_lcmp X0 hx (pc' := 32) rfl (hb hby d8_31)  ?_
  by_cases hc32_21 : (-100 : Int64) < (-v0)
  · refine G_ifYes X0 hx (pc' := 49) (hb hby d8_32) ((if0 _ _).trans (tlt ((lw_gt _ _).2 hc32_21)).2.2.1) (by decide) (by decide) ?_
    refine G_lloadN X0 hx (pc' := 50) rfl (hb hby d8_49) rfl ?_
    refine G_lconst X0 hx (pc' := 51) rfl (hb hby d8_50) (z := (0 : Int64)) rfl ?_
    refine G_lcmp X0 hx (pc' := 52) rfl (hb hby d8_51)  ?_
    refine G_ifYes X0 hx (pc' := 62) (hb hby d8_52) ((if0 _ _).trans (flt (fun q => hc3_1 ((lw_lt _ _).1 q))).2.1) (by decide) (by decide) ?_
    refine G_iload X0 hx (pc' := 64) rfl (hb hby d8_62) rfl ?_
    refine Go.fin X0 hlk (v := some (.int (2 : Int32))) (fun h => by rw [Bd.returns] at h; cases h) (by decide) (by decide) ?_ (fun fs hr => retOut X0 hx Bd.returns rfl (Or.inl ⟨rfl, Or.inl rfl, _, rfl⟩) (hb hby d8_64) hr)
    show Q_textLen Z v0 h0 n0 _ s₁.heap _
    rw [e0]
    exact ⟨congrArg (fun z => some (Value.int z)) (Eq.symm ((if_neg hc3_1).trans ((if_neg hc32_20).trans ((if_pos hc32_21).trans rfl)))), N0, rfl⟩
  refine G_ifNo X0 hx (pc' := 35) rfl (hb hby d8_32) ((if0 _ _).trans (flt (fun q => hc32_21 ((lw_gt _ _).1 q))).2.2.1) ?_
  refine G_iinc X0 hx (pc' := 38) rfl (hb hby d8_35) rfl (z := (3 : Int32)) rfl (L' := #[.val (.long v0), .second, .val (.long (-v0)), .second, .val (.int (3 : Int32)), .val (.long (-100 : Int64)), .second]) rfl ?_
  refine G_lload X0 hx (pc' := 40) rfl (hb hby d8_38) rfl ?_
  refine G_ldc2 X0 hx (pc' := 43) rfl hown (mvT hZ (own_w hw 152 rfl)) (hb hby d8_40) ?_
  refine G_lmul X0 hx (pc' := 44) rfl (hb hby d8_43)  ?_
  rw [show ((-100 : Int64) * (10 : Int64)) = (-1000 : Int64) from by decide]
  refine G_lstore X0 hx (pc' := 46) rfl (hb hby d8_44) (L' := #[.val (.long v0), .second, .val (.long (-v0)), .second, .val (.int (3 : Int32)), .val (.long (-1000 : Int64)), .second]) rfl ?_
  refine G_goto X0 hx (pc' := 21) (hb hby d8_46)  (by decide) (by decide) ?_
  refine G_iload X0 hx (pc' := 23) rfl (hb hby d8_21) rfl ?_
  refine G_bipush X0 hx (pc' := 25) rfl (hb hby d8_23) (z := (18 : Int32)) rfl ?_
  refine G_icmpNo X0 hx (pc' := 28) rfl (hb hby d8_25) (flt (by decide : ¬ ((18 : Int32) < (3 : Int32)))).2.2.1 ?_
  refine G_lloadN X0 hx (pc' := 29) rfl (hb hby d8_28) rfl ?_
  refine G_lload X0 hx (pc' := 31) rfl (hb hby d8_29) rfl ?_
  refine G_lcmp X0 hx (pc' := 32) rfl (hb hby d8_31)  ?_
  by_cases hc32_22 : (-1000 : Int64) < (-v0)
  · refine G_ifYes X0 hx (pc' := 49) (hb hby d8_32) ((if0 _ _).trans (tlt ((lw_gt _ _).2 hc32_22)).2.2.1) (by decide) (by decide) ?_
    refine G_lloadN X0 hx (pc' := 50) rfl (hb hby d8_49) rfl ?_
    refine G_lconst X0 hx (pc' := 51) rfl (hb hby d8_50) (z := (0 : Int64)) rfl ?_
    refine G_lcmp X0 hx (pc' := 52) rfl (hb hby d8_51)  ?_
    refine G_ifYes X0 hx (pc' := 62) (hb hby d8_52) ((if0 _ _).trans (flt (fun q => hc3_1 ((lw_lt _ _).1 q))).2.1) (by decide) (by decide) ?_
    refine G_iload X0 hx (pc' := 64) rfl (hb hby d8_62) rfl ?_
    refine Go.fin X0 hlk (v := some (.int (3 : Int32))) (fun h => by rw [Bd.returns] at h; cases h) (by decide) (by decide) ?_ (fun fs hr => retOut X0 hx Bd.returns rfl (Or.inl ⟨rfl, Or.inl rfl, _, rfl⟩) (hb hby d8_64) hr)
    show Q_textLen Z v0 h0 n0 _ s₁.heap _
    rw [e0]
    exact ⟨congrArg (fun z => some (Value.int z)) (Eq.symm ((if_neg hc3_1).trans ((if_neg hc32_20).trans ((if_neg hc32_21).trans ((if_pos hc32_22).trans rfl))))), N0, rfl⟩
  refine G_ifNo X0 hx (pc' := 35) rfl (hb hby d8_32) ((if0 _ _).trans (flt (fun q => hc32_22 ((lw_gt _ _).1 q))).2.2.1) ?_
  refine G_iinc X0 hx (pc' := 38) rfl (hb hby d8_35) rfl (z := (4 : Int32)) rfl (L' := #[.val (.long v0), .second, .val (.long (-v0)), .second, .val (.int (4 : Int32)), .val (.long (-1000 : Int64)), .second]) rfl ?_
  refine G_lload X0 hx (pc' := 40) rfl (hb hby d8_38) rfl ?_
  refine G_ldc2 X0 hx (pc' := 43) rfl hown (mvT hZ (own_w hw 152 rfl)) (hb hby d8_40) ?_
  refine G_lmul X0 hx (pc' := 44) rfl (hb hby d8_43)  ?_
  rw [show ((-1000 : Int64) * (10 : Int64)) = (-10000 : Int64) from by decide]
  refine G_lstore X0 hx (pc' := 46) rfl (hb hby d8_44) (L' := #[.val (.long v0), .second, .val (.long (-v0)), .second, .val (.int (4 : Int32)), .val (.long (-10000 : Int64)), .second]) rfl ?_
  refine G_goto X0 hx (pc' := 21) (hb hby d8_46)  (by decide) (by decide) ?_
  refine G_iload X0 hx (pc' := 23) rfl (hb hby d8_21) rfl ?_
  refine G_bipush X0 hx (pc' := 25) rfl (hb hby d8_23) (z := (18 : Int32)) rfl ?_
  refine G_icmpNo X0 hx (pc' := 28) rfl (hb hby d8_25) (flt (by decide : ¬ ((18 : Int32) < (4 : Int32)))).2.2.1 ?_
  refine G_lloadN X0 hx (pc' := 29) rfl (hb hby d8_28) rfl ?_
  refine G_lload X0 hx (pc' := 31) rfl (hb hby d8_29) rfl ?_
  refine G_lcmp X0 hx (pc' := 32) rfl (hb hby d8_31)  ?_
  by_cases hc32_23 : (-10000 : Int64) < (-v0)
  · refine G_ifYes X0 hx (pc' := 49) (hb hby d8_32) ((if0 _ _).trans (tlt ((lw_gt _ _).2 hc32_23)).2.2.1) (by decide) (by decide) ?_
    refine G_lloadN X0 hx (pc' := 50) rfl (hb hby d8_49) rfl ?_
    refine G_lconst X0 hx (pc' := 51) rfl (hb hby d8_50) (z := (0 : Int64)) rfl ?_
    refine G_lcmp X0 hx (pc' := 52) rfl (hb hby d8_51)  ?_
    refine G_ifYes X0 hx (pc' := 62) (hb hby d8_52) ((if0 _ _).trans (flt (fun q => hc3_1 ((lw_lt _ _).1 q))).2.1) (by decide) (by decide) ?_
    refine G_iload X0 hx (pc' := 64) rfl (hb hby d8_62) rfl ?_
    refine Go.fin X0 hlk (v := some (.int (4 : Int32))) (fun h => by rw [Bd.returns] at h; cases h) (by decide) (by decide) ?_ (fun fs hr => retOut X0 hx Bd.returns rfl (Or.inl ⟨rfl, Or.inl rfl, _, rfl⟩) (hb hby d8_64) hr)
    show Q_textLen Z v0 h0 n0 _ s₁.heap _
    rw [e0]
    exact ⟨congrArg (fun z => some (Value.int z)) (Eq.symm ((if_neg hc3_1).trans ((if_neg hc32_20).trans ((if_neg hc32_21).trans ((if_neg hc32_22).trans ((if_pos hc32_23).trans rfl)))))), N0, rfl⟩
  refine G_ifNo X0 hx (pc' := 35) rfl (hb hby d8_32) ((if0 _ _).trans (flt (fun q => hc32_23 ((lw_gt _ _).1 q))).2.2.1) ?_
  refine G_iinc X0 hx (pc' := 38) rfl (hb hby d8_35) rfl (z := (5 : Int32)) rfl (L' := #[.val (.long v0), .second, .val (.long (-v0)), .second, .val (.int (5 : Int32)), .val (.long (-10000 : Int64)), .second]) rfl ?_
  refine G_lload X0 hx (pc' := 40) rfl (hb hby d8_38) rfl ?_
  refine G_ldc2 X0 hx (pc' := 43) rfl hown (mvT hZ (own_w hw 152 rfl)) (hb hby d8_40) ?_
  refine G_lmul X0 hx (pc' := 44) rfl (hb hby d8_43)  ?_
  rw [show ((-10000 : Int64) * (10 : Int64)) = (-100000 : Int64) from by decide]
  refine G_lstore X0 hx (pc' := 46) rfl (hb hby d8_44) (L' := #[.val (.long v0), .second, .val (.long (-v0)), .second, .val (.int (5 : Int32)), .val (.long (-100000 : Int64)), .second]) rfl ?_
  refine G_goto X0 hx (pc' := 21) (hb hby d8_46)  (by decide) (by decide) ?_
  refine G_iload X0 hx (pc' := 23) rfl (hb hby d8_21) rfl ?_
  refine G_bipush X0 hx (pc' := 25) rfl (hb hby d8_23) (z := (18 : Int32)) rfl ?_
  refine G_icmpNo X0 hx (pc' := 28) rfl (hb hby d8_25) (flt (by decide : ¬ ((18 : Int32) < (5 : Int32)))).2.2.1 ?_
  refine G_lloadN X0 hx (pc' := 29) rfl (hb hby d8_28) rfl ?_
  refine G_lload X0 hx (pc' := 31) rfl (hb hby d8_29) rfl ?_
  refine G_lcmp X0 hx (pc' := 32) rfl (hb hby d8_31)  ?_
  by_cases hc32_24 : (-100000 : Int64) < (-v0)
  · refine G_ifYes X0 hx (pc' := 49) (hb hby d8_32) ((if0 _ _).trans (tlt ((lw_gt _ _).2 hc32_24)).2.2.1) (by decide) (by decide) ?_
    refine G_lloadN X0 hx (pc' := 50) rfl (hb hby d8_49) rfl ?_
    refine G_lconst X0 hx (pc' := 51) rfl (hb hby d8_50) (z := (0 : Int64)) rfl ?_
    refine G_lcmp X0 hx (pc' := 52) rfl (hb hby d8_51)  ?_
    refine G_ifYes X0 hx (pc' := 62) (hb hby d8_52) ((if0 _ _).trans (flt (fun q => hc3_1 ((lw_lt _ _).1 q))).2.1) (by decide) (by decide) ?_
    refine G_iload X0 hx (pc' := 64) rfl (hb hby d8_62) rfl ?_
    refine Go.fin X0 hlk (v := some (.int (5 : Int32))) (fun h => by rw [Bd.returns] at h; cases h) (by decide) (by decide) ?_ (fun fs hr => retOut X0 hx Bd.returns rfl (Or.inl ⟨rfl, Or.inl rfl, _, rfl⟩) (hb hby d8_64) hr)
    show Q_textLen Z v0 h0 n0 _ s₁.heap _
    rw [e0]
    exact ⟨congrArg (fun z => some (Value.int z)) (Eq.symm ((if_neg hc3_1).trans ((if_neg hc32_20).trans ((if_neg hc32_21).trans ((if_neg hc32_22).trans ((if_neg hc32_23).trans ((if_pos hc32_24).trans rfl))))))), N0, rfl⟩
  refine G_ifNo X0 hx (pc' := 35) rfl (hb hby d8_32) ((if0 _ _).trans (flt (fun q => hc32_24 ((lw_gt _ _).1 q))).2.2.1) ?_
  refine G_iinc X0 hx (pc' := 38) rfl (hb hby d8_35) rfl (z := (6 : Int32)) rfl (L' := #[.val (.long v0), .second, .val (.long (-v0)), .second, .val (.int (6 : Int32)), .val (.long (-100000 : Int64)), .second]) rfl ?_
  refine G_lload X0 hx (pc' := 40) rfl (hb hby d8_38) rfl ?_
  refine G_ldc2 X0 hx (pc' := 43) rfl hown (mvT hZ (own_w hw 152 rfl)) (hb hby d8_40) ?_
  refine G_lmul X0 hx (pc' := 44) rfl (hb hby d8_43)  ?_
  rw [show ((-100000 : Int64) * (10 : Int64)) = (-1000000 : Int64) from by decide]
  refine G_lstore X0 hx (pc' := 46) rfl (hb hby d8_44) (L' := #[.val (.long v0), .second, .val (.long (-v0)), .second, .val (.int (6 : Int32)), .val (.long (-1000000 : Int64)), .second]) rfl ?_
  refine G_goto X0 hx (pc' := 21) (hb hby d8_46)  (by decide) (by decide) ?_
  refine G_iload X0 hx (pc' := 23) rfl (hb hby d8_21) rfl ?_
  refine G_bipush X0 hx (pc' := 25) rfl (hb hby d8_23) (z := (18 : Int32)) rfl ?_
  refine G_icmpNo X0 hx (pc' := 28) rfl (hb hby d8_25) (flt (by decide : ¬ ((18 : Int32) < (6 : Int32)))).2.2.1 ?_
  refine G_lloadN X0 hx (pc' := 29) rfl (hb hby d8_28) rfl ?_
  refine G_lload X0 hx (pc' := 31) rfl (hb hby d8_29) rfl ?_
  refine G_lcmp X0 hx (pc' := 32) rfl (hb hby d8_31)  ?_
  by_cases hc32_25 : (-1000000 : Int64) < (-v0)
  · refine G_ifYes X0 hx (pc' := 49) (hb hby d8_32) ((if0 _ _).trans (tlt ((lw_gt _ _).2 hc32_25)).2.2.1) (by decide) (by decide) ?_
    refine G_lloadN X0 hx (pc' := 50) rfl (hb hby d8_49) rfl ?_
    refine G_lconst X0 hx (pc' := 51) rfl (hb hby d8_50) (z := (0 : Int64)) rfl ?_
    refine G_lcmp X0 hx (pc' := 52) rfl (hb hby d8_51)  ?_
    refine G_ifYes X0 hx (pc' := 62) (hb hby d8_52) ((if0 _ _).trans (flt (fun q => hc3_1 ((lw_lt _ _).1 q))).2.1) (by decide) (by decide) ?_
    refine G_iload X0 hx (pc' := 64) rfl (hb hby d8_62) rfl ?_
    refine Go.fin X0 hlk (v := some (.int (6 : Int32))) (fun h => by rw [Bd.returns] at h; cases h) (by decide) (by decide) ?_ (fun fs hr => retOut X0 hx Bd.returns rfl (Or.inl ⟨rfl, Or.inl rfl, _, rfl⟩) (hb hby d8_64) hr)
    show Q_textLen Z v0 h0 n0 _ s₁.heap _
    rw [e0]
    exact ⟨congrArg (fun z => some (Value.int z)) (Eq.symm ((if_neg hc3_1).trans ((if_neg hc32_20).trans ((if_neg hc32_21).trans ((if_neg hc32_22).trans ((if_neg hc32_23).trans ((if_neg hc32_24).trans ((if_pos hc32_25).trans rfl)))))))), N0, rfl⟩
  refine G_ifNo X0 hx (pc' := 35) rfl (hb hby d8_32) ((if0 _ _).trans (flt (fun q => hc32_25 ((lw_gt _ _).1 q))).2.2.1) ?_
  refine G_iinc X0 hx (pc' := 38) rfl (hb hby d8_35) rfl (z := (7 : Int32)) rfl (L' := #[.val (.long v0), .second, .val (.long (-v0)), .second, .val (.int (7 : Int32)), .val (.long (-1000000 : Int64)), .second]) rfl ?_
  refine G_lload X0 hx (pc' := 40) rfl (hb hby d8_38) rfl ?_
  refine G_ldc2 X0 hx (pc' := 43) rfl hown (mvT hZ (own_w hw 152 rfl)) (hb hby d8_40) ?_
  refine G_lmul X0 hx (pc' := 44) rfl (hb hby d8_43)  ?_
  rw [show ((-1000000 : Int64) * (10 : Int64)) = (-10000000 : Int64) from by decide]
  refine G_lstore X0 hx (pc' := 46) rfl (hb hby d8_44) (L' := #[.val (.long v0), .second, .val (.long (-v0)), .second, .val (.int (7 : Int32)), .val (.long (-10000000 : Int64)), .second]) rfl ?_
  refine G_goto X0 hx (pc' := 21) (hb hby d8_46)  (by decide) (by decide) ?_
  refine G_iload X0 hx (pc' := 23) rfl (hb hby d8_21) rfl ?_
  refine G_bipush X0 hx (pc' := 25) rfl (hb hby d8_23) (z := (18 : Int32)) rfl ?_
  refine G_icmpNo X0 hx (pc' := 28) rfl (hb hby d8_25) (flt (by decide : ¬ ((18 : Int32) < (7 : Int32)))).2.2.1 ?_
  refine G_lloadN X0 hx (pc' := 29) rfl (hb hby d8_28) rfl ?_
  refine G_lload X0 hx (pc' := 31) rfl (hb hby d8_29) rfl ?_
  refine G_lcmp X0 hx (pc' := 32) rfl (hb hby d8_31)  ?_
  by_cases hc32_26 : (-10000000 : Int64) < (-v0)
  · refine G_ifYes X0 hx (pc' := 49) (hb hby d8_32) ((if0 _ _).trans (tlt ((lw_gt _ _).2 hc32_26)).2.2.1) (by decide) (by decide) ?_
    refine G_lloadN X0 hx (pc' := 50) rfl (hb hby d8_49) rfl ?_
    refine G_lconst X0 hx (pc' := 51) rfl (hb hby d8_50) (z := (0 : Int64)) rfl ?_
    refine G_lcmp X0 hx (pc' := 52) rfl (hb hby d8_51)  ?_
    refine G_ifYes X0 hx (pc' := 62) (hb hby d8_52) ((if0 _ _).trans (flt (fun q => hc3_1 ((lw_lt _ _).1 q))).2.1) (by decide) (by decide) ?_
    refine G_iload X0 hx (pc' := 64) rfl (hb hby d8_62) rfl ?_
    refine Go.fin X0 hlk (v := some (.int (7 : Int32))) (fun h => by rw [Bd.returns] at h; cases h) (by decide) (by decide) ?_ (fun fs hr => retOut X0 hx Bd.returns rfl (Or.inl ⟨rfl, Or.inl rfl, _, rfl⟩) (hb hby d8_64) hr)
    show Q_textLen Z v0 h0 n0 _ s₁.heap _
    rw [e0]
    exact ⟨congrArg (fun z => some (Value.int z)) (Eq.symm ((if_neg hc3_1).trans ((if_neg hc32_20).trans ((if_neg hc32_21).trans ((if_neg hc32_22).trans ((if_neg hc32_23).trans ((if_neg hc32_24).trans ((if_neg hc32_25).trans ((if_pos hc32_26).trans rfl))))))))), N0, rfl⟩
  refine G_ifNo X0 hx (pc' := 35) rfl (hb hby d8_32) ((if0 _ _).trans (flt (fun q => hc32_26 ((lw_gt _ _).1 q))).2.2.1) ?_
  refine G_iinc X0 hx (pc' := 38) rfl (hb hby d8_35) rfl (z := (8 : Int32)) rfl (L' := #[.val (.long v0), .second, .val (.long (-v0)), .second, .val (.int (8 : Int32)), .val (.long (-10000000 : Int64)), .second]) rfl ?_
  refine G_lload X0 hx (pc' := 40) rfl (hb hby d8_38) rfl ?_
  refine G_ldc2 X0 hx (pc' := 43) rfl hown (mvT hZ (own_w hw 152 rfl)) (hb hby d8_40) ?_
  refine G_lmul X0 hx (pc' := 44) rfl (hb hby d8_43)  ?_
  rw [show ((-10000000 : Int64) * (10 : Int64)) = (-100000000 : Int64) from by decide]
  refine G_lstore X0 hx (pc' := 46) rfl (hb hby d8_44) (L' := #[.val (.long v0), .second, .val (.long (-v0)), .second, .val (.int (8 : Int32)), .val (.long (-100000000 : Int64)), .second]) rfl ?_
  refine G_goto X0 hx (pc' := 21) (hb hby d8_46)  (by decide) (by decide) ?_
  refine G_iload X0 hx (pc' := 23) rfl (hb hby d8_21) rfl ?_
  refine G_bipush X0 hx (pc' := 25) rfl (hb hby d8_23) (z := (18 : Int32)) rfl ?_
  refine G_icmpNo X0 hx (pc' := 28) rfl (hb hby d8_25) (flt (by decide : ¬ ((18 : Int32) < (8 : Int32)))).2.2.1 ?_
  refine G_lloadN X0 hx (pc' := 29) rfl (hb hby d8_28) rfl ?_
  refine G_lload X0 hx (pc' := 31) rfl (hb hby d8_29) rfl ?_
  refine G_lcmp X0 hx (pc' := 32) rfl (hb hby d8_31)  ?_
  by_cases hc32_27 : (-100000000 : Int64) < (-v0)
  · refine G_ifYes X0 hx (pc' := 49) (hb hby d8_32) ((if0 _ _).trans (tlt ((lw_gt _ _).2 hc32_27)).2.2.1) (by decide) (by decide) ?_
    refine G_lloadN X0 hx (pc' := 50) rfl (hb hby d8_49) rfl ?_
    refine G_lconst X0 hx (pc' := 51) rfl (hb hby d8_50) (z := (0 : Int64)) rfl ?_
    refine G_lcmp X0 hx (pc' := 52) rfl (hb hby d8_51)  ?_
    refine G_ifYes X0 hx (pc' := 62) (hb hby d8_52) ((if0 _ _).trans (flt (fun q => hc3_1 ((lw_lt _ _).1 q))).2.1) (by decide) (by decide) ?_
    refine G_iload X0 hx (pc' := 64) rfl (hb hby d8_62) rfl ?_
    refine Go.fin X0 hlk (v := some (.int (8 : Int32))) (fun h => by rw [Bd.returns] at h; cases h) (by decide) (by decide) ?_ (fun fs hr => retOut X0 hx Bd.returns rfl (Or.inl ⟨rfl, Or.inl rfl, _, rfl⟩) (hb hby d8_64) hr)
    show Q_textLen Z v0 h0 n0 _ s₁.heap _
    rw [e0]
    exact ⟨congrArg (fun z => some (Value.int z)) (Eq.symm ((if_neg hc3_1).trans ((if_neg hc32_20).trans ((if_neg hc32_21).trans ((if_neg hc32_22).trans ((if_neg hc32_23).trans ((if_neg hc32_24).trans ((if_neg hc32_25).trans ((if_neg hc32_26).trans ((if_pos hc32_27).trans rfl)))))))))), N0, rfl⟩
  refine G_ifNo X0 hx (pc' := 35) rfl (hb hby d8_32) ((if0 _ _).trans (flt (fun q => hc32_27 ((lw_gt _ _).1 q))).2.2.1) ?_
  refine G_iinc X0 hx (pc' := 38) rfl (hb hby d8_35) rfl (z := (9 : Int32)) rfl (L' := #[.val (.long v0), .second, .val (.long (-v0)), .second, .val (.int (9 : Int32)), .val (.long (-100000000 : Int64)), .second]) rfl ?_
  refine G_lload X0 hx (pc' := 40) rfl (hb hby d8_38) rfl ?_
  refine G_ldc2 X0 hx (pc' := 43) rfl hown (mvT hZ (own_w hw 152 rfl)) (hb hby d8_40) ?_
  refine G_lmul X0 hx (pc' := 44) rfl (hb hby d8_43)  ?_
  rw [show ((-100000000 : Int64) * (10 : Int64)) = (-1000000000 : Int64) from by decide]
  refine G_lstore X0 hx (pc' := 46) rfl (hb hby d8_44) (L' := #[.val (.long v0), .second, .val (.long (-v0)), .second, .val (.int (9 : Int32)), .val (.long (-1000000000 : Int64)), .second]) rfl ?_
  refine G_goto X0 hx (pc' := 21) (hb hby d8_46)  (by decide) (by decide) ?_
  refine G_iload X0 hx (pc' := 23) rfl (hb hby d8_21) rfl ?_
  refine G_bipush X0 hx (pc' := 25) rfl (hb hby d8_23) (z := (18 : Int32)) rfl ?_
  refine G_icmpNo X0 hx (pc' := 28) rfl (hb hby d8_25) (flt (by decide : ¬ ((18 : Int32) < (9 : Int32)))).2.2.1 ?_
  refine G_lloadN X0 hx (pc' := 29) rfl (hb hby d8_28) rfl ?_
  refine G_lload X0 hx (pc' := 31) rfl (hb hby d8_29) rfl ?_
  refine G_lcmp X0 hx (pc' := 32) rfl (hb hby d8_31)  ?_
  by_cases hc32_28 : (-1000000000 : Int64) < (-v0)
  · refine G_ifYes X0 hx (pc' := 49) (hb hby d8_32) ((if0 _ _).trans (tlt ((lw_gt _ _).2 hc32_28)).2.2.1) (by decide) (by decide) ?_
    refine G_lloadN X0 hx (pc' := 50) rfl (hb hby d8_49) rfl ?_
    refine G_lconst X0 hx (pc' := 51) rfl (hb hby d8_50) (z := (0 : Int64)) rfl ?_
    refine G_lcmp X0 hx (pc' := 52) rfl (hb hby d8_51)  ?_
    refine G_ifYes X0 hx (pc' := 62) (hb hby d8_52) ((if0 _ _).trans (flt (fun q => hc3_1 ((lw_lt _ _).1 q))).2.1) (by decide) (by decide) ?_
    refine G_iload X0 hx (pc' := 64) rfl (hb hby d8_62) rfl ?_
    refine Go.fin X0 hlk (v := some (.int (9 : Int32))) (fun h => by rw [Bd.returns] at h; cases h) (by decide) (by decide) ?_ (fun fs hr => retOut X0 hx Bd.returns rfl (Or.inl ⟨rfl, Or.inl rfl, _, rfl⟩) (hb hby d8_64) hr)
    show Q_textLen Z v0 h0 n0 _ s₁.heap _
    rw [e0]
    exact ⟨congrArg (fun z => some (Value.int z)) (Eq.symm ((if_neg hc3_1).trans ((if_neg hc32_20).trans ((if_neg hc32_21).trans ((if_neg hc32_22).trans ((if_neg hc32_23).trans ((if_neg hc32_24).trans ((if_neg hc32_25).trans ((if_neg hc32_26).trans ((if_neg hc32_27).trans ((if_pos hc32_28).trans rfl))))))))))), N0, rfl⟩
  refine G_ifNo X0 hx (pc' := 35) rfl (hb hby d8_32) ((if0 _ _).trans (flt (fun q => hc32_28 ((lw_gt _ _).1 q))).2.2.1) ?_
  refine G_iinc X0 hx (pc' := 38) rfl (hb hby d8_35) rfl (z := (10 : Int32)) rfl (L' := #[.val (.long v0), .second, .val (.long (-v0)), .second, .val (.int (10 : Int32)), .val (.long (-1000000000 : Int64)), .second]) rfl ?_
  refine G_lload X0 hx (pc' := 40) rfl (hb hby d8_38) rfl ?_
  refine G_ldc2 X0 hx (pc' := 43) rfl hown (mvT hZ (own_w hw 152 rfl)) (hb hby d8_40) ?_
  refine G_lmul X0 hx (pc' := 44) rfl (hb hby d8_43)  ?_
  rw [show ((-1000000000 : Int64) * (10 : Int64)) = (-10000000000 : Int64) from by decide]
  refine G_lstore X0 hx (pc' := 46) rfl (hb hby d8_44) (L' := #[.val (.long v0), .second, .val (.long (-v0)), .second, .val (.int (10 : Int32)), .val (.long (-10000000000 : Int64)), .second]) rfl ?_
  refine G_goto X0 hx (pc' := 21) (hb hby d8_46)  (by decide) (by decide) ?_
  refine G_iload X0 hx (pc' := 23) rfl (hb hby d8_21) rfl ?_
  refine G_bipush X0 hx (pc' := 25) rfl (hb hby d8_23) (z := (18 : Int32)) rfl ?_
  refine G_icmpNo X0 hx (pc' := 28) rfl (hb hby d8_25) (flt (by decide : ¬ ((18 : Int32) < (10 : Int32)))).2.2.1 ?_
  refine G_lloadN X0 hx (pc' := 29) rfl (hb hby d8_28) rfl ?_
  refine G_lload X0 hx (pc' := 31) rfl (hb hby d8_29) rfl ?_
  refine G_lcmp X0 hx (pc' := 32) rfl (hb hby d8_31)  ?_
  by_cases hc32_29 : (-10000000000 : Int64) < (-v0)
  · refine G_ifYes X0 hx (pc' := 49) (hb hby d8_32) ((if0 _ _).trans (tlt ((lw_gt _ _).2 hc32_29)).2.2.1) (by decide) (by decide) ?_
    refine G_lloadN X0 hx (pc' := 50) rfl (hb hby d8_49) rfl ?_
    refine G_lconst X0 hx (pc' := 51) rfl (hb hby d8_50) (z := (0 : Int64)) rfl ?_
    refine G_lcmp X0 hx (pc' := 52) rfl (hb hby d8_51)  ?_
    refine G_ifYes X0 hx (pc' := 62) (hb hby d8_52) ((if0 _ _).trans (flt (fun q => hc3_1 ((lw_lt _ _).1 q))).2.1) (by decide) (by decide) ?_
    refine G_iload X0 hx (pc' := 64) rfl (hb hby d8_62) rfl ?_
    refine Go.fin X0 hlk (v := some (.int (10 : Int32))) (fun h => by rw [Bd.returns] at h; cases h) (by decide) (by decide) ?_ (fun fs hr => retOut X0 hx Bd.returns rfl (Or.inl ⟨rfl, Or.inl rfl, _, rfl⟩) (hb hby d8_64) hr)
    show Q_textLen Z v0 h0 n0 _ s₁.heap _
    rw [e0]
    exact ⟨congrArg (fun z => some (Value.int z)) (Eq.symm ((if_neg hc3_1).trans ((if_neg hc32_20).trans ((if_neg hc32_21).trans ((if_neg hc32_22).trans ((if_neg hc32_23).trans ((if_neg hc32_24).trans ((if_neg hc32_25).trans ((if_neg hc32_26).trans ((if_neg hc32_27).trans ((if_neg hc32_28).trans ((if_pos hc32_29).trans rfl)))))))))))), N0, rfl⟩
  refine G_ifNo X0 hx (pc' := 35) rfl (hb hby d8_32) ((if0 _ _).trans (flt (fun q => hc32_29 ((lw_gt _ _).1 q))).2.2.1) ?_
  refine G_iinc X0 hx (pc' := 38) rfl (hb hby d8_35) rfl (z := (11 : Int32)) rfl (L' := #[.val (.long v0), .second, .val (.long (-v0)), .second, .val (.int (11 : Int32)), .val (.long (-10000000000 : Int64)), .second]) rfl ?_
  refine G_lload X0 hx (pc' := 40) rfl (hb hby d8_38) rfl ?_
  refine G_ldc2 X0 hx (pc' := 43) rfl hown (mvT hZ (own_w hw 152 rfl)) (hb hby d8_40) ?_
  refine G_lmul X0 hx (pc' := 44) rfl (hb hby d8_43)  ?_
  rw [show ((-10000000000 : Int64) * (10 : Int64)) = (-100000000000 : Int64) from by decide]
  refine G_lstore X0 hx (pc' := 46) rfl (hb hby d8_44) (L' := #[.val (.long v0), .second, .val (.long (-v0)), .second, .val (.int (11 : Int32)), .val (.long (-100000000000 : Int64)), .second]) rfl ?_
  refine G_goto X0 hx (pc' := 21) (hb hby d8_46)  (by decide) (by decide) ?_
  refine G_iload X0 hx (pc' := 23) rfl (hb hby d8_21) rfl ?_
  refine G_bipush X0 hx (pc' := 25) rfl (hb hby d8_23) (z := (18 : Int32)) rfl ?_
  refine G_icmpNo X0 hx (pc' := 28) rfl (hb hby d8_25) (flt (by decide : ¬ ((18 : Int32) < (11 : Int32)))).2.2.1 ?_
  refine G_lloadN X0 hx (pc' := 29) rfl (hb hby d8_28) rfl ?_
  refine G_lload X0 hx (pc' := 31) rfl (hb hby d8_29) rfl ?_
  refine G_lcmp X0 hx (pc' := 32) rfl (hb hby d8_31)  ?_
  by_cases hc32_30 : (-100000000000 : Int64) < (-v0)
  · refine G_ifYes X0 hx (pc' := 49) (hb hby d8_32) ((if0 _ _).trans (tlt ((lw_gt _ _).2 hc32_30)).2.2.1) (by decide) (by decide) ?_
    refine G_lloadN X0 hx (pc' := 50) rfl (hb hby d8_49) rfl ?_
    refine G_lconst X0 hx (pc' := 51) rfl (hb hby d8_50) (z := (0 : Int64)) rfl ?_
    refine G_lcmp X0 hx (pc' := 52) rfl (hb hby d8_51)  ?_
    refine G_ifYes X0 hx (pc' := 62) (hb hby d8_52) ((if0 _ _).trans (flt (fun q => hc3_1 ((lw_lt _ _).1 q))).2.1) (by decide) (by decide) ?_
    refine G_iload X0 hx (pc' := 64) rfl (hb hby d8_62) rfl ?_
    refine Go.fin X0 hlk (v := some (.int (11 : Int32))) (fun h => by rw [Bd.returns] at h; cases h) (by decide) (by decide) ?_ (fun fs hr => retOut X0 hx Bd.returns rfl (Or.inl ⟨rfl, Or.inl rfl, _, rfl⟩) (hb hby d8_64) hr)
    show Q_textLen Z v0 h0 n0 _ s₁.heap _
    rw [e0]
    exact ⟨congrArg (fun z => some (Value.int z)) (Eq.symm ((if_neg hc3_1).trans ((if_neg hc32_20).trans ((if_neg hc32_21).trans ((if_neg hc32_22).trans ((if_neg hc32_23).trans ((if_neg hc32_24).trans ((if_neg hc32_25).trans ((if_neg hc32_26).trans ((if_neg hc32_27).trans ((if_neg hc32_28).trans ((if_neg hc32_29).trans ((if_pos hc32_30).trans rfl))))))))))))), N0, rfl⟩
  refine G_ifNo X0 hx (pc' := 35) rfl (hb hby d8_32) ((if0 _ _).trans (flt (fun q => hc32_30 ((lw_gt _ _).1 q))).2.2.1) ?_
  refine G_iinc X0 hx (pc' := 38) rfl (hb hby d8_35) rfl (z := (12 : Int32)) rfl (L' := #[.val (.long v0), .second, .val (.long (-v0)), .second, .val (.int (12 : Int32)), .val (.long (-100000000000 : Int64)), .second]) rfl ?_
  refine G_lload X0 hx (pc' := 40) rfl (hb hby d8_38) rfl ?_
  refine G_ldc2 X0 hx (pc' := 43) rfl hown (mvT hZ (own_w hw 152 rfl)) (hb hby d8_40) ?_
  refine G_lmul X0 hx (pc' := 44) rfl (hb hby d8_43)  ?_
  rw [show ((-100000000000 : Int64) * (10 : Int64)) = (-1000000000000 : Int64) from by decide]
  refine G_lstore X0 hx (pc' := 46) rfl (hb hby d8_44) (L' := #[.val (.long v0), .second, .val (.long (-v0)), .second, .val (.int (12 : Int32)), .val (.long (-1000000000000 : Int64)), .second]) rfl ?_
  refine G_goto X0 hx (pc' := 21) (hb hby d8_46)  (by decide) (by decide) ?_
  refine G_iload X0 hx (pc' := 23) rfl (hb hby d8_21) rfl ?_
  refine G_bipush X0 hx (pc' := 25) rfl (hb hby d8_23) (z := (18 : Int32)) rfl ?_
  refine G_icmpNo X0 hx (pc' := 28) rfl (hb hby d8_25) (flt (by decide : ¬ ((18 : Int32) < (12 : Int32)))).2.2.1 ?_
  refine G_lloadN X0 hx (pc' := 29) rfl (hb hby d8_28) rfl ?_
  refine G_lload X0 hx (pc' := 31) rfl (hb hby d8_29) rfl ?_
  refine G_lcmp X0 hx (pc' := 32) rfl (hb hby d8_31)  ?_
  by_cases hc32_31 : (-1000000000000 : Int64) < (-v0)
  · refine G_ifYes X0 hx (pc' := 49) (hb hby d8_32) ((if0 _ _).trans (tlt ((lw_gt _ _).2 hc32_31)).2.2.1) (by decide) (by decide) ?_
    refine G_lloadN X0 hx (pc' := 50) rfl (hb hby d8_49) rfl ?_
    refine G_lconst X0 hx (pc' := 51) rfl (hb hby d8_50) (z := (0 : Int64)) rfl ?_
    refine G_lcmp X0 hx (pc' := 52) rfl (hb hby d8_51)  ?_
    refine G_ifYes X0 hx (pc' := 62) (hb hby d8_52) ((if0 _ _).trans (flt (fun q => hc3_1 ((lw_lt _ _).1 q))).2.1) (by decide) (by decide) ?_
    refine G_iload X0 hx (pc' := 64) rfl (hb hby d8_62) rfl ?_
    refine Go.fin X0 hlk (v := some (.int (12 : Int32))) (fun h => by rw [Bd.returns] at h; cases h) (by decide) (by decide) ?_ (fun fs hr => retOut X0 hx Bd.returns rfl (Or.inl ⟨rfl, Or.inl rfl, _, rfl⟩) (hb hby d8_64) hr)
    show Q_textLen Z v0 h0 n0 _ s₁.heap _
    rw [e0]
    exact ⟨congrArg (fun z => some (Value.int z)) (Eq.symm ((if_neg hc3_1).trans ((if_neg hc32_20).trans ((if_neg hc32_21).trans ((if_neg hc32_22).trans ((if_neg hc32_23).trans ((if_neg hc32_24).trans ((if_neg hc32_25).trans ((if_neg hc32_26).trans ((if_neg hc32_27).trans ((if_neg hc32_28).trans ((if_neg hc32_29).trans ((if_neg hc32_30).trans ((if_pos hc32_31).trans rfl)))))))))))))), N0, rfl⟩
  refine G_ifNo X0 hx (pc' := 35) rfl (hb hby d8_32) ((if0 _ _).trans (flt (fun q => hc32_31 ((lw_gt _ _).1 q))).2.2.1) ?_
  refine G_iinc X0 hx (pc' := 38) rfl (hb hby d8_35) rfl (z := (13 : Int32)) rfl (L' := #[.val (.long v0), .second, .val (.long (-v0)), .second, .val (.int (13 : Int32)), .val (.long (-1000000000000 : Int64)), .second]) rfl ?_
  refine G_lload X0 hx (pc' := 40) rfl (hb hby d8_38) rfl ?_
  refine G_ldc2 X0 hx (pc' := 43) rfl hown (mvT hZ (own_w hw 152 rfl)) (hb hby d8_40) ?_
  refine G_lmul X0 hx (pc' := 44) rfl (hb hby d8_43)  ?_
  rw [show ((-1000000000000 : Int64) * (10 : Int64)) = (-10000000000000 : Int64) from by decide]
  refine G_lstore X0 hx (pc' := 46) rfl (hb hby d8_44) (L' := #[.val (.long v0), .second, .val (.long (-v0)), .second, .val (.int (13 : Int32)), .val (.long (-10000000000000 : Int64)), .second]) rfl ?_
  refine G_goto X0 hx (pc' := 21) (hb hby d8_46)  (by decide) (by decide) ?_
  refine G_iload X0 hx (pc' := 23) rfl (hb hby d8_21) rfl ?_
  refine G_bipush X0 hx (pc' := 25) rfl (hb hby d8_23) (z := (18 : Int32)) rfl ?_
  refine G_icmpNo X0 hx (pc' := 28) rfl (hb hby d8_25) (flt (by decide : ¬ ((18 : Int32) < (13 : Int32)))).2.2.1 ?_
  refine G_lloadN X0 hx (pc' := 29) rfl (hb hby d8_28) rfl ?_
  refine G_lload X0 hx (pc' := 31) rfl (hb hby d8_29) rfl ?_
  refine G_lcmp X0 hx (pc' := 32) rfl (hb hby d8_31)  ?_
  by_cases hc32_32 : (-10000000000000 : Int64) < (-v0)
  · refine G_ifYes X0 hx (pc' := 49) (hb hby d8_32) ((if0 _ _).trans (tlt ((lw_gt _ _).2 hc32_32)).2.2.1) (by decide) (by decide) ?_
    refine G_lloadN X0 hx (pc' := 50) rfl (hb hby d8_49) rfl ?_
    refine G_lconst X0 hx (pc' := 51) rfl (hb hby d8_50) (z := (0 : Int64)) rfl ?_
    refine G_lcmp X0 hx (pc' := 52) rfl (hb hby d8_51)  ?_
    refine G_ifYes X0 hx (pc' := 62) (hb hby d8_52) ((if0 _ _).trans (flt (fun q => hc3_1 ((lw_lt _ _).1 q))).2.1) (by decide) (by decide) ?_
    refine G_iload X0 hx (pc' := 64) rfl (hb hby d8_62) rfl ?_
    refine Go.fin X0 hlk (v := some (.int (13 : Int32))) (fun h => by rw [Bd.returns] at h; cases h) (by decide) (by decide) ?_ (fun fs hr => retOut X0 hx Bd.returns rfl (Or.inl ⟨rfl, Or.inl rfl, _, rfl⟩) (hb hby d8_64) hr)
    show Q_textLen Z v0 h0 n0 _ s₁.heap _
    rw [e0]
    exact ⟨congrArg (fun z => some (Value.int z)) (Eq.symm ((if_neg hc3_1).trans ((if_neg hc32_20).trans ((if_neg hc32_21).trans ((if_neg hc32_22).trans ((if_neg hc32_23).trans ((if_neg hc32_24).trans ((if_neg hc32_25).trans ((if_neg hc32_26).trans ((if_neg hc32_27).trans ((if_neg hc32_28).trans ((if_neg hc32_29).trans ((if_neg hc32_30).trans ((if_neg hc32_31).trans ((if_pos hc32_32).trans rfl))))))))))))))), N0, rfl⟩
  refine G_ifNo X0 hx (pc' := 35) rfl (hb hby d8_32) ((if0 _ _).trans (flt (fun q => hc32_32 ((lw_gt _ _).1 q))).2.2.1) ?_
  refine G_iinc X0 hx (pc' := 38) rfl (hb hby d8_35) rfl (z := (14 : Int32)) rfl (L' := #[.val (.long v0), .second, .val (.long (-v0)), .second, .val (.int (14 : Int32)), .val (.long (-10000000000000 : Int64)), .second]) rfl ?_
  refine G_lload X0 hx (pc' := 40) rfl (hb hby d8_38) rfl ?_
  refine G_ldc2 X0 hx (pc' := 43) rfl hown (mvT hZ (own_w hw 152 rfl)) (hb hby d8_40) ?_
  refine G_lmul X0 hx (pc' := 44) rfl (hb hby d8_43)  ?_
  rw [show ((-10000000000000 : Int64) * (10 : Int64)) = (-100000000000000 : Int64) from by decide]
  refine G_lstore X0 hx (pc' := 46) rfl (hb hby d8_44) (L' := #[.val (.long v0), .second, .val (.long (-v0)), .second, .val (.int (14 : Int32)), .val (.long (-100000000000000 : Int64)), .second]) rfl ?_
  refine G_goto X0 hx (pc' := 21) (hb hby d8_46)  (by decide) (by decide) ?_
  refine G_iload X0 hx (pc' := 23) rfl (hb hby d8_21) rfl ?_
  refine G_bipush X0 hx (pc' := 25) rfl (hb hby d8_23) (z := (18 : Int32)) rfl ?_
  refine G_icmpNo X0 hx (pc' := 28) rfl (hb hby d8_25) (flt (by decide : ¬ ((18 : Int32) < (14 : Int32)))).2.2.1 ?_
  refine G_lloadN X0 hx (pc' := 29) rfl (hb hby d8_28) rfl ?_
  refine G_lload X0 hx (pc' := 31) rfl (hb hby d8_29) rfl ?_
  refine G_lcmp X0 hx (pc' := 32) rfl (hb hby d8_31)  ?_
  by_cases hc32_33 : (-100000000000000 : Int64) < (-v0)
  · refine G_ifYes X0 hx (pc' := 49) (hb hby d8_32) ((if0 _ _).trans (tlt ((lw_gt _ _).2 hc32_33)).2.2.1) (by decide) (by decide) ?_
    refine G_lloadN X0 hx (pc' := 50) rfl (hb hby d8_49) rfl ?_
    refine G_lconst X0 hx (pc' := 51) rfl (hb hby d8_50) (z := (0 : Int64)) rfl ?_
    refine G_lcmp X0 hx (pc' := 52) rfl (hb hby d8_51)  ?_
    refine G_ifYes X0 hx (pc' := 62) (hb hby d8_52) ((if0 _ _).trans (flt (fun q => hc3_1 ((lw_lt _ _).1 q))).2.1) (by decide) (by decide) ?_
    refine G_iload X0 hx (pc' := 64) rfl (hb hby d8_62) rfl ?_
    refine Go.fin X0 hlk (v := some (.int (14 : Int32))) (fun h => by rw [Bd.returns] at h; cases h) (by decide) (by decide) ?_ (fun fs hr => retOut X0 hx Bd.returns rfl (Or.inl ⟨rfl, Or.inl rfl, _, rfl⟩) (hb hby d8_64) hr)
    show Q_textLen Z v0 h0 n0 _ s₁.heap _
    rw [e0]
    exact ⟨congrArg (fun z => some (Value.int z)) (Eq.symm ((if_neg hc3_1).trans ((if_neg hc32_20).trans ((if_neg hc32_21).trans ((if_neg hc32_22).trans ((if_neg hc32_23).trans ((if_neg hc32_24).trans ((if_neg hc32_25).trans ((if_neg hc32_26).trans ((if_neg hc32_27).trans ((if_neg hc32_28).trans ((if_neg hc32_29).trans ((if_neg hc32_30).trans ((if_neg hc32_31).trans ((if_neg hc32_32).trans ((if_pos hc32_33).trans rfl)))))))))))))))), N0, rfl⟩
  refine G_ifNo X0 hx (pc' := 35) rfl (hb hby d8_32) ((if0 _ _).trans (flt (fun q => hc32_33 ((lw_gt _ _).1 q))).2.2.1) ?_
  refine G_iinc X0 hx (pc' := 38) rfl (hb hby d8_35) rfl (z := (15 : Int32)) rfl (L' := #[.val (.long v0), .second, .val (.long (-v0)), .second, .val (.int (15 : Int32)), .val (.long (-100000000000000 : Int64)), .second]) rfl ?_
  refine G_lload X0 hx (pc' := 40) rfl (hb hby d8_38) rfl ?_
  refine G_ldc2 X0 hx (pc' := 43) rfl hown (mvT hZ (own_w hw 152 rfl)) (hb hby d8_40) ?_
  refine G_lmul X0 hx (pc' := 44) rfl (hb hby d8_43)  ?_
  rw [show ((-100000000000000 : Int64) * (10 : Int64)) = (-1000000000000000 : Int64) from by decide]
  refine G_lstore X0 hx (pc' := 46) rfl (hb hby d8_44) (L' := #[.val (.long v0), .second, .val (.long (-v0)), .second, .val (.int (15 : Int32)), .val (.long (-1000000000000000 : Int64)), .second]) rfl ?_
  refine G_goto X0 hx (pc' := 21) (hb hby d8_46)  (by decide) (by decide) ?_
  refine G_iload X0 hx (pc' := 23) rfl (hb hby d8_21) rfl ?_
  refine G_bipush X0 hx (pc' := 25) rfl (hb hby d8_23) (z := (18 : Int32)) rfl ?_
  refine G_icmpNo X0 hx (pc' := 28) rfl (hb hby d8_25) (flt (by decide : ¬ ((18 : Int32) < (15 : Int32)))).2.2.1 ?_
  refine G_lloadN X0 hx (pc' := 29) rfl (hb hby d8_28) rfl ?_
  refine G_lload X0 hx (pc' := 31) rfl (hb hby d8_29) rfl ?_
  refine G_lcmp X0 hx (pc' := 32) rfl (hb hby d8_31)  ?_
  by_cases hc32_34 : (-1000000000000000 : Int64) < (-v0)
  · refine G_ifYes X0 hx (pc' := 49) (hb hby d8_32) ((if0 _ _).trans (tlt ((lw_gt _ _).2 hc32_34)).2.2.1) (by decide) (by decide) ?_
    refine G_lloadN X0 hx (pc' := 50) rfl (hb hby d8_49) rfl ?_
    refine G_lconst X0 hx (pc' := 51) rfl (hb hby d8_50) (z := (0 : Int64)) rfl ?_
    refine G_lcmp X0 hx (pc' := 52) rfl (hb hby d8_51)  ?_
    refine G_ifYes X0 hx (pc' := 62) (hb hby d8_52) ((if0 _ _).trans (flt (fun q => hc3_1 ((lw_lt _ _).1 q))).2.1) (by decide) (by decide) ?_
    refine G_iload X0 hx (pc' := 64) rfl (hb hby d8_62) rfl ?_
    refine Go.fin X0 hlk (v := some (.int (15 : Int32))) (fun h => by rw [Bd.returns] at h; cases h) (by decide) (by decide) ?_ (fun fs hr => retOut X0 hx Bd.returns rfl (Or.inl ⟨rfl, Or.inl rfl, _, rfl⟩) (hb hby d8_64) hr)
    show Q_textLen Z v0 h0 n0 _ s₁.heap _
    rw [e0]
    exact ⟨congrArg (fun z => some (Value.int z)) (Eq.symm ((if_neg hc3_1).trans ((if_neg hc32_20).trans ((if_neg hc32_21).trans ((if_neg hc32_22).trans ((if_neg hc32_23).trans ((if_neg hc32_24).trans ((if_neg hc32_25).trans ((if_neg hc32_26).trans ((if_neg hc32_27).trans ((if_neg hc32_28).trans ((if_neg hc32_29).trans ((if_neg hc32_30).trans ((if_neg hc32_31).trans ((if_neg hc32_32).trans ((if_neg hc32_33).trans ((if_pos hc32_34).trans rfl))))))))))))))))), N0, rfl⟩
  refine G_ifNo X0 hx (pc' := 35) rfl (hb hby d8_32) ((if0 _ _).trans (flt (fun q => hc32_34 ((lw_gt _ _).1 q))).2.2.1) ?_
  refine G_iinc X0 hx (pc' := 38) rfl (hb hby d8_35) rfl (z := (16 : Int32)) rfl (L' := #[.val (.long v0), .second, .val (.long (-v0)), .second, .val (.int (16 : Int32)), .val (.long (-1000000000000000 : Int64)), .second]) rfl ?_
  refine G_lload X0 hx (pc' := 40) rfl (hb hby d8_38) rfl ?_
  refine G_ldc2 X0 hx (pc' := 43) rfl hown (mvT hZ (own_w hw 152 rfl)) (hb hby d8_40) ?_
  refine G_lmul X0 hx (pc' := 44) rfl (hb hby d8_43)  ?_
  rw [show ((-1000000000000000 : Int64) * (10 : Int64)) = (-10000000000000000 : Int64) from by decide]
  refine G_lstore X0 hx (pc' := 46) rfl (hb hby d8_44) (L' := #[.val (.long v0), .second, .val (.long (-v0)), .second, .val (.int (16 : Int32)), .val (.long (-10000000000000000 : Int64)), .second]) rfl ?_
  refine G_goto X0 hx (pc' := 21) (hb hby d8_46)  (by decide) (by decide) ?_
  refine G_iload X0 hx (pc' := 23) rfl (hb hby d8_21) rfl ?_
  refine G_bipush X0 hx (pc' := 25) rfl (hb hby d8_23) (z := (18 : Int32)) rfl ?_
  refine G_icmpNo X0 hx (pc' := 28) rfl (hb hby d8_25) (flt (by decide : ¬ ((18 : Int32) < (16 : Int32)))).2.2.1 ?_
  refine G_lloadN X0 hx (pc' := 29) rfl (hb hby d8_28) rfl ?_
  refine G_lload X0 hx (pc' := 31) rfl (hb hby d8_29) rfl ?_
  refine G_lcmp X0 hx (pc' := 32) rfl (hb hby d8_31)  ?_
  by_cases hc32_35 : (-10000000000000000 : Int64) < (-v0)
  · refine G_ifYes X0 hx (pc' := 49) (hb hby d8_32) ((if0 _ _).trans (tlt ((lw_gt _ _).2 hc32_35)).2.2.1) (by decide) (by decide) ?_
    refine G_lloadN X0 hx (pc' := 50) rfl (hb hby d8_49) rfl ?_
    refine G_lconst X0 hx (pc' := 51) rfl (hb hby d8_50) (z := (0 : Int64)) rfl ?_
    refine G_lcmp X0 hx (pc' := 52) rfl (hb hby d8_51)  ?_
    refine G_ifYes X0 hx (pc' := 62) (hb hby d8_52) ((if0 _ _).trans (flt (fun q => hc3_1 ((lw_lt _ _).1 q))).2.1) (by decide) (by decide) ?_
    refine G_iload X0 hx (pc' := 64) rfl (hb hby d8_62) rfl ?_
    refine Go.fin X0 hlk (v := some (.int (16 : Int32))) (fun h => by rw [Bd.returns] at h; cases h) (by decide) (by decide) ?_ (fun fs hr => retOut X0 hx Bd.returns rfl (Or.inl ⟨rfl, Or.inl rfl, _, rfl⟩) (hb hby d8_64) hr)
    show Q_textLen Z v0 h0 n0 _ s₁.heap _
    rw [e0]
    exact ⟨congrArg (fun z => some (Value.int z)) (Eq.symm ((if_neg hc3_1).trans ((if_neg hc32_20).trans ((if_neg hc32_21).trans ((if_neg hc32_22).trans ((if_neg hc32_23).trans ((if_neg hc32_24).trans ((if_neg hc32_25).trans ((if_neg hc32_26).trans ((if_neg hc32_27).trans ((if_neg hc32_28).trans ((if_neg hc32_29).trans ((if_neg hc32_30).trans ((if_neg hc32_31).trans ((if_neg hc32_32).trans ((if_neg hc32_33).trans ((if_neg hc32_34).trans ((if_pos hc32_35).trans rfl)))))))))))))))))), N0, rfl⟩
  refine G_ifNo X0 hx (pc' := 35) rfl (hb hby d8_32) ((if0 _ _).trans (flt (fun q => hc32_35 ((lw_gt _ _).1 q))).2.2.1) ?_
  refine G_iinc X0 hx (pc' := 38) rfl (hb hby d8_35) rfl (z := (17 : Int32)) rfl (L' := #[.val (.long v0), .second, .val (.long (-v0)), .second, .val (.int (17 : Int32)), .val (.long (-10000000000000000 : Int64)), .second]) rfl ?_
  refine G_lload X0 hx (pc' := 40) rfl (hb hby d8_38) rfl ?_
  refine G_ldc2 X0 hx (pc' := 43) rfl hown (mvT hZ (own_w hw 152 rfl)) (hb hby d8_40) ?_
  refine G_lmul X0 hx (pc' := 44) rfl (hb hby d8_43)  ?_
  rw [show ((-10000000000000000 : Int64) * (10 : Int64)) = (-100000000000000000 : Int64) from by decide]
  refine G_lstore X0 hx (pc' := 46) rfl (hb hby d8_44) (L' := #[.val (.long v0), .second, .val (.long (-v0)), .second, .val (.int (17 : Int32)), .val (.long (-100000000000000000 : Int64)), .second]) rfl ?_
  refine G_goto X0 hx (pc' := 21) (hb hby d8_46)  (by decide) (by decide) ?_
  refine G_iload X0 hx (pc' := 23) rfl (hb hby d8_21) rfl ?_
  refine G_bipush X0 hx (pc' := 25) rfl (hb hby d8_23) (z := (18 : Int32)) rfl ?_
  refine G_icmpNo X0 hx (pc' := 28) rfl (hb hby d8_25) (flt (by decide : ¬ ((18 : Int32) < (17 : Int32)))).2.2.1 ?_
  refine G_lloadN X0 hx (pc' := 29) rfl (hb hby d8_28) rfl ?_
  refine G_lload X0 hx (pc' := 31) rfl (hb hby d8_29) rfl ?_
  refine G_lcmp X0 hx (pc' := 32) rfl (hb hby d8_31)  ?_
  by_cases hc32_36 : (-100000000000000000 : Int64) < (-v0)
  · refine G_ifYes X0 hx (pc' := 49) (hb hby d8_32) ((if0 _ _).trans (tlt ((lw_gt _ _).2 hc32_36)).2.2.1) (by decide) (by decide) ?_
    refine G_lloadN X0 hx (pc' := 50) rfl (hb hby d8_49) rfl ?_
    refine G_lconst X0 hx (pc' := 51) rfl (hb hby d8_50) (z := (0 : Int64)) rfl ?_
    refine G_lcmp X0 hx (pc' := 52) rfl (hb hby d8_51)  ?_
    refine G_ifYes X0 hx (pc' := 62) (hb hby d8_52) ((if0 _ _).trans (flt (fun q => hc3_1 ((lw_lt _ _).1 q))).2.1) (by decide) (by decide) ?_
    refine G_iload X0 hx (pc' := 64) rfl (hb hby d8_62) rfl ?_
    refine Go.fin X0 hlk (v := some (.int (17 : Int32))) (fun h => by rw [Bd.returns] at h; cases h) (by decide) (by decide) ?_ (fun fs hr => retOut X0 hx Bd.returns rfl (Or.inl ⟨rfl, Or.inl rfl, _, rfl⟩) (hb hby d8_64) hr)
    show Q_textLen Z v0 h0 n0 _ s₁.heap _
    rw [e0]
    exact ⟨congrArg (fun z => some (Value.int z)) (Eq.symm ((if_neg hc3_1).trans ((if_neg hc32_20).trans ((if_neg hc32_21).trans ((if_neg hc32_22).trans ((if_neg hc32_23).trans ((if_neg hc32_24).trans ((if_neg hc32_25).trans ((if_neg hc32_26).trans ((if_neg hc32_27).trans ((if_neg hc32_28).trans ((if_neg hc32_29).trans ((if_neg hc32_30).trans ((if_neg hc32_31).trans ((if_neg hc32_32).trans ((if_neg hc32_33).trans ((if_neg hc32_34).trans ((if_neg hc32_35).trans ((if_pos hc32_36).trans rfl))))))))))))))))))), N0, rfl⟩
  refine G_ifNo X0 hx (pc' := 35) rfl (hb hby d8_32) ((if0 _ _).trans (flt (fun q => hc32_36 ((lw_gt _ _).1 q))).2.2.1) ?_
  refine G_iinc X0 hx (pc' := 38) rfl (hb hby d8_35) rfl (z := (18 : Int32)) rfl (L' := #[.val (.long v0), .second, .val (.long (-v0)), .second, .val (.int (18 : Int32)), .val (.long (-100000000000000000 : Int64)), .second]) rfl ?_
  refine G_lload X0 hx (pc' := 40) rfl (hb hby d8_38) rfl ?_
  refine G_ldc2 X0 hx (pc' := 43) rfl hown (mvT hZ (own_w hw 152 rfl)) (hb hby d8_40) ?_
  refine G_lmul X0 hx (pc' := 44) rfl (hb hby d8_43)  ?_
  rw [show ((-100000000000000000 : Int64) * (10 : Int64)) = (-1000000000000000000 : Int64) from by decide]
  refine G_lstore X0 hx (pc' := 46) rfl (hb hby d8_44) (L' := #[.val (.long v0), .second, .val (.long (-v0)), .second, .val (.int (18 : Int32)), .val (.long (-1000000000000000000 : Int64)), .second]) rfl ?_
  refine G_goto X0 hx (pc' := 21) (hb hby d8_46)  (by decide) (by decide) ?_
  refine G_iload X0 hx (pc' := 23) rfl (hb hby d8_21) rfl ?_
  refine G_bipush X0 hx (pc' := 25) rfl (hb hby d8_23) (z := (18 : Int32)) rfl ?_
  refine G_icmpNo X0 hx (pc' := 28) rfl (hb hby d8_25) (flt (by decide : ¬ ((18 : Int32) < (18 : Int32)))).2.2.1 ?_
  refine G_lloadN X0 hx (pc' := 29) rfl (hb hby d8_28) rfl ?_
  refine G_lload X0 hx (pc' := 31) rfl (hb hby d8_29) rfl ?_
  refine G_lcmp X0 hx (pc' := 32) rfl (hb hby d8_31)  ?_
  by_cases hc32_37 : (-1000000000000000000 : Int64) < (-v0)
  · refine G_ifYes X0 hx (pc' := 49) (hb hby d8_32) ((if0 _ _).trans (tlt ((lw_gt _ _).2 hc32_37)).2.2.1) (by decide) (by decide) ?_
    refine G_lloadN X0 hx (pc' := 50) rfl (hb hby d8_49) rfl ?_
    refine G_lconst X0 hx (pc' := 51) rfl (hb hby d8_50) (z := (0 : Int64)) rfl ?_
    refine G_lcmp X0 hx (pc' := 52) rfl (hb hby d8_51)  ?_
    refine G_ifYes X0 hx (pc' := 62) (hb hby d8_52) ((if0 _ _).trans (flt (fun q => hc3_1 ((lw_lt _ _).1 q))).2.1) (by decide) (by decide) ?_
    refine G_iload X0 hx (pc' := 64) rfl (hb hby d8_62) rfl ?_
    refine Go.fin X0 hlk (v := some (.int (18 : Int32))) (fun h => by rw [Bd.returns] at h; cases h) (by decide) (by decide) ?_ (fun fs hr => retOut X0 hx Bd.returns rfl (Or.inl ⟨rfl, Or.inl rfl, _, rfl⟩) (hb hby d8_64) hr)
    show Q_textLen Z v0 h0 n0 _ s₁.heap _
    rw [e0]
    exact ⟨congrArg (fun z => some (Value.int z)) (Eq.symm ((if_neg hc3_1).trans ((if_neg hc32_20).trans ((if_neg hc32_21).trans ((if_neg hc32_22).trans ((if_neg hc32_23).trans ((if_neg hc32_24).trans ((if_neg hc32_25).trans ((if_neg hc32_26).trans ((if_neg hc32_27).trans ((if_neg hc32_28).trans ((if_neg hc32_29).trans ((if_neg hc32_30).trans ((if_neg hc32_31).trans ((if_neg hc32_32).trans ((if_neg hc32_33).trans ((if_neg hc32_34).trans ((if_neg hc32_35).trans ((if_neg hc32_36).trans ((if_pos hc32_37).trans rfl)))))))))))))))))))), N0, rfl⟩
  refine G_ifNo X0 hx (pc' := 35) rfl (hb hby d8_32) ((if0 _ _).trans (flt (fun q => hc32_37 ((lw_gt _ _).1 q))).2.2.1) ?_
  refine G_iinc X0 hx (pc' := 38) rfl (hb hby d8_35) rfl (z := (19 : Int32)) rfl (L' := #[.val (.long v0), .second, .val (.long (-v0)), .second, .val (.int (19 : Int32)), .val (.long (-1000000000000000000 : Int64)), .second]) rfl ?_
  refine G_lload X0 hx (pc' := 40) rfl (hb hby d8_38) rfl ?_
  refine G_ldc2 X0 hx (pc' := 43) rfl hown (mvT hZ (own_w hw 152 rfl)) (hb hby d8_40) ?_
  refine G_lmul X0 hx (pc' := 44) rfl (hb hby d8_43)  ?_
  rw [show ((-1000000000000000000 : Int64) * (10 : Int64)) = (8446744073709551616 : Int64) from by decide]
  refine G_lstore X0 hx (pc' := 46) rfl (hb hby d8_44) (L' := #[.val (.long v0), .second, .val (.long (-v0)), .second, .val (.int (19 : Int32)), .val (.long (8446744073709551616 : Int64)), .second]) rfl ?_
  refine G_goto X0 hx (pc' := 21) (hb hby d8_46)  (by decide) (by decide) ?_
  refine G_iload X0 hx (pc' := 23) rfl (hb hby d8_21) rfl ?_
  refine G_bipush X0 hx (pc' := 25) rfl (hb hby d8_23) (z := (18 : Int32)) rfl ?_
  refine G_icmpYes X0 hx (pc' := 49) (hb hby d8_25) (tlt (by decide : (18 : Int32) < (19 : Int32))).2.2.1 (by decide) (by decide) ?_
  refine G_lloadN X0 hx (pc' := 50) rfl (hb hby d8_49) rfl ?_
  refine G_lconst X0 hx (pc' := 51) rfl (hb hby d8_50) (z := (0 : Int64)) rfl ?_
  refine G_lcmp X0 hx (pc' := 52) rfl (hb hby d8_51)  ?_
  refine G_ifYes X0 hx (pc' := 62) (hb hby d8_52) ((if0 _ _).trans (flt (fun q => hc3_1 ((lw_lt _ _).1 q))).2.1) (by decide) (by decide) ?_
  refine G_iload X0 hx (pc' := 64) rfl (hb hby d8_62) rfl ?_
  refine Go.fin X0 hlk (v := some (.int (19 : Int32))) (fun h => by rw [Bd.returns] at h; cases h) (by decide) (by decide) ?_ (fun fs hr => retOut X0 hx Bd.returns rfl (Or.inl ⟨rfl, Or.inl rfl, _, rfl⟩) (hb hby d8_64) hr)
  show Q_textLen Z v0 h0 n0 _ s₁.heap _
  rw [e0]
  exact ⟨congrArg (fun z => some (Value.int z)) (Eq.symm ((if_neg hc3_1).trans ((if_neg hc32_20).trans ((if_neg hc32_21).trans ((if_neg hc32_22).trans ((if_neg hc32_23).trans ((if_neg hc32_24).trans ((if_neg hc32_25).trans ((if_neg hc32_26).trans ((if_neg hc32_27).trans ((if_neg hc32_28).trans ((if_neg hc32_29).trans ((if_neg hc32_30).trans ((if_neg hc32_31).trans ((if_neg hc32_32).trans ((if_neg hc32_33).trans ((if_neg hc32_34).trans ((if_neg hc32_35).trans ((if_neg hc32_36).trans ((if_neg hc32_37).trans rfl)))))))))))))))))))), N0, rfl⟩
theorem d9_0 : decode prog_28_method_9_code 0 = .ok (.aload_n 0, 1) := by decide +kernel
theorem d9_1 : decode prog_28_method_9_code 1 = .ok (.getfield 13, 3) := by decide +kernel
theorem d9_4 : decode prog_28_method_9_code 4 = .ok (.ifCond .eq 13, 3) := by decide +kernel
theorem d9_17 : decode prog_28_method_9_code 17 = .ok (.aload_n 0, 1) := by decide +kernel
theorem d9_18 : decode prog_28_method_9_code 18 = .ok (.getfield 7, 3) := by decide +kernel
theorem d9_21 : decode prog_28_method_9_code 21 = .ok (.invokestatic 95, 3) := by decide +kernel
theorem d9_24 : decode prog_28_method_9_code 24 = .ok (.istore_n 1, 1) := by decide +kernel
theorem d9_25 : decode prog_28_method_9_code 25 = .ok (.iload_n 1, 1) := by decide +kernel
theorem d9_26 : decode prog_28_method_9_code 26 = .ok (.i2l, 1) := by decide +kernel
theorem d9_27 : decode prog_28_method_9_code 27 = .ok (.ldc2_w 99, 3) := by decide +kernel
theorem d9_30 : decode prog_28_method_9_code 30 = .ok (.ladd, 1) := by decide +kernel
theorem d9_31 : decode prog_28_method_9_code 31 = .ok (.lreturn, 1) := by decide +kernel
def f_encLen (x : Int64) : Int64 := (((f_textLen x).toInt64) + (2 : Int64))
theorem ef_encLen (m : MethodId) (v0 : Addr) : entryFrame m #[(.ref v0)] 2 = mkF m 0 #[.val (.ref v0), .unset] [] := by first | (simp [entryFrame, mkF, argsToLocals, Value.category]; done) | rfl
def Q_encLen (Z : State) (v0 : Addr) (x : Int64) (h0 : Heap) (n0 : Nat) (v : Option Value) (h : Heap) (L : List Loc) : Prop := v = some (.long (f_encLen x)) ∧ Fr n0 L ∧ h = h0
set_option maxRecDepth 65536 in
set_option maxHeartbeats 40000000 in
theorem rm_encLen (l : Launch) (Z : State) (a0 : Array Value) (hw : ∀ d ∈ tables_1, d.before a0 Z = true) (ws : List Jvm.Cond) (v0 : Addr) (x : Int64) (h0 : Heap) (n0 : Nat) (Z0 : n0 ≤ h0.size) (f0_E_v0 : Exa Z h0 v0 "com/example/colonwise/colonwise/model/BencodeInteger") (f1_F_v0 : Fld Z h0 v0 "com/example/colonwise/colonwise/model/BencodeInteger" "small" "J" (.long x)) (f2_F_v0 : Fld Z h0 v0 "com/example/colonwise/colonwise/model/BencodeInteger" "wide" "Z" (.int (0 : Int32))) :
    MetFree l (⟨"com/example/colonwise/colonwise/model/BencodeInteger", "encodedLength", "()J"⟩ : MethodName) (head1 (Jvm.Cond.code (⟨"com/example/colonwise/colonwise/model/BencodeInteger", "encodedLength", "()J"⟩ : MethodName) prog_28_method_9_code 2 (some .long) :: ws) ({ frames := 1, cells := 0, slots := 0, locals := 18 } : Room)) (fun a U => a = #[(.ref v0)] ∧ Z.Warmed39 U.vm ∧ U.heap = h0) (fun _ _ _ _ _ => True) (fun _ U o U' => ∃ v L, o = .returned v ∧ Q_encLen Z v0 x h0 n0 v U'.heap L ∧ FrameEnd U o U' L ({ frames := 1, cells := 0, slots := 0, locals := 18 } : Room).cells ({ frames := 1, cells := 0, slots := 0, locals := 18 } : Room).slots) := by
  refine MetFree.of_bodySF (plainFor_of_name (by first | (simp [plainName, overriddenIn]; done) | decide +kernel)) hisR ?_
  intro p e s m args below meth c s₁ Bd hml0 hP hK
  obtain ⟨rfl, hZ, hh⟩ := hP
  have hx := Bd.exec
  have hby := Bd.bytes
  have hml : c.maxLocals = 2 := hml0
  have hown : s.vm.findClass "com/example/colonwise/colonwise/model/BencodeInteger" = some m.cls := findClass_of_methodNamed Bd.named
  have hnm := (name_of_methodNamed Bd.named Bd.method).1
  have hlk : meth.locks = false := Bd.notSynchronized
  have X0 : Stand p l e ({ frames := 1, cells := 0, slots := 0, locals := 18 } : Room) s m #[(.ref v0)] below meth c s₁ [] 0 0 := Stand.of_body Bd
  have e0 : s₁.heap = h0 := by rw [← hh, Bd.state]; rfl
  have N0 := Fr.nil n0
  refine Go.enter (Q := Q_encLen Z v0 x h0 n0) (C := ({ frames := 1, cells := 0, slots := 0, locals := 18 } : Room).cells) (N := ({ frames := 1, cells := 0, slots := 0, locals := 18 } : Room).slots) (ef_encLen m v0) ?_
  show Go p e below s _ _ _ s₁ (mkF m 0 #[.val (.ref v0), .unset] [])
  refine G_aloadN X0 hx (pc' := 1) rfl (hb hby d9_0) rfl rfl ?_
  obtain ⟨T21, X21, e21, st21⟩ := getF X0 hx hZ hown (host := "") (Or.inl (own_w hw 14 rfl)) Via.refl e0 f2_F_v0 (g := (mkF m 1 #[.val (.ref v0), .unset] [(.ref v0)])) rfl rfl (hb hby d9_1)
  refine Go.st st21 ?_
  show Go p e below s _ _ _ T21 (mkF m 4 #[.val (.ref v0), .unset] [(.int (0 : Int32))])
  refine G_ifYes X21 hx (pc' := 17) (hb hby d9_4) ((if0 _ _).trans (teq (by decide : (0 : Int32) = (0 : Int32))).1) (by decide) (by decide) ?_
  refine G_aloadN X21 hx (pc' := 18) rfl (hb hby d9_17) rfl rfl ?_
  obtain ⟨T22, X22, e22, st22⟩ := getF X21 hx hZ hown (host := "") (Or.inl (own_w hw 12 rfl)) Via.refl e21 f1_F_v0 (g := (mkF m 18 #[.val (.ref v0), .unset] [(.ref v0)])) rfl rfl (hb hby d9_18)
  refine Go.st st22 ?_
  show Go p e below s _ _ _ T22 (mkF m 21 #[.val (.ref v0), .unset] [(.long x)])
  obtain ⟨_, _, ⟨T23, L23, k23, n23⟩, -, X23, ⟨Lc23, hQ23, l23, y23, z23⟩, st23⟩ := Jvm.LawKit.callS X22 hx (y := (⟨"com/example/colonwise/colonwise/model/BencodeInteger", "textLength", "(J)I"⟩ : MethodName)) hown (mvT hZ (own_w hw 55 rfl)) (mvT hZ (own_w hw 56 rfl)) (mvT hZ (own_w hw 2 rfl)) (mvT hZ (own_w hw 57 rfl)) (by decide) (backOf (W := 0) (rm_textLen l Z a0 hw [] x h0 n0 Z0 ) hZ (own_w hw 57 rfl) (own_w hw 2 rfl) (by decide) (by decide)) (g := (mkF m 21 #[.val (.ref v0), .unset] [(.long x)])) rfl (by rw [hml]; rfl) (argsL := [(.long x)]) (rest := []) (lenOf pd_1 rfl) rfl (by show 2 * 0 + _ ≤ _; exact Nat.le_of_eq rfl) (hb hby d9_21) (fun _ _ => ⟨rfl, e22, (by decide : 0 + 0 ≤ _), (by decide : 0 + 0 ≤ _)⟩)
  dsimp only [Pt.U, Pt.locs, Pt.cells, Pt.slots] at X23 l23 y23 z23 st23 hQ23
  rw [l23, y23, z23] at X23
  clear l23 y23 z23
  obtain ⟨rfl, N23q, e23⟩ := hQ23
  have N23 := Fr.app N0 N23q
  refine Go.st st23 ?_
  obtain ⟨G23, Y23, M23⟩ : ∃ L, Stand p l e ({ frames := 1, cells := 0, slots := 0, locals := 18 } : Room) s m #[(.ref v0)] below meth c T23 L 0 0 ∧ Fr n0 L := ⟨_, X23, N23⟩
  clear X23 N23
  show Go p e below s _ _ _ T23 (mkF m 24 #[.val (.ref v0), .unset] [(.int (f_textLen x))])
  refine G_istoreN Y23 hx (pc' := 25) rfl (hb hby d9_24) (L' := #[.val (.ref v0), .val (.int (f_textLen x))]) rfl ?_
  refine G_iloadN Y23 hx (pc' := 26) rfl (hb hby d9_25) rfl ?_
  refine G_i2l Y23 hx (pc' := 27) rfl (hb hby d9_26)  ?_
  refine G_ldc2 Y23 hx (pc' := 30) rfl hown (mvT hZ (own_w hw 59 rfl)) (hb hby d9_27) ?_
  refine G_ladd Y23 hx (pc' := 31) rfl (hb hby d9_30)  ?_
  refine Go.fin Y23 hlk (v := some (.long (((f_textLen x).toInt64) + (2 : Int64)))) (fun h => by rw [Bd.returns] at h; cases h) (by decide) (by decide) ?_ (fun fs hr => retOut Y23 hx Bd.returns rfl (Or.inr (Or.inl ⟨rfl, rfl, _, rfl⟩)) (hb hby d9_31) hr)
  show Q_encLen Z v0 x h0 n0 _ T23.heap _
  rw [e23]
  exact ⟨congrArg (fun z => some (Value.long z)) (Eq.symm (rfl : f_encLen x = _)), M23, rfl⟩
theorem d10_0 : decode jdk_35_method_15_code 0 = .ok (.iconst 1, 1) := by decide +kernel
theorem d10_1 : decode jdk_35_method_15_code 1 = .ok (.istore_n 2, 1) := by decide +kernel
theorem d10_2 : decode jdk_35_method_15_code 2 = .ok (.lload_n 0, 1) := by decide +kernel
theorem d10_3 : decode jdk_35_method_15_code 3 = .ok (.lconst 0, 1) := by decide +kernel
theorem d10_4 : decode jdk_35_method_15_code 4 = .ok (.lcmp, 1) := by decide +kernel
theorem d10_5 : decode jdk_35_method_15_code 5 = .ok (.ifCond .lt 8, 3) := by decide +kernel
theorem d10_13 : decode jdk_35_method_15_code 13 = .ok (.ldc2_w 140, 3) := by decide +kernel
theorem d10_16 : decode jdk_35_method_15_code 16 = .ok (.lstore_n 3, 1) := by decide +kernel
theorem d10_17 : decode jdk_35_method_15_code 17 = .ok (.iconst 1, 1) := by decide +kernel
theorem d10_18 : decode jdk_35_method_15_code 18 = .ok (.istore 5, 2) := by decide +kernel
theorem d10_20 : decode jdk_35_method_15_code 20 = .ok (.iload 5, 2) := by decide +kernel
theorem d10_22 : decode jdk_35_method_15_code 22 = .ok (.bipush 19, 2) := by decide +kernel
theorem d10_24 : decode jdk_35_method_15_code 24 = .ok (.if_icmp .ge 26, 3) := by decide +kernel
theorem d10_27 : decode jdk_35_method_15_code 27 = .ok (.lload_n 0, 1) := by decide +kernel
theorem d10_28 : decode jdk_35_method_15_code 28 = .ok (.lload_n 3, 1) := by decide +kernel
theorem d10_29 : decode jdk_35_method_15_code 29 = .ok (.lcmp, 1) := by decide +kernel
theorem d10_30 : decode jdk_35_method_15_code 30 = .ok (.ifCond .le 8, 3) := by decide +kernel
theorem d10_33 : decode jdk_35_method_15_code 33 = .ok (.iload 5, 2) := by decide +kernel
theorem d10_35 : decode jdk_35_method_15_code 35 = .ok (.iload_n 2, 1) := by decide +kernel
theorem d10_36 : decode jdk_35_method_15_code 36 = .ok (.iadd, 1) := by decide +kernel
theorem d10_37 : decode jdk_35_method_15_code 37 = .ok (.ireturn, 1) := by decide +kernel
theorem d10_38 : decode jdk_35_method_15_code 38 = .ok (.ldc2_w 53, 3) := by decide +kernel
theorem d10_41 : decode jdk_35_method_15_code 41 = .ok (.lload_n 3, 1) := by decide +kernel
theorem d10_42 : decode jdk_35_method_15_code 42 = .ok (.lmul, 1) := by decide +kernel
theorem d10_43 : decode jdk_35_method_15_code 43 = .ok (.lstore_n 3, 1) := by decide +kernel
theorem d10_44 : decode jdk_35_method_15_code 44 = .ok (.iinc 5 1, 3) := by decide +kernel
theorem d10_47 : decode jdk_35_method_15_code 47 = .ok (.goto (-27), 3) := by decide +kernel
theorem d10_50 : decode jdk_35_method_15_code 50 = .ok (.bipush 19, 2) := by decide +kernel
theorem d10_52 : decode jdk_35_method_15_code 52 = .ok (.iload_n 2, 1) := by decide +kernel
theorem d10_53 : decode jdk_35_method_15_code 53 = .ok (.iadd, 1) := by decide +kernel
theorem d10_54 : decode jdk_35_method_15_code 54 = .ok (.ireturn, 1) := by decide +kernel
theorem d10_8 : decode jdk_35_method_15_code 8 = .ok (.iconst 0, 1) := by decide +kernel
theorem d10_9 : decode jdk_35_method_15_code 9 = .ok (.istore_n 2, 1) := by decide +kernel
theorem d10_10 : decode jdk_35_method_15_code 10 = .ok (.lload_n 0, 1) := by decide +kernel
theorem d10_11 : decode jdk_35_method_15_code 11 = .ok (.lneg, 1) := by decide +kernel
theorem d10_12 : decode jdk_35_method_15_code 12 = .ok (.lstore_n 0, 1) := by decide +kernel
def f_ssize (v0 : Int64) : Int32 := (if v0 < (0 : Int64) then (if (-10 : Int64) < v0 then (2 : Int32) else (if (-100 : Int64) < v0 then (3 : Int32) else (if (-1000 : Int64) < v0 then (4 : Int32) else (if (-10000 : Int64) < v0 then (5 : Int32) else (if (-100000 : Int64) < v0 then (6 : Int32) else (if (-1000000 : Int64) < v0 then (7 : Int32) else (if (-10000000 : Int64) < v0 then (8 : Int32) else (if (-100000000 : Int64) < v0 then (9 : Int32) else (if (-1000000000 : Int64) < v0 then (10 : Int32) else (if (-10000000000 : Int64) < v0 then (11 : Int32) else (if (-100000000000 : Int64) < v0 then (12 : Int32) else (if (-1000000000000 : Int64) < v0 then (13 : Int32) else (if (-10000000000000 : Int64) < v0 then (14 : Int32) else (if (-100000000000000 : Int64) < v0 then (15 : Int32) else (if (-1000000000000000 : Int64) < v0 then (16 : Int32) else (if (-10000000000000000 : Int64) < v0 then (17 : Int32) else (if (-100000000000000000 : Int64) < v0 then (18 : Int32) else (if (-1000000000000000000 : Int64) < v0 then (19 : Int32) else (20 : Int32))))))))))))))))))) else (if (-10 : Int64) < (-v0) then (1 : Int32) else (if (-100 : Int64) < (-v0) then (2 : Int32) else (if (-1000 : Int64) < (-v0) then (3 : Int32) else (if (-10000 : Int64) < (-v0) then (4 : Int32) else (if (-100000 : Int64) < (-v0) then (5 : Int32) else (if (-1000000 : Int64) < (-v0) then (6 : Int32) else (if (-10000000 : Int64) < (-v0) then (7 : Int32) else (if (-100000000 : Int64) < (-v0) then (8 : Int32) else (if (-1000000000 : Int64) < (-v0) then (9 : Int32) else (if (-10000000000 : Int64) < (-v0) then (10 : Int32) else (if (-100000000000 : Int64) < (-v0) then (11 : Int32) else (if (-1000000000000 : Int64) < (-v0) then (12 : Int32) else (if (-10000000000000 : Int64) < (-v0) then (13 : Int32) else (if (-100000000000000 : Int64) < (-v0) then (14 : Int32) else (if (-1000000000000000 : Int64) < (-v0) then (15 : Int32) else (if (-10000000000000000 : Int64) < (-v0) then (16 : Int32) else (if (-100000000000000000 : Int64) < (-v0) then (17 : Int32) else (if (-1000000000000000000 : Int64) < (-v0) then (18 : Int32) else (19 : Int32))))))))))))))))))))
theorem ef_ssize (m : MethodId) (v0 : Int64) : entryFrame m #[(.long v0)] 6 = mkF m 0 #[.val (.long v0), .second, .unset, .unset, .unset, .unset] [] := by first | (simp [entryFrame, mkF, argsToLocals, Value.category]; done) | rfl
def Q_ssize (Z : State) (v0 : Int64) (h0 : Heap) (n0 : Nat) (v : Option Value) (h : Heap) (L : List Loc) : Prop := v = some (.int (f_ssize v0)) ∧ Fr n0 L ∧ h = h0
set_option maxRecDepth 65536 in
set_option maxHeartbeats 40000000 in
theorem rm_ssize (l : Launch) (Z : State) (a0 : Array Value) (hw : ∀ d ∈ tables_1, d.before a0 Z = true) (ws : List Jvm.Cond) (v0 : Int64) (h0 : Heap) (n0 : Nat) (Z0 : n0 ≤ h0.size) :
    MetFree l (⟨"java/lang/Long", "stringSize", "(J)I"⟩ : MethodName) (head1 (Jvm.Cond.code (⟨"java/lang/Long", "stringSize", "(J)I"⟩ : MethodName) jdk_35_method_15_code 6 (some .int) :: ws) ({ frames := 0, cells := 0, slots := 0, locals := 0 } : Room)) (fun a U => a = #[(.long v0)] ∧ Z.Warmed39 U.vm ∧ U.heap = h0) (fun _ _ _ _ _ => True) (fun _ U o U' => ∃ v L, o = .returned v ∧ Q_ssize Z v0 h0 n0 v U'.heap L ∧ FrameEnd U o U' L ({ frames := 0, cells := 0, slots := 0, locals := 0 } : Room).cells ({ frames := 0, cells := 0, slots := 0, locals := 0 } : Room).slots) := by
  refine MetFree.of_bodySF (plainFor_of_name (by first | (simp [plainName, overriddenIn]; done) | decide +kernel)) hisR ?_
  intro p e s m args below meth c s₁ Bd hml0 hP hK
  obtain ⟨rfl, hZ, hh⟩ := hP
  have hx := Bd.exec
  have hby := Bd.bytes
  have hml : c.maxLocals = 6 := hml0
  have hown : s.vm.findClass "java/lang/Long" = some m.cls := findClass_of_methodNamed Bd.named
  have hnm := (name_of_methodNamed Bd.named Bd.method).1
  have hlk : meth.locks = false := Bd.notSynchronized
  have X0 : Stand p l e ({ frames := 0, cells := 0, slots := 0, locals := 0 } : Room) s m #[(.long v0)] below meth c s₁ [] 0 0 := Stand.of_body Bd
  have e0 : s₁.heap = h0 := by rw [← hh, Bd.state]; rfl
  have N0 := Fr.nil n0
  refine Go.enter (Q := Q_ssize Z v0 h0 n0) (C := ({ frames := 0, cells := 0, slots := 0, locals := 0 } : Room).cells) (N := ({ frames := 0, cells := 0, slots := 0, locals := 0 } : Room).slots) (ef_ssize m v0) ?_
  show Go p e below s _ _ _ s₁ (mkF m 0 #[.val (.long v0), .second, .unset, .unset, .unset, .unset] [])
  refine G_iconst X0 hx (pc' := 1) rfl (hb hby d10_0) (z := (1 : Int32)) rfl ?_
  refine G_istoreN X0 hx (pc' := 2) rfl (hb hby d10_1) (L' := #[.val (.long v0), .second, .val (.int (1 : Int32)), .unset, .unset, .unset]) rfl ?_
  refine G_lloadN X0 hx (pc' := 3) rfl (hb hby d10_2) rfl ?_
  refine G_lconst X0 hx (pc' := 4) rfl (hb hby d10_3) (z := (0 : Int64)) rfl ?_
  refine G_lcmp X0 hx (pc' := 5) rfl (hb hby d10_4)  ?_
  by_cases hc5_1 : v0 < (0 : Int64)
  · refine G_ifYes X0 hx (pc' := 13) (hb hby d10_5) ((if0 _ _).trans (tlt ((lw_lt _ _).2 hc5_1)).1) (by decide) (by decide) ?_
    refine G_ldc2 X0 hx (pc' := 16) rfl hown (mvT hZ (own_w hw 76 rfl)) (hb hby d10_13) ?_
    refine G_lstoreN X0 hx (pc' := 17) rfl (hb hby d10_16) (L' := #[.val (.long v0), .second, .val (.int (1 : Int32)), .val (.long (-10 : Int64)), .second, .unset]) rfl ?_
    refine G_iconst X0 hx (pc' := 18) rfl (hb hby d10_17) (z := (1 : Int32)) rfl ?_
    refine G_istore X0 hx (pc' := 20) rfl (hb hby d10_18) (L' := #[.val (.long v0), .second, .val (.int (1 : Int32)), .val (.long (-10 : Int64)), .second, .val (.int (1 : Int32))]) rfl ?_
    refine G_iload X0 hx (pc' := 22) rfl (hb hby d10_20) rfl ?_
    refine G_bipush X0 hx (pc' := 24) rfl (hb hby d10_22) (z := (19 : Int32)) rfl ?_
    refine G_icmpNo X0 hx (pc' := 27) rfl (hb hby d10_24) (tlt (by decide : (1 : Int32) < (19 : Int32))).2.1 ?_
    refine G_lloadN X0 hx (pc' := 28) rfl (hb hby d10_27) rfl ?_
    refine G_lloadN X0 hx (pc' := 29) rfl (hb hby d10_28) rfl ?_
    refine G_lcmp X0 hx (pc' := 30) rfl (hb hby d10_29)  ?_
    by_cases hc30_2 : (-10 : Int64) < v0
    · refine G_ifNo X0 hx (pc' := 33) rfl (hb hby d10_30) ((if0 _ _).trans (tlt ((lw_gt _ _).2 hc30_2)).2.2.2) ?_
      refine G_iload X0 hx (pc' := 35) rfl (hb hby d10_33) rfl ?_
      refine G_iloadN X0 hx (pc' := 36) rfl (hb hby d10_35) rfl ?_
      refine G_iadd X0 hx (pc' := 37) rfl (hb hby d10_36)  ?_
      rw [show ((1 : Int32) + (1 : Int32)) = (2 : Int32) from by decide]
      refine Go.fin X0 hlk (v := some (.int (2 : Int32))) (fun h => by rw [Bd.returns] at h; cases h) (by decide) (by decide) ?_ (fun fs hr => retOut X0 hx Bd.returns rfl (Or.inl ⟨rfl, Or.inl rfl, _, rfl⟩) (hb hby d10_37) hr)
      show Q_ssize Z v0 h0 n0 _ s₁.heap _
      rw [e0]
      exact ⟨congrArg (fun z => some (Value.int z)) (Eq.symm ((if_pos hc5_1).trans ((if_pos hc30_2).trans rfl))), N0, rfl⟩
    refine G_ifYes X0 hx (pc' := 38) (hb hby d10_30) ((if0 _ _).trans (flt (fun q => hc30_2 ((lw_gt _ _).1 q))).2.2.2) (by decide) (by decide) ?_
    refine G_ldc2 X0 hx (pc' := 41) rfl hown (mvT hZ (own_w hw 153 rfl)) (hb hby d10_38) ?_
    refine G_lloadN X0 hx (pc' := 42) rfl (hb hby d10_41) rfl ?_
    refine G_lmul X0 hx (pc' := 43) rfl (hb hby d10_42)  ?_
    rw [show ((10 : Int64) * (-10 : Int64)) = (-100 : Int64) from by decide]
    refine G_lstoreN X0 hx (pc' := 44) rfl (hb hby d10_43) (L' := #[.val (.long v0), .second, .val (.int (1 : Int32)), .val (.long (-100 : Int64)), .second, .val (.int (1 : Int32))]) rfl ?_
    refine G_iinc X0 hx (pc' := 47) rfl (hb hby d10_44) rfl (z := (2 : Int32)) rfl (L' := #[.val (.long v0), .second, .val (.int (1 : Int32)), .val (.long (-100 : Int64)), .second, .val (.int (2 : Int32))]) rfl ?_
    refine G_goto X0 hx (pc' := 20) (hb hby d10_47)  (by decide) (by decide) ?_
    refine G_iload X0 hx (pc' := 22) rfl (hb hby d10_20) rfl ?_
    refine G_bipush X0 hx (pc' := 24) rfl (hb hby d10_22) (z := (19 : Int32)) rfl ?_
    refine G_icmpNo X0 hx (pc' := 27) rfl (hb hby d10_24) (tlt (by decide : (2 : Int32) < (19 : Int32))).2.1 ?_
    refine G_lloadN X0 hx (pc' := 28) rfl (hb hby d10_27) rfl ?_
    refine G_lloadN X0 hx (pc' := 29) rfl (hb hby d10_28) rfl ?_
    refine G_lcmp X0 hx (pc' := 30) rfl (hb hby d10_29)  ?_
    by_cases hc30_3 : (-100 : Int64) < v0
    · refine G_ifNo X0 hx (pc' := 33) rfl (hb hby d10_30) ((if0 _ _).trans (tlt ((lw_gt _ _).2 hc30_3)).2.2.2) ?_
      refine G_iload X0 hx (pc' := 35) rfl (hb hby d10_33) rfl ?_
      refine G_iloadN X0 hx (pc' := 36) rfl (hb hby d10_35) rfl ?_
      refine G_iadd X0 hx (pc' := 37) rfl (hb hby d10_36)  ?_
      rw [show ((2 : Int32) + (1 : Int32)) = (3 : Int32) from by decide]
      refine Go.fin X0 hlk (v := some (.int (3 : Int32))) (fun h => by rw [Bd.returns] at h; cases h) (by decide) (by decide) ?_ (fun fs hr => retOut X0 hx Bd.returns rfl (Or.inl ⟨rfl, Or.inl rfl, _, rfl⟩) (hb hby d10_37) hr)
      show Q_ssize Z v0 h0 n0 _ s₁.heap _
      rw [e0]
      exact ⟨congrArg (fun z => some (Value.int z)) (Eq.symm ((if_pos hc5_1).trans ((if_neg hc30_2).trans ((if_pos hc30_3).trans rfl)))), N0, rfl⟩
    refine G_ifYes X0 hx (pc' := 38) (hb hby d10_30) ((if0 _ _).trans (flt (fun q => hc30_3 ((lw_gt _ _).1 q))).2.2.2) (by decide) (by decide) ?_
    refine G_ldc2 X0 hx (pc' := 41) rfl hown (mvT hZ (own_w hw 153 rfl)) (hb hby d10_38) ?_
    refine G_lloadN X0 hx (pc' := 42) rfl (hb hby d10_41) rfl ?_
    refine G_lmul X0 hx (pc' := 43) rfl (hb hby d10_42)  ?_
    rw [show ((10 : Int64) * (-100 : Int64)) = (-1000 : Int64) from by decide]
    refine G_lstoreN X0 hx (pc' := 44) rfl (hb hby d10_43) (L' := #[.val (.long v0), .second, .val (.int (1 : Int32)), .val (.long (-1000 : Int64)), .second, .val (.int (2 : Int32))]) rfl ?_
    refine G_iinc X0 hx (pc' := 47) rfl (hb hby d10_44) rfl (z := (3 : Int32)) rfl (L' := #[.val (.long v0), .second, .val (.int (1 : Int32)), .val (.long (-1000 : Int64)), .second, .val (.int (3 : Int32))]) rfl ?_
    refine G_goto X0 hx (pc' := 20) (hb hby d10_47)  (by decide) (by decide) ?_
    refine G_iload X0 hx (pc' := 22) rfl (hb hby d10_20) rfl ?_
    refine G_bipush X0 hx (pc' := 24) rfl (hb hby d10_22) (z := (19 : Int32)) rfl ?_
    refine G_icmpNo X0 hx (pc' := 27) rfl (hb hby d10_24) (tlt (by decide : (3 : Int32) < (19 : Int32))).2.1 ?_
    refine G_lloadN X0 hx (pc' := 28) rfl (hb hby d10_27) rfl ?_
    refine G_lloadN X0 hx (pc' := 29) rfl (hb hby d10_28) rfl ?_
    refine G_lcmp X0 hx (pc' := 30) rfl (hb hby d10_29)  ?_
    by_cases hc30_4 : (-1000 : Int64) < v0
    · refine G_ifNo X0 hx (pc' := 33) rfl (hb hby d10_30) ((if0 _ _).trans (tlt ((lw_gt _ _).2 hc30_4)).2.2.2) ?_
      refine G_iload X0 hx (pc' := 35) rfl (hb hby d10_33) rfl ?_
      refine G_iloadN X0 hx (pc' := 36) rfl (hb hby d10_35) rfl ?_
      refine G_iadd X0 hx (pc' := 37) rfl (hb hby d10_36)  ?_
      rw [show ((3 : Int32) + (1 : Int32)) = (4 : Int32) from by decide]
      refine Go.fin X0 hlk (v := some (.int (4 : Int32))) (fun h => by rw [Bd.returns] at h; cases h) (by decide) (by decide) ?_ (fun fs hr => retOut X0 hx Bd.returns rfl (Or.inl ⟨rfl, Or.inl rfl, _, rfl⟩) (hb hby d10_37) hr)
      show Q_ssize Z v0 h0 n0 _ s₁.heap _
      rw [e0]
      exact ⟨congrArg (fun z => some (Value.int z)) (Eq.symm ((if_pos hc5_1).trans ((if_neg hc30_2).trans ((if_neg hc30_3).trans ((if_pos hc30_4).trans rfl))))), N0, rfl⟩
    refine G_ifYes X0 hx (pc' := 38) (hb hby d10_30) ((if0 _ _).trans (flt (fun q => hc30_4 ((lw_gt _ _).1 q))).2.2.2) (by decide) (by decide) ?_
    refine G_ldc2 X0 hx (pc' := 41) rfl hown (mvT hZ (own_w hw 153 rfl)) (hb hby d10_38) ?_
    refine G_lloadN X0 hx (pc' := 42) rfl (hb hby d10_41) rfl ?_
    refine G_lmul X0 hx (pc' := 43) rfl (hb hby d10_42)  ?_
    rw [show ((10 : Int64) * (-1000 : Int64)) = (-10000 : Int64) from by decide]
    refine G_lstoreN X0 hx (pc' := 44) rfl (hb hby d10_43) (L' := #[.val (.long v0), .second, .val (.int (1 : Int32)), .val (.long (-10000 : Int64)), .second, .val (.int (3 : Int32))]) rfl ?_
    refine G_iinc X0 hx (pc' := 47) rfl (hb hby d10_44) rfl (z := (4 : Int32)) rfl (L' := #[.val (.long v0), .second, .val (.int (1 : Int32)), .val (.long (-10000 : Int64)), .second, .val (.int (4 : Int32))]) rfl ?_
    refine G_goto X0 hx (pc' := 20) (hb hby d10_47)  (by decide) (by decide) ?_
    refine G_iload X0 hx (pc' := 22) rfl (hb hby d10_20) rfl ?_
    refine G_bipush X0 hx (pc' := 24) rfl (hb hby d10_22) (z := (19 : Int32)) rfl ?_
    refine G_icmpNo X0 hx (pc' := 27) rfl (hb hby d10_24) (tlt (by decide : (4 : Int32) < (19 : Int32))).2.1 ?_
    refine G_lloadN X0 hx (pc' := 28) rfl (hb hby d10_27) rfl ?_
    refine G_lloadN X0 hx (pc' := 29) rfl (hb hby d10_28) rfl ?_
    refine G_lcmp X0 hx (pc' := 30) rfl (hb hby d10_29)  ?_
    by_cases hc30_5 : (-10000 : Int64) < v0
    · refine G_ifNo X0 hx (pc' := 33) rfl (hb hby d10_30) ((if0 _ _).trans (tlt ((lw_gt _ _).2 hc30_5)).2.2.2) ?_
      refine G_iload X0 hx (pc' := 35) rfl (hb hby d10_33) rfl ?_
      refine G_iloadN X0 hx (pc' := 36) rfl (hb hby d10_35) rfl ?_
      refine G_iadd X0 hx (pc' := 37) rfl (hb hby d10_36)  ?_
      rw [show ((4 : Int32) + (1 : Int32)) = (5 : Int32) from by decide]
      refine Go.fin X0 hlk (v := some (.int (5 : Int32))) (fun h => by rw [Bd.returns] at h; cases h) (by decide) (by decide) ?_ (fun fs hr => retOut X0 hx Bd.returns rfl (Or.inl ⟨rfl, Or.inl rfl, _, rfl⟩) (hb hby d10_37) hr)
      show Q_ssize Z v0 h0 n0 _ s₁.heap _
      rw [e0]
      exact ⟨congrArg (fun z => some (Value.int z)) (Eq.symm ((if_pos hc5_1).trans ((if_neg hc30_2).trans ((if_neg hc30_3).trans ((if_neg hc30_4).trans ((if_pos hc30_5).trans rfl)))))), N0, rfl⟩
    refine G_ifYes X0 hx (pc' := 38) (hb hby d10_30) ((if0 _ _).trans (flt (fun q => hc30_5 ((lw_gt _ _).1 q))).2.2.2) (by decide) (by decide) ?_
    refine G_ldc2 X0 hx (pc' := 41) rfl hown (mvT hZ (own_w hw 153 rfl)) (hb hby d10_38) ?_
    refine G_lloadN X0 hx (pc' := 42) rfl (hb hby d10_41) rfl ?_
    refine G_lmul X0 hx (pc' := 43) rfl (hb hby d10_42)  ?_
    rw [show ((10 : Int64) * (-10000 : Int64)) = (-100000 : Int64) from by decide]
    refine G_lstoreN X0 hx (pc' := 44) rfl (hb hby d10_43) (L' := #[.val (.long v0), .second, .val (.int (1 : Int32)), .val (.long (-100000 : Int64)), .second, .val (.int (4 : Int32))]) rfl ?_
    refine G_iinc X0 hx (pc' := 47) rfl (hb hby d10_44) rfl (z := (5 : Int32)) rfl (L' := #[.val (.long v0), .second, .val (.int (1 : Int32)), .val (.long (-100000 : Int64)), .second, .val (.int (5 : Int32))]) rfl ?_
    refine G_goto X0 hx (pc' := 20) (hb hby d10_47)  (by decide) (by decide) ?_
    refine G_iload X0 hx (pc' := 22) rfl (hb hby d10_20) rfl ?_
    refine G_bipush X0 hx (pc' := 24) rfl (hb hby d10_22) (z := (19 : Int32)) rfl ?_
    refine G_icmpNo X0 hx (pc' := 27) rfl (hb hby d10_24) (tlt (by decide : (5 : Int32) < (19 : Int32))).2.1 ?_
    refine G_lloadN X0 hx (pc' := 28) rfl (hb hby d10_27) rfl ?_
    refine G_lloadN X0 hx (pc' := 29) rfl (hb hby d10_28) rfl ?_
    refine G_lcmp X0 hx (pc' := 30) rfl (hb hby d10_29)  ?_
    by_cases hc30_6 : (-100000 : Int64) < v0
    · refine G_ifNo X0 hx (pc' := 33) rfl (hb hby d10_30) ((if0 _ _).trans (tlt ((lw_gt _ _).2 hc30_6)).2.2.2) ?_
      refine G_iload X0 hx (pc' := 35) rfl (hb hby d10_33) rfl ?_
      refine G_iloadN X0 hx (pc' := 36) rfl (hb hby d10_35) rfl ?_
      refine G_iadd X0 hx (pc' := 37) rfl (hb hby d10_36)  ?_
      rw [show ((5 : Int32) + (1 : Int32)) = (6 : Int32) from by decide]
      refine Go.fin X0 hlk (v := some (.int (6 : Int32))) (fun h => by rw [Bd.returns] at h; cases h) (by decide) (by decide) ?_ (fun fs hr => retOut X0 hx Bd.returns rfl (Or.inl ⟨rfl, Or.inl rfl, _, rfl⟩) (hb hby d10_37) hr)
      show Q_ssize Z v0 h0 n0 _ s₁.heap _
      rw [e0]
      exact ⟨congrArg (fun z => some (Value.int z)) (Eq.symm ((if_pos hc5_1).trans ((if_neg hc30_2).trans ((if_neg hc30_3).trans ((if_neg hc30_4).trans ((if_neg hc30_5).trans ((if_pos hc30_6).trans rfl))))))), N0, rfl⟩
    refine G_ifYes X0 hx (pc' := 38) (hb hby d10_30) ((if0 _ _).trans (flt (fun q => hc30_6 ((lw_gt _ _).1 q))).2.2.2) (by decide) (by decide) ?_
    refine G_ldc2 X0 hx (pc' := 41) rfl hown (mvT hZ (own_w hw 153 rfl)) (hb hby d10_38) ?_
    refine G_lloadN X0 hx (pc' := 42) rfl (hb hby d10_41) rfl ?_
    refine G_lmul X0 hx (pc' := 43) rfl (hb hby d10_42)  ?_
    rw [show ((10 : Int64) * (-100000 : Int64)) = (-1000000 : Int64) from by decide]
    refine G_lstoreN X0 hx (pc' := 44) rfl (hb hby d10_43) (L' := #[.val (.long v0), .second, .val (.int (1 : Int32)), .val (.long (-1000000 : Int64)), .second, .val (.int (5 : Int32))]) rfl ?_
    refine G_iinc X0 hx (pc' := 47) rfl (hb hby d10_44) rfl (z := (6 : Int32)) rfl (L' := #[.val (.long v0), .second, .val (.int (1 : Int32)), .val (.long (-1000000 : Int64)), .second, .val (.int (6 : Int32))]) rfl ?_
    refine G_goto X0 hx (pc' := 20) (hb hby d10_47)  (by decide) (by decide) ?_
    refine G_iload X0 hx (pc' := 22) rfl (hb hby d10_20) rfl ?_
    refine G_bipush X0 hx (pc' := 24) rfl (hb hby d10_22) (z := (19 : Int32)) rfl ?_
    refine G_icmpNo X0 hx (pc' := 27) rfl (hb hby d10_24) (tlt (by decide : (6 : Int32) < (19 : Int32))).2.1 ?_
    refine G_lloadN X0 hx (pc' := 28) rfl (hb hby d10_27) rfl ?_
    refine G_lloadN X0 hx (pc' := 29) rfl (hb hby d10_28) rfl ?_
    refine G_lcmp X0 hx (pc' := 30) rfl (hb hby d10_29)  ?_
    by_cases hc30_7 : (-1000000 : Int64) < v0
    · refine G_ifNo X0 hx (pc' := 33) rfl (hb hby d10_30) ((if0 _ _).trans (tlt ((lw_gt _ _).2 hc30_7)).2.2.2) ?_
      refine G_iload X0 hx (pc' := 35) rfl (hb hby d10_33) rfl ?_
      refine G_iloadN X0 hx (pc' := 36) rfl (hb hby d10_35) rfl ?_
      refine G_iadd X0 hx (pc' := 37) rfl (hb hby d10_36)  ?_
      rw [show ((6 : Int32) + (1 : Int32)) = (7 : Int32) from by decide]
      refine Go.fin X0 hlk (v := some (.int (7 : Int32))) (fun h => by rw [Bd.returns] at h; cases h) (by decide) (by decide) ?_ (fun fs hr => retOut X0 hx Bd.returns rfl (Or.inl ⟨rfl, Or.inl rfl, _, rfl⟩) (hb hby d10_37) hr)
      show Q_ssize Z v0 h0 n0 _ s₁.heap _
      rw [e0]
      exact ⟨congrArg (fun z => some (Value.int z)) (Eq.symm ((if_pos hc5_1).trans ((if_neg hc30_2).trans ((if_neg hc30_3).trans ((if_neg hc30_4).trans ((if_neg hc30_5).trans ((if_neg hc30_6).trans ((if_pos hc30_7).trans rfl)))))))), N0, rfl⟩
    refine G_ifYes X0 hx (pc' := 38) (hb hby d10_30) ((if0 _ _).trans (flt (fun q => hc30_7 ((lw_gt _ _).1 q))).2.2.2) (by decide) (by decide) ?_
    refine G_ldc2 X0 hx (pc' := 41) rfl hown (mvT hZ (own_w hw 153 rfl)) (hb hby d10_38) ?_
    refine G_lloadN X0 hx (pc' := 42) rfl (hb hby d10_41) rfl ?_
    refine G_lmul X0 hx (pc' := 43) rfl (hb hby d10_42)  ?_
    rw [show ((10 : Int64) * (-1000000 : Int64)) = (-10000000 : Int64) from by decide]
    refine G_lstoreN X0 hx (pc' := 44) rfl (hb hby d10_43) (L' := #[.val (.long v0), .second, .val (.int (1 : Int32)), .val (.long (-10000000 : Int64)), .second, .val (.int (6 : Int32))]) rfl ?_
    refine G_iinc X0 hx (pc' := 47) rfl (hb hby d10_44) rfl (z := (7 : Int32)) rfl (L' := #[.val (.long v0), .second, .val (.int (1 : Int32)), .val (.long (-10000000 : Int64)), .second, .val (.int (7 : Int32))]) rfl ?_
    refine G_goto X0 hx (pc' := 20) (hb hby d10_47)  (by decide) (by decide) ?_
    refine G_iload X0 hx (pc' := 22) rfl (hb hby d10_20) rfl ?_
    refine G_bipush X0 hx (pc' := 24) rfl (hb hby d10_22) (z := (19 : Int32)) rfl ?_
    refine G_icmpNo X0 hx (pc' := 27) rfl (hb hby d10_24) (tlt (by decide : (7 : Int32) < (19 : Int32))).2.1 ?_
    refine G_lloadN X0 hx (pc' := 28) rfl (hb hby d10_27) rfl ?_
    refine G_lloadN X0 hx (pc' := 29) rfl (hb hby d10_28) rfl ?_
    refine G_lcmp X0 hx (pc' := 30) rfl (hb hby d10_29)  ?_
    by_cases hc30_8 : (-10000000 : Int64) < v0
    · refine G_ifNo X0 hx (pc' := 33) rfl (hb hby d10_30) ((if0 _ _).trans (tlt ((lw_gt _ _).2 hc30_8)).2.2.2) ?_
      refine G_iload X0 hx (pc' := 35) rfl (hb hby d10_33) rfl ?_
      refine G_iloadN X0 hx (pc' := 36) rfl (hb hby d10_35) rfl ?_
      refine G_iadd X0 hx (pc' := 37) rfl (hb hby d10_36)  ?_
      rw [show ((7 : Int32) + (1 : Int32)) = (8 : Int32) from by decide]
      refine Go.fin X0 hlk (v := some (.int (8 : Int32))) (fun h => by rw [Bd.returns] at h; cases h) (by decide) (by decide) ?_ (fun fs hr => retOut X0 hx Bd.returns rfl (Or.inl ⟨rfl, Or.inl rfl, _, rfl⟩) (hb hby d10_37) hr)
      show Q_ssize Z v0 h0 n0 _ s₁.heap _
      rw [e0]
      exact ⟨congrArg (fun z => some (Value.int z)) (Eq.symm ((if_pos hc5_1).trans ((if_neg hc30_2).trans ((if_neg hc30_3).trans ((if_neg hc30_4).trans ((if_neg hc30_5).trans ((if_neg hc30_6).trans ((if_neg hc30_7).trans ((if_pos hc30_8).trans rfl))))))))), N0, rfl⟩
    refine G_ifYes X0 hx (pc' := 38) (hb hby d10_30) ((if0 _ _).trans (flt (fun q => hc30_8 ((lw_gt _ _).1 q))).2.2.2) (by decide) (by decide) ?_
    refine G_ldc2 X0 hx (pc' := 41) rfl hown (mvT hZ (own_w hw 153 rfl)) (hb hby d10_38) ?_
    refine G_lloadN X0 hx (pc' := 42) rfl (hb hby d10_41) rfl ?_
    refine G_lmul X0 hx (pc' := 43) rfl (hb hby d10_42)  ?_
    rw [show ((10 : Int64) * (-10000000 : Int64)) = (-100000000 : Int64) from by decide]
    refine G_lstoreN X0 hx (pc' := 44) rfl (hb hby d10_43) (L' := #[.val (.long v0), .second, .val (.int (1 : Int32)), .val (.long (-100000000 : Int64)), .second, .val (.int (7 : Int32))]) rfl ?_
    refine G_iinc X0 hx (pc' := 47) rfl (hb hby d10_44) rfl (z := (8 : Int32)) rfl (L' := #[.val (.long v0), .second, .val (.int (1 : Int32)), .val (.long (-100000000 : Int64)), .second, .val (.int (8 : Int32))]) rfl ?_
    refine G_goto X0 hx (pc' := 20) (hb hby d10_47)  (by decide) (by decide) ?_
    refine G_iload X0 hx (pc' := 22) rfl (hb hby d10_20) rfl ?_
    refine G_bipush X0 hx (pc' := 24) rfl (hb hby d10_22) (z := (19 : Int32)) rfl ?_
    refine G_icmpNo X0 hx (pc' := 27) rfl (hb hby d10_24) (tlt (by decide : (8 : Int32) < (19 : Int32))).2.1 ?_
    refine G_lloadN X0 hx (pc' := 28) rfl (hb hby d10_27) rfl ?_
    refine G_lloadN X0 hx (pc' := 29) rfl (hb hby d10_28) rfl ?_
    refine G_lcmp X0 hx (pc' := 30) rfl (hb hby d10_29)  ?_
    by_cases hc30_9 : (-100000000 : Int64) < v0
    · refine G_ifNo X0 hx (pc' := 33) rfl (hb hby d10_30) ((if0 _ _).trans (tlt ((lw_gt _ _).2 hc30_9)).2.2.2) ?_
      refine G_iload X0 hx (pc' := 35) rfl (hb hby d10_33) rfl ?_
      refine G_iloadN X0 hx (pc' := 36) rfl (hb hby d10_35) rfl ?_
      refine G_iadd X0 hx (pc' := 37) rfl (hb hby d10_36)  ?_
      rw [show ((8 : Int32) + (1 : Int32)) = (9 : Int32) from by decide]
      refine Go.fin X0 hlk (v := some (.int (9 : Int32))) (fun h => by rw [Bd.returns] at h; cases h) (by decide) (by decide) ?_ (fun fs hr => retOut X0 hx Bd.returns rfl (Or.inl ⟨rfl, Or.inl rfl, _, rfl⟩) (hb hby d10_37) hr)
      show Q_ssize Z v0 h0 n0 _ s₁.heap _
      rw [e0]
      exact ⟨congrArg (fun z => some (Value.int z)) (Eq.symm ((if_pos hc5_1).trans ((if_neg hc30_2).trans ((if_neg hc30_3).trans ((if_neg hc30_4).trans ((if_neg hc30_5).trans ((if_neg hc30_6).trans ((if_neg hc30_7).trans ((if_neg hc30_8).trans ((if_pos hc30_9).trans rfl)))))))))), N0, rfl⟩
    refine G_ifYes X0 hx (pc' := 38) (hb hby d10_30) ((if0 _ _).trans (flt (fun q => hc30_9 ((lw_gt _ _).1 q))).2.2.2) (by decide) (by decide) ?_
    refine G_ldc2 X0 hx (pc' := 41) rfl hown (mvT hZ (own_w hw 153 rfl)) (hb hby d10_38) ?_
    refine G_lloadN X0 hx (pc' := 42) rfl (hb hby d10_41) rfl ?_
    refine G_lmul X0 hx (pc' := 43) rfl (hb hby d10_42)  ?_
    rw [show ((10 : Int64) * (-100000000 : Int64)) = (-1000000000 : Int64) from by decide]
    refine G_lstoreN X0 hx (pc' := 44) rfl (hb hby d10_43) (L' := #[.val (.long v0), .second, .val (.int (1 : Int32)), .val (.long (-1000000000 : Int64)), .second, .val (.int (8 : Int32))]) rfl ?_
    refine G_iinc X0 hx (pc' := 47) rfl (hb hby d10_44) rfl (z := (9 : Int32)) rfl (L' := #[.val (.long v0), .second, .val (.int (1 : Int32)), .val (.long (-1000000000 : Int64)), .second, .val (.int (9 : Int32))]) rfl ?_
    refine G_goto X0 hx (pc' := 20) (hb hby d10_47)  (by decide) (by decide) ?_
    refine G_iload X0 hx (pc' := 22) rfl (hb hby d10_20) rfl ?_
    refine G_bipush X0 hx (pc' := 24) rfl (hb hby d10_22) (z := (19 : Int32)) rfl ?_
    refine G_icmpNo X0 hx (pc' := 27) rfl (hb hby d10_24) (tlt (by decide : (9 : Int32) < (19 : Int32))).2.1 ?_
    refine G_lloadN X0 hx (pc' := 28) rfl (hb hby d10_27) rfl ?_
    refine G_lloadN X0 hx (pc' := 29) rfl (hb hby d10_28) rfl ?_
    refine G_lcmp X0 hx (pc' := 30) rfl (hb hby d10_29)  ?_
    by_cases hc30_10 : (-1000000000 : Int64) < v0
    · refine G_ifNo X0 hx (pc' := 33) rfl (hb hby d10_30) ((if0 _ _).trans (tlt ((lw_gt _ _).2 hc30_10)).2.2.2) ?_
      refine G_iload X0 hx (pc' := 35) rfl (hb hby d10_33) rfl ?_
      refine G_iloadN X0 hx (pc' := 36) rfl (hb hby d10_35) rfl ?_
      refine G_iadd X0 hx (pc' := 37) rfl (hb hby d10_36)  ?_
      rw [show ((9 : Int32) + (1 : Int32)) = (10 : Int32) from by decide]
      refine Go.fin X0 hlk (v := some (.int (10 : Int32))) (fun h => by rw [Bd.returns] at h; cases h) (by decide) (by decide) ?_ (fun fs hr => retOut X0 hx Bd.returns rfl (Or.inl ⟨rfl, Or.inl rfl, _, rfl⟩) (hb hby d10_37) hr)
      show Q_ssize Z v0 h0 n0 _ s₁.heap _
      rw [e0]
      exact ⟨congrArg (fun z => some (Value.int z)) (Eq.symm ((if_pos hc5_1).trans ((if_neg hc30_2).trans ((if_neg hc30_3).trans ((if_neg hc30_4).trans ((if_neg hc30_5).trans ((if_neg hc30_6).trans ((if_neg hc30_7).trans ((if_neg hc30_8).trans ((if_neg hc30_9).trans ((if_pos hc30_10).trans rfl))))))))))), N0, rfl⟩
    refine G_ifYes X0 hx (pc' := 38) (hb hby d10_30) ((if0 _ _).trans (flt (fun q => hc30_10 ((lw_gt _ _).1 q))).2.2.2) (by decide) (by decide) ?_
    refine G_ldc2 X0 hx (pc' := 41) rfl hown (mvT hZ (own_w hw 153 rfl)) (hb hby d10_38) ?_
    refine G_lloadN X0 hx (pc' := 42) rfl (hb hby d10_41) rfl ?_
    refine G_lmul X0 hx (pc' := 43) rfl (hb hby d10_42)  ?_
    rw [show ((10 : Int64) * (-1000000000 : Int64)) = (-10000000000 : Int64) from by decide]
    refine G_lstoreN X0 hx (pc' := 44) rfl (hb hby d10_43) (L' := #[.val (.long v0), .second, .val (.int (1 : Int32)), .val (.long (-10000000000 : Int64)), .second, .val (.int (9 : Int32))]) rfl ?_
    refine G_iinc X0 hx (pc' := 47) rfl (hb hby d10_44) rfl (z := (10 : Int32)) rfl (L' := #[.val (.long v0), .second, .val (.int (1 : Int32)), .val (.long (-10000000000 : Int64)), .second, .val (.int (10 : Int32))]) rfl ?_
    refine G_goto X0 hx (pc' := 20) (hb hby d10_47)  (by decide) (by decide) ?_
    refine G_iload X0 hx (pc' := 22) rfl (hb hby d10_20) rfl ?_
    refine G_bipush X0 hx (pc' := 24) rfl (hb hby d10_22) (z := (19 : Int32)) rfl ?_
    refine G_icmpNo X0 hx (pc' := 27) rfl (hb hby d10_24) (tlt (by decide : (10 : Int32) < (19 : Int32))).2.1 ?_
    refine G_lloadN X0 hx (pc' := 28) rfl (hb hby d10_27) rfl ?_
    refine G_lloadN X0 hx (pc' := 29) rfl (hb hby d10_28) rfl ?_
    refine G_lcmp X0 hx (pc' := 30) rfl (hb hby d10_29)  ?_
    by_cases hc30_11 : (-10000000000 : Int64) < v0
    · refine G_ifNo X0 hx (pc' := 33) rfl (hb hby d10_30) ((if0 _ _).trans (tlt ((lw_gt _ _).2 hc30_11)).2.2.2) ?_
      refine G_iload X0 hx (pc' := 35) rfl (hb hby d10_33) rfl ?_
      refine G_iloadN X0 hx (pc' := 36) rfl (hb hby d10_35) rfl ?_
      refine G_iadd X0 hx (pc' := 37) rfl (hb hby d10_36)  ?_
      rw [show ((10 : Int32) + (1 : Int32)) = (11 : Int32) from by decide]
      refine Go.fin X0 hlk (v := some (.int (11 : Int32))) (fun h => by rw [Bd.returns] at h; cases h) (by decide) (by decide) ?_ (fun fs hr => retOut X0 hx Bd.returns rfl (Or.inl ⟨rfl, Or.inl rfl, _, rfl⟩) (hb hby d10_37) hr)
      show Q_ssize Z v0 h0 n0 _ s₁.heap _
      rw [e0]
      exact ⟨congrArg (fun z => some (Value.int z)) (Eq.symm ((if_pos hc5_1).trans ((if_neg hc30_2).trans ((if_neg hc30_3).trans ((if_neg hc30_4).trans ((if_neg hc30_5).trans ((if_neg hc30_6).trans ((if_neg hc30_7).trans ((if_neg hc30_8).trans ((if_neg hc30_9).trans ((if_neg hc30_10).trans ((if_pos hc30_11).trans rfl)))))))))))), N0, rfl⟩
    refine G_ifYes X0 hx (pc' := 38) (hb hby d10_30) ((if0 _ _).trans (flt (fun q => hc30_11 ((lw_gt _ _).1 q))).2.2.2) (by decide) (by decide) ?_
    refine G_ldc2 X0 hx (pc' := 41) rfl hown (mvT hZ (own_w hw 153 rfl)) (hb hby d10_38) ?_
    refine G_lloadN X0 hx (pc' := 42) rfl (hb hby d10_41) rfl ?_
    refine G_lmul X0 hx (pc' := 43) rfl (hb hby d10_42)  ?_
    rw [show ((10 : Int64) * (-10000000000 : Int64)) = (-100000000000 : Int64) from by decide]
    refine G_lstoreN X0 hx (pc' := 44) rfl (hb hby d10_43) (L' := #[.val (.long v0), .second, .val (.int (1 : Int32)), .val (.long (-100000000000 : Int64)), .second, .val (.int (10 : Int32))]) rfl ?_
    refine G_iinc X0 hx (pc' := 47) rfl (hb hby d10_44) rfl (z := (11 : Int32)) rfl (L' := #[.val (.long v0), .second, .val (.int (1 : Int32)), .val (.long (-100000000000 : Int64)), .second, .val (.int (11 : Int32))]) rfl ?_
    refine G_goto X0 hx (pc' := 20) (hb hby d10_47)  (by decide) (by decide) ?_
    refine G_iload X0 hx (pc' := 22) rfl (hb hby d10_20) rfl ?_
    refine G_bipush X0 hx (pc' := 24) rfl (hb hby d10_22) (z := (19 : Int32)) rfl ?_
    refine G_icmpNo X0 hx (pc' := 27) rfl (hb hby d10_24) (tlt (by decide : (11 : Int32) < (19 : Int32))).2.1 ?_
    refine G_lloadN X0 hx (pc' := 28) rfl (hb hby d10_27) rfl ?_
    refine G_lloadN X0 hx (pc' := 29) rfl (hb hby d10_28) rfl ?_
    refine G_lcmp X0 hx (pc' := 30) rfl (hb hby d10_29)  ?_
    by_cases hc30_12 : (-100000000000 : Int64) < v0
    · refine G_ifNo X0 hx (pc' := 33) rfl (hb hby d10_30) ((if0 _ _).trans (tlt ((lw_gt _ _).2 hc30_12)).2.2.2) ?_
      refine G_iload X0 hx (pc' := 35) rfl (hb hby d10_33) rfl ?_
      refine G_iloadN X0 hx (pc' := 36) rfl (hb hby d10_35) rfl ?_
      refine G_iadd X0 hx (pc' := 37) rfl (hb hby d10_36)  ?_
      rw [show ((11 : Int32) + (1 : Int32)) = (12 : Int32) from by decide]
      refine Go.fin X0 hlk (v := some (.int (12 : Int32))) (fun h => by rw [Bd.returns] at h; cases h) (by decide) (by decide) ?_ (fun fs hr => retOut X0 hx Bd.returns rfl (Or.inl ⟨rfl, Or.inl rfl, _, rfl⟩) (hb hby d10_37) hr)
      show Q_ssize Z v0 h0 n0 _ s₁.heap _
      rw [e0]
      exact ⟨congrArg (fun z => some (Value.int z)) (Eq.symm ((if_pos hc5_1).trans ((if_neg hc30_2).trans ((if_neg hc30_3).trans ((if_neg hc30_4).trans ((if_neg hc30_5).trans ((if_neg hc30_6).trans ((if_neg hc30_7).trans ((if_neg hc30_8).trans ((if_neg hc30_9).trans ((if_neg hc30_10).trans ((if_neg hc30_11).trans ((if_pos hc30_12).trans rfl))))))))))))), N0, rfl⟩
    refine G_ifYes X0 hx (pc' := 38) (hb hby d10_30) ((if0 _ _).trans (flt (fun q => hc30_12 ((lw_gt _ _).1 q))).2.2.2) (by decide) (by decide) ?_
    refine G_ldc2 X0 hx (pc' := 41) rfl hown (mvT hZ (own_w hw 153 rfl)) (hb hby d10_38) ?_
    refine G_lloadN X0 hx (pc' := 42) rfl (hb hby d10_41) rfl ?_
    refine G_lmul X0 hx (pc' := 43) rfl (hb hby d10_42)  ?_
    rw [show ((10 : Int64) * (-100000000000 : Int64)) = (-1000000000000 : Int64) from by decide]
    refine G_lstoreN X0 hx (pc' := 44) rfl (hb hby d10_43) (L' := #[.val (.long v0), .second, .val (.int (1 : Int32)), .val (.long (-1000000000000 : Int64)), .second, .val (.int (11 : Int32))]) rfl ?_
    refine G_iinc X0 hx (pc' := 47) rfl (hb hby d10_44) rfl (z := (12 : Int32)) rfl (L' := #[.val (.long v0), .second, .val (.int (1 : Int32)), .val (.long (-1000000000000 : Int64)), .second, .val (.int (12 : Int32))]) rfl ?_
    refine G_goto X0 hx (pc' := 20) (hb hby d10_47)  (by decide) (by decide) ?_
    refine G_iload X0 hx (pc' := 22) rfl (hb hby d10_20) rfl ?_
    refine G_bipush X0 hx (pc' := 24) rfl (hb hby d10_22) (z := (19 : Int32)) rfl ?_
    refine G_icmpNo X0 hx (pc' := 27) rfl (hb hby d10_24) (tlt (by decide : (12 : Int32) < (19 : Int32))).2.1 ?_
    refine G_lloadN X0 hx (pc' := 28) rfl (hb hby d10_27) rfl ?_
    refine G_lloadN X0 hx (pc' := 29) rfl (hb hby d10_28) rfl ?_
    refine G_lcmp X0 hx (pc' := 30) rfl (hb hby d10_29)  ?_
    by_cases hc30_13 : (-1000000000000 : Int64) < v0
    · refine G_ifNo X0 hx (pc' := 33) rfl (hb hby d10_30) ((if0 _ _).trans (tlt ((lw_gt _ _).2 hc30_13)).2.2.2) ?_
      refine G_iload X0 hx (pc' := 35) rfl (hb hby d10_33) rfl ?_
      refine G_iloadN X0 hx (pc' := 36) rfl (hb hby d10_35) rfl ?_
      refine G_iadd X0 hx (pc' := 37) rfl (hb hby d10_36)  ?_
      rw [show ((12 : Int32) + (1 : Int32)) = (13 : Int32) from by decide]
      refine Go.fin X0 hlk (v := some (.int (13 : Int32))) (fun h => by rw [Bd.returns] at h; cases h) (by decide) (by decide) ?_ (fun fs hr => retOut X0 hx Bd.returns rfl (Or.inl ⟨rfl, Or.inl rfl, _, rfl⟩) (hb hby d10_37) hr)
      show Q_ssize Z v0 h0 n0 _ s₁.heap _
      rw [e0]
      exact ⟨congrArg (fun z => some (Value.int z)) (Eq.symm ((if_pos hc5_1).trans ((if_neg hc30_2).trans ((if_neg hc30_3).trans ((if_neg hc30_4).trans ((if_neg hc30_5).trans ((if_neg hc30_6).trans ((if_neg hc30_7).trans ((if_neg hc30_8).trans ((if_neg hc30_9).trans ((if_neg hc30_10).trans ((if_neg hc30_11).trans ((if_neg hc30_12).trans ((if_pos hc30_13).trans rfl)))))))))))))), N0, rfl⟩
    refine G_ifYes X0 hx (pc' := 38) (hb hby d10_30) ((if0 _ _).trans (flt (fun q => hc30_13 ((lw_gt _ _).1 q))).2.2.2) (by decide) (by decide) ?_
    refine G_ldc2 X0 hx (pc' := 41) rfl hown (mvT hZ (own_w hw 153 rfl)) (hb hby d10_38) ?_
    refine G_lloadN X0 hx (pc' := 42) rfl (hb hby d10_41) rfl ?_
    refine G_lmul X0 hx (pc' := 43) rfl (hb hby d10_42)  ?_
    rw [show ((10 : Int64) * (-1000000000000 : Int64)) = (-10000000000000 : Int64) from by decide]
    refine G_lstoreN X0 hx (pc' := 44) rfl (hb hby d10_43) (L' := #[.val (.long v0), .second, .val (.int (1 : Int32)), .val (.long (-10000000000000 : Int64)), .second, .val (.int (12 : Int32))]) rfl ?_
    refine G_iinc X0 hx (pc' := 47) rfl (hb hby d10_44) rfl (z := (13 : Int32)) rfl (L' := #[.val (.long v0), .second, .val (.int (1 : Int32)), .val (.long (-10000000000000 : Int64)), .second, .val (.int (13 : Int32))]) rfl ?_
    refine G_goto X0 hx (pc' := 20) (hb hby d10_47)  (by decide) (by decide) ?_
    refine G_iload X0 hx (pc' := 22) rfl (hb hby d10_20) rfl ?_
    refine G_bipush X0 hx (pc' := 24) rfl (hb hby d10_22) (z := (19 : Int32)) rfl ?_
    refine G_icmpNo X0 hx (pc' := 27) rfl (hb hby d10_24) (tlt (by decide : (13 : Int32) < (19 : Int32))).2.1 ?_
    refine G_lloadN X0 hx (pc' := 28) rfl (hb hby d10_27) rfl ?_
    refine G_lloadN X0 hx (pc' := 29) rfl (hb hby d10_28) rfl ?_
    refine G_lcmp X0 hx (pc' := 30) rfl (hb hby d10_29)  ?_
    by_cases hc30_14 : (-10000000000000 : Int64) < v0
    · refine G_ifNo X0 hx (pc' := 33) rfl (hb hby d10_30) ((if0 _ _).trans (tlt ((lw_gt _ _).2 hc30_14)).2.2.2) ?_
      refine G_iload X0 hx (pc' := 35) rfl (hb hby d10_33) rfl ?_
      refine G_iloadN X0 hx (pc' := 36) rfl (hb hby d10_35) rfl ?_
      refine G_iadd X0 hx (pc' := 37) rfl (hb hby d10_36)  ?_
      rw [show ((13 : Int32) + (1 : Int32)) = (14 : Int32) from by decide]
      refine Go.fin X0 hlk (v := some (.int (14 : Int32))) (fun h => by rw [Bd.returns] at h; cases h) (by decide) (by decide) ?_ (fun fs hr => retOut X0 hx Bd.returns rfl (Or.inl ⟨rfl, Or.inl rfl, _, rfl⟩) (hb hby d10_37) hr)
      show Q_ssize Z v0 h0 n0 _ s₁.heap _
      rw [e0]
      exact ⟨congrArg (fun z => some (Value.int z)) (Eq.symm ((if_pos hc5_1).trans ((if_neg hc30_2).trans ((if_neg hc30_3).trans ((if_neg hc30_4).trans ((if_neg hc30_5).trans ((if_neg hc30_6).trans ((if_neg hc30_7).trans ((if_neg hc30_8).trans ((if_neg hc30_9).trans ((if_neg hc30_10).trans ((if_neg hc30_11).trans ((if_neg hc30_12).trans ((if_neg hc30_13).trans ((if_pos hc30_14).trans rfl))))))))))))))), N0, rfl⟩
    refine G_ifYes X0 hx (pc' := 38) (hb hby d10_30) ((if0 _ _).trans (flt (fun q => hc30_14 ((lw_gt _ _).1 q))).2.2.2) (by decide) (by decide) ?_
    refine G_ldc2 X0 hx (pc' := 41) rfl hown (mvT hZ (own_w hw 153 rfl)) (hb hby d10_38) ?_
    refine G_lloadN X0 hx (pc' := 42) rfl (hb hby d10_41) rfl ?_
    refine G_lmul X0 hx (pc' := 43) rfl (hb hby d10_42)  ?_
    rw [show ((10 : Int64) * (-10000000000000 : Int64)) = (-100000000000000 : Int64) from by decide]
    refine G_lstoreN X0 hx (pc' := 44) rfl (hb hby d10_43) (L' := #[.val (.long v0), .second, .val (.int (1 : Int32)), .val (.long (-100000000000000 : Int64)), .second, .val (.int (13 : Int32))]) rfl ?_
    refine G_iinc X0 hx (pc' := 47) rfl (hb hby d10_44) rfl (z := (14 : Int32)) rfl (L' := #[.val (.long v0), .second, .val (.int (1 : Int32)), .val (.long (-100000000000000 : Int64)), .second, .val (.int (14 : Int32))]) rfl ?_
    refine G_goto X0 hx (pc' := 20) (hb hby d10_47)  (by decide) (by decide) ?_
    refine G_iload X0 hx (pc' := 22) rfl (hb hby d10_20) rfl ?_
    refine G_bipush X0 hx (pc' := 24) rfl (hb hby d10_22) (z := (19 : Int32)) rfl ?_
    refine G_icmpNo X0 hx (pc' := 27) rfl (hb hby d10_24) (tlt (by decide : (14 : Int32) < (19 : Int32))).2.1 ?_
    refine G_lloadN X0 hx (pc' := 28) rfl (hb hby d10_27) rfl ?_
    refine G_lloadN X0 hx (pc' := 29) rfl (hb hby d10_28) rfl ?_
    refine G_lcmp X0 hx (pc' := 30) rfl (hb hby d10_29)  ?_
    by_cases hc30_15 : (-100000000000000 : Int64) < v0
    · refine G_ifNo X0 hx (pc' := 33) rfl (hb hby d10_30) ((if0 _ _).trans (tlt ((lw_gt _ _).2 hc30_15)).2.2.2) ?_
      refine G_iload X0 hx (pc' := 35) rfl (hb hby d10_33) rfl ?_
      refine G_iloadN X0 hx (pc' := 36) rfl (hb hby d10_35) rfl ?_
      refine G_iadd X0 hx (pc' := 37) rfl (hb hby d10_36)  ?_
      rw [show ((14 : Int32) + (1 : Int32)) = (15 : Int32) from by decide]
      refine Go.fin X0 hlk (v := some (.int (15 : Int32))) (fun h => by rw [Bd.returns] at h; cases h) (by decide) (by decide) ?_ (fun fs hr => retOut X0 hx Bd.returns rfl (Or.inl ⟨rfl, Or.inl rfl, _, rfl⟩) (hb hby d10_37) hr)
      show Q_ssize Z v0 h0 n0 _ s₁.heap _
      rw [e0]
      exact ⟨congrArg (fun z => some (Value.int z)) (Eq.symm ((if_pos hc5_1).trans ((if_neg hc30_2).trans ((if_neg hc30_3).trans ((if_neg hc30_4).trans ((if_neg hc30_5).trans ((if_neg hc30_6).trans ((if_neg hc30_7).trans ((if_neg hc30_8).trans ((if_neg hc30_9).trans ((if_neg hc30_10).trans ((if_neg hc30_11).trans ((if_neg hc30_12).trans ((if_neg hc30_13).trans ((if_neg hc30_14).trans ((if_pos hc30_15).trans rfl)))))))))))))))), N0, rfl⟩
    refine G_ifYes X0 hx (pc' := 38) (hb hby d10_30) ((if0 _ _).trans (flt (fun q => hc30_15 ((lw_gt _ _).1 q))).2.2.2) (by decide) (by decide) ?_
    refine G_ldc2 X0 hx (pc' := 41) rfl hown (mvT hZ (own_w hw 153 rfl)) (hb hby d10_38) ?_
    refine G_lloadN X0 hx (pc' := 42) rfl (hb hby d10_41) rfl ?_
    refine G_lmul X0 hx (pc' := 43) rfl (hb hby d10_42)  ?_
    rw [show ((10 : Int64) * (-100000000000000 : Int64)) = (-1000000000000000 : Int64) from by decide]
    refine G_lstoreN X0 hx (pc' := 44) rfl (hb hby d10_43) (L' := #[.val (.long v0), .second, .val (.int (1 : Int32)), .val (.long (-1000000000000000 : Int64)), .second, .val (.int (14 : Int32))]) rfl ?_
    refine G_iinc X0 hx (pc' := 47) rfl (hb hby d10_44) rfl (z := (15 : Int32)) rfl (L' := #[.val (.long v0), .second, .val (.int (1 : Int32)), .val (.long (-1000000000000000 : Int64)), .second, .val (.int (15 : Int32))]) rfl ?_
    refine G_goto X0 hx (pc' := 20) (hb hby d10_47)  (by decide) (by decide) ?_
    refine G_iload X0 hx (pc' := 22) rfl (hb hby d10_20) rfl ?_
    refine G_bipush X0 hx (pc' := 24) rfl (hb hby d10_22) (z := (19 : Int32)) rfl ?_
    refine G_icmpNo X0 hx (pc' := 27) rfl (hb hby d10_24) (tlt (by decide : (15 : Int32) < (19 : Int32))).2.1 ?_
    refine G_lloadN X0 hx (pc' := 28) rfl (hb hby d10_27) rfl ?_
    refine G_lloadN X0 hx (pc' := 29) rfl (hb hby d10_28) rfl ?_
    refine G_lcmp X0 hx (pc' := 30) rfl (hb hby d10_29)  ?_
    by_cases hc30_16 : (-1000000000000000 : Int64) < v0
    · refine G_ifNo X0 hx (pc' := 33) rfl (hb hby d10_30) ((if0 _ _).trans (tlt ((lw_gt _ _).2 hc30_16)).2.2.2) ?_
      refine G_iload X0 hx (pc' := 35) rfl (hb hby d10_33) rfl ?_
      refine G_iloadN X0 hx (pc' := 36) rfl (hb hby d10_35) rfl ?_
      refine G_iadd X0 hx (pc' := 37) rfl (hb hby d10_36)  ?_
      rw [show ((15 : Int32) + (1 : Int32)) = (16 : Int32) from by decide]
      refine Go.fin X0 hlk (v := some (.int (16 : Int32))) (fun h => by rw [Bd.returns] at h; cases h) (by decide) (by decide) ?_ (fun fs hr => retOut X0 hx Bd.returns rfl (Or.inl ⟨rfl, Or.inl rfl, _, rfl⟩) (hb hby d10_37) hr)
      show Q_ssize Z v0 h0 n0 _ s₁.heap _
      rw [e0]
      exact ⟨congrArg (fun z => some (Value.int z)) (Eq.symm ((if_pos hc5_1).trans ((if_neg hc30_2).trans ((if_neg hc30_3).trans ((if_neg hc30_4).trans ((if_neg hc30_5).trans ((if_neg hc30_6).trans ((if_neg hc30_7).trans ((if_neg hc30_8).trans ((if_neg hc30_9).trans ((if_neg hc30_10).trans ((if_neg hc30_11).trans ((if_neg hc30_12).trans ((if_neg hc30_13).trans ((if_neg hc30_14).trans ((if_neg hc30_15).trans ((if_pos hc30_16).trans rfl))))))))))))))))), N0, rfl⟩
    refine G_ifYes X0 hx (pc' := 38) (hb hby d10_30) ((if0 _ _).trans (flt (fun q => hc30_16 ((lw_gt _ _).1 q))).2.2.2) (by decide) (by decide) ?_
    refine G_ldc2 X0 hx (pc' := 41) rfl hown (mvT hZ (own_w hw 153 rfl)) (hb hby d10_38) ?_
    refine G_lloadN X0 hx (pc' := 42) rfl (hb hby d10_41) rfl ?_
    refine G_lmul X0 hx (pc' := 43) rfl (hb hby d10_42)  ?_
    rw [show ((10 : Int64) * (-1000000000000000 : Int64)) = (-10000000000000000 : Int64) from by decide]
    refine G_lstoreN X0 hx (pc' := 44) rfl (hb hby d10_43) (L' := #[.val (.long v0), .second, .val (.int (1 : Int32)), .val (.long (-10000000000000000 : Int64)), .second, .val (.int (15 : Int32))]) rfl ?_
    refine G_iinc X0 hx (pc' := 47) rfl (hb hby d10_44) rfl (z := (16 : Int32)) rfl (L' := #[.val (.long v0), .second, .val (.int (1 : Int32)), .val (.long (-10000000000000000 : Int64)), .second, .val (.int (16 : Int32))]) rfl ?_
    refine G_goto X0 hx (pc' := 20) (hb hby d10_47)  (by decide) (by decide) ?_
    refine G_iload X0 hx (pc' := 22) rfl (hb hby d10_20) rfl ?_
    refine G_bipush X0 hx (pc' := 24) rfl (hb hby d10_22) (z := (19 : Int32)) rfl ?_
    refine G_icmpNo X0 hx (pc' := 27) rfl (hb hby d10_24) (tlt (by decide : (16 : Int32) < (19 : Int32))).2.1 ?_
    refine G_lloadN X0 hx (pc' := 28) rfl (hb hby d10_27) rfl ?_
    refine G_lloadN X0 hx (pc' := 29) rfl (hb hby d10_28) rfl ?_
    refine G_lcmp X0 hx (pc' := 30) rfl (hb hby d10_29)  ?_
    by_cases hc30_17 : (-10000000000000000 : Int64) < v0
    · refine G_ifNo X0 hx (pc' := 33) rfl (hb hby d10_30) ((if0 _ _).trans (tlt ((lw_gt _ _).2 hc30_17)).2.2.2) ?_
      refine G_iload X0 hx (pc' := 35) rfl (hb hby d10_33) rfl ?_
      refine G_iloadN X0 hx (pc' := 36) rfl (hb hby d10_35) rfl ?_
      refine G_iadd X0 hx (pc' := 37) rfl (hb hby d10_36)  ?_
      rw [show ((16 : Int32) + (1 : Int32)) = (17 : Int32) from by decide]
      refine Go.fin X0 hlk (v := some (.int (17 : Int32))) (fun h => by rw [Bd.returns] at h; cases h) (by decide) (by decide) ?_ (fun fs hr => retOut X0 hx Bd.returns rfl (Or.inl ⟨rfl, Or.inl rfl, _, rfl⟩) (hb hby d10_37) hr)
      show Q_ssize Z v0 h0 n0 _ s₁.heap _
      rw [e0]
      exact ⟨congrArg (fun z => some (Value.int z)) (Eq.symm ((if_pos hc5_1).trans ((if_neg hc30_2).trans ((if_neg hc30_3).trans ((if_neg hc30_4).trans ((if_neg hc30_5).trans ((if_neg hc30_6).trans ((if_neg hc30_7).trans ((if_neg hc30_8).trans ((if_neg hc30_9).trans ((if_neg hc30_10).trans ((if_neg hc30_11).trans ((if_neg hc30_12).trans ((if_neg hc30_13).trans ((if_neg hc30_14).trans ((if_neg hc30_15).trans ((if_neg hc30_16).trans ((if_pos hc30_17).trans rfl)))))))))))))))))), N0, rfl⟩
    refine G_ifYes X0 hx (pc' := 38) (hb hby d10_30) ((if0 _ _).trans (flt (fun q => hc30_17 ((lw_gt _ _).1 q))).2.2.2) (by decide) (by decide) ?_
    refine G_ldc2 X0 hx (pc' := 41) rfl hown (mvT hZ (own_w hw 153 rfl)) (hb hby d10_38) ?_
    refine G_lloadN X0 hx (pc' := 42) rfl (hb hby d10_41) rfl ?_
    refine G_lmul X0 hx (pc' := 43) rfl (hb hby d10_42)  ?_
    rw [show ((10 : Int64) * (-10000000000000000 : Int64)) = (-100000000000000000 : Int64) from by decide]
    refine G_lstoreN X0 hx (pc' := 44) rfl (hb hby d10_43) (L' := #[.val (.long v0), .second, .val (.int (1 : Int32)), .val (.long (-100000000000000000 : Int64)), .second, .val (.int (16 : Int32))]) rfl ?_
    refine G_iinc X0 hx (pc' := 47) rfl (hb hby d10_44) rfl (z := (17 : Int32)) rfl (L' := #[.val (.long v0), .second, .val (.int (1 : Int32)), .val (.long (-100000000000000000 : Int64)), .second, .val (.int (17 : Int32))]) rfl ?_
    refine G_goto X0 hx (pc' := 20) (hb hby d10_47)  (by decide) (by decide) ?_
    refine G_iload X0 hx (pc' := 22) rfl (hb hby d10_20) rfl ?_
    refine G_bipush X0 hx (pc' := 24) rfl (hb hby d10_22) (z := (19 : Int32)) rfl ?_
    refine G_icmpNo X0 hx (pc' := 27) rfl (hb hby d10_24) (tlt (by decide : (17 : Int32) < (19 : Int32))).2.1 ?_
    refine G_lloadN X0 hx (pc' := 28) rfl (hb hby d10_27) rfl ?_
    refine G_lloadN X0 hx (pc' := 29) rfl (hb hby d10_28) rfl ?_
    refine G_lcmp X0 hx (pc' := 30) rfl (hb hby d10_29)  ?_
    by_cases hc30_18 : (-100000000000000000 : Int64) < v0
    · refine G_ifNo X0 hx (pc' := 33) rfl (hb hby d10_30) ((if0 _ _).trans (tlt ((lw_gt _ _).2 hc30_18)).2.2.2) ?_
      refine G_iload X0 hx (pc' := 35) rfl (hb hby d10_33) rfl ?_
      refine G_iloadN X0 hx (pc' := 36) rfl (hb hby d10_35) rfl ?_
      refine G_iadd X0 hx (pc' := 37) rfl (hb hby d10_36)  ?_
      rw [show ((17 : Int32) + (1 : Int32)) = (18 : Int32) from by decide]
      refine Go.fin X0 hlk (v := some (.int (18 : Int32))) (fun h => by rw [Bd.returns] at h; cases h) (by decide) (by decide) ?_ (fun fs hr => retOut X0 hx Bd.returns rfl (Or.inl ⟨rfl, Or.inl rfl, _, rfl⟩) (hb hby d10_37) hr)
      show Q_ssize Z v0 h0 n0 _ s₁.heap _
      rw [e0]
      exact ⟨congrArg (fun z => some (Value.int z)) (Eq.symm ((if_pos hc5_1).trans ((if_neg hc30_2).trans ((if_neg hc30_3).trans ((if_neg hc30_4).trans ((if_neg hc30_5).trans ((if_neg hc30_6).trans ((if_neg hc30_7).trans ((if_neg hc30_8).trans ((if_neg hc30_9).trans ((if_neg hc30_10).trans ((if_neg hc30_11).trans ((if_neg hc30_12).trans ((if_neg hc30_13).trans ((if_neg hc30_14).trans ((if_neg hc30_15).trans ((if_neg hc30_16).trans ((if_neg hc30_17).trans ((if_pos hc30_18).trans rfl))))))))))))))))))), N0, rfl⟩
    refine G_ifYes X0 hx (pc' := 38) (hb hby d10_30) ((if0 _ _).trans (flt (fun q => hc30_18 ((lw_gt _ _).1 q))).2.2.2) (by decide) (by decide) ?_
    refine G_ldc2 X0 hx (pc' := 41) rfl hown (mvT hZ (own_w hw 153 rfl)) (hb hby d10_38) ?_
    refine G_lloadN X0 hx (pc' := 42) rfl (hb hby d10_41) rfl ?_
    refine G_lmul X0 hx (pc' := 43) rfl (hb hby d10_42)  ?_
    rw [show ((10 : Int64) * (-100000000000000000 : Int64)) = (-1000000000000000000 : Int64) from by decide]
    refine G_lstoreN X0 hx (pc' := 44) rfl (hb hby d10_43) (L' := #[.val (.long v0), .second, .val (.int (1 : Int32)), .val (.long (-1000000000000000000 : Int64)), .second, .val (.int (17 : Int32))]) rfl ?_
    refine G_iinc X0 hx (pc' := 47) rfl (hb hby d10_44) rfl (z := (18 : Int32)) rfl (L' := #[.val (.long v0), .second, .val (.int (1 : Int32)), .val (.long (-1000000000000000000 : Int64)), .second, .val (.int (18 : Int32))]) rfl ?_
    refine G_goto X0 hx (pc' := 20) (hb hby d10_47)  (by decide) (by decide) ?_
    refine G_iload X0 hx (pc' := 22) rfl (hb hby d10_20) rfl ?_
    refine G_bipush X0 hx (pc' := 24) rfl (hb hby d10_22) (z := (19 : Int32)) rfl ?_
    refine G_icmpNo X0 hx (pc' := 27) rfl (hb hby d10_24) (tlt (by decide : (18 : Int32) < (19 : Int32))).2.1 ?_
    refine G_lloadN X0 hx (pc' := 28) rfl (hb hby d10_27) rfl ?_
    refine G_lloadN X0 hx (pc' := 29) rfl (hb hby d10_28) rfl ?_
    refine G_lcmp X0 hx (pc' := 30) rfl (hb hby d10_29)  ?_
    by_cases hc30_19 : (-1000000000000000000 : Int64) < v0
    · refine G_ifNo X0 hx (pc' := 33) rfl (hb hby d10_30) ((if0 _ _).trans (tlt ((lw_gt _ _).2 hc30_19)).2.2.2) ?_
      refine G_iload X0 hx (pc' := 35) rfl (hb hby d10_33) rfl ?_
      refine G_iloadN X0 hx (pc' := 36) rfl (hb hby d10_35) rfl ?_
      refine G_iadd X0 hx (pc' := 37) rfl (hb hby d10_36)  ?_
      rw [show ((18 : Int32) + (1 : Int32)) = (19 : Int32) from by decide]
      refine Go.fin X0 hlk (v := some (.int (19 : Int32))) (fun h => by rw [Bd.returns] at h; cases h) (by decide) (by decide) ?_ (fun fs hr => retOut X0 hx Bd.returns rfl (Or.inl ⟨rfl, Or.inl rfl, _, rfl⟩) (hb hby d10_37) hr)
      show Q_ssize Z v0 h0 n0 _ s₁.heap _
      rw [e0]
      exact ⟨congrArg (fun z => some (Value.int z)) (Eq.symm ((if_pos hc5_1).trans ((if_neg hc30_2).trans ((if_neg hc30_3).trans ((if_neg hc30_4).trans ((if_neg hc30_5).trans ((if_neg hc30_6).trans ((if_neg hc30_7).trans ((if_neg hc30_8).trans ((if_neg hc30_9).trans ((if_neg hc30_10).trans ((if_neg hc30_11).trans ((if_neg hc30_12).trans ((if_neg hc30_13).trans ((if_neg hc30_14).trans ((if_neg hc30_15).trans ((if_neg hc30_16).trans ((if_neg hc30_17).trans ((if_neg hc30_18).trans ((if_pos hc30_19).trans rfl)))))))))))))))))))), N0, rfl⟩
    refine G_ifYes X0 hx (pc' := 38) (hb hby d10_30) ((if0 _ _).trans (flt (fun q => hc30_19 ((lw_gt _ _).1 q))).2.2.2) (by decide) (by decide) ?_
    refine G_ldc2 X0 hx (pc' := 41) rfl hown (mvT hZ (own_w hw 153 rfl)) (hb hby d10_38) ?_
    refine G_lloadN X0 hx (pc' := 42) rfl (hb hby d10_41) rfl ?_
    refine G_lmul X0 hx (pc' := 43) rfl (hb hby d10_42)  ?_
    rw [show ((10 : Int64) * (-1000000000000000000 : Int64)) = (8446744073709551616 : Int64) from by decide]
    refine G_lstoreN X0 hx (pc' := 44) rfl (hb hby d10_43) (L' := #[.val (.long v0), .second, .val (.int (1 : Int32)), .val (.long (8446744073709551616 : Int64)), .second, .val (.int (18 : Int32))]) rfl ?_
    refine G_iinc X0 hx (pc' := 47) rfl (hb hby d10_44) rfl (z := (19 : Int32)) rfl (L' := #[.val (.long v0), .second, .val (.int (1 : Int32)), .val (.long (8446744073709551616 : Int64)), .second, .val (.int (19 : Int32))]) rfl ?_
    refine G_goto X0 hx (pc' := 20) (hb hby d10_47)  (by decide) (by decide) ?_
    refine G_iload X0 hx (pc' := 22) rfl (hb hby d10_20) rfl ?_
    refine G_bipush X0 hx (pc' := 24) rfl (hb hby d10_22) (z := (19 : Int32)) rfl ?_
    refine G_icmpYes X0 hx (pc' := 50) (hb hby d10_24) (flt (by decide : ¬ ((19 : Int32) < (19 : Int32)))).2.1 (by decide) (by decide) ?_
    refine G_bipush X0 hx (pc' := 52) rfl (hb hby d10_50) (z := (19 : Int32)) rfl ?_
    refine G_iloadN X0 hx (pc' := 53) rfl (hb hby d10_52) rfl ?_
    refine G_iadd X0 hx (pc' := 54) rfl (hb hby d10_53)  ?_
    rw [show ((19 : Int32) + (1 : Int32)) = (20 : Int32) from by decide]
    refine Go.fin X0 hlk (v := some (.int (20 : Int32))) (fun h => by rw [Bd.returns] at h; cases h) (by decide) (by decide) ?_ (fun fs hr => retOut X0 hx Bd.returns rfl (Or.inl ⟨rfl, Or.inl rfl, _, rfl⟩) (hb hby d10_54) hr)
    show Q_ssize Z v0 h0 n0 _ s₁.heap _
    rw [e0]
    exact ⟨congrArg (fun z => some (Value.int z)) (Eq.symm ((if_pos hc5_1).trans ((if_neg hc30_2).trans ((if_neg hc30_3).trans ((if_neg hc30_4).trans ((if_neg hc30_5).trans ((if_neg hc30_6).trans ((if_neg hc30_7).trans ((if_neg hc30_8).trans ((if_neg hc30_9).trans ((if_neg hc30_10).trans ((if_neg hc30_11).trans ((if_neg hc30_12).trans ((if_neg hc30_13).trans ((if_neg hc30_14).trans ((if_neg hc30_15).trans ((if_neg hc30_16).trans ((if_neg hc30_17).trans ((if_neg hc30_18).trans ((if_neg hc30_19).trans rfl)))))))))))))))))))), N0, rfl⟩
  refine G_ifNo X0 hx (pc' := 8) rfl (hb hby d10_5) ((if0 _ _).trans (flt (fun q => hc5_1 ((lw_lt _ _).1 q))).1) ?_
  refine G_iconst X0 hx (pc' := 9) rfl (hb hby d10_8) (z := (0 : Int32)) rfl ?_
  refine G_istoreN X0 hx (pc' := 10) rfl (hb hby d10_9) (L' := #[.val (.long v0), .second, .val (.int (0 : Int32)), .unset, .unset, .unset]) rfl ?_
  refine G_lloadN X0 hx (pc' := 11) rfl (hb hby d10_10) rfl ?_
  refine G_lneg X0 hx (pc' := 12) rfl (hb hby d10_11)  ?_
  refine G_lstoreN X0 hx (pc' := 13) rfl (hb hby d10_12) (L' := #[.val (.long (-v0)), .second, .val (.int (0 : Int32)), .unset, .unset, .unset]) rfl ?_
  refine G_ldc2 X0 hx (pc' := 16) rfl hown (mvT hZ (own_w hw 76 rfl)) (hb hby d10_13) ?_
  refine G_lstoreN X0 hx (pc' := 17) rfl (hb hby d10_16) (L' := #[.val (.long (-v0)), .second, .val (.int (0 : Int32)), .val (.long (-10 : Int64)), .second, .unset]) rfl ?_
  refine G_iconst X0 hx (pc' := 18) rfl (hb hby d10_17) (z := (1 : Int32)) rfl ?_
  refine G_istore X0 hx (pc' := 20) rfl (hb hby d10_18) (L' := #[.val (.long (-v0)), .second, .val (.int (0 : Int32)), .val (.long (-10 : Int64)), .second, .val (.int (1 : Int32))]) rfl ?_
  refine G_iload X0 hx (pc' := 22) rfl (hb hby d10_20) rfl ?_
  refine G_bipush X0 hx (pc' := 24) rfl (hb hby d10_22) (z := (19 : Int32)) rfl ?_
  refine G_icmpNo X0 hx (pc' := 27) rfl (hb hby d10_24) (tlt (by decide : (1 : Int32) < (19 : Int32))).2.1 ?_
  refine G_lloadN X0 hx (pc' := 28) rfl (hb hby d10_27) rfl ?_
  refine G_lloadN X0 hx (pc' := 29) rfl (hb hby d10_28) rfl ?_
  refine G_lcmp X0 hx (pc' := 30) rfl (hb hby d10_29)  ?_
  by_cases hc30_20 : (-10 : Int64) < (-v0)
  · refine G_ifNo X0 hx (pc' := 33) rfl (hb hby d10_30) ((if0 _ _).trans (tlt ((lw_gt _ _).2 hc30_20)).2.2.2) ?_
    refine G_iload X0 hx (pc' := 35) rfl (hb hby d10_33) rfl ?_
    refine G_iloadN X0 hx (pc' := 36) rfl (hb hby d10_35) rfl ?_
    refine G_iadd X0 hx (pc' := 37) rfl (hb hby d10_36)  ?_
    rw [show ((1 : Int32) + (0 : Int32)) = (1 : Int32) from by decide]
    refine Go.fin X0 hlk (v := some (.int (1 : Int32))) (fun h => by rw [Bd.returns] at h; cases h) (by decide) (by decide) ?_ (fun fs hr => retOut X0 hx Bd.returns rfl (Or.inl ⟨rfl, Or.inl rfl, _, rfl⟩) (hb hby d10_37) hr)
    show Q_ssize Z v0 h0 n0 _ s₁.heap _
    rw [e0]
    exact ⟨congrArg (fun z => some (Value.int z)) (Eq.symm ((if_neg hc5_1).trans ((if_pos hc30_20).trans rfl))), N0, rfl⟩
  refine G_ifYes X0 hx (pc' := 38) (hb hby d10_30) ((if0 _ _).trans (flt (fun q => hc30_20 ((lw_gt _ _).1 q))).2.2.2) (by decide) (by decide) ?_
  refine G_ldc2 X0 hx (pc' := 41) rfl hown (mvT hZ (own_w hw 153 rfl)) (hb hby d10_38) ?_
  refine G_lloadN X0 hx (pc' := 42) rfl (hb hby d10_41) rfl ?_
  refine G_lmul X0 hx (pc' := 43) rfl (hb hby d10_42)  ?_
  rw [show ((10 : Int64) * (-10 : Int64)) = (-100 : Int64) from by decide]
  refine G_lstoreN X0 hx (pc' := 44) rfl (hb hby d10_43) (L' := #[.val (.long (-v0)), .second, .val (.int (0 : Int32)), .val (.long (-100 : Int64)), .second, .val (.int (1 : Int32))]) rfl ?_
  refine G_iinc X0 hx (pc' := 47) rfl (hb hby d10_44) rfl (z := (2 : Int32)) rfl (L' := #[.val (.long (-v0)), .second, .val (.int (0 : Int32)), .val (.long (-100 : Int64)), .second, .val (.int (2 : Int32))]) rfl ?_
  refine G_goto X0 hx (pc' := 20) (hb hby d10_47)  (by decide) (by decide) ?_
  refine G_iload X0 hx (pc' := 22) rfl (hb hby d10_20) rfl ?_
  refine G_bipush X0 hx (pc' := 24) rfl (hb hby d10_22) (z := (19 : Int32)) rfl ?_
  refine G_icmpNo X0 hx (pc' := 27) rfl (hb hby d10_24) (tlt (by decide : (2 : Int32) < (19 : Int32))).2.1 ?_
  refine G_lloadN X0 hx (pc' := 28) rfl (hb hby d10_27) rfl ?_
  refine G_lloadN X0 hx (pc' := 29) rfl (hb hby d10_28) rfl ?_
  refine G_lcmp X0 hx (pc' := 30) rfl (hb hby d10_29)  ?_
  by_cases hc30_21 : (-100 : Int64) < (-v0)
  · refine G_ifNo X0 hx (pc' := 33) rfl (hb hby d10_30) ((if0 _ _).trans (tlt ((lw_gt _ _).2 hc30_21)).2.2.2) ?_
    refine G_iload X0 hx (pc' := 35) rfl (hb hby d10_33) rfl ?_
    refine G_iloadN X0 hx (pc' := 36) rfl (hb hby d10_35) rfl ?_
    refine G_iadd X0 hx (pc' := 37) rfl (hb hby d10_36)  ?_
    rw [show ((2 : Int32) + (0 : Int32)) = (2 : Int32) from by decide]
    refine Go.fin X0 hlk (v := some (.int (2 : Int32))) (fun h => by rw [Bd.returns] at h; cases h) (by decide) (by decide) ?_ (fun fs hr => retOut X0 hx Bd.returns rfl (Or.inl ⟨rfl, Or.inl rfl, _, rfl⟩) (hb hby d10_37) hr)
    show Q_ssize Z v0 h0 n0 _ s₁.heap _
    rw [e0]
    exact ⟨congrArg (fun z => some (Value.int z)) (Eq.symm ((if_neg hc5_1).trans ((if_neg hc30_20).trans ((if_pos hc30_21).trans rfl)))), N0, rfl⟩
  refine G_ifYes X0 hx (pc' := 38) (hb hby d10_30) ((if0 _ _).trans (flt (fun q => hc30_21 ((lw_gt _ _).1 q))).2.2.2) (by decide) (by decide) ?_
  refine G_ldc2 X0 hx (pc' := 41) rfl hown (mvT hZ (own_w hw 153 rfl)) (hb hby d10_38) ?_
  refine G_lloadN X0 hx (pc' := 42) rfl (hb hby d10_41) rfl ?_
  refine G_lmul X0 hx (pc' := 43) rfl (hb hby d10_42)  ?_
  rw [show ((10 : Int64) * (-100 : Int64)) = (-1000 : Int64) from by decide]
  refine G_lstoreN X0 hx (pc' := 44) rfl (hb hby d10_43) (L' := #[.val (.long (-v0)), .second, .val (.int (0 : Int32)), .val (.long (-1000 : Int64)), .second, .val (.int (2 : Int32))]) rfl ?_
  refine G_iinc X0 hx (pc' := 47) rfl (hb hby d10_44) rfl (z := (3 : Int32)) rfl (L' := #[.val (.long (-v0)), .second, .val (.int (0 : Int32)), .val (.long (-1000 : Int64)), .second, .val (.int (3 : Int32))]) rfl ?_
  refine G_goto X0 hx (pc' := 20) (hb hby d10_47)  (by decide) (by decide) ?_
  refine G_iload X0 hx (pc' := 22) rfl (hb hby d10_20) rfl ?_
  refine G_bipush X0 hx (pc' := 24) rfl (hb hby d10_22) (z := (19 : Int32)) rfl ?_
  refine G_icmpNo X0 hx (pc' := 27) rfl (hb hby d10_24) (tlt (by decide : (3 : Int32) < (19 : Int32))).2.1 ?_
  refine G_lloadN X0 hx (pc' := 28) rfl (hb hby d10_27) rfl ?_
  refine G_lloadN X0 hx (pc' := 29) rfl (hb hby d10_28) rfl ?_
  refine G_lcmp X0 hx (pc' := 30) rfl (hb hby d10_29)  ?_
  by_cases hc30_22 : (-1000 : Int64) < (-v0)
  · refine G_ifNo X0 hx (pc' := 33) rfl (hb hby d10_30) ((if0 _ _).trans (tlt ((lw_gt _ _).2 hc30_22)).2.2.2) ?_
    refine G_iload X0 hx (pc' := 35) rfl (hb hby d10_33) rfl ?_
    refine G_iloadN X0 hx (pc' := 36) rfl (hb hby d10_35) rfl ?_
    refine G_iadd X0 hx (pc' := 37) rfl (hb hby d10_36)  ?_
    rw [show ((3 : Int32) + (0 : Int32)) = (3 : Int32) from by decide]
    refine Go.fin X0 hlk (v := some (.int (3 : Int32))) (fun h => by rw [Bd.returns] at h; cases h) (by decide) (by decide) ?_ (fun fs hr => retOut X0 hx Bd.returns rfl (Or.inl ⟨rfl, Or.inl rfl, _, rfl⟩) (hb hby d10_37) hr)
    show Q_ssize Z v0 h0 n0 _ s₁.heap _
    rw [e0]
    exact ⟨congrArg (fun z => some (Value.int z)) (Eq.symm ((if_neg hc5_1).trans ((if_neg hc30_20).trans ((if_neg hc30_21).trans ((if_pos hc30_22).trans rfl))))), N0, rfl⟩
  refine G_ifYes X0 hx (pc' := 38) (hb hby d10_30) ((if0 _ _).trans (flt (fun q => hc30_22 ((lw_gt _ _).1 q))).2.2.2) (by decide) (by decide) ?_
  refine G_ldc2 X0 hx (pc' := 41) rfl hown (mvT hZ (own_w hw 153 rfl)) (hb hby d10_38) ?_
  refine G_lloadN X0 hx (pc' := 42) rfl (hb hby d10_41) rfl ?_
  refine G_lmul X0 hx (pc' := 43) rfl (hb hby d10_42)  ?_
  rw [show ((10 : Int64) * (-1000 : Int64)) = (-10000 : Int64) from by decide]
  refine G_lstoreN X0 hx (pc' := 44) rfl (hb hby d10_43) (L' := #[.val (.long (-v0)), .second, .val (.int (0 : Int32)), .val (.long (-10000 : Int64)), .second, .val (.int (3 : Int32))]) rfl ?_
  refine G_iinc X0 hx (pc' := 47) rfl (hb hby d10_44) rfl (z := (4 : Int32)) rfl (L' := #[.val (.long (-v0)), .second, .val (.int (0 : Int32)), .val (.long (-10000 : Int64)), .second, .val (.int (4 : Int32))]) rfl ?_
  refine G_goto X0 hx (pc' := 20) (hb hby d10_47)  (by decide) (by decide) ?_
  refine G_iload X0 hx (pc' := 22) rfl (hb hby d10_20) rfl ?_
  refine G_bipush X0 hx (pc' := 24) rfl (hb hby d10_22) (z := (19 : Int32)) rfl ?_
  refine G_icmpNo X0 hx (pc' := 27) rfl (hb hby d10_24) (tlt (by decide : (4 : Int32) < (19 : Int32))).2.1 ?_
  refine G_lloadN X0 hx (pc' := 28) rfl (hb hby d10_27) rfl ?_
  refine G_lloadN X0 hx (pc' := 29) rfl (hb hby d10_28) rfl ?_
  refine G_lcmp X0 hx (pc' := 30) rfl (hb hby d10_29)  ?_
  by_cases hc30_23 : (-10000 : Int64) < (-v0)
  · refine G_ifNo X0 hx (pc' := 33) rfl (hb hby d10_30) ((if0 _ _).trans (tlt ((lw_gt _ _).2 hc30_23)).2.2.2) ?_
    refine G_iload X0 hx (pc' := 35) rfl (hb hby d10_33) rfl ?_
    refine G_iloadN X0 hx (pc' := 36) rfl (hb hby d10_35) rfl ?_
    refine G_iadd X0 hx (pc' := 37) rfl (hb hby d10_36)  ?_
    rw [show ((4 : Int32) + (0 : Int32)) = (4 : Int32) from by decide]
    refine Go.fin X0 hlk (v := some (.int (4 : Int32))) (fun h => by rw [Bd.returns] at h; cases h) (by decide) (by decide) ?_ (fun fs hr => retOut X0 hx Bd.returns rfl (Or.inl ⟨rfl, Or.inl rfl, _, rfl⟩) (hb hby d10_37) hr)
    show Q_ssize Z v0 h0 n0 _ s₁.heap _
    rw [e0]
    exact ⟨congrArg (fun z => some (Value.int z)) (Eq.symm ((if_neg hc5_1).trans ((if_neg hc30_20).trans ((if_neg hc30_21).trans ((if_neg hc30_22).trans ((if_pos hc30_23).trans rfl)))))), N0, rfl⟩
  refine G_ifYes X0 hx (pc' := 38) (hb hby d10_30) ((if0 _ _).trans (flt (fun q => hc30_23 ((lw_gt _ _).1 q))).2.2.2) (by decide) (by decide) ?_
  refine G_ldc2 X0 hx (pc' := 41) rfl hown (mvT hZ (own_w hw 153 rfl)) (hb hby d10_38) ?_
  refine G_lloadN X0 hx (pc' := 42) rfl (hb hby d10_41) rfl ?_
  refine G_lmul X0 hx (pc' := 43) rfl (hb hby d10_42)  ?_
  rw [show ((10 : Int64) * (-10000 : Int64)) = (-100000 : Int64) from by decide]
  refine G_lstoreN X0 hx (pc' := 44) rfl (hb hby d10_43) (L' := #[.val (.long (-v0)), .second, .val (.int (0 : Int32)), .val (.long (-100000 : Int64)), .second, .val (.int (4 : Int32))]) rfl ?_
  refine G_iinc X0 hx (pc' := 47) rfl (hb hby d10_44) rfl (z := (5 : Int32)) rfl (L' := #[.val (.long (-v0)), .second, .val (.int (0 : Int32)), .val (.long (-100000 : Int64)), .second, .val (.int (5 : Int32))]) rfl ?_
  refine G_goto X0 hx (pc' := 20) (hb hby d10_47)  (by decide) (by decide) ?_
  refine G_iload X0 hx (pc' := 22) rfl (hb hby d10_20) rfl ?_
  refine G_bipush X0 hx (pc' := 24) rfl (hb hby d10_22) (z := (19 : Int32)) rfl ?_
  refine G_icmpNo X0 hx (pc' := 27) rfl (hb hby d10_24) (tlt (by decide : (5 : Int32) < (19 : Int32))).2.1 ?_
  refine G_lloadN X0 hx (pc' := 28) rfl (hb hby d10_27) rfl ?_
  refine G_lloadN X0 hx (pc' := 29) rfl (hb hby d10_28) rfl ?_
  refine G_lcmp X0 hx (pc' := 30) rfl (hb hby d10_29)  ?_
  by_cases hc30_24 : (-100000 : Int64) < (-v0)
  · refine G_ifNo X0 hx (pc' := 33) rfl (hb hby d10_30) ((if0 _ _).trans (tlt ((lw_gt _ _).2 hc30_24)).2.2.2) ?_
    refine G_iload X0 hx (pc' := 35) rfl (hb hby d10_33) rfl ?_
    refine G_iloadN X0 hx (pc' := 36) rfl (hb hby d10_35) rfl ?_
    refine G_iadd X0 hx (pc' := 37) rfl (hb hby d10_36)  ?_
    rw [show ((5 : Int32) + (0 : Int32)) = (5 : Int32) from by decide]
    refine Go.fin X0 hlk (v := some (.int (5 : Int32))) (fun h => by rw [Bd.returns] at h; cases h) (by decide) (by decide) ?_ (fun fs hr => retOut X0 hx Bd.returns rfl (Or.inl ⟨rfl, Or.inl rfl, _, rfl⟩) (hb hby d10_37) hr)
    show Q_ssize Z v0 h0 n0 _ s₁.heap _
    rw [e0]
    exact ⟨congrArg (fun z => some (Value.int z)) (Eq.symm ((if_neg hc5_1).trans ((if_neg hc30_20).trans ((if_neg hc30_21).trans ((if_neg hc30_22).trans ((if_neg hc30_23).trans ((if_pos hc30_24).trans rfl))))))), N0, rfl⟩
  refine G_ifYes X0 hx (pc' := 38) (hb hby d10_30) ((if0 _ _).trans (flt (fun q => hc30_24 ((lw_gt _ _).1 q))).2.2.2) (by decide) (by decide) ?_
  refine G_ldc2 X0 hx (pc' := 41) rfl hown (mvT hZ (own_w hw 153 rfl)) (hb hby d10_38) ?_
  refine G_lloadN X0 hx (pc' := 42) rfl (hb hby d10_41) rfl ?_
  refine G_lmul X0 hx (pc' := 43) rfl (hb hby d10_42)  ?_
  rw [show ((10 : Int64) * (-100000 : Int64)) = (-1000000 : Int64) from by decide]
  refine G_lstoreN X0 hx (pc' := 44) rfl (hb hby d10_43) (L' := #[.val (.long (-v0)), .second, .val (.int (0 : Int32)), .val (.long (-1000000 : Int64)), .second, .val (.int (5 : Int32))]) rfl ?_
  refine G_iinc X0 hx (pc' := 47) rfl (hb hby d10_44) rfl (z := (6 : Int32)) rfl (L' := #[.val (.long (-v0)), .second, .val (.int (0 : Int32)), .val (.long (-1000000 : Int64)), .second, .val (.int (6 : Int32))]) rfl ?_
  refine G_goto X0 hx (pc' := 20) (hb hby d10_47)  (by decide) (by decide) ?_
  refine G_iload X0 hx (pc' := 22) rfl (hb hby d10_20) rfl ?_
  refine G_bipush X0 hx (pc' := 24) rfl (hb hby d10_22) (z := (19 : Int32)) rfl ?_
  refine G_icmpNo X0 hx (pc' := 27) rfl (hb hby d10_24) (tlt (by decide : (6 : Int32) < (19 : Int32))).2.1 ?_
  refine G_lloadN X0 hx (pc' := 28) rfl (hb hby d10_27) rfl ?_
  refine G_lloadN X0 hx (pc' := 29) rfl (hb hby d10_28) rfl ?_
  refine G_lcmp X0 hx (pc' := 30) rfl (hb hby d10_29)  ?_
  by_cases hc30_25 : (-1000000 : Int64) < (-v0)
  · refine G_ifNo X0 hx (pc' := 33) rfl (hb hby d10_30) ((if0 _ _).trans (tlt ((lw_gt _ _).2 hc30_25)).2.2.2) ?_
    refine G_iload X0 hx (pc' := 35) rfl (hb hby d10_33) rfl ?_
    refine G_iloadN X0 hx (pc' := 36) rfl (hb hby d10_35) rfl ?_
    refine G_iadd X0 hx (pc' := 37) rfl (hb hby d10_36)  ?_
    rw [show ((6 : Int32) + (0 : Int32)) = (6 : Int32) from by decide]
    refine Go.fin X0 hlk (v := some (.int (6 : Int32))) (fun h => by rw [Bd.returns] at h; cases h) (by decide) (by decide) ?_ (fun fs hr => retOut X0 hx Bd.returns rfl (Or.inl ⟨rfl, Or.inl rfl, _, rfl⟩) (hb hby d10_37) hr)
    show Q_ssize Z v0 h0 n0 _ s₁.heap _
    rw [e0]
    exact ⟨congrArg (fun z => some (Value.int z)) (Eq.symm ((if_neg hc5_1).trans ((if_neg hc30_20).trans ((if_neg hc30_21).trans ((if_neg hc30_22).trans ((if_neg hc30_23).trans ((if_neg hc30_24).trans ((if_pos hc30_25).trans rfl)))))))), N0, rfl⟩
  refine G_ifYes X0 hx (pc' := 38) (hb hby d10_30) ((if0 _ _).trans (flt (fun q => hc30_25 ((lw_gt _ _).1 q))).2.2.2) (by decide) (by decide) ?_
  refine G_ldc2 X0 hx (pc' := 41) rfl hown (mvT hZ (own_w hw 153 rfl)) (hb hby d10_38) ?_
  refine G_lloadN X0 hx (pc' := 42) rfl (hb hby d10_41) rfl ?_
  refine G_lmul X0 hx (pc' := 43) rfl (hb hby d10_42)  ?_
  rw [show ((10 : Int64) * (-1000000 : Int64)) = (-10000000 : Int64) from by decide]
  refine G_lstoreN X0 hx (pc' := 44) rfl (hb hby d10_43) (L' := #[.val (.long (-v0)), .second, .val (.int (0 : Int32)), .val (.long (-10000000 : Int64)), .second, .val (.int (6 : Int32))]) rfl ?_
  refine G_iinc X0 hx (pc' := 47) rfl (hb hby d10_44) rfl (z := (7 : Int32)) rfl (L' := #[.val (.long (-v0)), .second, .val (.int (0 : Int32)), .val (.long (-10000000 : Int64)), .second, .val (.int (7 : Int32))]) rfl ?_
  refine G_goto X0 hx (pc' := 20) (hb hby d10_47)  (by decide) (by decide) ?_
  refine G_iload X0 hx (pc' := 22) rfl (hb hby d10_20) rfl ?_
  refine G_bipush X0 hx (pc' := 24) rfl (hb hby d10_22) (z := (19 : Int32)) rfl ?_
  refine G_icmpNo X0 hx (pc' := 27) rfl (hb hby d10_24) (tlt (by decide : (7 : Int32) < (19 : Int32))).2.1 ?_
  refine G_lloadN X0 hx (pc' := 28) rfl (hb hby d10_27) rfl ?_
  refine G_lloadN X0 hx (pc' := 29) rfl (hb hby d10_28) rfl ?_
  refine G_lcmp X0 hx (pc' := 30) rfl (hb hby d10_29)  ?_
  by_cases hc30_26 : (-10000000 : Int64) < (-v0)
  · refine G_ifNo X0 hx (pc' := 33) rfl (hb hby d10_30) ((if0 _ _).trans (tlt ((lw_gt _ _).2 hc30_26)).2.2.2) ?_
    refine G_iload X0 hx (pc' := 35) rfl (hb hby d10_33) rfl ?_
    refine G_iloadN X0 hx (pc' := 36) rfl (hb hby d10_35) rfl ?_
    refine G_iadd X0 hx (pc' := 37) rfl (hb hby d10_36)  ?_
    rw [show ((7 : Int32) + (0 : Int32)) = (7 : Int32) from by decide]
    refine Go.fin X0 hlk (v := some (.int (7 : Int32))) (fun h => by rw [Bd.returns] at h; cases h) (by decide) (by decide) ?_ (fun fs hr => retOut X0 hx Bd.returns rfl (Or.inl ⟨rfl, Or.inl rfl, _, rfl⟩) (hb hby d10_37) hr)
    show Q_ssize Z v0 h0 n0 _ s₁.heap _
    rw [e0]
    exact ⟨congrArg (fun z => some (Value.int z)) (Eq.symm ((if_neg hc5_1).trans ((if_neg hc30_20).trans ((if_neg hc30_21).trans ((if_neg hc30_22).trans ((if_neg hc30_23).trans ((if_neg hc30_24).trans ((if_neg hc30_25).trans ((if_pos hc30_26).trans rfl))))))))), N0, rfl⟩
  refine G_ifYes X0 hx (pc' := 38) (hb hby d10_30) ((if0 _ _).trans (flt (fun q => hc30_26 ((lw_gt _ _).1 q))).2.2.2) (by decide) (by decide) ?_
  refine G_ldc2 X0 hx (pc' := 41) rfl hown (mvT hZ (own_w hw 153 rfl)) (hb hby d10_38) ?_
  refine G_lloadN X0 hx (pc' := 42) rfl (hb hby d10_41) rfl ?_
  refine G_lmul X0 hx (pc' := 43) rfl (hb hby d10_42)  ?_
  rw [show ((10 : Int64) * (-10000000 : Int64)) = (-100000000 : Int64) from by decide]
  refine G_lstoreN X0 hx (pc' := 44) rfl (hb hby d10_43) (L' := #[.val (.long (-v0)), .second, .val (.int (0 : Int32)), .val (.long (-100000000 : Int64)), .second, .val (.int (7 : Int32))]) rfl ?_
  refine G_iinc X0 hx (pc' := 47) rfl (hb hby d10_44) rfl (z := (8 : Int32)) rfl (L' := #[.val (.long (-v0)), .second, .val (.int (0 : Int32)), .val (.long (-100000000 : Int64)), .second, .val (.int (8 : Int32))]) rfl ?_
  refine G_goto X0 hx (pc' := 20) (hb hby d10_47)  (by decide) (by decide) ?_
  refine G_iload X0 hx (pc' := 22) rfl (hb hby d10_20) rfl ?_
  refine G_bipush X0 hx (pc' := 24) rfl (hb hby d10_22) (z := (19 : Int32)) rfl ?_
  refine G_icmpNo X0 hx (pc' := 27) rfl (hb hby d10_24) (tlt (by decide : (8 : Int32) < (19 : Int32))).2.1 ?_
  refine G_lloadN X0 hx (pc' := 28) rfl (hb hby d10_27) rfl ?_
  refine G_lloadN X0 hx (pc' := 29) rfl (hb hby d10_28) rfl ?_
  refine G_lcmp X0 hx (pc' := 30) rfl (hb hby d10_29)  ?_
  by_cases hc30_27 : (-100000000 : Int64) < (-v0)
  · refine G_ifNo X0 hx (pc' := 33) rfl (hb hby d10_30) ((if0 _ _).trans (tlt ((lw_gt _ _).2 hc30_27)).2.2.2) ?_
    refine G_iload X0 hx (pc' := 35) rfl (hb hby d10_33) rfl ?_
    refine G_iloadN X0 hx (pc' := 36) rfl (hb hby d10_35) rfl ?_
    refine G_iadd X0 hx (pc' := 37) rfl (hb hby d10_36)  ?_
    rw [show ((8 : Int32) + (0 : Int32)) = (8 : Int32) from by decide]
    refine Go.fin X0 hlk (v := some (.int (8 : Int32))) (fun h => by rw [Bd.returns] at h; cases h) (by decide) (by decide) ?_ (fun fs hr => retOut X0 hx Bd.returns rfl (Or.inl ⟨rfl, Or.inl rfl, _, rfl⟩) (hb hby d10_37) hr)
    show Q_ssize Z v0 h0 n0 _ s₁.heap _
    rw [e0]
    exact ⟨congrArg (fun z => some (Value.int z)) (Eq.symm ((if_neg hc5_1).trans ((if_neg hc30_20).trans ((if_neg hc30_21).trans ((if_neg hc30_22).trans ((if_neg hc30_23).trans ((if_neg hc30_24).trans ((if_neg hc30_25).trans ((if_neg hc30_26).trans ((if_pos hc30_27).trans rfl)))))))))), N0, rfl⟩
  refine G_ifYes X0 hx (pc' := 38) (hb hby d10_30) ((if0 _ _).trans (flt (fun q => hc30_27 ((lw_gt _ _).1 q))).2.2.2) (by decide) (by decide) ?_
  refine G_ldc2 X0 hx (pc' := 41) rfl hown (mvT hZ (own_w hw 153 rfl)) (hb hby d10_38) ?_
  refine G_lloadN X0 hx (pc' := 42) rfl (hb hby d10_41) rfl ?_
  refine G_lmul X0 hx (pc' := 43) rfl (hb hby d10_42)  ?_
  rw [show ((10 : Int64) * (-100000000 : Int64)) = (-1000000000 : Int64) from by decide]
  refine G_lstoreN X0 hx (pc' := 44) rfl (hb hby d10_43) (L' := #[.val (.long (-v0)), .second, .val (.int (0 : Int32)), .val (.long (-1000000000 : Int64)), .second, .val (.int (8 : Int32))]) rfl ?_
  refine G_iinc X0 hx (pc' := 47) rfl (hb hby d10_44) rfl (z := (9 : Int32)) rfl (L' := #[.val (.long (-v0)), .second, .val (.int (0 : Int32)), .val (.long (-1000000000 : Int64)), .second, .val (.int (9 : Int32))]) rfl ?_
  refine G_goto X0 hx (pc' := 20) (hb hby d10_47)  (by decide) (by decide) ?_
  refine G_iload X0 hx (pc' := 22) rfl (hb hby d10_20) rfl ?_
  refine G_bipush X0 hx (pc' := 24) rfl (hb hby d10_22) (z := (19 : Int32)) rfl ?_
  refine G_icmpNo X0 hx (pc' := 27) rfl (hb hby d10_24) (tlt (by decide : (9 : Int32) < (19 : Int32))).2.1 ?_
  refine G_lloadN X0 hx (pc' := 28) rfl (hb hby d10_27) rfl ?_
  refine G_lloadN X0 hx (pc' := 29) rfl (hb hby d10_28) rfl ?_
  refine G_lcmp X0 hx (pc' := 30) rfl (hb hby d10_29)  ?_
  by_cases hc30_28 : (-1000000000 : Int64) < (-v0)
  · refine G_ifNo X0 hx (pc' := 33) rfl (hb hby d10_30) ((if0 _ _).trans (tlt ((lw_gt _ _).2 hc30_28)).2.2.2) ?_
    refine G_iload X0 hx (pc' := 35) rfl (hb hby d10_33) rfl ?_
    refine G_iloadN X0 hx (pc' := 36) rfl (hb hby d10_35) rfl ?_
    refine G_iadd X0 hx (pc' := 37) rfl (hb hby d10_36)  ?_
    rw [show ((9 : Int32) + (0 : Int32)) = (9 : Int32) from by decide]
    refine Go.fin X0 hlk (v := some (.int (9 : Int32))) (fun h => by rw [Bd.returns] at h; cases h) (by decide) (by decide) ?_ (fun fs hr => retOut X0 hx Bd.returns rfl (Or.inl ⟨rfl, Or.inl rfl, _, rfl⟩) (hb hby d10_37) hr)
    show Q_ssize Z v0 h0 n0 _ s₁.heap _
    rw [e0]
    exact ⟨congrArg (fun z => some (Value.int z)) (Eq.symm ((if_neg hc5_1).trans ((if_neg hc30_20).trans ((if_neg hc30_21).trans ((if_neg hc30_22).trans ((if_neg hc30_23).trans ((if_neg hc30_24).trans ((if_neg hc30_25).trans ((if_neg hc30_26).trans ((if_neg hc30_27).trans ((if_pos hc30_28).trans rfl))))))))))), N0, rfl⟩
  refine G_ifYes X0 hx (pc' := 38) (hb hby d10_30) ((if0 _ _).trans (flt (fun q => hc30_28 ((lw_gt _ _).1 q))).2.2.2) (by decide) (by decide) ?_
  refine G_ldc2 X0 hx (pc' := 41) rfl hown (mvT hZ (own_w hw 153 rfl)) (hb hby d10_38) ?_
  refine G_lloadN X0 hx (pc' := 42) rfl (hb hby d10_41) rfl ?_
  refine G_lmul X0 hx (pc' := 43) rfl (hb hby d10_42)  ?_
  rw [show ((10 : Int64) * (-1000000000 : Int64)) = (-10000000000 : Int64) from by decide]
  refine G_lstoreN X0 hx (pc' := 44) rfl (hb hby d10_43) (L' := #[.val (.long (-v0)), .second, .val (.int (0 : Int32)), .val (.long (-10000000000 : Int64)), .second, .val (.int (9 : Int32))]) rfl ?_
  refine G_iinc X0 hx (pc' := 47) rfl (hb hby d10_44) rfl (z := (10 : Int32)) rfl (L' := #[.val (.long (-v0)), .second, .val (.int (0 : Int32)), .val (.long (-10000000000 : Int64)), .second, .val (.int (10 : Int32))]) rfl ?_
  refine G_goto X0 hx (pc' := 20) (hb hby d10_47)  (by decide) (by decide) ?_
  refine G_iload X0 hx (pc' := 22) rfl (hb hby d10_20) rfl ?_
  refine G_bipush X0 hx (pc' := 24) rfl (hb hby d10_22) (z := (19 : Int32)) rfl ?_
  refine G_icmpNo X0 hx (pc' := 27) rfl (hb hby d10_24) (tlt (by decide : (10 : Int32) < (19 : Int32))).2.1 ?_
  refine G_lloadN X0 hx (pc' := 28) rfl (hb hby d10_27) rfl ?_
  refine G_lloadN X0 hx (pc' := 29) rfl (hb hby d10_28) rfl ?_
  refine G_lcmp X0 hx (pc' := 30) rfl (hb hby d10_29)  ?_
  by_cases hc30_29 : (-10000000000 : Int64) < (-v0)
  · refine G_ifNo X0 hx (pc' := 33) rfl (hb hby d10_30) ((if0 _ _).trans (tlt ((lw_gt _ _).2 hc30_29)).2.2.2) ?_
    refine G_iload X0 hx (pc' := 35) rfl (hb hby d10_33) rfl ?_
    refine G_iloadN X0 hx (pc' := 36) rfl (hb hby d10_35) rfl ?_
    refine G_iadd X0 hx (pc' := 37) rfl (hb hby d10_36)  ?_
    rw [show ((10 : Int32) + (0 : Int32)) = (10 : Int32) from by decide]
    refine Go.fin X0 hlk (v := some (.int (10 : Int32))) (fun h => by rw [Bd.returns] at h; cases h) (by decide) (by decide) ?_ (fun fs hr => retOut X0 hx Bd.returns rfl (Or.inl ⟨rfl, Or.inl rfl, _, rfl⟩) (hb hby d10_37) hr)
    show Q_ssize Z v0 h0 n0 _ s₁.heap _
    rw [e0]
    exact ⟨congrArg (fun z => some (Value.int z)) (Eq.symm ((if_neg hc5_1).trans ((if_neg hc30_20).trans ((if_neg hc30_21).trans ((if_neg hc30_22).trans ((if_neg hc30_23).trans ((if_neg hc30_24).trans ((if_neg hc30_25).trans ((if_neg hc30_26).trans ((if_neg hc30_27).trans ((if_neg hc30_28).trans ((if_pos hc30_29).trans rfl)))))))))))), N0, rfl⟩
  refine G_ifYes X0 hx (pc' := 38) (hb hby d10_30) ((if0 _ _).trans (flt (fun q => hc30_29 ((lw_gt _ _).1 q))).2.2.2) (by decide) (by decide) ?_
  refine G_ldc2 X0 hx (pc' := 41) rfl hown (mvT hZ (own_w hw 153 rfl)) (hb hby d10_38) ?_
  refine G_lloadN X0 hx (pc' := 42) rfl (hb hby d10_41) rfl ?_
  refine G_lmul X0 hx (pc' := 43) rfl (hb hby d10_42)  ?_
  rw [show ((10 : Int64) * (-10000000000 : Int64)) = (-100000000000 : Int64) from by decide]
  refine G_lstoreN X0 hx (pc' := 44) rfl (hb hby d10_43) (L' := #[.val (.long (-v0)), .second, .val (.int (0 : Int32)), .val (.long (-100000000000 : Int64)), .second, .val (.int (10 : Int32))]) rfl ?_
  refine G_iinc X0 hx (pc' := 47) rfl (hb hby d10_44) rfl (z := (11 : Int32)) rfl (L' := #[.val (.long (-v0)), .second, .val (.int (0 : Int32)), .val (.long (-100000000000 : Int64)), .second, .val (.int (11 : Int32))]) rfl ?_
  refine G_goto X0 hx (pc' := 20) (hb hby d10_47)  (by decide) (by decide) ?_
  refine G_iload X0 hx (pc' := 22) rfl (hb hby d10_20) rfl ?_
  refine G_bipush X0 hx (pc' := 24) rfl (hb hby d10_22) (z := (19 : Int32)) rfl ?_
  refine G_icmpNo X0 hx (pc' := 27) rfl (hb hby d10_24) (tlt (by decide : (11 : Int32) < (19 : Int32))).2.1 ?_
  refine G_lloadN X0 hx (pc' := 28) rfl (hb hby d10_27) rfl ?_
  refine G_lloadN X0 hx (pc' := 29) rfl (hb hby d10_28) rfl ?_
  refine G_lcmp X0 hx (pc' := 30) rfl (hb hby d10_29)  ?_
  by_cases hc30_30 : (-100000000000 : Int64) < (-v0)
  · refine G_ifNo X0 hx (pc' := 33) rfl (hb hby d10_30) ((if0 _ _).trans (tlt ((lw_gt _ _).2 hc30_30)).2.2.2) ?_
    refine G_iload X0 hx (pc' := 35) rfl (hb hby d10_33) rfl ?_
    refine G_iloadN X0 hx (pc' := 36) rfl (hb hby d10_35) rfl ?_
    refine G_iadd X0 hx (pc' := 37) rfl (hb hby d10_36)  ?_
    rw [show ((11 : Int32) + (0 : Int32)) = (11 : Int32) from by decide]
    refine Go.fin X0 hlk (v := some (.int (11 : Int32))) (fun h => by rw [Bd.returns] at h; cases h) (by decide) (by decide) ?_ (fun fs hr => retOut X0 hx Bd.returns rfl (Or.inl ⟨rfl, Or.inl rfl, _, rfl⟩) (hb hby d10_37) hr)
    show Q_ssize Z v0 h0 n0 _ s₁.heap _
    rw [e0]
    exact ⟨congrArg (fun z => some (Value.int z)) (Eq.symm ((if_neg hc5_1).trans ((if_neg hc30_20).trans ((if_neg hc30_21).trans ((if_neg hc30_22).trans ((if_neg hc30_23).trans ((if_neg hc30_24).trans ((if_neg hc30_25).trans ((if_neg hc30_26).trans ((if_neg hc30_27).trans ((if_neg hc30_28).trans ((if_neg hc30_29).trans ((if_pos hc30_30).trans rfl))))))))))))), N0, rfl⟩
  refine G_ifYes X0 hx (pc' := 38) (hb hby d10_30) ((if0 _ _).trans (flt (fun q => hc30_30 ((lw_gt _ _).1 q))).2.2.2) (by decide) (by decide) ?_
  refine G_ldc2 X0 hx (pc' := 41) rfl hown (mvT hZ (own_w hw 153 rfl)) (hb hby d10_38) ?_
  refine G_lloadN X0 hx (pc' := 42) rfl (hb hby d10_41) rfl ?_
  refine G_lmul X0 hx (pc' := 43) rfl (hb hby d10_42)  ?_
  rw [show ((10 : Int64) * (-100000000000 : Int64)) = (-1000000000000 : Int64) from by decide]
  refine G_lstoreN X0 hx (pc' := 44) rfl (hb hby d10_43) (L' := #[.val (.long (-v0)), .second, .val (.int (0 : Int32)), .val (.long (-1000000000000 : Int64)), .second, .val (.int (11 : Int32))]) rfl ?_
  refine G_iinc X0 hx (pc' := 47) rfl (hb hby d10_44) rfl (z := (12 : Int32)) rfl (L' := #[.val (.long (-v0)), .second, .val (.int (0 : Int32)), .val (.long (-1000000000000 : Int64)), .second, .val (.int (12 : Int32))]) rfl ?_
  refine G_goto X0 hx (pc' := 20) (hb hby d10_47)  (by decide) (by decide) ?_
  refine G_iload X0 hx (pc' := 22) rfl (hb hby d10_20) rfl ?_
  refine G_bipush X0 hx (pc' := 24) rfl (hb hby d10_22) (z := (19 : Int32)) rfl ?_
  refine G_icmpNo X0 hx (pc' := 27) rfl (hb hby d10_24) (tlt (by decide : (12 : Int32) < (19 : Int32))).2.1 ?_
  refine G_lloadN X0 hx (pc' := 28) rfl (hb hby d10_27) rfl ?_
  refine G_lloadN X0 hx (pc' := 29) rfl (hb hby d10_28) rfl ?_
  refine G_lcmp X0 hx (pc' := 30) rfl (hb hby d10_29)  ?_
  by_cases hc30_31 : (-1000000000000 : Int64) < (-v0)
  · refine G_ifNo X0 hx (pc' := 33) rfl (hb hby d10_30) ((if0 _ _).trans (tlt ((lw_gt _ _).2 hc30_31)).2.2.2) ?_
    refine G_iload X0 hx (pc' := 35) rfl (hb hby d10_33) rfl ?_
    refine G_iloadN X0 hx (pc' := 36) rfl (hb hby d10_35) rfl ?_
    refine G_iadd X0 hx (pc' := 37) rfl (hb hby d10_36)  ?_
    rw [show ((12 : Int32) + (0 : Int32)) = (12 : Int32) from by decide]
    refine Go.fin X0 hlk (v := some (.int (12 : Int32))) (fun h => by rw [Bd.returns] at h; cases h) (by decide) (by decide) ?_ (fun fs hr => retOut X0 hx Bd.returns rfl (Or.inl ⟨rfl, Or.inl rfl, _, rfl⟩) (hb hby d10_37) hr)
    show Q_ssize Z v0 h0 n0 _ s₁.heap _
    rw [e0]
    exact ⟨congrArg (fun z => some (Value.int z)) (Eq.symm ((if_neg hc5_1).trans ((if_neg hc30_20).trans ((if_neg hc30_21).trans ((if_neg hc30_22).trans ((if_neg hc30_23).trans ((if_neg hc30_24).trans ((if_neg hc30_25).trans ((if_neg hc30_26).trans ((if_neg hc30_27).trans ((if_neg hc30_28).trans ((if_neg hc30_29).trans ((if_neg hc30_30).trans ((if_pos hc30_31).trans rfl)))))))))))))), N0, rfl⟩
  refine G_ifYes X0 hx (pc' := 38) (hb hby d10_30) ((if0 _ _).trans (flt (fun q => hc30_31 ((lw_gt _ _).1 q))).2.2.2) (by decide) (by decide) ?_
  refine G_ldc2 X0 hx (pc' := 41) rfl hown (mvT hZ (own_w hw 153 rfl)) (hb hby d10_38) ?_
  refine G_lloadN X0 hx (pc' := 42) rfl (hb hby d10_41) rfl ?_
  refine G_lmul X0 hx (pc' := 43) rfl (hb hby d10_42)  ?_
  rw [show ((10 : Int64) * (-1000000000000 : Int64)) = (-10000000000000 : Int64) from by decide]
  refine G_lstoreN X0 hx (pc' := 44) rfl (hb hby d10_43) (L' := #[.val (.long (-v0)), .second, .val (.int (0 : Int32)), .val (.long (-10000000000000 : Int64)), .second, .val (.int (12 : Int32))]) rfl ?_
  refine G_iinc X0 hx (pc' := 47) rfl (hb hby d10_44) rfl (z := (13 : Int32)) rfl (L' := #[.val (.long (-v0)), .second, .val (.int (0 : Int32)), .val (.long (-10000000000000 : Int64)), .second, .val (.int (13 : Int32))]) rfl ?_
  refine G_goto X0 hx (pc' := 20) (hb hby d10_47)  (by decide) (by decide) ?_
  refine G_iload X0 hx (pc' := 22) rfl (hb hby d10_20) rfl ?_
  refine G_bipush X0 hx (pc' := 24) rfl (hb hby d10_22) (z := (19 : Int32)) rfl ?_
  refine G_icmpNo X0 hx (pc' := 27) rfl (hb hby d10_24) (tlt (by decide : (13 : Int32) < (19 : Int32))).2.1 ?_
  refine G_lloadN X0 hx (pc' := 28) rfl (hb hby d10_27) rfl ?_
  refine G_lloadN X0 hx (pc' := 29) rfl (hb hby d10_28) rfl ?_
  refine G_lcmp X0 hx (pc' := 30) rfl (hb hby d10_29)  ?_
  by_cases hc30_32 : (-10000000000000 : Int64) < (-v0)
  · refine G_ifNo X0 hx (pc' := 33) rfl (hb hby d10_30) ((if0 _ _).trans (tlt ((lw_gt _ _).2 hc30_32)).2.2.2) ?_
    refine G_iload X0 hx (pc' := 35) rfl (hb hby d10_33) rfl ?_
    refine G_iloadN X0 hx (pc' := 36) rfl (hb hby d10_35) rfl ?_
    refine G_iadd X0 hx (pc' := 37) rfl (hb hby d10_36)  ?_
    rw [show ((13 : Int32) + (0 : Int32)) = (13 : Int32) from by decide]
    refine Go.fin X0 hlk (v := some (.int (13 : Int32))) (fun h => by rw [Bd.returns] at h; cases h) (by decide) (by decide) ?_ (fun fs hr => retOut X0 hx Bd.returns rfl (Or.inl ⟨rfl, Or.inl rfl, _, rfl⟩) (hb hby d10_37) hr)
    show Q_ssize Z v0 h0 n0 _ s₁.heap _
    rw [e0]
    exact ⟨congrArg (fun z => some (Value.int z)) (Eq.symm ((if_neg hc5_1).trans ((if_neg hc30_20).trans ((if_neg hc30_21).trans ((if_neg hc30_22).trans ((if_neg hc30_23).trans ((if_neg hc30_24).trans ((if_neg hc30_25).trans ((if_neg hc30_26).trans ((if_neg hc30_27).trans ((if_neg hc30_28).trans ((if_neg hc30_29).trans ((if_neg hc30_30).trans ((if_neg hc30_31).trans ((if_pos hc30_32).trans rfl))))))))))))))), N0, rfl⟩
  refine G_ifYes X0 hx (pc' := 38) (hb hby d10_30) ((if0 _ _).trans (flt (fun q => hc30_32 ((lw_gt _ _).1 q))).2.2.2) (by decide) (by decide) ?_
  refine G_ldc2 X0 hx (pc' := 41) rfl hown (mvT hZ (own_w hw 153 rfl)) (hb hby d10_38) ?_
  refine G_lloadN X0 hx (pc' := 42) rfl (hb hby d10_41) rfl ?_
  refine G_lmul X0 hx (pc' := 43) rfl (hb hby d10_42)  ?_
  rw [show ((10 : Int64) * (-10000000000000 : Int64)) = (-100000000000000 : Int64) from by decide]
  refine G_lstoreN X0 hx (pc' := 44) rfl (hb hby d10_43) (L' := #[.val (.long (-v0)), .second, .val (.int (0 : Int32)), .val (.long (-100000000000000 : Int64)), .second, .val (.int (13 : Int32))]) rfl ?_
  refine G_iinc X0 hx (pc' := 47) rfl (hb hby d10_44) rfl (z := (14 : Int32)) rfl (L' := #[.val (.long (-v0)), .second, .val (.int (0 : Int32)), .val (.long (-100000000000000 : Int64)), .second, .val (.int (14 : Int32))]) rfl ?_
  refine G_goto X0 hx (pc' := 20) (hb hby d10_47)  (by decide) (by decide) ?_
  refine G_iload X0 hx (pc' := 22) rfl (hb hby d10_20) rfl ?_
  refine G_bipush X0 hx (pc' := 24) rfl (hb hby d10_22) (z := (19 : Int32)) rfl ?_
  refine G_icmpNo X0 hx (pc' := 27) rfl (hb hby d10_24) (tlt (by decide : (14 : Int32) < (19 : Int32))).2.1 ?_
  refine G_lloadN X0 hx (pc' := 28) rfl (hb hby d10_27) rfl ?_
  refine G_lloadN X0 hx (pc' := 29) rfl (hb hby d10_28) rfl ?_
  refine G_lcmp X0 hx (pc' := 30) rfl (hb hby d10_29)  ?_
  by_cases hc30_33 : (-100000000000000 : Int64) < (-v0)
  · refine G_ifNo X0 hx (pc' := 33) rfl (hb hby d10_30) ((if0 _ _).trans (tlt ((lw_gt _ _).2 hc30_33)).2.2.2) ?_
    refine G_iload X0 hx (pc' := 35) rfl (hb hby d10_33) rfl ?_
    refine G_iloadN X0 hx (pc' := 36) rfl (hb hby d10_35) rfl ?_
    refine G_iadd X0 hx (pc' := 37) rfl (hb hby d10_36)  ?_
    rw [show ((14 : Int32) + (0 : Int32)) = (14 : Int32) from by decide]
    refine Go.fin X0 hlk (v := some (.int (14 : Int32))) (fun h => by rw [Bd.returns] at h; cases h) (by decide) (by decide) ?_ (fun fs hr => retOut X0 hx Bd.returns rfl (Or.inl ⟨rfl, Or.inl rfl, _, rfl⟩) (hb hby d10_37) hr)
    show Q_ssize Z v0 h0 n0 _ s₁.heap _
    rw [e0]
    exact ⟨congrArg (fun z => some (Value.int z)) (Eq.symm ((if_neg hc5_1).trans ((if_neg hc30_20).trans ((if_neg hc30_21).trans ((if_neg hc30_22).trans ((if_neg hc30_23).trans ((if_neg hc30_24).trans ((if_neg hc30_25).trans ((if_neg hc30_26).trans ((if_neg hc30_27).trans ((if_neg hc30_28).trans ((if_neg hc30_29).trans ((if_neg hc30_30).trans ((if_neg hc30_31).trans ((if_neg hc30_32).trans ((if_pos hc30_33).trans rfl)))))))))))))))), N0, rfl⟩
  refine G_ifYes X0 hx (pc' := 38) (hb hby d10_30) ((if0 _ _).trans (flt (fun q => hc30_33 ((lw_gt _ _).1 q))).2.2.2) (by decide) (by decide) ?_
  refine G_ldc2 X0 hx (pc' := 41) rfl hown (mvT hZ (own_w hw 153 rfl)) (hb hby d10_38) ?_
  refine G_lloadN X0 hx (pc' := 42) rfl (hb hby d10_41) rfl ?_
  refine G_lmul X0 hx (pc' := 43) rfl (hb hby d10_42)  ?_
  rw [show ((10 : Int64) * (-100000000000000 : Int64)) = (-1000000000000000 : Int64) from by decide]
  refine G_lstoreN X0 hx (pc' := 44) rfl (hb hby d10_43) (L' := #[.val (.long (-v0)), .second, .val (.int (0 : Int32)), .val (.long (-1000000000000000 : Int64)), .second, .val (.int (14 : Int32))]) rfl ?_
  refine G_iinc X0 hx (pc' := 47) rfl (hb hby d10_44) rfl (z := (15 : Int32)) rfl (L' := #[.val (.long (-v0)), .second, .val (.int (0 : Int32)), .val (.long (-1000000000000000 : Int64)), .second, .val (.int (15 : Int32))]) rfl ?_
  refine G_goto X0 hx (pc' := 20) (hb hby d10_47)  (by decide) (by decide) ?_
  refine G_iload X0 hx (pc' := 22) rfl (hb hby d10_20) rfl ?_
  refine G_bipush X0 hx (pc' := 24) rfl (hb hby d10_22) (z := (19 : Int32)) rfl ?_
  refine G_icmpNo X0 hx (pc' := 27) rfl (hb hby d10_24) (tlt (by decide : (15 : Int32) < (19 : Int32))).2.1 ?_
  refine G_lloadN X0 hx (pc' := 28) rfl (hb hby d10_27) rfl ?_
  refine G_lloadN X0 hx (pc' := 29) rfl (hb hby d10_28) rfl ?_
  refine G_lcmp X0 hx (pc' := 30) rfl (hb hby d10_29)  ?_
  by_cases hc30_34 : (-1000000000000000 : Int64) < (-v0)
  · refine G_ifNo X0 hx (pc' := 33) rfl (hb hby d10_30) ((if0 _ _).trans (tlt ((lw_gt _ _).2 hc30_34)).2.2.2) ?_
    refine G_iload X0 hx (pc' := 35) rfl (hb hby d10_33) rfl ?_
    refine G_iloadN X0 hx (pc' := 36) rfl (hb hby d10_35) rfl ?_
    refine G_iadd X0 hx (pc' := 37) rfl (hb hby d10_36)  ?_
    rw [show ((15 : Int32) + (0 : Int32)) = (15 : Int32) from by decide]
    refine Go.fin X0 hlk (v := some (.int (15 : Int32))) (fun h => by rw [Bd.returns] at h; cases h) (by decide) (by decide) ?_ (fun fs hr => retOut X0 hx Bd.returns rfl (Or.inl ⟨rfl, Or.inl rfl, _, rfl⟩) (hb hby d10_37) hr)
    show Q_ssize Z v0 h0 n0 _ s₁.heap _
    rw [e0]
    exact ⟨congrArg (fun z => some (Value.int z)) (Eq.symm ((if_neg hc5_1).trans ((if_neg hc30_20).trans ((if_neg hc30_21).trans ((if_neg hc30_22).trans ((if_neg hc30_23).trans ((if_neg hc30_24).trans ((if_neg hc30_25).trans ((if_neg hc30_26).trans ((if_neg hc30_27).trans ((if_neg hc30_28).trans ((if_neg hc30_29).trans ((if_neg hc30_30).trans ((if_neg hc30_31).trans ((if_neg hc30_32).trans ((if_neg hc30_33).trans ((if_pos hc30_34).trans rfl))))))))))))))))), N0, rfl⟩
  refine G_ifYes X0 hx (pc' := 38) (hb hby d10_30) ((if0 _ _).trans (flt (fun q => hc30_34 ((lw_gt _ _).1 q))).2.2.2) (by decide) (by decide) ?_
  refine G_ldc2 X0 hx (pc' := 41) rfl hown (mvT hZ (own_w hw 153 rfl)) (hb hby d10_38) ?_
  refine G_lloadN X0 hx (pc' := 42) rfl (hb hby d10_41) rfl ?_
  refine G_lmul X0 hx (pc' := 43) rfl (hb hby d10_42)  ?_
  rw [show ((10 : Int64) * (-1000000000000000 : Int64)) = (-10000000000000000 : Int64) from by decide]
  refine G_lstoreN X0 hx (pc' := 44) rfl (hb hby d10_43) (L' := #[.val (.long (-v0)), .second, .val (.int (0 : Int32)), .val (.long (-10000000000000000 : Int64)), .second, .val (.int (15 : Int32))]) rfl ?_
  refine G_iinc X0 hx (pc' := 47) rfl (hb hby d10_44) rfl (z := (16 : Int32)) rfl (L' := #[.val (.long (-v0)), .second, .val (.int (0 : Int32)), .val (.long (-10000000000000000 : Int64)), .second, .val (.int (16 : Int32))]) rfl ?_
  refine G_goto X0 hx (pc' := 20) (hb hby d10_47)  (by decide) (by decide) ?_
  refine G_iload X0 hx (pc' := 22) rfl (hb hby d10_20) rfl ?_
  refine G_bipush X0 hx (pc' := 24) rfl (hb hby d10_22) (z := (19 : Int32)) rfl ?_
  refine G_icmpNo X0 hx (pc' := 27) rfl (hb hby d10_24) (tlt (by decide : (16 : Int32) < (19 : Int32))).2.1 ?_
  refine G_lloadN X0 hx (pc' := 28) rfl (hb hby d10_27) rfl ?_
  refine G_lloadN X0 hx (pc' := 29) rfl (hb hby d10_28) rfl ?_
  refine G_lcmp X0 hx (pc' := 30) rfl (hb hby d10_29)  ?_
  by_cases hc30_35 : (-10000000000000000 : Int64) < (-v0)
  · refine G_ifNo X0 hx (pc' := 33) rfl (hb hby d10_30) ((if0 _ _).trans (tlt ((lw_gt _ _).2 hc30_35)).2.2.2) ?_
    refine G_iload X0 hx (pc' := 35) rfl (hb hby d10_33) rfl ?_
    refine G_iloadN X0 hx (pc' := 36) rfl (hb hby d10_35) rfl ?_
    refine G_iadd X0 hx (pc' := 37) rfl (hb hby d10_36)  ?_
    rw [show ((16 : Int32) + (0 : Int32)) = (16 : Int32) from by decide]
    refine Go.fin X0 hlk (v := some (.int (16 : Int32))) (fun h => by rw [Bd.returns] at h; cases h) (by decide) (by decide) ?_ (fun fs hr => retOut X0 hx Bd.returns rfl (Or.inl ⟨rfl, Or.inl rfl, _, rfl⟩) (hb hby d10_37) hr)
    show Q_ssize Z v0 h0 n0 _ s₁.heap _
    rw [e0]
    exact ⟨congrArg (fun z => some (Value.int z)) (Eq.symm ((if_neg hc5_1).trans ((if_neg hc30_20).trans ((if_neg hc30_21).trans ((if_neg hc30_22).trans ((if_neg hc30_23).trans ((if_neg hc30_24).trans ((if_neg hc30_25).trans ((if_neg hc30_26).trans ((if_neg hc30_27).trans ((if_neg hc30_28).trans ((if_neg hc30_29).trans ((if_neg hc30_30).trans ((if_neg hc30_31).trans ((if_neg hc30_32).trans ((if_neg hc30_33).trans ((if_neg hc30_34).trans ((if_pos hc30_35).trans rfl)))))))))))))))))), N0, rfl⟩
  refine G_ifYes X0 hx (pc' := 38) (hb hby d10_30) ((if0 _ _).trans (flt (fun q => hc30_35 ((lw_gt _ _).1 q))).2.2.2) (by decide) (by decide) ?_
  refine G_ldc2 X0 hx (pc' := 41) rfl hown (mvT hZ (own_w hw 153 rfl)) (hb hby d10_38) ?_
  refine G_lloadN X0 hx (pc' := 42) rfl (hb hby d10_41) rfl ?_
  refine G_lmul X0 hx (pc' := 43) rfl (hb hby d10_42)  ?_
  rw [show ((10 : Int64) * (-10000000000000000 : Int64)) = (-100000000000000000 : Int64) from by decide]
  refine G_lstoreN X0 hx (pc' := 44) rfl (hb hby d10_43) (L' := #[.val (.long (-v0)), .second, .val (.int (0 : Int32)), .val (.long (-100000000000000000 : Int64)), .second, .val (.int (16 : Int32))]) rfl ?_
  refine G_iinc X0 hx (pc' := 47) rfl (hb hby d10_44) rfl (z := (17 : Int32)) rfl (L' := #[.val (.long (-v0)), .second, .val (.int (0 : Int32)), .val (.long (-100000000000000000 : Int64)), .second, .val (.int (17 : Int32))]) rfl ?_
  refine G_goto X0 hx (pc' := 20) (hb hby d10_47)  (by decide) (by decide) ?_
  refine G_iload X0 hx (pc' := 22) rfl (hb hby d10_20) rfl ?_
  refine G_bipush X0 hx (pc' := 24) rfl (hb hby d10_22) (z := (19 : Int32)) rfl ?_
  refine G_icmpNo X0 hx (pc' := 27) rfl (hb hby d10_24) (tlt (by decide : (17 : Int32) < (19 : Int32))).2.1 ?_
  refine G_lloadN X0 hx (pc' := 28) rfl (hb hby d10_27) rfl ?_
  refine G_lloadN X0 hx (pc' := 29) rfl (hb hby d10_28) rfl ?_
  refine G_lcmp X0 hx (pc' := 30) rfl (hb hby d10_29)  ?_
  by_cases hc30_36 : (-100000000000000000 : Int64) < (-v0)
  · refine G_ifNo X0 hx (pc' := 33) rfl (hb hby d10_30) ((if0 _ _).trans (tlt ((lw_gt _ _).2 hc30_36)).2.2.2) ?_
    refine G_iload X0 hx (pc' := 35) rfl (hb hby d10_33) rfl ?_
    refine G_iloadN X0 hx (pc' := 36) rfl (hb hby d10_35) rfl ?_
    refine G_iadd X0 hx (pc' := 37) rfl (hb hby d10_36)  ?_
    rw [show ((17 : Int32) + (0 : Int32)) = (17 : Int32) from by decide]
    refine Go.fin X0 hlk (v := some (.int (17 : Int32))) (fun h => by rw [Bd.returns] at h; cases h) (by decide) (by decide) ?_ (fun fs hr => retOut X0 hx Bd.returns rfl (Or.inl ⟨rfl, Or.inl rfl, _, rfl⟩) (hb hby d10_37) hr)
    show Q_ssize Z v0 h0 n0 _ s₁.heap _
    rw [e0]
    exact ⟨congrArg (fun z => some (Value.int z)) (Eq.symm ((if_neg hc5_1).trans ((if_neg hc30_20).trans ((if_neg hc30_21).trans ((if_neg hc30_22).trans ((if_neg hc30_23).trans ((if_neg hc30_24).trans ((if_neg hc30_25).trans ((if_neg hc30_26).trans ((if_neg hc30_27).trans ((if_neg hc30_28).trans ((if_neg hc30_29).trans ((if_neg hc30_30).trans ((if_neg hc30_31).trans ((if_neg hc30_32).trans ((if_neg hc30_33).trans ((if_neg hc30_34).trans ((if_neg hc30_35).trans ((if_pos hc30_36).trans rfl))))))))))))))))))), N0, rfl⟩
  refine G_ifYes X0 hx (pc' := 38) (hb hby d10_30) ((if0 _ _).trans (flt (fun q => hc30_36 ((lw_gt _ _).1 q))).2.2.2) (by decide) (by decide) ?_
  refine G_ldc2 X0 hx (pc' := 41) rfl hown (mvT hZ (own_w hw 153 rfl)) (hb hby d10_38) ?_
  refine G_lloadN X0 hx (pc' := 42) rfl (hb hby d10_41) rfl ?_
  refine G_lmul X0 hx (pc' := 43) rfl (hb hby d10_42)  ?_
  rw [show ((10 : Int64) * (-100000000000000000 : Int64)) = (-1000000000000000000 : Int64) from by decide]
  refine G_lstoreN X0 hx (pc' := 44) rfl (hb hby d10_43) (L' := #[.val (.long (-v0)), .second, .val (.int (0 : Int32)), .val (.long (-1000000000000000000 : Int64)), .second, .val (.int (17 : Int32))]) rfl ?_
  refine G_iinc X0 hx (pc' := 47) rfl (hb hby d10_44) rfl (z := (18 : Int32)) rfl (L' := #[.val (.long (-v0)), .second, .val (.int (0 : Int32)), .val (.long (-1000000000000000000 : Int64)), .second, .val (.int (18 : Int32))]) rfl ?_
  refine G_goto X0 hx (pc' := 20) (hb hby d10_47)  (by decide) (by decide) ?_
  refine G_iload X0 hx (pc' := 22) rfl (hb hby d10_20) rfl ?_
  refine G_bipush X0 hx (pc' := 24) rfl (hb hby d10_22) (z := (19 : Int32)) rfl ?_
  refine G_icmpNo X0 hx (pc' := 27) rfl (hb hby d10_24) (tlt (by decide : (18 : Int32) < (19 : Int32))).2.1 ?_
  refine G_lloadN X0 hx (pc' := 28) rfl (hb hby d10_27) rfl ?_
  refine G_lloadN X0 hx (pc' := 29) rfl (hb hby d10_28) rfl ?_
  refine G_lcmp X0 hx (pc' := 30) rfl (hb hby d10_29)  ?_
  by_cases hc30_37 : (-1000000000000000000 : Int64) < (-v0)
  · refine G_ifNo X0 hx (pc' := 33) rfl (hb hby d10_30) ((if0 _ _).trans (tlt ((lw_gt _ _).2 hc30_37)).2.2.2) ?_
    refine G_iload X0 hx (pc' := 35) rfl (hb hby d10_33) rfl ?_
    refine G_iloadN X0 hx (pc' := 36) rfl (hb hby d10_35) rfl ?_
    refine G_iadd X0 hx (pc' := 37) rfl (hb hby d10_36)  ?_
    rw [show ((18 : Int32) + (0 : Int32)) = (18 : Int32) from by decide]
    refine Go.fin X0 hlk (v := some (.int (18 : Int32))) (fun h => by rw [Bd.returns] at h; cases h) (by decide) (by decide) ?_ (fun fs hr => retOut X0 hx Bd.returns rfl (Or.inl ⟨rfl, Or.inl rfl, _, rfl⟩) (hb hby d10_37) hr)
    show Q_ssize Z v0 h0 n0 _ s₁.heap _
    rw [e0]
    exact ⟨congrArg (fun z => some (Value.int z)) (Eq.symm ((if_neg hc5_1).trans ((if_neg hc30_20).trans ((if_neg hc30_21).trans ((if_neg hc30_22).trans ((if_neg hc30_23).trans ((if_neg hc30_24).trans ((if_neg hc30_25).trans ((if_neg hc30_26).trans ((if_neg hc30_27).trans ((if_neg hc30_28).trans ((if_neg hc30_29).trans ((if_neg hc30_30).trans ((if_neg hc30_31).trans ((if_neg hc30_32).trans ((if_neg hc30_33).trans ((if_neg hc30_34).trans ((if_neg hc30_35).trans ((if_neg hc30_36).trans ((if_pos hc30_37).trans rfl)))))))))))))))))))), N0, rfl⟩
  refine G_ifYes X0 hx (pc' := 38) (hb hby d10_30) ((if0 _ _).trans (flt (fun q => hc30_37 ((lw_gt _ _).1 q))).2.2.2) (by decide) (by decide) ?_
  refine G_ldc2 X0 hx (pc' := 41) rfl hown (mvT hZ (own_w hw 153 rfl)) (hb hby d10_38) ?_
  refine G_lloadN X0 hx (pc' := 42) rfl (hb hby d10_41) rfl ?_
  refine G_lmul X0 hx (pc' := 43) rfl (hb hby d10_42)  ?_
  rw [show ((10 : Int64) * (-1000000000000000000 : Int64)) = (8446744073709551616 : Int64) from by decide]
  refine G_lstoreN X0 hx (pc' := 44) rfl (hb hby d10_43) (L' := #[.val (.long (-v0)), .second, .val (.int (0 : Int32)), .val (.long (8446744073709551616 : Int64)), .second, .val (.int (18 : Int32))]) rfl ?_
  refine G_iinc X0 hx (pc' := 47) rfl (hb hby d10_44) rfl (z := (19 : Int32)) rfl (L' := #[.val (.long (-v0)), .second, .val (.int (0 : Int32)), .val (.long (8446744073709551616 : Int64)), .second, .val (.int (19 : Int32))]) rfl ?_
  refine G_goto X0 hx (pc' := 20) (hb hby d10_47)  (by decide) (by decide) ?_
  refine G_iload X0 hx (pc' := 22) rfl (hb hby d10_20) rfl ?_
  refine G_bipush X0 hx (pc' := 24) rfl (hb hby d10_22) (z := (19 : Int32)) rfl ?_
  refine G_icmpYes X0 hx (pc' := 50) (hb hby d10_24) (flt (by decide : ¬ ((19 : Int32) < (19 : Int32)))).2.1 (by decide) (by decide) ?_
  refine G_bipush X0 hx (pc' := 52) rfl (hb hby d10_50) (z := (19 : Int32)) rfl ?_
  refine G_iloadN X0 hx (pc' := 53) rfl (hb hby d10_52) rfl ?_
  refine G_iadd X0 hx (pc' := 54) rfl (hb hby d10_53)  ?_
  rw [show ((19 : Int32) + (0 : Int32)) = (19 : Int32) from by decide]
  refine Go.fin X0 hlk (v := some (.int (19 : Int32))) (fun h => by rw [Bd.returns] at h; cases h) (by decide) (by decide) ?_ (fun fs hr => retOut X0 hx Bd.returns rfl (Or.inl ⟨rfl, Or.inl rfl, _, rfl⟩) (hb hby d10_54) hr)
  show Q_ssize Z v0 h0 n0 _ s₁.heap _
  rw [e0]
  exact ⟨congrArg (fun z => some (Value.int z)) (Eq.symm ((if_neg hc5_1).trans ((if_neg hc30_20).trans ((if_neg hc30_21).trans ((if_neg hc30_22).trans ((if_neg hc30_23).trans ((if_neg hc30_24).trans ((if_neg hc30_25).trans ((if_neg hc30_26).trans ((if_neg hc30_27).trans ((if_neg hc30_28).trans ((if_neg hc30_29).trans ((if_neg hc30_30).trans ((if_neg hc30_31).trans ((if_neg hc30_32).trans ((if_neg hc30_33).trans ((if_neg hc30_34).trans ((if_neg hc30_35).trans ((if_neg hc30_36).trans ((if_neg hc30_37).trans rfl)))))))))))))))))))), N0, rfl⟩
theorem d11_0 : decode jdk_29_method_61_code 0 = .ok (.lload_n 0, 1) := by decide +kernel
theorem d11_1 : decode jdk_29_method_61_code 1 = .ok (.lconst 0, 1) := by decide +kernel
theorem d11_2 : decode jdk_29_method_61_code 2 = .ok (.lcmp, 1) := by decide +kernel
theorem d11_3 : decode jdk_29_method_61_code 3 = .ok (.ifCond .ge 8, 3) := by decide +kernel
theorem d11_6 : decode jdk_29_method_61_code 6 = .ok (.lload_n 0, 1) := by decide +kernel
theorem d11_7 : decode jdk_29_method_61_code 7 = .ok (.lneg, 1) := by decide +kernel
theorem d11_8 : decode jdk_29_method_61_code 8 = .ok (.goto 4, 3) := by decide +kernel
theorem d11_12 : decode jdk_29_method_61_code 12 = .ok (.lreturn, 1) := by decide +kernel
theorem d11_11 : decode jdk_29_method_61_code 11 = .ok (.lload_n 0, 1) := by decide +kernel
def f_abs (v0 : Int64) : Int64 := (if v0 < (0 : Int64) then (-v0) else v0)
theorem ef_abs (m : MethodId) (v0 : Int64) : entryFrame m #[(.long v0)] 2 = mkF m 0 #[.val (.long v0), .second] [] := by first | (simp [entryFrame, mkF, argsToLocals, Value.category]; done) | rfl
def Q_abs (Z : State) (v0 : Int64) (h0 : Heap) (n0 : Nat) (v : Option Value) (h : Heap) (L : List Loc) : Prop := v = some (.long (f_abs v0)) ∧ Fr n0 L ∧ h = h0
set_option maxRecDepth 65536 in
set_option maxHeartbeats 40000000 in
theorem rm_abs (l : Launch) (Z : State) (a0 : Array Value) (hw : ∀ d ∈ tables_1, d.before a0 Z = true) (ws : List Jvm.Cond) (v0 : Int64) (h0 : Heap) (n0 : Nat) (Z0 : n0 ≤ h0.size) :
    MetFree l (⟨"java/lang/Math", "abs", "(J)J"⟩ : MethodName) (head1 (Jvm.Cond.code (⟨"java/lang/Math", "abs", "(J)J"⟩ : MethodName) jdk_29_method_61_code 2 (some .long) :: ws) ({ frames := 0, cells := 0, slots := 0, locals := 0 } : Room)) (fun a U => a = #[(.long v0)] ∧ Z.Warmed39 U.vm ∧ U.heap = h0) (fun _ _ _ _ _ => True) (fun _ U o U' => ∃ v L, o = .returned v ∧ Q_abs Z v0 h0 n0 v U'.heap L ∧ FrameEnd U o U' L ({ frames := 0, cells := 0, slots := 0, locals := 0 } : Room).cells ({ frames := 0, cells := 0, slots := 0, locals := 0 } : Room).slots) := by
  refine MetFree.of_bodySF (Jvm.Free.JP.mathPlain rfl (by decide +kernel)) hisR ?_
  intro p e s m args below meth c s₁ Bd hml0 hP hK
  obtain ⟨rfl, hZ, hh⟩ := hP
  have hx := Bd.exec
  have hby := Bd.bytes
  have hml : c.maxLocals = 2 := hml0
  have hown : s.vm.findClass "java/lang/Math" = some m.cls := findClass_of_methodNamed Bd.named
  have hnm := (name_of_methodNamed Bd.named Bd.method).1
  have hlk : meth.locks = false := Bd.notSynchronized
  have X0 : Stand p l e ({ frames := 0, cells := 0, slots := 0, locals := 0 } : Room) s m #[(.long v0)] below meth c s₁ [] 0 0 := Stand.of_body Bd
  have e0 : s₁.heap = h0 := by rw [← hh, Bd.state]; rfl
  have N0 := Fr.nil n0
  refine Go.enter (Q := Q_abs Z v0 h0 n0) (C := ({ frames := 0, cells := 0, slots := 0, locals := 0 } : Room).cells) (N := ({ frames := 0, cells := 0, slots := 0, locals := 0 } : Room).slots) (ef_abs m v0) ?_
  show Go p e below s _ _ _ s₁ (mkF m 0 #[.val (.long v0), .second] [])
  refine G_lloadN X0 hx (pc' := 1) rfl (hb hby d11_0) rfl ?_
  refine G_lconst X0 hx (pc' := 2) rfl (hb hby d11_1) (z := (0 : Int64)) rfl ?_
  refine G_lcmp X0 hx (pc' := 3) rfl (hb hby d11_2)  ?_
  by_cases hc3_1 : v0 < (0 : Int64)
  · refine G_ifNo X0 hx (pc' := 6) rfl (hb hby d11_3) ((if0 _ _).trans (tlt ((lw_lt _ _).2 hc3_1)).2.1) ?_
    refine G_lloadN X0 hx (pc' := 7) rfl (hb hby d11_6) rfl ?_
    refine G_lneg X0 hx (pc' := 8) rfl (hb hby d11_7)  ?_
    refine G_goto X0 hx (pc' := 12) (hb hby d11_8)  (by decide) (by decide) ?_
    refine Go.fin X0 hlk (v := some (.long (-v0))) (fun h => by rw [Bd.returns] at h; cases h) (by decide) (by decide) ?_ (fun fs hr => retOut X0 hx Bd.returns rfl (Or.inr (Or.inl ⟨rfl, rfl, _, rfl⟩)) (hb hby d11_12) hr)
    show Q_abs Z v0 h0 n0 _ s₁.heap _
    rw [e0]
    exact ⟨congrArg (fun z => some (Value.long z)) (Eq.symm ((if_pos hc3_1).trans rfl)), N0, rfl⟩
  · refine G_ifYes X0 hx (pc' := 11) (hb hby d11_3) ((if0 _ _).trans (flt (fun q => hc3_1 ((lw_lt _ _).1 q))).2.1) (by decide) (by decide) ?_
    refine G_lloadN X0 hx (pc' := 12) rfl (hb hby d11_11) rfl ?_
    refine Go.fin X0 hlk (v := some (.long v0)) (fun h => by rw [Bd.returns] at h; cases h) (by decide) (by decide) ?_ (fun fs hr => retOut X0 hx Bd.returns rfl (Or.inr (Or.inl ⟨rfl, rfl, _, rfl⟩)) (hb hby d11_12) hr)
    show Q_abs Z v0 h0 n0 _ s₁.heap _
    rw [e0]
    exact ⟨congrArg (fun z => some (Value.long z)) (Eq.symm ((if_neg hc3_1).trans rfl)), N0, rfl⟩
def own_N (U : Nat) : Nat := if U < 10 then 1 else if U < 100 then 2 else if U < 1000 then 3 else if U < 10000 then 4 else if U < 100000 then 5 else if U < 1000000 then 6 else if U < 10000000 then 7 else if U < 100000000 then 8 else if U < 1000000000 then 9 else if U < 10000000000 then 10 else if U < 100000000000 then 11 else if U < 1000000000000 then 12 else if U < 10000000000000 then 13 else if U < 100000000000000 then 14 else if U < 1000000000000000 then 15 else if U < 10000000000000000 then 16 else if U < 100000000000000000 then 17 else if U < 1000000000000000000 then 18 else 19
theorem own_PN {U : Nat} (h : U ≤ 9223372036854775808) : own_P U (own_N U) ∧ 1 ≤ own_N U := by
  unfold own_N
  by_cases h1 : U < 10
  · rw [if_pos h1]; exact ⟨⟨by omega, Or.inl rfl, by omega⟩, by omega⟩
  rw [if_neg h1]
  by_cases h2 : U < 100
  · rw [if_pos h2]; exact ⟨⟨by omega, Or.inr (by omega), by omega⟩, by omega⟩
  rw [if_neg h2]
  by_cases h3 : U < 1000
  · rw [if_pos h3]; exact ⟨⟨by omega, Or.inr (by omega), by omega⟩, by omega⟩
  rw [if_neg h3]
  by_cases h4 : U < 10000
  · rw [if_pos h4]; exact ⟨⟨by omega, Or.inr (by omega), by omega⟩, by omega⟩
  rw [if_neg h4]
  by_cases h5 : U < 100000
  · rw [if_pos h5]; exact ⟨⟨by omega, Or.inr (by omega), by omega⟩, by omega⟩
  rw [if_neg h5]
  by_cases h6 : U < 1000000
  · rw [if_pos h6]; exact ⟨⟨by omega, Or.inr (by omega), by omega⟩, by omega⟩
  rw [if_neg h6]
  by_cases h7 : U < 10000000
  · rw [if_pos h7]; exact ⟨⟨by omega, Or.inr (by omega), by omega⟩, by omega⟩
  rw [if_neg h7]
  by_cases h8 : U < 100000000
  · rw [if_pos h8]; exact ⟨⟨by omega, Or.inr (by omega), by omega⟩, by omega⟩
  rw [if_neg h8]
  by_cases h9 : U < 1000000000
  · rw [if_pos h9]; exact ⟨⟨by omega, Or.inr (by omega), by omega⟩, by omega⟩
  rw [if_neg h9]
  by_cases h10 : U < 10000000000
  · rw [if_pos h10]; exact ⟨⟨by omega, Or.inr (by omega), by omega⟩, by omega⟩
  rw [if_neg h10]
  by_cases h11 : U < 100000000000
  · rw [if_pos h11]; exact ⟨⟨by omega, Or.inr (by omega), by omega⟩, by omega⟩
  rw [if_neg h11]
  by_cases h12 : U < 1000000000000
  · rw [if_pos h12]; exact ⟨⟨by omega, Or.inr (by omega), by omega⟩, by omega⟩
  rw [if_neg h12]
  by_cases h13 : U < 10000000000000
  · rw [if_pos h13]; exact ⟨⟨by omega, Or.inr (by omega), by omega⟩, by omega⟩
  rw [if_neg h13]
  by_cases h14 : U < 100000000000000
  · rw [if_pos h14]; exact ⟨⟨by omega, Or.inr (by omega), by omega⟩, by omega⟩
  rw [if_neg h14]
  by_cases h15 : U < 1000000000000000
  · rw [if_pos h15]; exact ⟨⟨by omega, Or.inr (by omega), by omega⟩, by omega⟩
  rw [if_neg h15]
  by_cases h16 : U < 10000000000000000
  · rw [if_pos h16]; exact ⟨⟨by omega, Or.inr (by omega), by omega⟩, by omega⟩
  rw [if_neg h16]
  by_cases h17 : U < 100000000000000000
  · rw [if_pos h17]; exact ⟨⟨by omega, Or.inr (by omega), by omega⟩, by omega⟩
  rw [if_neg h17]
  by_cases h18 : U < 1000000000000000000
  · rw [if_pos h18]; exact ⟨⟨by omega, Or.inr (by omega), by omega⟩, by omega⟩
  rw [if_neg h18]
  exact ⟨⟨by omega, Or.inr (by omega), by omega⟩, by omega⟩
theorem own_tl : f_textLen = f_ssize := rfl
theorem own_dl : f_decLen = f_ssize := rfl
theorem own_z1 : (-10 : Int64).toInt = -10 := by decide
theorem own_z2 : (-100 : Int64).toInt = -100 := by decide
theorem own_z3 : (-1000 : Int64).toInt = -1000 := by decide
theorem own_z4 : (-10000 : Int64).toInt = -10000 := by decide
theorem own_z5 : (-100000 : Int64).toInt = -100000 := by decide
theorem own_z6 : (-1000000 : Int64).toInt = -1000000 := by decide
theorem own_z7 : (-10000000 : Int64).toInt = -10000000 := by decide
theorem own_z8 : (-100000000 : Int64).toInt = -100000000 := by decide
theorem own_z9 : (-1000000000 : Int64).toInt = -1000000000 := by decide
theorem own_z10 : (-10000000000 : Int64).toInt = -10000000000 := by decide
theorem own_z11 : (-100000000000 : Int64).toInt = -100000000000 := by decide
theorem own_z12 : (-1000000000000 : Int64).toInt = -1000000000000 := by decide
theorem own_z13 : (-10000000000000 : Int64).toInt = -10000000000000 := by decide
theorem own_z14 : (-100000000000000 : Int64).toInt = -100000000000000 := by decide
theorem own_z15 : (-1000000000000000 : Int64).toInt = -1000000000000000 := by decide
theorem own_z16 : (-10000000000000000 : Int64).toInt = -10000000000000000 := by decide
theorem own_z17 : (-100000000000000000 : Int64).toInt = -100000000000000000 := by decide
theorem own_z18 : (-1000000000000000000 : Int64).toInt = -1000000000000000000 := by decide
theorem own_ssN {v : Int64} {U : Nat} (h : v < 0) (e : v.toInt = -(U : Int)) : f_ssize v = Int32.ofNat (1 + own_N U) := by
  unfold f_ssize own_N
  rw [if_pos h]
  by_cases h1 : U < 10
  · rw [if_pos (by rw [Int64.lt_iff_toInt_lt, own_z1, e]; omega), if_pos h1]; rfl
  rw [if_neg (by rw [Int64.lt_iff_toInt_lt, own_z1, e]; omega), if_neg h1]
  by_cases h2 : U < 100
  · rw [if_pos (by rw [Int64.lt_iff_toInt_lt, own_z2, e]; omega), if_pos h2]; rfl
  rw [if_neg (by rw [Int64.lt_iff_toInt_lt, own_z2, e]; omega), if_neg h2]
  by_cases h3 : U < 1000
  · rw [if_pos (by rw [Int64.lt_iff_toInt_lt, own_z3, e]; omega), if_pos h3]; rfl
  rw [if_neg (by rw [Int64.lt_iff_toInt_lt, own_z3, e]; omega), if_neg h3]
  by_cases h4 : U < 10000
  · rw [if_pos (by rw [Int64.lt_iff_toInt_lt, own_z4, e]; omega), if_pos h4]; rfl
  rw [if_neg (by rw [Int64.lt_iff_toInt_lt, own_z4, e]; omega), if_neg h4]
  by_cases h5 : U < 100000
  · rw [if_pos (by rw [Int64.lt_iff_toInt_lt, own_z5, e]; omega), if_pos h5]; rfl
  rw [if_neg (by rw [Int64.lt_iff_toInt_lt, own_z5, e]; omega), if_neg h5]
  by_cases h6 : U < 1000000
  · rw [if_pos (by rw [Int64.lt_iff_toInt_lt, own_z6, e]; omega), if_pos h6]; rfl
  rw [if_neg (by rw [Int64.lt_iff_toInt_lt, own_z6, e]; omega), if_neg h6]
  by_cases h7 : U < 10000000
  · rw [if_pos (by rw [Int64.lt_iff_toInt_lt, own_z7, e]; omega), if_pos h7]; rfl
  rw [if_neg (by rw [Int64.lt_iff_toInt_lt, own_z7, e]; omega), if_neg h7]
  by_cases h8 : U < 100000000
  · rw [if_pos (by rw [Int64.lt_iff_toInt_lt, own_z8, e]; omega), if_pos h8]; rfl
  rw [if_neg (by rw [Int64.lt_iff_toInt_lt, own_z8, e]; omega), if_neg h8]
  by_cases h9 : U < 1000000000
  · rw [if_pos (by rw [Int64.lt_iff_toInt_lt, own_z9, e]; omega), if_pos h9]; rfl
  rw [if_neg (by rw [Int64.lt_iff_toInt_lt, own_z9, e]; omega), if_neg h9]
  by_cases h10 : U < 10000000000
  · rw [if_pos (by rw [Int64.lt_iff_toInt_lt, own_z10, e]; omega), if_pos h10]; rfl
  rw [if_neg (by rw [Int64.lt_iff_toInt_lt, own_z10, e]; omega), if_neg h10]
  by_cases h11 : U < 100000000000
  · rw [if_pos (by rw [Int64.lt_iff_toInt_lt, own_z11, e]; omega), if_pos h11]; rfl
  rw [if_neg (by rw [Int64.lt_iff_toInt_lt, own_z11, e]; omega), if_neg h11]
  by_cases h12 : U < 1000000000000
  · rw [if_pos (by rw [Int64.lt_iff_toInt_lt, own_z12, e]; omega), if_pos h12]; rfl
  rw [if_neg (by rw [Int64.lt_iff_toInt_lt, own_z12, e]; omega), if_neg h12]
  by_cases h13 : U < 10000000000000
  · rw [if_pos (by rw [Int64.lt_iff_toInt_lt, own_z13, e]; omega), if_pos h13]; rfl
  rw [if_neg (by rw [Int64.lt_iff_toInt_lt, own_z13, e]; omega), if_neg h13]
  by_cases h14 : U < 100000000000000
  · rw [if_pos (by rw [Int64.lt_iff_toInt_lt, own_z14, e]; omega), if_pos h14]; rfl
  rw [if_neg (by rw [Int64.lt_iff_toInt_lt, own_z14, e]; omega), if_neg h14]
  by_cases h15 : U < 1000000000000000
  · rw [if_pos (by rw [Int64.lt_iff_toInt_lt, own_z15, e]; omega), if_pos h15]; rfl
  rw [if_neg (by rw [Int64.lt_iff_toInt_lt, own_z15, e]; omega), if_neg h15]
  by_cases h16 : U < 10000000000000000
  · rw [if_pos (by rw [Int64.lt_iff_toInt_lt, own_z16, e]; omega), if_pos h16]; rfl
  rw [if_neg (by rw [Int64.lt_iff_toInt_lt, own_z16, e]; omega), if_neg h16]
  by_cases h17 : U < 100000000000000000
  · rw [if_pos (by rw [Int64.lt_iff_toInt_lt, own_z17, e]; omega), if_pos h17]; rfl
  rw [if_neg (by rw [Int64.lt_iff_toInt_lt, own_z17, e]; omega), if_neg h17]
  by_cases h18 : U < 1000000000000000000
  · rw [if_pos (by rw [Int64.lt_iff_toInt_lt, own_z18, e]; omega), if_pos h18]; rfl
  rw [if_neg (by rw [Int64.lt_iff_toInt_lt, own_z18, e]; omega), if_neg h18]
  rfl
theorem own_ssP {v : Int64} {U : Nat} (h : ¬ v < 0) (e : (-v).toInt = -(U : Int)) : f_ssize v = Int32.ofNat (0 + own_N U) := by
  unfold f_ssize own_N
  rw [if_neg h]
  by_cases h1 : U < 10
  · rw [if_pos (by rw [Int64.lt_iff_toInt_lt, own_z1, e]; omega), if_pos h1]; rfl
  rw [if_neg (by rw [Int64.lt_iff_toInt_lt, own_z1, e]; omega), if_neg h1]
  by_cases h2 : U < 100
  · rw [if_pos (by rw [Int64.lt_iff_toInt_lt, own_z2, e]; omega), if_pos h2]; rfl
  rw [if_neg (by rw [Int64.lt_iff_toInt_lt, own_z2, e]; omega), if_neg h2]
  by_cases h3 : U < 1000
  · rw [if_pos (by rw [Int64.lt_iff_toInt_lt, own_z3, e]; omega), if_pos h3]; rfl
  rw [if_neg (by rw [Int64.lt_iff_toInt_lt, own_z3, e]; omega), if_neg h3]
  by_cases h4 : U < 10000
  · rw [if_pos (by rw [Int64.lt_iff_toInt_lt, own_z4, e]; omega), if_pos h4]; rfl
  rw [if_neg (by rw [Int64.lt_iff_toInt_lt, own_z4, e]; omega), if_neg h4]
  by_cases h5 : U < 100000
  · rw [if_pos (by rw [Int64.lt_iff_toInt_lt, own_z5, e]; omega), if_pos h5]; rfl
  rw [if_neg (by rw [Int64.lt_iff_toInt_lt, own_z5, e]; omega), if_neg h5]
  by_cases h6 : U < 1000000
  · rw [if_pos (by rw [Int64.lt_iff_toInt_lt, own_z6, e]; omega), if_pos h6]; rfl
  rw [if_neg (by rw [Int64.lt_iff_toInt_lt, own_z6, e]; omega), if_neg h6]
  by_cases h7 : U < 10000000
  · rw [if_pos (by rw [Int64.lt_iff_toInt_lt, own_z7, e]; omega), if_pos h7]; rfl
  rw [if_neg (by rw [Int64.lt_iff_toInt_lt, own_z7, e]; omega), if_neg h7]
  by_cases h8 : U < 100000000
  · rw [if_pos (by rw [Int64.lt_iff_toInt_lt, own_z8, e]; omega), if_pos h8]; rfl
  rw [if_neg (by rw [Int64.lt_iff_toInt_lt, own_z8, e]; omega), if_neg h8]
  by_cases h9 : U < 1000000000
  · rw [if_pos (by rw [Int64.lt_iff_toInt_lt, own_z9, e]; omega), if_pos h9]; rfl
  rw [if_neg (by rw [Int64.lt_iff_toInt_lt, own_z9, e]; omega), if_neg h9]
  by_cases h10 : U < 10000000000
  · rw [if_pos (by rw [Int64.lt_iff_toInt_lt, own_z10, e]; omega), if_pos h10]; rfl
  rw [if_neg (by rw [Int64.lt_iff_toInt_lt, own_z10, e]; omega), if_neg h10]
  by_cases h11 : U < 100000000000
  · rw [if_pos (by rw [Int64.lt_iff_toInt_lt, own_z11, e]; omega), if_pos h11]; rfl
  rw [if_neg (by rw [Int64.lt_iff_toInt_lt, own_z11, e]; omega), if_neg h11]
  by_cases h12 : U < 1000000000000
  · rw [if_pos (by rw [Int64.lt_iff_toInt_lt, own_z12, e]; omega), if_pos h12]; rfl
  rw [if_neg (by rw [Int64.lt_iff_toInt_lt, own_z12, e]; omega), if_neg h12]
  by_cases h13 : U < 10000000000000
  · rw [if_pos (by rw [Int64.lt_iff_toInt_lt, own_z13, e]; omega), if_pos h13]; rfl
  rw [if_neg (by rw [Int64.lt_iff_toInt_lt, own_z13, e]; omega), if_neg h13]
  by_cases h14 : U < 100000000000000
  · rw [if_pos (by rw [Int64.lt_iff_toInt_lt, own_z14, e]; omega), if_pos h14]; rfl
  rw [if_neg (by rw [Int64.lt_iff_toInt_lt, own_z14, e]; omega), if_neg h14]
  by_cases h15 : U < 1000000000000000
  · rw [if_pos (by rw [Int64.lt_iff_toInt_lt, own_z15, e]; omega), if_pos h15]; rfl
  rw [if_neg (by rw [Int64.lt_iff_toInt_lt, own_z15, e]; omega), if_neg h15]
  by_cases h16 : U < 10000000000000000
  · rw [if_pos (by rw [Int64.lt_iff_toInt_lt, own_z16, e]; omega), if_pos h16]; rfl
  rw [if_neg (by rw [Int64.lt_iff_toInt_lt, own_z16, e]; omega), if_neg h16]
  by_cases h17 : U < 100000000000000000
  · rw [if_pos (by rw [Int64.lt_iff_toInt_lt, own_z17, e]; omega), if_pos h17]; rfl
  rw [if_neg (by rw [Int64.lt_iff_toInt_lt, own_z17, e]; omega), if_neg h17]
  by_cases h18 : U < 1000000000000000000
  · rw [if_pos (by rw [Int64.lt_iff_toInt_lt, own_z18, e]; omega), if_pos h18]; rfl
  rw [if_neg (by rw [Int64.lt_iff_toInt_lt, own_z18, e]; omega), if_neg h18]
  rfl
theorem d12_0 : decode jdk_42_method_151_code 0 = .ok (.aload_n 0, 1) := by decide +kernel
theorem d12_1 : decode jdk_42_method_151_code 1 = .ok (.invokespecial 1, 3) := by decide +kernel
theorem d12_4 : decode jdk_42_method_151_code 4 = .ok (.aload_n 0, 1) := by decide +kernel
theorem d12_5 : decode jdk_42_method_151_code 5 = .ok (.aload_n 1, 1) := by decide +kernel
theorem d12_6 : decode jdk_42_method_151_code 6 = .ok (.putfield 9, 3) := by decide +kernel
theorem d12_9 : decode jdk_42_method_151_code 9 = .ok (.aload_n 0, 1) := by decide +kernel
theorem d12_10 : decode jdk_42_method_151_code 10 = .ok (.iload_n 2, 1) := by decide +kernel
theorem d12_11 : decode jdk_42_method_151_code 11 = .ok (.putfield 15, 3) := by decide +kernel
theorem d12_14 : decode jdk_42_method_151_code 14 = .ok (.return_, 1) := by decide +kernel
theorem ef_sinit (m : MethodId) (v0 : Addr) (v1 : Addr) : entryFrame m #[(.ref v0), (.ref v1), (.int (0 : Int32))] 3 = mkF m 0 #[.val (.ref v0), .val (.ref v1), .val (.int (0 : Int32))] [] := by first | (simp [entryFrame, mkF, argsToLocals, Value.category]; done) | rfl
def Q_sinit (Z : State) (v0 : Addr) (v1 : Addr) (h0 : Heap) (n0 : Nat) (v : Option Value) (h : Heap) (L : List Loc) : Prop := v = none ∧ Fr n0 L ∧ Keep h0 h [v0] ∧ Exa Z h v0 "java/lang/String" ∧ Fld Z h v0 "java/lang/String" "value" "[B" (.ref v1) ∧ Fld Z h v0 "java/lang/String" "coder" "B" (.int (0 : Int32))
set_option maxRecDepth 65536 in
set_option maxHeartbeats 40000000 in
theorem rm_sinit (l : Launch) (Z : State) (a0 : Array Value) (hw : ∀ d ∈ tables_1, d.before a0 Z = true) (ws : List Jvm.Cond) (v0 : Addr) (v1 : Addr) (h0 : Heap) (n0 : Nat) (Z0 : n0 ≤ h0.size) (f0_E_v0 : Exa Z h0 v0 "java/lang/String") (f1_F_v0 : Fld Z h0 v0 "java/lang/String" "value" "[B" .null) (f2_F_v0 : Fld Z h0 v0 "java/lang/String" "coder" "B" (.int (0 : Int32))) (g_v0 : n0 ≤ v0) :
    MetFree l (⟨"java/lang/String", "<init>", "([BB)V"⟩ : MethodName) (head1 (Jvm.Cond.code (⟨"java/lang/String", "<init>", "([BB)V"⟩ : MethodName) jdk_42_method_151_code 3 none :: ws) ({ frames := 1, cells := 0, slots := 0, locals := 12 } : Room)) (fun a U => a = #[(.ref v0), (.ref v1), (.int (0 : Int32))] ∧ Z.Warmed39 U.vm ∧ U.heap = h0) (fun _ _ _ _ _ => True) (fun _ U o U' => ∃ v L, o = .returned v ∧ Q_sinit Z v0 v1 h0 n0 v U'.heap L ∧ FrameEnd U o U' L ({ frames := 1, cells := 0, slots := 0, locals := 12 } : Room).cells ({ frames := 1, cells := 0, slots := 0, locals := 12 } : Room).slots) := by
  refine MetFree.of_bodySF (plainFor_of_name (by first | (simp [plainName, overriddenIn]; done) | decide +kernel)) hisR ?_
  intro p e s m args below meth c s₁ Bd hml0 hP hK
  obtain ⟨rfl, hZ, hh⟩ := hP
  have hx := Bd.exec
  have hby := Bd.bytes
  have hml : c.maxLocals = 3 := hml0
  have hown : s.vm.findClass "java/lang/String" = some m.cls := findClass_of_methodNamed Bd.named
  have hnm := (name_of_methodNamed Bd.named Bd.method).1
  have hlk : meth.locks = false := Bd.notSynchronized
  have X0 : Stand p l e ({ frames := 1, cells := 0, slots := 0, locals := 12 } : Room) s m #[(.ref v0), (.ref v1), (.int (0 : Int32))] below meth c s₁ [] 0 0 := Stand.of_body Bd
  have e0 : s₁.heap = h0 := by rw [← hh, Bd.state]; rfl
  have N0 := Fr.nil n0
  refine Go.enter (Q := Q_sinit Z v0 v1 h0 n0) (C := ({ frames := 1, cells := 0, slots := 0, locals := 12 } : Room).cells) (N := ({ frames := 1, cells := 0, slots := 0, locals := 12 } : Room).slots) (ef_sinit m v0 v1) ?_
  show Go p e below s _ _ _ s₁ (mkF m 0 #[.val (.ref v0), .val (.ref v1), .val (.int (0 : Int32))] [])
  refine G_aloadN X0 hx (pc' := 1) rfl (hb hby d12_0) rfl rfl ?_
  obtain ⟨T24, X24, e24, st24⟩ := initO X0 hx hZ hown (own_w hw 92 rfl) (own_w hw 10 rfl) (own_w hw 11 rfl) e0 (g := (mkF m 1 #[.val (.ref v0), .val (.ref v1), .val (.int (0 : Int32))] [(.ref v0)])) rfl (by rw [hml]; rfl) rfl (hb hby d12_1) (by decide) (W := 0) (by show 2 * 0 + _ ≤ _; exact Nat.le_of_eq rfl) (by decide)
  refine Go.st st24 ?_
  show Go p e below s _ _ _ T24 (mkF m 4 #[.val (.ref v0), .val (.ref v1), .val (.int (0 : Int32))] [])
  refine G_aloadN X24 hx (pc' := 5) rfl (hb hby d12_4) rfl rfl ?_
  refine G_aloadN X24 hx (pc' := 6) rfl (hb hby d12_5) rfl rfl ?_
  obtain ⟨T25, h25, X25, e25, W25, st25⟩ := putF X24 hx hZ hown (host := "") (Or.inl (own_w hw 93 rfl)) Via.refl e24 f1_F_v0 f0_E_v0 (Or.inr ⟨(own_w hw 94 rfl), rfl, hnm⟩) (own_w hw 87 rfl) (ty := (.array .byte)) (by decide) rfl rfl (g := (mkF m 6 #[.val (.ref v0), .val (.ref v1), .val (.int (0 : Int32))] [(.ref v1), (.ref v0)])) rfl rfl (hb hby d12_6)
  refine Go.st st25 ?_
  have F_v0_w25 := f1_F_v0.same W25
  have E_v0_25 := f0_E_v0.wr W25
  have F_v0_coder_25 := f2_F_v0.other W25 (Or.inr (slot_ne (Or.inr (own_w hw 96 rfl)) (Or.inr (own_w hw 94 rfl)) (by decide) (t := .byte) (t' := (.array .byte)) (by decide) (by decide)))
  have K_25 : Keep h0 h25 [v0] := (Keep.refl h0 [v0]).wr W25 (Or.inl (List.mem_of_getElem? (i := 0) rfl))
  have Z_25 : n0 ≤ h25.size := Nat.le_trans Z0 K_25.1
  have N25 := Fr.snoc X25 N0 g_v0
  clear f0_E_v0 f1_F_v0 f2_F_v0 W25 st25
  obtain ⟨G25, Y25, M25⟩ : ∃ L, Stand p l e ({ frames := 1, cells := 0, slots := 0, locals := 12 } : Room) s m #[(.ref v0), (.ref v1), (.int (0 : Int32))] below meth c T25 L 0 0 ∧ Fr n0 L := ⟨_, X25, N25⟩
  clear X25 N25
  show Go p e below s _ _ _ T25 (mkF m 9 #[.val (.ref v0), .val (.ref v1), .val (.int (0 : Int32))] [])
  refine G_aloadN Y25 hx (pc' := 10) rfl (hb hby d12_9) rfl rfl ?_
  refine G_iloadN Y25 hx (pc' := 11) rfl (hb hby d12_10) rfl ?_
  obtain ⟨T26, h26, X26, e26, W26, st26⟩ := putFN Y25 hx hZ hown (own_w hw 95 rfl) Via.refl e25 F_v0_coder_25 E_v0_25 (Or.inr ⟨(own_w hw 96 rfl), rfl, hnm⟩) (own_w hw 87 rfl) (ty := .byte) (v' := (.int (0 : Int32))) (by decide) rfl (by decide) (g := (mkF m 11 #[.val (.ref v0), .val (.ref v1), .val (.int (0 : Int32))] [(.int (0 : Int32)), (.ref v0)])) rfl rfl (hb hby d12_11)
  refine Go.st st26 ?_
  have F_v0_w26 := F_v0_coder_25.same W26
  have E_v0_26 := E_v0_25.wr W26
  have F_v0_value_26 := F_v0_w25.other W26 (Or.inr (slot_ne (Or.inr (own_w hw 94 rfl)) (Or.inr (own_w hw 96 rfl)) (by decide) (t := (.array .byte)) (t' := .byte) (by decide) (by decide)))
  have K_26 : Keep h0 h26 [v0] := K_25.wr W26 (Or.inl (List.mem_of_getElem? (i := 0) rfl))
  have Z_26 : n0 ≤ h26.size := Nat.le_trans Z0 K_26.1
  have N26 := Fr.snoc X26 M25 g_v0
  clear E_v0_25 F_v0_coder_25 F_v0_w25 W26 st26
  obtain ⟨G26, Y26, M26⟩ : ∃ L, Stand p l e ({ frames := 1, cells := 0, slots := 0, locals := 12 } : Room) s m #[(.ref v0), (.ref v1), (.int (0 : Int32))] below meth c T26 L 0 0 ∧ Fr n0 L := ⟨_, X26, N26⟩
  clear X26 N26
  show Go p e below s _ _ _ T26 (mkF m 14 #[.val (.ref v0), .val (.ref v1), .val (.int (0 : Int32))] [])
  refine Go.fin Y26 hlk (v := none) (fun _ => rfl) (by decide) (by decide) ?_ (fun fs hr => Y26.returnOut hx Bd.returns (hb hby d12_14) hr)
  show Q_sinit Z v0 v1 h0 n0 _ T26.heap _
  rw [e26]
  exact ⟨rfl, M26, K_26, E_v0_26, F_v0_value_26, F_v0_w26⟩
theorem d13_0 : decode jdk_42_method_152_code 0 = .ok (.getstatic 38, 3) := by decide +kernel
theorem d13_3 : decode jdk_42_method_152_code 3 = .ok (.ifCond .eq 10, 3) := by decide +kernel
theorem d13_6 : decode jdk_42_method_152_code 6 = .ok (.aload_n 0, 1) := by decide +kernel
theorem d13_7 : decode jdk_42_method_152_code 7 = .ok (.getfield 15, 3) := by decide +kernel
theorem d13_10 : decode jdk_42_method_152_code 10 = .ok (.goto 4, 3) := by decide +kernel
theorem d13_14 : decode jdk_42_method_152_code 14 = .ok (.ireturn, 1) := by decide +kernel
theorem ef_coder (m : MethodId) (v0 : Addr) : entryFrame m #[(.ref v0)] 1 = mkF m 0 #[.val (.ref v0)] [] := by first | (simp [entryFrame, mkF, argsToLocals, Value.category]; done) | rfl
def Q_coder (Z : State) (v0 : Addr) (cs : Int32) (h0 : Heap) (n0 : Nat) (v : Option Value) (h : Heap) (L : List Loc) : Prop := v = some (.int (0 : Int32)) ∧ Fr n0 L ∧ h = h0
set_option maxRecDepth 65536 in
set_option maxHeartbeats 40000000 in
theorem rm_coder (l : Launch) (Z : State) (a0 : Array Value) (hw : ∀ d ∈ tables_1, d.before a0 Z = true) (ws : List Jvm.Cond) (v0 : Addr) (cs : Int32) (h0 : Heap) (n0 : Nat) (Z0 : n0 ≤ h0.size) (f0_E_v0 : Exa Z h0 v0 "java/lang/String") (f1_F_v0 : Fld Z h0 v0 "java/lang/String" "coder" "B" (.int (0 : Int32))) (f2_S_java_lang_String : Sta Z h0 "java/lang/String" "COMPACT_STRINGS" "Z" (.int cs)) (hcs : ¬ (cs = (0 : Int32))) :
    MetFree l (⟨"java/lang/String", "coder", "()B"⟩ : MethodName) (head1 (Jvm.Cond.code (⟨"java/lang/String", "coder", "()B"⟩ : MethodName) jdk_42_method_152_code 1 (some .byte) :: ws) ({ frames := 0, cells := 0, slots := 0, locals := 0 } : Room)) (fun a U => a = #[(.ref v0)] ∧ Z.Warmed39 U.vm ∧ U.heap = h0) (fun _ _ _ _ _ => True) (fun _ U o U' => ∃ v L, o = .returned v ∧ Q_coder Z v0 cs h0 n0 v U'.heap L ∧ FrameEnd U o U' L ({ frames := 0, cells := 0, slots := 0, locals := 0 } : Room).cells ({ frames := 0, cells := 0, slots := 0, locals := 0 } : Room).slots) := by
  refine MetFree.of_bodySF (plainFor_of_name (by first | (simp [plainName, overriddenIn]; done) | decide +kernel)) hisR ?_
  intro p e s m args below meth c s₁ Bd hml0 hP hK
  obtain ⟨rfl, hZ, hh⟩ := hP
  have hx := Bd.exec
  have hby := Bd.bytes
  have hml : c.maxLocals = 1 := hml0
  have hown : s.vm.findClass "java/lang/String" = some m.cls := findClass_of_methodNamed Bd.named
  have hnm := (name_of_methodNamed Bd.named Bd.method).1
  have hlk : meth.locks = false := Bd.notSynchronized
  have X0 : Stand p l e ({ frames := 0, cells := 0, slots := 0, locals := 0 } : Room) s m #[(.ref v0)] below meth c s₁ [] 0 0 := Stand.of_body Bd
  have e0 : s₁.heap = h0 := by rw [← hh, Bd.state]; rfl
  have N0 := Fr.nil n0
  refine Go.enter (Q := Q_coder Z v0 cs h0 n0) (C := ({ frames := 0, cells := 0, slots := 0, locals := 0 } : Room).cells) (N := ({ frames := 0, cells := 0, slots := 0, locals := 0 } : Room).slots) (ef_coder m v0) ?_
  show Go p e below s _ _ _ s₁ (mkF m 0 #[.val (.ref v0)] [])
  obtain ⟨T27, X27, e27, st27⟩ := getS2 X0 hx hZ hown (host := "") (Or.inl (own_w hw 107 rfl)) Via.refl e0 f2_S_java_lang_String (g := (mkF m 0 #[.val (.ref v0)] [])) rfl (hb hby d13_0)
  refine Go.st st27 ?_
  show Go p e below s _ _ _ T27 (mkF m 3 #[.val (.ref v0)] [(.int cs)])
  refine G_ifNo X27 hx (pc' := 6) rfl (hb hby d13_3) ((if0 _ _).trans (feq (hcs : ¬ (cs = (0 : Int32)))).1) ?_
  refine G_aloadN X27 hx (pc' := 7) rfl (hb hby d13_6) rfl rfl ?_
  obtain ⟨T28, X28, e28, st28⟩ := getF X27 hx hZ hown (host := "") (Or.inl (own_w hw 95 rfl)) Via.refl e27 f1_F_v0 (g := (mkF m 7 #[.val (.ref v0)] [(.ref v0)])) rfl rfl (hb hby d13_7)
  refine Go.st st28 ?_
  show Go p e below s _ _ _ T28 (mkF m 10 #[.val (.ref v0)] [(.int (0 : Int32))])
  refine G_goto X28 hx (pc' := 14) (hb hby d13_10)  (by decide) (by decide) ?_
  refine Go.fin X28 hlk (v := some (.int (0 : Int32))) (fun h => by rw [Bd.returns] at h; cases h) (by decide) (by decide) ?_ (fun fs hr => retN X28 hx (t := .byte) Bd.returns (by simp) (hb hby d13_14) hr)
  show Q_coder Z v0 cs h0 n0 _ T28.heap _
  rw [e28]
  exact ⟨rfl, N0, rfl⟩
theorem d14_0 : decode jdk_42_method_154_code 0 = .ok (.getstatic 38, 3) := by decide +kernel
theorem d14_3 : decode jdk_42_method_154_code 3 = .ok (.ifCond .eq 14, 3) := by decide +kernel
theorem d14_6 : decode jdk_42_method_154_code 6 = .ok (.aload_n 0, 1) := by decide +kernel
theorem d14_7 : decode jdk_42_method_154_code 7 = .ok (.getfield 15, 3) := by decide +kernel
theorem d14_10 : decode jdk_42_method_154_code 10 = .ok (.ifCond .ne 7, 3) := by decide +kernel
theorem d14_13 : decode jdk_42_method_154_code 13 = .ok (.iconst 1, 1) := by decide +kernel
theorem d14_14 : decode jdk_42_method_154_code 14 = .ok (.goto 4, 3) := by decide +kernel
theorem d14_18 : decode jdk_42_method_154_code 18 = .ok (.ireturn, 1) := by decide +kernel
theorem ef_isLat (m : MethodId) (v0 : Addr) : entryFrame m #[(.ref v0)] 1 = mkF m 0 #[.val (.ref v0)] [] := by first | (simp [entryFrame, mkF, argsToLocals, Value.category]; done) | rfl
def Q_isLat (Z : State) (v0 : Addr) (cs : Int32) (h0 : Heap) (n0 : Nat) (v : Option Value) (h : Heap) (L : List Loc) : Prop := v = some (.int (1 : Int32)) ∧ Fr n0 L ∧ h = h0
set_option maxRecDepth 65536 in
set_option maxHeartbeats 40000000 in
theorem rm_isLat (l : Launch) (Z : State) (a0 : Array Value) (hw : ∀ d ∈ tables_1, d.before a0 Z = true) (ws : List Jvm.Cond) (v0 : Addr) (cs : Int32) (h0 : Heap) (n0 : Nat) (Z0 : n0 ≤ h0.size) (f0_E_v0 : Exa Z h0 v0 "java/lang/String") (f1_F_v0 : Fld Z h0 v0 "java/lang/String" "coder" "B" (.int (0 : Int32))) (f2_S_java_lang_String : Sta Z h0 "java/lang/String" "COMPACT_STRINGS" "Z" (.int cs)) (hcs : ¬ (cs = (0 : Int32))) :
    MetFree l (⟨"java/lang/String", "isLatin1", "()Z"⟩ : MethodName) (head1 (Jvm.Cond.code (⟨"java/lang/String", "isLatin1", "()Z"⟩ : MethodName) jdk_42_method_154_code 1 (some .boolean) :: ws) ({ frames := 0, cells := 0, slots := 0, locals := 0 } : Room)) (fun a U => a = #[(.ref v0)] ∧ Z.Warmed39 U.vm ∧ U.heap = h0) (fun _ _ _ _ _ => True) (fun _ U o U' => ∃ v L, o = .returned v ∧ Q_isLat Z v0 cs h0 n0 v U'.heap L ∧ FrameEnd U o U' L ({ frames := 0, cells := 0, slots := 0, locals := 0 } : Room).cells ({ frames := 0, cells := 0, slots := 0, locals := 0 } : Room).slots) := by
  refine MetFree.of_bodySF (plainFor_of_name (by first | (simp [plainName, overriddenIn]; done) | decide +kernel)) hisR ?_
  intro p e s m args below meth c s₁ Bd hml0 hP hK
  obtain ⟨rfl, hZ, hh⟩ := hP
  have hx := Bd.exec
  have hby := Bd.bytes
  have hml : c.maxLocals = 1 := hml0
  have hown : s.vm.findClass "java/lang/String" = some m.cls := findClass_of_methodNamed Bd.named
  have hnm := (name_of_methodNamed Bd.named Bd.method).1
  have hlk : meth.locks = false := Bd.notSynchronized
  have X0 : Stand p l e ({ frames := 0, cells := 0, slots := 0, locals := 0 } : Room) s m #[(.ref v0)] below meth c s₁ [] 0 0 := Stand.of_body Bd
  have e0 : s₁.heap = h0 := by rw [← hh, Bd.state]; rfl
  have N0 := Fr.nil n0
  refine Go.enter (Q := Q_isLat Z v0 cs h0 n0) (C := ({ frames := 0, cells := 0, slots := 0, locals := 0 } : Room).cells) (N := ({ frames := 0, cells := 0, slots := 0, locals := 0 } : Room).slots) (ef_isLat m v0) ?_
  show Go p e below s _ _ _ s₁ (mkF m 0 #[.val (.ref v0)] [])
  obtain ⟨T29, X29, e29, st29⟩ := getS2 X0 hx hZ hown (host := "") (Or.inl (own_w hw 107 rfl)) Via.refl e0 f2_S_java_lang_String (g := (mkF m 0 #[.val (.ref v0)] [])) rfl (hb hby d14_0)
  refine Go.st st29 ?_
  show Go p e below s _ _ _ T29 (mkF m 3 #[.val (.ref v0)] [(.int cs)])
  refine G_ifNo X29 hx (pc' := 6) rfl (hb hby d14_3) ((if0 _ _).trans (feq (hcs : ¬ (cs = (0 : Int32)))).1) ?_
  refine G_aloadN X29 hx (pc' := 7) rfl (hb hby d14_6) rfl rfl ?_
  obtain ⟨T30, X30, e30, st30⟩ := getF X29 hx hZ hown (host := "") (Or.inl (own_w hw 95 rfl)) Via.refl e29 f1_F_v0 (g := (mkF m 7 #[.val (.ref v0)] [(.ref v0)])) rfl rfl (hb hby d14_7)
  refine Go.st st30 ?_
  show Go p e below s _ _ _ T30 (mkF m 10 #[.val (.ref v0)] [(.int (0 : Int32))])
  refine G_ifNo X30 hx (pc' := 13) rfl (hb hby d14_10) ((if0 _ _).trans (teq (by decide : (0 : Int32) = (0 : Int32))).2) ?_
  refine G_iconst X30 hx (pc' := 14) rfl (hb hby d14_13) (z := (1 : Int32)) rfl ?_
  refine G_goto X30 hx (pc' := 18) (hb hby d14_14)  (by decide) (by decide) ?_
  refine Go.fin X30 hlk (v := some (.int (1 : Int32))) (fun h => by rw [Bd.returns] at h; cases h) (by decide) (by decide) ?_ (fun fs hr => retN X30 hx (t := .boolean) Bd.returns (by simp) (hb hby d14_18) hr)
  show Q_isLat Z v0 cs h0 n0 _ T30.heap _
  rw [e30]
  exact ⟨rfl, N0, rfl⟩
theorem d15_0 : decode jdk_42_method_54_code 0 = .ok (.aload_n 0, 1) := by decide +kernel
theorem d15_1 : decode jdk_42_method_54_code 1 = .ok (.getfield 9, 3) := by decide +kernel
theorem d15_4 : decode jdk_42_method_54_code 4 = .ok (.arraylength, 1) := by decide +kernel
theorem d15_5 : decode jdk_42_method_54_code 5 = .ok (.aload_n 0, 1) := by decide +kernel
theorem d15_6 : decode jdk_42_method_54_code 6 = .ok (.invokevirtual 335, 3) := by decide +kernel
theorem pd_2 : parseMethodDescriptor "()B" = some ⟨[], some .byte⟩ := by decide +kernel
theorem d15_9 : decode jdk_42_method_54_code 9 = .ok (.ishr, 1) := by decide +kernel
theorem d15_10 : decode jdk_42_method_54_code 10 = .ok (.ireturn, 1) := by decide +kernel
def f_slen (cs : Int32) (xs : List Int32) : Int32 := ((Int32.ofNat (xs).length) >>> ((0 : Int32) &&& 31))
theorem ef_slen (m : MethodId) (v0 : Addr) : entryFrame m #[(.ref v0)] 1 = mkF m 0 #[.val (.ref v0)] [] := by first | (simp [entryFrame, mkF, argsToLocals, Value.category]; done) | rfl
def Q_slen (Z : State) (v0 : Addr) (cs : Int32) (bb : Addr) (xs : List Int32) (h0 : Heap) (n0 : Nat) (v : Option Value) (h : Heap) (L : List Loc) : Prop := v = some (.int (f_slen cs xs)) ∧ Fr n0 L ∧ h = h0
set_option maxRecDepth 65536 in
set_option maxHeartbeats 40000000 in
theorem rm_slen (l : Launch) (Z : State) (a0 : Array Value) (hw : ∀ d ∈ tables_1, d.before a0 Z = true) (ws : List Jvm.Cond) (v0 : Addr) (cs : Int32) (bb : Addr) (xs : List Int32) (h0 : Heap) (n0 : Nat) (Z0 : n0 ≤ h0.size) (f0_E_v0 : Exa Z h0 v0 "java/lang/String") (f1_F_v0 : Fld Z h0 v0 "java/lang/String" "value" "[B" (.ref bb)) (f2_F_v0 : Fld Z h0 v0 "java/lang/String" "coder" "B" (.int (0 : Int32))) (f3_S_java_lang_String : Sta Z h0 "java/lang/String" "COMPACT_STRINGS" "Z" (.int cs)) (f4_A_bb : AI Z h0 bb .byte xs) (hcs : ¬ (cs = (0 : Int32))) :
    MetFree l (⟨"java/lang/String", "length", "()I"⟩ : MethodName) (head1 (Jvm.Cond.code (⟨"java/lang/String", "length", "()I"⟩ : MethodName) jdk_42_method_54_code 1 (some .int) :: ws) ({ frames := 1, cells := 0, slots := 0, locals := 13 } : Room)) (fun a U => a = #[(.ref v0)] ∧ Z.Warmed39 U.vm ∧ U.heap = h0) (fun _ _ _ _ _ => True) (fun _ U o U' => ∃ v L, o = .returned v ∧ Q_slen Z v0 cs bb xs h0 n0 v U'.heap L ∧ FrameEnd U o U' L ({ frames := 1, cells := 0, slots := 0, locals := 13 } : Room).cells ({ frames := 1, cells := 0, slots := 0, locals := 13 } : Room).slots) := by
  refine MetFree.of_bodySF (plainFor_of_name (by first | (simp [plainName, overriddenIn]; done) | decide +kernel)) hisR ?_
  intro p e s m args below meth c s₁ Bd hml0 hP hK
  obtain ⟨rfl, hZ, hh⟩ := hP
  have hx := Bd.exec
  have hby := Bd.bytes
  have hml : c.maxLocals = 1 := hml0
  have hown : s.vm.findClass "java/lang/String" = some m.cls := findClass_of_methodNamed Bd.named
  have hnm := (name_of_methodNamed Bd.named Bd.method).1
  have hlk : meth.locks = false := Bd.notSynchronized
  have X0 : Stand p l e ({ frames := 1, cells := 0, slots := 0, locals := 13 } : Room) s m #[(.ref v0)] below meth c s₁ [] 0 0 := Stand.of_body Bd
  have e0 : s₁.heap = h0 := by rw [← hh, Bd.state]; rfl
  have N0 := Fr.nil n0
  refine Go.enter (Q := Q_slen Z v0 cs bb xs h0 n0) (C := ({ frames := 1, cells := 0, slots := 0, locals := 13 } : Room).cells) (N := ({ frames := 1, cells := 0, slots := 0, locals := 13 } : Room).slots) (ef_slen m v0) ?_
  show Go p e below s _ _ _ s₁ (mkF m 0 #[.val (.ref v0)] [])
  refine G_aloadN X0 hx (pc' := 1) rfl (hb hby d15_0) rfl rfl ?_
  obtain ⟨T31, X31, e31, st31⟩ := getF X0 hx hZ hown (host := "") (Or.inl (own_w hw 93 rfl)) Via.refl e0 f1_F_v0 (g := (mkF m 1 #[.val (.ref v0)] [(.ref v0)])) rfl rfl (hb hby d15_1)
  refine Go.st st31 ?_
  show Go p e below s _ _ _ T31 (mkF m 4 #[.val (.ref v0)] [(.ref bb)])
  refine Go.st (lenAI X31 hx hZ e31 f4_A_bb (g := (mkF m 4 #[.val (.ref v0)] [(.ref bb)])) rfl rfl (hb hby d15_4)) ?_
  show Go p e below s _ _ _ T31 (mkF m 5 #[.val (.ref v0)] [(.int (Int32.ofNat (xs).length))])
  refine G_aloadN X31 hx (pc' := 6) rfl (hb hby d15_5) rfl rfl ?_
  obtain ⟨cq32, kq32, q32a, q32b, q32c⟩ := isOf hZ e31 f0_E_v0
  obtain ⟨_, _, ⟨T32, L32, k32, n32⟩, -, X32, ⟨Lc32, hQ32, l32, y32, z32⟩, st32⟩ := X31.virtualBack hx (y := (⟨"java/lang/String", "coder", "()B"⟩ : MethodName)) (z := (⟨"java/lang/String", "coder", "()B"⟩ : MethodName)) hown (mvT hZ (own_w hw 102 rfl)) (mvT hZ (own_w hw 103 rfl)) (notFace_of_selects (args := #[]) (mvT hZ (own_w hw 105 rfl))) (mvT hZ (own_w hw 105 rfl)) (mvT hZ (own_w hw 104 rfl)) (by decide) (backOf (W := 1) (rm_coder l Z a0 hw [] v0 cs h0 n0 Z0 f0_E_v0 f2_F_v0 f3_S_java_lang_String (by assumption)) hZ (own_w hw 106 rfl) (own_w hw 78 rfl) (by decide) (by decide)) q32a q32c (g := (mkF m 6 #[.val (.ref v0)] [(.ref v0), (.int (Int32.ofNat (xs).length))])) rfl (by rw [hml]; rfl) (Steps.refl _) (argsL := []) (rest := [(.int (Int32.ofNat (xs).length))]) (lenOf pd_2 rfl) rfl (by show 2 * 0 + _ ≤ _; exact Nat.le_of_eq rfl) (hb hby d15_6) (fun _ _ => ⟨rfl, e31, (by decide : 0 + 0 ≤ _), (by decide : 0 + 0 ≤ _)⟩)
  dsimp only [Pt.U, Pt.locs, Pt.cells, Pt.slots] at X32 l32 y32 z32 st32 hQ32
  rw [l32, y32, z32] at X32
  clear l32 y32 z32
  obtain ⟨rfl, N32q, e32⟩ := hQ32
  have N32 := Fr.app N0 N32q
  refine Go.st (fun _ k => st32.trans k) ?_
  obtain ⟨G32, Y32, M32⟩ : ∃ L, Stand p l e ({ frames := 1, cells := 0, slots := 0, locals := 13 } : Room) s m #[(.ref v0)] below meth c T32 L 0 0 ∧ Fr n0 L := ⟨_, X32, N32⟩
  clear X32 N32
  show Go p e below s _ _ _ T32 (mkF m 9 #[.val (.ref v0)] [(.int (0 : Int32)), (.int (Int32.ofNat (xs).length))])
  refine G_ishr Y32 hx (pc' := 10) rfl (hb hby d15_9)  ?_
  refine Go.fin Y32 hlk (v := some (.int ((Int32.ofNat (xs).length) >>> ((0 : Int32) &&& 31)))) (fun h => by rw [Bd.returns] at h; cases h) (by decide) (by decide) ?_ (fun fs hr => retOut Y32 hx Bd.returns rfl (Or.inl ⟨rfl, Or.inl rfl, _, rfl⟩) (hb hby d15_10) hr)
  show Q_slen Z v0 cs bb xs h0 n0 _ T32.heap _
  rw [e32]
  exact ⟨congrArg (fun z => some (Value.int z)) (Eq.symm (rfl : f_slen cs xs = _)), M32, rfl⟩
theorem d16_0 : decode jdk_41_method_11_code 0 = .ok (.iload_n 0, 1) := by decide +kernel
theorem d16_1 : decode jdk_41_method_11_code 1 = .ok (.ifCond .lt 8, 3) := by decide +kernel
theorem d16_4 : decode jdk_41_method_11_code 4 = .ok (.iload_n 0, 1) := by decide +kernel
theorem d16_5 : decode jdk_41_method_11_code 5 = .ok (.iload_n 1, 1) := by decide +kernel
theorem d16_6 : decode jdk_41_method_11_code 6 = .ok (.if_icmp .lt 10, 3) := by decide +kernel
theorem d16_16 : decode jdk_41_method_11_code 16 = .ok (.iload_n 0, 1) := by decide +kernel
theorem d16_17 : decode jdk_41_method_11_code 17 = .ok (.ireturn, 1) := by decide +kernel
theorem ef_pcin (m : MethodId) (v0 : Int32) (v1 : Int32) : entryFrame m #[(.int v0), (.int v1), .null] 3 = mkF m 0 #[.val (.int v0), .val (.int v1), .val .null] [] := by first | (simp [entryFrame, mkF, argsToLocals, Value.category]; done) | rfl
def Q_pcin (Z : State) (v0 : Int32) (v1 : Int32) (h0 : Heap) (n0 : Nat) (v : Option Value) (h : Heap) (L : List Loc) : Prop := v = some (.int v0) ∧ Fr n0 L ∧ h = h0
set_option maxRecDepth 65536 in
set_option maxHeartbeats 40000000 in
theorem rm_pcin (l : Launch) (Z : State) (a0 : Array Value) (hw : ∀ d ∈ tables_1, d.before a0 Z = true) (ws : List Jvm.Cond) (v0 : Int32) (v1 : Int32) (h0 : Heap) (n0 : Nat) (Z0 : n0 ≤ h0.size) (hi0 : ¬ (v0 < 0)) (hi1 : v0 < v1) :
    MetFree l (⟨"jdk/internal/util/Preconditions", "checkIndex", "(IILjava/util/function/BiFunction;)I"⟩ : MethodName) (head1 (Jvm.Cond.code (⟨"jdk/internal/util/Preconditions", "checkIndex", "(IILjava/util/function/BiFunction;)I"⟩ : MethodName) jdk_41_method_11_code 3 (some .int) :: ws) ({ frames := 0, cells := 0, slots := 0, locals := 0 } : Room)) (fun a U => a = #[(.int v0), (.int v1), .null] ∧ Z.Warmed39 U.vm ∧ U.heap = h0) (fun _ _ _ _ _ => True) (fun _ U o U' => ∃ v L, o = .returned v ∧ Q_pcin Z v0 v1 h0 n0 v U'.heap L ∧ FrameEnd U o U' L ({ frames := 0, cells := 0, slots := 0, locals := 0 } : Room).cells ({ frames := 0, cells := 0, slots := 0, locals := 0 } : Room).slots) := by
  refine MetFree.of_bodySF (plainFor_of_name (by first | (simp [plainName, overriddenIn]; done) | decide +kernel)) hisR ?_
  intro p e s m args below meth c s₁ Bd hml0 hP hK
  obtain ⟨rfl, hZ, hh⟩ := hP
  have hx := Bd.exec
  have hby := Bd.bytes
  have hml : c.maxLocals = 3 := hml0
  have hown : s.vm.findClass "jdk/internal/util/Preconditions" = some m.cls := findClass_of_methodNamed Bd.named
  have hnm := (name_of_methodNamed Bd.named Bd.method).1
  have hlk : meth.locks = false := Bd.notSynchronized
  have X0 : Stand p l e ({ frames := 0, cells := 0, slots := 0, locals := 0 } : Room) s m #[(.int v0), (.int v1), .null] below meth c s₁ [] 0 0 := Stand.of_body Bd
  have e0 : s₁.heap = h0 := by rw [← hh, Bd.state]; rfl
  have N0 := Fr.nil n0
  refine Go.enter (Q := Q_pcin Z v0 v1 h0 n0) (C := ({ frames := 0, cells := 0, slots := 0, locals := 0 } : Room).cells) (N := ({ frames := 0, cells := 0, slots := 0, locals := 0 } : Room).slots) (ef_pcin m v0 v1) ?_
  show Go p e below s _ _ _ s₁ (mkF m 0 #[.val (.int v0), .val (.int v1), .val .null] [])
  refine G_iloadN X0 hx (pc' := 1) rfl (hb hby d16_0) rfl ?_
  refine G_ifNo X0 hx (pc' := 4) rfl (hb hby d16_1) ((if0 _ _).trans (flt (hi0 : ¬ (v0 < (0 : Int32)))).1) ?_
  refine G_iloadN X0 hx (pc' := 5) rfl (hb hby d16_4) rfl ?_
  refine G_iloadN X0 hx (pc' := 6) rfl (hb hby d16_5) rfl ?_
  refine G_icmpYes X0 hx (pc' := 16) (hb hby d16_6) (tlt (hi1 : v0 < v1)).1 (by decide) (by decide) ?_
  refine G_iloadN X0 hx (pc' := 17) rfl (hb hby d16_16) rfl ?_
  refine Go.fin X0 hlk (v := some (.int v0)) (fun h => by rw [Bd.returns] at h; cases h) (by decide) (by decide) ?_ (fun fs hr => retOut X0 hx Bd.returns rfl (Or.inl ⟨rfl, Or.inl rfl, _, rfl⟩) (hb hby d16_17) hr)
  show Q_pcin Z v0 v1 h0 n0 _ s₁.heap _
  rw [e0]
  exact ⟨rfl, N0, rfl⟩
theorem d17_0 : decode jdk_42_method_155_code 0 = .ok (.iload_n 0, 1) := by decide +kernel
theorem d17_1 : decode jdk_42_method_155_code 1 = .ok (.iload_n 1, 1) := by decide +kernel
theorem d17_2 : decode jdk_42_method_155_code 2 = .ok (.getstatic 1053, 3) := by decide +kernel
theorem d17_5 : decode jdk_42_method_155_code 5 = .ok (.invokestatic 1059, 3) := by decide +kernel
theorem pd_3 : parseMethodDescriptor "(IILjava/util/function/BiFunction;)I" = some ⟨[.int, .int, (.object "java/util/function/BiFunction")], some .int⟩ := by decide +kernel
theorem d17_8 : decode jdk_42_method_155_code 8 = .ok (.pop, 1) := by decide +kernel
theorem d17_9 : decode jdk_42_method_155_code 9 = .ok (.return_, 1) := by decide +kernel
theorem ef_scin (m : MethodId) (v0 : Int32) (v1 : Int32) : entryFrame m #[(.int v0), (.int v1)] 2 = mkF m 0 #[.val (.int v0), .val (.int v1)] [] := by first | (simp [entryFrame, mkF, argsToLocals, Value.category]; done) | rfl
def Q_scin (Z : State) (v0 : Int32) (v1 : Int32) (h0 : Heap) (n0 : Nat) (v : Option Value) (h : Heap) (L : List Loc) : Prop := v = none ∧ Fr n0 L ∧ h = h0
set_option maxRecDepth 65536 in
set_option maxHeartbeats 40000000 in
theorem rm_scin (l : Launch) (Z : State) (a0 : Array Value) (hw : ∀ d ∈ tables_1, d.before a0 Z = true) (ws : List Jvm.Cond) (v0 : Int32) (v1 : Int32) (h0 : Heap) (n0 : Nat) (Z0 : n0 ≤ h0.size) (f0_S_jdk_internal_util_Preconditions : Sta Z h0 "jdk/internal/util/Preconditions" "SIOOBE_FORMATTER" "Ljava/util/function/BiFunction;" .null) (hi0 : ¬ (v0 < 0)) (hi1 : v0 < v1) :
    MetFree l (⟨"java/lang/String", "checkIndex", "(II)V"⟩ : MethodName) (head1 (Jvm.Cond.code (⟨"java/lang/String", "checkIndex", "(II)V"⟩ : MethodName) jdk_42_method_155_code 2 none :: ws) ({ frames := 1, cells := 0, slots := 0, locals := 14 } : Room)) (fun a U => a = #[(.int v0), (.int v1)] ∧ Z.Warmed39 U.vm ∧ U.heap = h0) (fun _ _ _ _ _ => True) (fun _ U o U' => ∃ v L, o = .returned v ∧ Q_scin Z v0 v1 h0 n0 v U'.heap L ∧ FrameEnd U o U' L ({ frames := 1, cells := 0, slots := 0, locals := 14 } : Room).cells ({ frames := 1, cells := 0, slots := 0, locals := 14 } : Room).slots) := by
  refine MetFree.of_bodySF (plainFor_of_name (by first | (simp [plainName, overriddenIn]; done) | decide +kernel)) hisR ?_
  intro p e s m args below meth c s₁ Bd hml0 hP hK
  obtain ⟨rfl, hZ, hh⟩ := hP
  have hx := Bd.exec
  have hby := Bd.bytes
  have hml : c.maxLocals = 2 := hml0
  have hown : s.vm.findClass "java/lang/String" = some m.cls := findClass_of_methodNamed Bd.named
  have hnm := (name_of_methodNamed Bd.named Bd.method).1
  have hlk : meth.locks = false := Bd.notSynchronized
  have X0 : Stand p l e ({ frames := 1, cells := 0, slots := 0, locals := 14 } : Room) s m #[(.int v0), (.int v1)] below meth c s₁ [] 0 0 := Stand.of_body Bd
  have e0 : s₁.heap = h0 := by rw [← hh, Bd.state]; rfl
  have N0 := Fr.nil n0
  refine Go.enter (Q := Q_scin Z v0 v1 h0 n0) (C := ({ frames := 1, cells := 0, slots := 0, locals := 14 } : Room).cells) (N := ({ frames := 1, cells := 0, slots := 0, locals := 14 } : Room).slots) (ef_scin m v0 v1) ?_
  show Go p e below s _ _ _ s₁ (mkF m 0 #[.val (.int v0), .val (.int v1)] [])
  refine G_iloadN X0 hx (pc' := 1) rfl (hb hby d17_0) rfl ?_
  refine G_iloadN X0 hx (pc' := 2) rfl (hb hby d17_1) rfl ?_
  obtain ⟨T33, X33, e33, st33⟩ := getS2 X0 hx hZ hown (host := "") (Or.inl (own_w hw 125 rfl)) Via.refl e0 f0_S_jdk_internal_util_Preconditions (g := (mkF m 2 #[.val (.int v0), .val (.int v1)] [(.int v1), (.int v0)])) rfl (hb hby d17_2)
  refine Go.st st33 ?_
  show Go p e below s _ _ _ T33 (mkF m 5 #[.val (.int v0), .val (.int v1)] [.null, (.int v1), (.int v0)])
  obtain ⟨_, _, ⟨T34, L34, k34, n34⟩, -, X34, ⟨Lc34, hQ34, l34, y34, z34⟩, st34⟩ := Jvm.LawKit.callS X33 hx (y := (⟨"jdk/internal/util/Preconditions", "checkIndex", "(IILjava/util/function/BiFunction;)I"⟩ : MethodName)) hown (mvT hZ (own_w hw 127 rfl)) (mvT hZ (own_w hw 128 rfl)) (mvT hZ (own_w hw 126 rfl)) (mvT hZ (own_w hw 129 rfl)) (by decide) (backOf (W := 0) (rm_pcin l Z a0 hw [] v0 v1 h0 n0 Z0 (by assumption) (by assumption)) hZ (own_w hw 129 rfl) (own_w hw 126 rfl) (by decide) (by decide)) (g := (mkF m 5 #[.val (.int v0), .val (.int v1)] [.null, (.int v1), (.int v0)])) rfl (by rw [hml]; rfl) (argsL := [(.int v0), (.int v1), .null]) (rest := []) (lenOf pd_3 rfl) rfl (by show 2 * 0 + _ ≤ _; exact Nat.le_of_eq rfl) (hb hby d17_5) (fun _ _ => ⟨rfl, e33, (by decide : 0 + 0 ≤ _), (by decide : 0 + 0 ≤ _)⟩)
  dsimp only [Pt.U, Pt.locs, Pt.cells, Pt.slots] at X34 l34 y34 z34 st34 hQ34
  rw [l34, y34, z34] at X34
  clear l34 y34 z34
  obtain ⟨rfl, N34q, e34⟩ := hQ34
  have N34 := Fr.app N0 N34q
  refine Go.st st34 ?_
  obtain ⟨G34, Y34, M34⟩ : ∃ L, Stand p l e ({ frames := 1, cells := 0, slots := 0, locals := 14 } : Room) s m #[(.int v0), (.int v1)] below meth c T34 L 0 0 ∧ Fr n0 L := ⟨_, X34, N34⟩
  clear X34 N34
  show Go p e below s _ _ _ T34 (mkF m 8 #[.val (.int v0), .val (.int v1)] [(.int v0)])
  refine G_pop Y34 hx (pc' := 9) rfl (hb hby d17_8) rfl ?_
  refine Go.fin Y34 hlk (v := none) (fun _ => rfl) (by decide) (by decide) ?_ (fun fs hr => Y34.returnOut hx Bd.returns (hb hby d17_9) hr)
  show Q_scin Z v0 v1 h0 n0 _ T34.heap _
  rw [e34]
  exact ⟨rfl, M34, rfl⟩
theorem d18_0 : decode jdk_43_method_2_code 0 = .ok (.iload_n 1, 1) := by decide +kernel
theorem d18_1 : decode jdk_43_method_2_code 1 = .ok (.aload_n 0, 1) := by decide +kernel
theorem d18_2 : decode jdk_43_method_2_code 2 = .ok (.arraylength, 1) := by decide +kernel
theorem d18_3 : decode jdk_43_method_2_code 3 = .ok (.invokestatic 9, 3) := by decide +kernel
theorem pd_4 : parseMethodDescriptor "(II)V" = some ⟨[.int, .int], none⟩ := by decide +kernel
theorem d18_6 : decode jdk_43_method_2_code 6 = .ok (.aload_n 0, 1) := by decide +kernel
theorem d18_7 : decode jdk_43_method_2_code 7 = .ok (.iload_n 1, 1) := by decide +kernel
theorem d18_8 : decode jdk_43_method_2_code 8 = .ok (.baload, 1) := by decide +kernel
theorem d18_9 : decode jdk_43_method_2_code 9 = .ok (.sipush 255, 3) := by decide +kernel
theorem d18_12 : decode jdk_43_method_2_code 12 = .ok (.iand, 1) := by decide +kernel
theorem d18_13 : decode jdk_43_method_2_code 13 = .ok (.i2c, 1) := by decide +kernel
theorem d18_14 : decode jdk_43_method_2_code 14 = .ok (.ireturn, 1) := by decide +kernel
def f_lcharn (v1 : Int32) (xs : List Int32) : Int32 := (nar .char (((xs.getD v1.toNatClampNeg 0) &&& (255 : Int32)).toUInt32.toUInt16.toUInt32.toInt32))
theorem ef_lcharn (m : MethodId) (v0 : Addr) (v1 : Int32) : entryFrame m #[(.ref v0), (.int v1)] 2 = mkF m 0 #[.val (.ref v0), .val (.int v1)] [] := by first | (simp [entryFrame, mkF, argsToLocals, Value.category]; done) | rfl
def Q_lcharn (Z : State) (v0 : Addr) (v1 : Int32) (xs : List Int32) (h0 : Heap) (n0 : Nat) (v : Option Value) (h : Heap) (L : List Loc) : Prop := v = some (.int (f_lcharn v1 xs)) ∧ Fr n0 L ∧ h = h0
set_option maxRecDepth 65536 in
set_option maxHeartbeats 40000000 in
theorem rm_lcharn (l : Launch) (Z : State) (a0 : Array Value) (hw : ∀ d ∈ tables_1, d.before a0 Z = true) (ws : List Jvm.Cond) (v0 : Addr) (v1 : Int32) (xs : List Int32) (h0 : Heap) (n0 : Nat) (Z0 : n0 ≤ h0.size) (f0_S_jdk_internal_util_Preconditions : Sta Z h0 "jdk/internal/util/Preconditions" "SIOOBE_FORMATTER" "Ljava/util/function/BiFunction;" .null) (f1_A_v0 : AI Z h0 v0 .byte xs) (hi0 : ¬ (v1 < 0)) (hi1 : v1 < Int32.ofNat (xs).length) (hi2 : v1.toNatClampNeg < xs.length) :
    MetFree l (⟨"java/lang/StringLatin1", "charAt", "([BI)C"⟩ : MethodName) (head1 (Jvm.Cond.code (⟨"java/lang/StringLatin1", "charAt", "([BI)C"⟩ : MethodName) jdk_43_method_2_code 2 (some .char) :: ws) ({ frames := 2, cells := 0, slots := 0, locals := 27 } : Room)) (fun a U => a = #[(.ref v0), (.int v1)] ∧ Z.Warmed39 U.vm ∧ U.heap = h0) (fun _ _ _ _ _ => True) (fun _ U o U' => ∃ v L, o = .returned v ∧ Q_lcharn Z v0 v1 xs h0 n0 v U'.heap L ∧ FrameEnd U o U' L ({ frames := 2, cells := 0, slots := 0, locals := 27 } : Room).cells ({ frames := 2, cells := 0, slots := 0, locals := 27 } : Room).slots) := by
  refine MetFree.of_bodySF (plainFor_of_name (by first | (simp [plainName, overriddenIn]; done) | decide +kernel)) hisR ?_
  intro p e s m args below meth c s₁ Bd hml0 hP hK
  obtain ⟨rfl, hZ, hh⟩ := hP
  have hx := Bd.exec
  have hby := Bd.bytes
  have hml : c.maxLocals = 2 := hml0
  have hown : s.vm.findClass "java/lang/StringLatin1" = some m.cls := findClass_of_methodNamed Bd.named
  have hnm := (name_of_methodNamed Bd.named Bd.method).1
  have hlk : meth.locks = false := Bd.notSynchronized
  have X0 : Stand p l e ({ frames := 2, cells := 0, slots := 0, locals := 27 } : Room) s m #[(.ref v0), (.int v1)] below meth c s₁ [] 0 0 := Stand.of_body Bd
  have e0 : s₁.heap = h0 := by rw [← hh, Bd.state]; rfl
  have N0 := Fr.nil n0
  refine Go.enter (Q := Q_lcharn Z v0 v1 xs h0 n0) (C := ({ frames := 2, cells := 0, slots := 0, locals := 27 } : Room).cells) (N := ({ frames := 2, cells := 0, slots := 0, locals := 27 } : Room).slots) (ef_lcharn m v0 v1) ?_
  show Go p e below s _ _ _ s₁ (mkF m 0 #[.val (.ref v0), .val (.int v1)] [])
  refine G_iloadN X0 hx (pc' := 1) rfl (hb hby d18_0) rfl ?_
  refine G_aloadN X0 hx (pc' := 2) rfl (hb hby d18_1) rfl rfl ?_
  refine Go.st (lenAI X0 hx hZ e0 f1_A_v0 (g := (mkF m 2 #[.val (.ref v0), .val (.int v1)] [(.ref v0), (.int v1)])) rfl rfl (hb hby d18_2)) ?_
  show Go p e below s _ _ _ s₁ (mkF m 3 #[.val (.ref v0), .val (.int v1)] [(.int (Int32.ofNat (xs).length)), (.int v1)])
  obtain ⟨_, _, ⟨T35, L35, k35, n35⟩, -, X35, ⟨Lc35, hQ35, l35, y35, z35⟩, st35⟩ := Jvm.LawKit.callS X0 hx (y := (⟨"java/lang/String", "checkIndex", "(II)V"⟩ : MethodName)) hown (mvT hZ (own_w hw 122 rfl)) (mvT hZ (own_w hw 123 rfl)) (mvT hZ (own_w hw 78 rfl)) (mvT hZ (own_w hw 124 rfl)) (by decide) (backOf (W := 0) (rm_scin l Z a0 hw [] v1 (Int32.ofNat (xs).length) h0 n0 Z0 f0_S_jdk_internal_util_Preconditions (by assumption) (by assumption)) hZ (own_w hw 124 rfl) (own_w hw 78 rfl) (by decide) (by decide)) (g := (mkF m 3 #[.val (.ref v0), .val (.int v1)] [(.int (Int32.ofNat (xs).length)), (.int v1)])) rfl (by rw [hml]; rfl) (argsL := [(.int v1), (.int (Int32.ofNat (xs).length))]) (rest := []) (lenOf pd_4 rfl) rfl (by show 2 * 0 + _ ≤ _; exact Nat.le_of_eq rfl) (hb hby d18_3) (fun _ _ => ⟨rfl, e0, (by decide : 0 + 0 ≤ _), (by decide : 0 + 0 ≤ _)⟩)
  dsimp only [Pt.U, Pt.locs, Pt.cells, Pt.slots] at X35 l35 y35 z35 st35 hQ35
  rw [l35, y35, z35] at X35
  clear l35 y35 z35
  obtain ⟨rfl, N35q, e35⟩ := hQ35
  have N35 := Fr.app N0 N35q
  refine Go.st st35 ?_
  obtain ⟨G35, Y35, M35⟩ : ∃ L, Stand p l e ({ frames := 2, cells := 0, slots := 0, locals := 27 } : Room) s m #[(.ref v0), (.int v1)] below meth c T35 L 0 0 ∧ Fr n0 L := ⟨_, X35, N35⟩
  clear X35 N35
  show Go p e below s _ _ _ T35 (mkF m 6 #[.val (.ref v0), .val (.int v1)] [])
  refine G_aloadN Y35 hx (pc' := 7) rfl (hb hby d18_6) rfl rfl ?_
  refine G_iloadN Y35 hx (pc' := 8) rfl (hb hby d18_7) rfl ?_
  refine Go.st (ldAB Y35 hx hZ e35 f1_A_v0 (j := v1) hi0 hi2 (g := (mkF m 8 #[.val (.ref v0), .val (.int v1)] [(.int v1), (.ref v0)])) rfl rfl (hb hby d18_8)) ?_
  show Go p e below s _ _ _ T35 (mkF m 9 #[.val (.ref v0), .val (.int v1)] [(.int (xs.getD v1.toNatClampNeg 0))])
  refine G_sipush Y35 hx (pc' := 12) rfl (hb hby d18_9) (z := (255 : Int32)) rfl ?_
  refine G_iand Y35 hx (pc' := 13) rfl (hb hby d18_12)  ?_
  refine G_i2c Y35 hx (pc' := 14) rfl (hb hby d18_13)  ?_
  refine Go.fin Y35 hlk (v := some (.int (nar .char (((xs.getD v1.toNatClampNeg 0) &&& (255 : Int32)).toUInt32.toUInt16.toUInt32.toInt32)))) (fun h => by rw [Bd.returns] at h; cases h) (by decide) (by decide) ?_ (fun fs hr => retN Y35 hx (t := .char) Bd.returns (by simp) (hb hby d18_14) hr)
  show Q_lcharn Z v0 v1 xs h0 n0 _ T35.heap _
  rw [e35]
  exact ⟨congrArg (fun z => some (Value.int z)) (Eq.symm (rfl : f_lcharn v1 xs = _)), M35, rfl⟩
theorem d19_0 : decode jdk_42_method_56_code 0 = .ok (.aload_n 0, 1) := by decide +kernel
theorem d19_1 : decode jdk_42_method_56_code 1 = .ok (.invokevirtual 492, 3) := by decide +kernel
theorem pd_5 : parseMethodDescriptor "()Z" = some ⟨[], some .boolean⟩ := by decide +kernel
theorem d19_4 : decode jdk_42_method_56_code 4 = .ok (.ifCond .eq 12, 3) := by decide +kernel
theorem d19_7 : decode jdk_42_method_56_code 7 = .ok (.aload_n 0, 1) := by decide +kernel
theorem d19_8 : decode jdk_42_method_56_code 8 = .ok (.getfield 9, 3) := by decide +kernel
theorem d19_11 : decode jdk_42_method_56_code 11 = .ok (.iload_n 1, 1) := by decide +kernel
theorem d19_12 : decode jdk_42_method_56_code 12 = .ok (.invokestatic 495, 3) := by decide +kernel
theorem pd_6 : parseMethodDescriptor "([BI)C" = some ⟨[(.array .byte), .int], some .char⟩ := by decide +kernel
theorem d19_15 : decode jdk_42_method_56_code 15 = .ok (.ireturn, 1) := by decide +kernel
def f_scharn (v1 : Int32) (cs : Int32) (xs : List Int32) : Int32 := (nar .char (f_lcharn v1 xs))
theorem ef_scharn (m : MethodId) (v0 : Addr) (v1 : Int32) : entryFrame m #[(.ref v0), (.int v1)] 2 = mkF m 0 #[.val (.ref v0), .val (.int v1)] [] := by first | (simp [entryFrame, mkF, argsToLocals, Value.category]; done) | rfl
def Q_scharn (Z : State) (v0 : Addr) (v1 : Int32) (cs : Int32) (bb : Addr) (xs : List Int32) (h0 : Heap) (n0 : Nat) (v : Option Value) (h : Heap) (L : List Loc) : Prop := v = some (.int (f_scharn v1 cs xs)) ∧ Fr n0 L ∧ h = h0
set_option maxRecDepth 65536 in
set_option maxHeartbeats 40000000 in
theorem rm_scharn (l : Launch) (Z : State) (a0 : Array Value) (hw : ∀ d ∈ tables_1, d.before a0 Z = true) (ws : List Jvm.Cond) (v0 : Addr) (v1 : Int32) (cs : Int32) (bb : Addr) (xs : List Int32) (h0 : Heap) (n0 : Nat) (Z0 : n0 ≤ h0.size) (f0_E_v0 : Exa Z h0 v0 "java/lang/String") (f1_F_v0 : Fld Z h0 v0 "java/lang/String" "value" "[B" (.ref bb)) (f2_F_v0 : Fld Z h0 v0 "java/lang/String" "coder" "B" (.int (0 : Int32))) (f3_S_java_lang_String : Sta Z h0 "java/lang/String" "COMPACT_STRINGS" "Z" (.int cs)) (f4_S_jdk_internal_util_Preconditions : Sta Z h0 "jdk/internal/util/Preconditions" "SIOOBE_FORMATTER" "Ljava/util/function/BiFunction;" .null) (f5_A_bb : AI Z h0 bb .byte xs) (hcs : ¬ (cs = (0 : Int32))) (hi0 : ¬ (v1 < 0)) (hi1 : v1 < Int32.ofNat (xs).length) (hi2 : v1.toNatClampNeg < xs.length) :
    MetFree l (⟨"java/lang/String", "charAt", "(I)C"⟩ : MethodName) (head1 (Jvm.Cond.code (⟨"java/lang/String", "charAt", "(I)C"⟩ : MethodName) jdk_42_method_56_code 2 (some .char) :: ws) ({ frames := 3, cells := 0, slots := 0, locals := 40 } : Room)) (fun a U => a = #[(.ref v0), (.int v1)] ∧ Z.Warmed39 U.vm ∧ U.heap = h0) (fun _ _ _ _ _ => True) (fun _ U o U' => ∃ v L, o = .returned v ∧ Q_scharn Z v0 v1 cs bb xs h0 n0 v U'.heap L ∧ FrameEnd U o U' L ({ frames := 3, cells := 0, slots := 0, locals := 40 } : Room).cells ({ frames := 3, cells := 0, slots := 0, locals := 40 } : Room).slots) := by
  refine MetFree.of_bodySF (plainFor_of_name (by first | (simp [plainName, overriddenIn]; done) | decide +kernel)) hisR ?_
  intro p e s m args below meth c s₁ Bd hml0 hP hK
  obtain ⟨rfl, hZ, hh⟩ := hP
  have hx := Bd.exec
  have hby := Bd.bytes
  have hml : c.maxLocals = 2 := hml0
  have hown : s.vm.findClass "java/lang/String" = some m.cls := findClass_of_methodNamed Bd.named
  have hnm := (name_of_methodNamed Bd.named Bd.method).1
  have hlk : meth.locks = false := Bd.notSynchronized
  have X0 : Stand p l e ({ frames := 3, cells := 0, slots := 0, locals := 40 } : Room) s m #[(.ref v0), (.int v1)] below meth c s₁ [] 0 0 := Stand.of_body Bd
  have e0 : s₁.heap = h0 := by rw [← hh, Bd.state]; rfl
  have N0 := Fr.nil n0
  refine Go.enter (Q := Q_scharn Z v0 v1 cs bb xs h0 n0) (C := ({ frames := 3, cells := 0, slots := 0, locals := 40 } : Room).cells) (N := ({ frames := 3, cells := 0, slots := 0, locals := 40 } : Room).slots) (ef_scharn m v0 v1) ?_
  show Go p e below s _ _ _ s₁ (mkF m 0 #[.val (.ref v0), .val (.int v1)] [])
  refine G_aloadN X0 hx (pc' := 1) rfl (hb hby d19_0) rfl rfl ?_
  obtain ⟨cq36, kq36, q36a, q36b, q36c⟩ := isOf hZ e0 f0_E_v0
  obtain ⟨_, _, ⟨T36, L36, k36, n36⟩, -, X36, ⟨Lc36, hQ36, l36, y36, z36⟩, st36⟩ := X0.virtualBack hx (y := (⟨"java/lang/String", "isLatin1", "()Z"⟩ : MethodName)) (z := (⟨"java/lang/String", "isLatin1", "()Z"⟩ : MethodName)) hown (mvT hZ (own_w hw 113 rfl)) (mvT hZ (own_w hw 114 rfl)) (notFace_of_selects (args := #[]) (mvT hZ (own_w hw 116 rfl))) (mvT hZ (own_w hw 116 rfl)) (mvT hZ (own_w hw 115 rfl)) (by decide) (backOf (W := 0) (rm_isLat l Z a0 hw [] v0 cs h0 n0 Z0 f0_E_v0 f2_F_v0 f3_S_java_lang_String (by assumption)) hZ (own_w hw 117 rfl) (own_w hw 78 rfl) (by decide) (by decide)) q36a q36c (g := (mkF m 1 #[.val (.ref v0), .val (.int v1)] [(.ref v0)])) rfl (by rw [hml]; rfl) (Steps.refl _) (argsL := []) (rest := []) (lenOf pd_5 rfl) rfl (by show 2 * 0 + _ ≤ _; exact Nat.le_of_eq rfl) (hb hby d19_1) (fun _ _ => ⟨rfl, e0, (by decide : 0 + 0 ≤ _), (by decide : 0 + 0 ≤ _)⟩)
  dsimp only [Pt.U, Pt.locs, Pt.cells, Pt.slots] at X36 l36 y36 z36 st36 hQ36
  rw [l36, y36, z36] at X36
  clear l36 y36 z36
  obtain ⟨rfl, N36q, e36⟩ := hQ36
  have N36 := Fr.app N0 N36q
  refine Go.st (fun _ k => st36.trans k) ?_
  obtain ⟨G36, Y36, M36⟩ : ∃ L, Stand p l e ({ frames := 3, cells := 0, slots := 0, locals := 40 } : Room) s m #[(.ref v0), (.int v1)] below meth c T36 L 0 0 ∧ Fr n0 L := ⟨_, X36, N36⟩
  clear X36 N36
  show Go p e below s _ _ _ T36 (mkF m 4 #[.val (.ref v0), .val (.int v1)] [(.int (1 : Int32))])
  refine G_ifNo Y36 hx (pc' := 7) rfl (hb hby d19_4) ((if0 _ _).trans (feq (by decide : ¬ ((1 : Int32) = (0 : Int32)))).1) ?_
  refine G_aloadN Y36 hx (pc' := 8) rfl (hb hby d19_7) rfl rfl ?_
  obtain ⟨T37, X37, e37, st37⟩ := getF Y36 hx hZ hown (host := "") (Or.inl (own_w hw 93 rfl)) Via.refl e36 f1_F_v0 (g := (mkF m 8 #[.val (.ref v0), .val (.int v1)] [(.ref v0)])) rfl rfl (hb hby d19_8)
  refine Go.st st37 ?_
  show Go p e below s _ _ _ T37 (mkF m 11 #[.val (.ref v0), .val (.int v1)] [(.ref bb)])
  refine G_iloadN X37 hx (pc' := 12) rfl (hb hby d19_11) rfl ?_
  obtain ⟨_, _, ⟨T38, L38, k38, n38⟩, -, X38, ⟨Lc38, hQ38, l38, y38, z38⟩, st38⟩ := Jvm.LawKit.callS X37 hx (y := (⟨"java/lang/StringLatin1", "charAt", "([BI)C"⟩ : MethodName)) hown (mvT hZ (own_w hw 118 rfl)) (mvT hZ (own_w hw 119 rfl)) (mvT hZ (own_w hw 120 rfl)) (mvT hZ (own_w hw 121 rfl)) (by decide) (backOf (W := 0) (rm_lcharn l Z a0 hw [] bb v1 xs h0 n0 Z0 f4_S_jdk_internal_util_Preconditions f5_A_bb (by assumption) (by assumption) (by assumption)) hZ (own_w hw 121 rfl) (own_w hw 120 rfl) (by decide) (by decide)) (g := (mkF m 12 #[.val (.ref v0), .val (.int v1)] [(.int v1), (.ref bb)])) rfl (by rw [hml]; rfl) (argsL := [(.ref bb), (.int v1)]) (rest := []) (lenOf pd_6 rfl) rfl (by show 2 * 0 + _ ≤ _; exact Nat.le_of_eq rfl) (hb hby d19_12) (fun _ _ => ⟨rfl, e37, (by decide : 0 + 0 ≤ _), (by decide : 0 + 0 ≤ _)⟩)
  dsimp only [Pt.U, Pt.locs, Pt.cells, Pt.slots] at X38 l38 y38 z38 st38 hQ38
  rw [l38, y38, z38] at X38
  clear l38 y38 z38
  obtain ⟨rfl, N38q, e38⟩ := hQ38
  have N38 := Fr.app M36 N38q
  refine Go.st st38 ?_
  obtain ⟨G38, Y38, M38⟩ : ∃ L, Stand p l e ({ frames := 3, cells := 0, slots := 0, locals := 40 } : Room) s m #[(.ref v0), (.int v1)] below meth c T38 L 0 0 ∧ Fr n0 L := ⟨_, X38, N38⟩
  clear X38 N38
  show Go p e below s _ _ _ T38 (mkF m 15 #[.val (.ref v0), .val (.int v1)] [(.int (f_lcharn v1 xs))])
  refine Go.fin Y38 hlk (v := some (.int (nar .char (f_lcharn v1 xs)))) (fun h => by rw [Bd.returns] at h; cases h) (by decide) (by decide) ?_ (fun fs hr => retN Y38 hx (t := .char) Bd.returns (by simp) (hb hby d19_15) hr)
  show Q_scharn Z v0 v1 cs bb xs h0 n0 _ T38.heap _
  rw [e38]
  exact ⟨congrArg (fun z => some (Value.int z)) (Eq.symm (rfl : f_scharn v1 cs xs = _)), M38, rfl⟩
theorem d20_0 : decode jdk_41_method_11_code 0 = .ok (.iload_n 0, 1) := by decide +kernel
theorem d20_1 : decode jdk_41_method_11_code 1 = .ok (.ifCond .lt 8, 3) := by decide +kernel
theorem d20_4 : decode jdk_41_method_11_code 4 = .ok (.iload_n 0, 1) := by decide +kernel
theorem d20_5 : decode jdk_41_method_11_code 5 = .ok (.iload_n 1, 1) := by decide +kernel
theorem d20_6 : decode jdk_41_method_11_code 6 = .ok (.if_icmp .lt 10, 3) := by decide +kernel
theorem d20_16 : decode jdk_41_method_11_code 16 = .ok (.iload_n 0, 1) := by decide +kernel
theorem d20_17 : decode jdk_41_method_11_code 17 = .ok (.ireturn, 1) := by decide +kernel
theorem ef_pcir (m : MethodId) (v0 : Int32) (v1 : Int32) (vf : Addr) : entryFrame m #[(.int v0), (.int v1), (.ref vf)] 3 = mkF m 0 #[.val (.int v0), .val (.int v1), .val (.ref vf)] [] := by first | (simp [entryFrame, mkF, argsToLocals, Value.category]; done) | rfl
def Q_pcir (Z : State) (v0 : Int32) (v1 : Int32) (vf : Addr) (h0 : Heap) (n0 : Nat) (v : Option Value) (h : Heap) (L : List Loc) : Prop := v = some (.int v0) ∧ Fr n0 L ∧ h = h0
set_option maxRecDepth 65536 in
set_option maxHeartbeats 40000000 in
theorem rm_pcir (l : Launch) (Z : State) (a0 : Array Value) (hw : ∀ d ∈ tables_1, d.before a0 Z = true) (ws : List Jvm.Cond) (v0 : Int32) (v1 : Int32) (vf : Addr) (h0 : Heap) (n0 : Nat) (Z0 : n0 ≤ h0.size) (hi0 : ¬ (v0 < 0)) (hi1 : v0 < v1) :
    MetFree l (⟨"jdk/internal/util/Preconditions", "checkIndex", "(IILjava/util/function/BiFunction;)I"⟩ : MethodName) (head1 (Jvm.Cond.code (⟨"jdk/internal/util/Preconditions", "checkIndex", "(IILjava/util/function/BiFunction;)I"⟩ : MethodName) jdk_41_method_11_code 3 (some .int) :: ws) ({ frames := 0, cells := 0, slots := 0, locals := 0 } : Room)) (fun a U => a = #[(.int v0), (.int v1), (.ref vf)] ∧ Z.Warmed39 U.vm ∧ U.heap = h0) (fun _ _ _ _ _ => True) (fun _ U o U' => ∃ v L, o = .returned v ∧ Q_pcir Z v0 v1 vf h0 n0 v U'.heap L ∧ FrameEnd U o U' L ({ frames := 0, cells := 0, slots := 0, locals := 0 } : Room).cells ({ frames := 0, cells := 0, slots := 0, locals := 0 } : Room).slots) := by
  refine MetFree.of_bodySF (plainFor_of_name (by first | (simp [plainName, overriddenIn]; done) | decide +kernel)) hisR ?_
  intro p e s m args below meth c s₁ Bd hml0 hP hK
  obtain ⟨rfl, hZ, hh⟩ := hP
  have hx := Bd.exec
  have hby := Bd.bytes
  have hml : c.maxLocals = 3 := hml0
  have hown : s.vm.findClass "jdk/internal/util/Preconditions" = some m.cls := findClass_of_methodNamed Bd.named
  have hnm := (name_of_methodNamed Bd.named Bd.method).1
  have hlk : meth.locks = false := Bd.notSynchronized
  have X0 : Stand p l e ({ frames := 0, cells := 0, slots := 0, locals := 0 } : Room) s m #[(.int v0), (.int v1), (.ref vf)] below meth c s₁ [] 0 0 := Stand.of_body Bd
  have e0 : s₁.heap = h0 := by rw [← hh, Bd.state]; rfl
  have N0 := Fr.nil n0
  refine Go.enter (Q := Q_pcir Z v0 v1 vf h0 n0) (C := ({ frames := 0, cells := 0, slots := 0, locals := 0 } : Room).cells) (N := ({ frames := 0, cells := 0, slots := 0, locals := 0 } : Room).slots) (ef_pcir m v0 v1 vf) ?_
  show Go p e below s _ _ _ s₁ (mkF m 0 #[.val (.int v0), .val (.int v1), .val (.ref vf)] [])
  refine G_iloadN X0 hx (pc' := 1) rfl (hb hby d20_0) rfl ?_
  refine G_ifNo X0 hx (pc' := 4) rfl (hb hby d20_1) ((if0 _ _).trans (flt (hi0 : ¬ (v0 < (0 : Int32)))).1) ?_
  refine G_iloadN X0 hx (pc' := 5) rfl (hb hby d20_4) rfl ?_
  refine G_iloadN X0 hx (pc' := 6) rfl (hb hby d20_5) rfl ?_
  refine G_icmpYes X0 hx (pc' := 16) (hb hby d20_6) (tlt (hi1 : v0 < v1)).1 (by decide) (by decide) ?_
  refine G_iloadN X0 hx (pc' := 17) rfl (hb hby d20_16) rfl ?_
  refine Go.fin X0 hlk (v := some (.int v0)) (fun h => by rw [Bd.returns] at h; cases h) (by decide) (by decide) ?_ (fun fs hr => retOut X0 hx Bd.returns rfl (Or.inl ⟨rfl, Or.inl rfl, _, rfl⟩) (hb hby d20_17) hr)
  show Q_pcir Z v0 v1 vf h0 n0 _ s₁.heap _
  rw [e0]
  exact ⟨rfl, N0, rfl⟩
theorem d21_0 : decode jdk_42_method_155_code 0 = .ok (.iload_n 0, 1) := by decide +kernel
theorem d21_1 : decode jdk_42_method_155_code 1 = .ok (.iload_n 1, 1) := by decide +kernel
theorem d21_2 : decode jdk_42_method_155_code 2 = .ok (.getstatic 1053, 3) := by decide +kernel
theorem d21_5 : decode jdk_42_method_155_code 5 = .ok (.invokestatic 1059, 3) := by decide +kernel
theorem d21_8 : decode jdk_42_method_155_code 8 = .ok (.pop, 1) := by decide +kernel
theorem d21_9 : decode jdk_42_method_155_code 9 = .ok (.return_, 1) := by decide +kernel
theorem ef_scir (m : MethodId) (v0 : Int32) (v1 : Int32) : entryFrame m #[(.int v0), (.int v1)] 2 = mkF m 0 #[.val (.int v0), .val (.int v1)] [] := by first | (simp [entryFrame, mkF, argsToLocals, Value.category]; done) | rfl
def Q_scir (Z : State) (v0 : Int32) (v1 : Int32) (vf : Addr) (h0 : Heap) (n0 : Nat) (v : Option Value) (h : Heap) (L : List Loc) : Prop := v = none ∧ Fr n0 L ∧ h = h0
set_option maxRecDepth 65536 in
set_option maxHeartbeats 40000000 in
theorem rm_scir (l : Launch) (Z : State) (a0 : Array Value) (hw : ∀ d ∈ tables_1, d.before a0 Z = true) (ws : List Jvm.Cond) (v0 : Int32) (v1 : Int32) (vf : Addr) (h0 : Heap) (n0 : Nat) (Z0 : n0 ≤ h0.size) (f0_S_jdk_internal_util_Preconditions : Sta Z h0 "jdk/internal/util/Preconditions" "SIOOBE_FORMATTER" "Ljava/util/function/BiFunction;" (.ref vf)) (hi0 : ¬ (v0 < 0)) (hi1 : v0 < v1) :
    MetFree l (⟨"java/lang/String", "checkIndex", "(II)V"⟩ : MethodName) (head1 (Jvm.Cond.code (⟨"java/lang/String", "checkIndex", "(II)V"⟩ : MethodName) jdk_42_method_155_code 2 none :: ws) ({ frames := 1, cells := 0, slots := 0, locals := 14 } : Room)) (fun a U => a = #[(.int v0), (.int v1)] ∧ Z.Warmed39 U.vm ∧ U.heap = h0) (fun _ _ _ _ _ => True) (fun _ U o U' => ∃ v L, o = .returned v ∧ Q_scir Z v0 v1 vf h0 n0 v U'.heap L ∧ FrameEnd U o U' L ({ frames := 1, cells := 0, slots := 0, locals := 14 } : Room).cells ({ frames := 1, cells := 0, slots := 0, locals := 14 } : Room).slots) := by
  refine MetFree.of_bodySF (plainFor_of_name (by first | (simp [plainName, overriddenIn]; done) | decide +kernel)) hisR ?_
  intro p e s m args below meth c s₁ Bd hml0 hP hK
  obtain ⟨rfl, hZ, hh⟩ := hP
  have hx := Bd.exec
  have hby := Bd.bytes
  have hml : c.maxLocals = 2 := hml0
  have hown : s.vm.findClass "java/lang/String" = some m.cls := findClass_of_methodNamed Bd.named
  have hnm := (name_of_methodNamed Bd.named Bd.method).1
  have hlk : meth.locks = false := Bd.notSynchronized
  have X0 : Stand p l e ({ frames := 1, cells := 0, slots := 0, locals := 14 } : Room) s m #[(.int v0), (.int v1)] below meth c s₁ [] 0 0 := Stand.of_body Bd
  have e0 : s₁.heap = h0 := by rw [← hh, Bd.state]; rfl
  have N0 := Fr.nil n0
  refine Go.enter (Q := Q_scir Z v0 v1 vf h0 n0) (C := ({ frames := 1, cells := 0, slots := 0, locals := 14 } : Room).cells) (N := ({ frames := 1, cells := 0, slots := 0, locals := 14 } : Room).slots) (ef_scir m v0 v1) ?_
  show Go p e below s _ _ _ s₁ (mkF m 0 #[.val (.int v0), .val (.int v1)] [])
  refine G_iloadN X0 hx (pc' := 1) rfl (hb hby d21_0) rfl ?_
  refine G_iloadN X0 hx (pc' := 2) rfl (hb hby d21_1) rfl ?_
  obtain ⟨T39, X39, e39, st39⟩ := getS2 X0 hx hZ hown (host := "") (Or.inl (own_w hw 125 rfl)) Via.refl e0 f0_S_jdk_internal_util_Preconditions (g := (mkF m 2 #[.val (.int v0), .val (.int v1)] [(.int v1), (.int v0)])) rfl (hb hby d21_2)
  refine Go.st st39 ?_
  show Go p e below s _ _ _ T39 (mkF m 5 #[.val (.int v0), .val (.int v1)] [(.ref vf), (.int v1), (.int v0)])
  obtain ⟨_, _, ⟨T40, L40, k40, n40⟩, -, X40, ⟨Lc40, hQ40, l40, y40, z40⟩, st40⟩ := Jvm.LawKit.callS X39 hx (y := (⟨"jdk/internal/util/Preconditions", "checkIndex", "(IILjava/util/function/BiFunction;)I"⟩ : MethodName)) hown (mvT hZ (own_w hw 127 rfl)) (mvT hZ (own_w hw 128 rfl)) (mvT hZ (own_w hw 126 rfl)) (mvT hZ (own_w hw 129 rfl)) (by decide) (backOf (W := 0) (rm_pcir l Z a0 hw [] v0 v1 vf h0 n0 Z0 (by assumption) (by assumption)) hZ (own_w hw 129 rfl) (own_w hw 126 rfl) (by decide) (by decide)) (g := (mkF m 5 #[.val (.int v0), .val (.int v1)] [(.ref vf), (.int v1), (.int v0)])) rfl (by rw [hml]; rfl) (argsL := [(.int v0), (.int v1), (.ref vf)]) (rest := []) (lenOf pd_3 rfl) rfl (by show 2 * 0 + _ ≤ _; exact Nat.le_of_eq rfl) (hb hby d21_5) (fun _ _ => ⟨rfl, e39, (by decide : 0 + 0 ≤ _), (by decide : 0 + 0 ≤ _)⟩)
  dsimp only [Pt.U, Pt.locs, Pt.cells, Pt.slots] at X40 l40 y40 z40 st40 hQ40
  rw [l40, y40, z40] at X40
  clear l40 y40 z40
  obtain ⟨rfl, N40q, e40⟩ := hQ40
  have N40 := Fr.app N0 N40q
  refine Go.st st40 ?_
  obtain ⟨G40, Y40, M40⟩ : ∃ L, Stand p l e ({ frames := 1, cells := 0, slots := 0, locals := 14 } : Room) s m #[(.int v0), (.int v1)] below meth c T40 L 0 0 ∧ Fr n0 L := ⟨_, X40, N40⟩
  clear X40 N40
  show Go p e below s _ _ _ T40 (mkF m 8 #[.val (.int v0), .val (.int v1)] [(.int v0)])
  refine G_pop Y40 hx (pc' := 9) rfl (hb hby d21_8) rfl ?_
  refine Go.fin Y40 hlk (v := none) (fun _ => rfl) (by decide) (by decide) ?_ (fun fs hr => Y40.returnOut hx Bd.returns (hb hby d21_9) hr)
  show Q_scir Z v0 v1 vf h0 n0 _ T40.heap _
  rw [e40]
  exact ⟨rfl, M40, rfl⟩
theorem d22_0 : decode jdk_43_method_2_code 0 = .ok (.iload_n 1, 1) := by decide +kernel
theorem d22_1 : decode jdk_43_method_2_code 1 = .ok (.aload_n 0, 1) := by decide +kernel
theorem d22_2 : decode jdk_43_method_2_code 2 = .ok (.arraylength, 1) := by decide +kernel
theorem d22_3 : decode jdk_43_method_2_code 3 = .ok (.invokestatic 9, 3) := by decide +kernel
theorem d22_6 : decode jdk_43_method_2_code 6 = .ok (.aload_n 0, 1) := by decide +kernel
theorem d22_7 : decode jdk_43_method_2_code 7 = .ok (.iload_n 1, 1) := by decide +kernel
theorem d22_8 : decode jdk_43_method_2_code 8 = .ok (.baload, 1) := by decide +kernel
theorem d22_9 : decode jdk_43_method_2_code 9 = .ok (.sipush 255, 3) := by decide +kernel
theorem d22_12 : decode jdk_43_method_2_code 12 = .ok (.iand, 1) := by decide +kernel
theorem d22_13 : decode jdk_43_method_2_code 13 = .ok (.i2c, 1) := by decide +kernel
theorem d22_14 : decode jdk_43_method_2_code 14 = .ok (.ireturn, 1) := by decide +kernel
def f_lcharr (v1 : Int32) (xs : List Int32) : Int32 := (nar .char (((xs.getD v1.toNatClampNeg 0) &&& (255 : Int32)).toUInt32.toUInt16.toUInt32.toInt32))
theorem ef_lcharr (m : MethodId) (v0 : Addr) (v1 : Int32) : entryFrame m #[(.ref v0), (.int v1)] 2 = mkF m 0 #[.val (.ref v0), .val (.int v1)] [] := by first | (simp [entryFrame, mkF, argsToLocals, Value.category]; done) | rfl
def Q_lcharr (Z : State) (v0 : Addr) (v1 : Int32) (vf : Addr) (xs : List Int32) (h0 : Heap) (n0 : Nat) (v : Option Value) (h : Heap) (L : List Loc) : Prop := v = some (.int (f_lcharr v1 xs)) ∧ Fr n0 L ∧ h = h0
set_option maxRecDepth 65536 in
set_option maxHeartbeats 40000000 in
theorem rm_lcharr (l : Launch) (Z : State) (a0 : Array Value) (hw : ∀ d ∈ tables_1, d.before a0 Z = true) (ws : List Jvm.Cond) (v0 : Addr) (v1 : Int32) (vf : Addr) (xs : List Int32) (h0 : Heap) (n0 : Nat) (Z0 : n0 ≤ h0.size) (f0_S_jdk_internal_util_Preconditions : Sta Z h0 "jdk/internal/util/Preconditions" "SIOOBE_FORMATTER" "Ljava/util/function/BiFunction;" (.ref vf)) (f1_A_v0 : AI Z h0 v0 .byte xs) (hi0 : ¬ (v1 < 0)) (hi1 : v1 < Int32.ofNat (xs).length) (hi2 : v1.toNatClampNeg < xs.length) :
    MetFree l (⟨"java/lang/StringLatin1", "charAt", "([BI)C"⟩ : MethodName) (head1 (Jvm.Cond.code (⟨"java/lang/StringLatin1", "charAt", "([BI)C"⟩ : MethodName) jdk_43_method_2_code 2 (some .char) :: ws) ({ frames := 2, cells := 0, slots := 0, locals := 27 } : Room)) (fun a U => a = #[(.ref v0), (.int v1)] ∧ Z.Warmed39 U.vm ∧ U.heap = h0) (fun _ _ _ _ _ => True) (fun _ U o U' => ∃ v L, o = .returned v ∧ Q_lcharr Z v0 v1 vf xs h0 n0 v U'.heap L ∧ FrameEnd U o U' L ({ frames := 2, cells := 0, slots := 0, locals := 27 } : Room).cells ({ frames := 2, cells := 0, slots := 0, locals := 27 } : Room).slots) := by
  refine MetFree.of_bodySF (plainFor_of_name (by first | (simp [plainName, overriddenIn]; done) | decide +kernel)) hisR ?_
  intro p e s m args below meth c s₁ Bd hml0 hP hK
  obtain ⟨rfl, hZ, hh⟩ := hP
  have hx := Bd.exec
  have hby := Bd.bytes
  have hml : c.maxLocals = 2 := hml0
  have hown : s.vm.findClass "java/lang/StringLatin1" = some m.cls := findClass_of_methodNamed Bd.named
  have hnm := (name_of_methodNamed Bd.named Bd.method).1
  have hlk : meth.locks = false := Bd.notSynchronized
  have X0 : Stand p l e ({ frames := 2, cells := 0, slots := 0, locals := 27 } : Room) s m #[(.ref v0), (.int v1)] below meth c s₁ [] 0 0 := Stand.of_body Bd
  have e0 : s₁.heap = h0 := by rw [← hh, Bd.state]; rfl
  have N0 := Fr.nil n0
  refine Go.enter (Q := Q_lcharr Z v0 v1 vf xs h0 n0) (C := ({ frames := 2, cells := 0, slots := 0, locals := 27 } : Room).cells) (N := ({ frames := 2, cells := 0, slots := 0, locals := 27 } : Room).slots) (ef_lcharr m v0 v1) ?_
  show Go p e below s _ _ _ s₁ (mkF m 0 #[.val (.ref v0), .val (.int v1)] [])
  refine G_iloadN X0 hx (pc' := 1) rfl (hb hby d22_0) rfl ?_
  refine G_aloadN X0 hx (pc' := 2) rfl (hb hby d22_1) rfl rfl ?_
  refine Go.st (lenAI X0 hx hZ e0 f1_A_v0 (g := (mkF m 2 #[.val (.ref v0), .val (.int v1)] [(.ref v0), (.int v1)])) rfl rfl (hb hby d22_2)) ?_
  show Go p e below s _ _ _ s₁ (mkF m 3 #[.val (.ref v0), .val (.int v1)] [(.int (Int32.ofNat (xs).length)), (.int v1)])
  obtain ⟨_, _, ⟨T41, L41, k41, n41⟩, -, X41, ⟨Lc41, hQ41, l41, y41, z41⟩, st41⟩ := Jvm.LawKit.callS X0 hx (y := (⟨"java/lang/String", "checkIndex", "(II)V"⟩ : MethodName)) hown (mvT hZ (own_w hw 122 rfl)) (mvT hZ (own_w hw 123 rfl)) (mvT hZ (own_w hw 78 rfl)) (mvT hZ (own_w hw 124 rfl)) (by decide) (backOf (W := 0) (rm_scir l Z a0 hw [] v1 (Int32.ofNat (xs).length) vf h0 n0 Z0 f0_S_jdk_internal_util_Preconditions (by assumption) (by assumption)) hZ (own_w hw 124 rfl) (own_w hw 78 rfl) (by decide) (by decide)) (g := (mkF m 3 #[.val (.ref v0), .val (.int v1)] [(.int (Int32.ofNat (xs).length)), (.int v1)])) rfl (by rw [hml]; rfl) (argsL := [(.int v1), (.int (Int32.ofNat (xs).length))]) (rest := []) (lenOf pd_4 rfl) rfl (by show 2 * 0 + _ ≤ _; exact Nat.le_of_eq rfl) (hb hby d22_3) (fun _ _ => ⟨rfl, e0, (by decide : 0 + 0 ≤ _), (by decide : 0 + 0 ≤ _)⟩)
  dsimp only [Pt.U, Pt.locs, Pt.cells, Pt.slots] at X41 l41 y41 z41 st41 hQ41
  rw [l41, y41, z41] at X41
  clear l41 y41 z41
  obtain ⟨rfl, N41q, e41⟩ := hQ41
  have N41 := Fr.app N0 N41q
  refine Go.st st41 ?_
  obtain ⟨G41, Y41, M41⟩ : ∃ L, Stand p l e ({ frames := 2, cells := 0, slots := 0, locals := 27 } : Room) s m #[(.ref v0), (.int v1)] below meth c T41 L 0 0 ∧ Fr n0 L := ⟨_, X41, N41⟩
  clear X41 N41
  show Go p e below s _ _ _ T41 (mkF m 6 #[.val (.ref v0), .val (.int v1)] [])
  refine G_aloadN Y41 hx (pc' := 7) rfl (hb hby d22_6) rfl rfl ?_
  refine G_iloadN Y41 hx (pc' := 8) rfl (hb hby d22_7) rfl ?_
  refine Go.st (ldAB Y41 hx hZ e41 f1_A_v0 (j := v1) hi0 hi2 (g := (mkF m 8 #[.val (.ref v0), .val (.int v1)] [(.int v1), (.ref v0)])) rfl rfl (hb hby d22_8)) ?_
  show Go p e below s _ _ _ T41 (mkF m 9 #[.val (.ref v0), .val (.int v1)] [(.int (xs.getD v1.toNatClampNeg 0))])
  refine G_sipush Y41 hx (pc' := 12) rfl (hb hby d22_9) (z := (255 : Int32)) rfl ?_
  refine G_iand Y41 hx (pc' := 13) rfl (hb hby d22_12)  ?_
  refine G_i2c Y41 hx (pc' := 14) rfl (hb hby d22_13)  ?_
  refine Go.fin Y41 hlk (v := some (.int (nar .char (((xs.getD v1.toNatClampNeg 0) &&& (255 : Int32)).toUInt32.toUInt16.toUInt32.toInt32)))) (fun h => by rw [Bd.returns] at h; cases h) (by decide) (by decide) ?_ (fun fs hr => retN Y41 hx (t := .char) Bd.returns (by simp) (hb hby d22_14) hr)
  show Q_lcharr Z v0 v1 vf xs h0 n0 _ T41.heap _
  rw [e41]
  exact ⟨congrArg (fun z => some (Value.int z)) (Eq.symm (rfl : f_lcharr v1 xs = _)), M41, rfl⟩
theorem d23_0 : decode jdk_42_method_56_code 0 = .ok (.aload_n 0, 1) := by decide +kernel
theorem d23_1 : decode jdk_42_method_56_code 1 = .ok (.invokevirtual 492, 3) := by decide +kernel
theorem d23_4 : decode jdk_42_method_56_code 4 = .ok (.ifCond .eq 12, 3) := by decide +kernel
theorem d23_7 : decode jdk_42_method_56_code 7 = .ok (.aload_n 0, 1) := by decide +kernel
theorem d23_8 : decode jdk_42_method_56_code 8 = .ok (.getfield 9, 3) := by decide +kernel
theorem d23_11 : decode jdk_42_method_56_code 11 = .ok (.iload_n 1, 1) := by decide +kernel
theorem d23_12 : decode jdk_42_method_56_code 12 = .ok (.invokestatic 495, 3) := by decide +kernel
theorem d23_15 : decode jdk_42_method_56_code 15 = .ok (.ireturn, 1) := by decide +kernel
def f_scharr (v1 : Int32) (cs : Int32) (xs : List Int32) : Int32 := (nar .char (f_lcharr v1 xs))
theorem ef_scharr (m : MethodId) (v0 : Addr) (v1 : Int32) : entryFrame m #[(.ref v0), (.int v1)] 2 = mkF m 0 #[.val (.ref v0), .val (.int v1)] [] := by first | (simp [entryFrame, mkF, argsToLocals, Value.category]; done) | rfl
def Q_scharr (Z : State) (v0 : Addr) (v1 : Int32) (cs : Int32) (bb : Addr) (xs : List Int32) (vf : Addr) (h0 : Heap) (n0 : Nat) (v : Option Value) (h : Heap) (L : List Loc) : Prop := v = some (.int (f_scharr v1 cs xs)) ∧ Fr n0 L ∧ h = h0
set_option maxRecDepth 65536 in
set_option maxHeartbeats 40000000 in
theorem rm_scharr (l : Launch) (Z : State) (a0 : Array Value) (hw : ∀ d ∈ tables_1, d.before a0 Z = true) (ws : List Jvm.Cond) (v0 : Addr) (v1 : Int32) (cs : Int32) (bb : Addr) (xs : List Int32) (vf : Addr) (h0 : Heap) (n0 : Nat) (Z0 : n0 ≤ h0.size) (f0_E_v0 : Exa Z h0 v0 "java/lang/String") (f1_F_v0 : Fld Z h0 v0 "java/lang/String" "value" "[B" (.ref bb)) (f2_F_v0 : Fld Z h0 v0 "java/lang/String" "coder" "B" (.int (0 : Int32))) (f3_S_java_lang_String : Sta Z h0 "java/lang/String" "COMPACT_STRINGS" "Z" (.int cs)) (f4_S_jdk_internal_util_Preconditions : Sta Z h0 "jdk/internal/util/Preconditions" "SIOOBE_FORMATTER" "Ljava/util/function/BiFunction;" (.ref vf)) (f5_A_bb : AI Z h0 bb .byte xs) (hcs : ¬ (cs = (0 : Int32))) (hi0 : ¬ (v1 < 0)) (hi1 : v1 < Int32.ofNat (xs).length) (hi2 : v1.toNatClampNeg < xs.length) :
    MetFree l (⟨"java/lang/String", "charAt", "(I)C"⟩ : MethodName) (head1 (Jvm.Cond.code (⟨"java/lang/String", "charAt", "(I)C"⟩ : MethodName) jdk_42_method_56_code 2 (some .char) :: ws) ({ frames := 3, cells := 0, slots := 0, locals := 40 } : Room)) (fun a U => a = #[(.ref v0), (.int v1)] ∧ Z.Warmed39 U.vm ∧ U.heap = h0) (fun _ _ _ _ _ => True) (fun _ U o U' => ∃ v L, o = .returned v ∧ Q_scharr Z v0 v1 cs bb xs vf h0 n0 v U'.heap L ∧ FrameEnd U o U' L ({ frames := 3, cells := 0, slots := 0, locals := 40 } : Room).cells ({ frames := 3, cells := 0, slots := 0, locals := 40 } : Room).slots) := by
  refine MetFree.of_bodySF (plainFor_of_name (by first | (simp [plainName, overriddenIn]; done) | decide +kernel)) hisR ?_
  intro p e s m args below meth c s₁ Bd hml0 hP hK
  obtain ⟨rfl, hZ, hh⟩ := hP
  have hx := Bd.exec
  have hby := Bd.bytes
  have hml : c.maxLocals = 2 := hml0
  have hown : s.vm.findClass "java/lang/String" = some m.cls := findClass_of_methodNamed Bd.named
  have hnm := (name_of_methodNamed Bd.named Bd.method).1
  have hlk : meth.locks = false := Bd.notSynchronized
  have X0 : Stand p l e ({ frames := 3, cells := 0, slots := 0, locals := 40 } : Room) s m #[(.ref v0), (.int v1)] below meth c s₁ [] 0 0 := Stand.of_body Bd
  have e0 : s₁.heap = h0 := by rw [← hh, Bd.state]; rfl
  have N0 := Fr.nil n0
  refine Go.enter (Q := Q_scharr Z v0 v1 cs bb xs vf h0 n0) (C := ({ frames := 3, cells := 0, slots := 0, locals := 40 } : Room).cells) (N := ({ frames := 3, cells := 0, slots := 0, locals := 40 } : Room).slots) (ef_scharr m v0 v1) ?_
  show Go p e below s _ _ _ s₁ (mkF m 0 #[.val (.ref v0), .val (.int v1)] [])
  refine G_aloadN X0 hx (pc' := 1) rfl (hb hby d23_0) rfl rfl ?_
  obtain ⟨cq42, kq42, q42a, q42b, q42c⟩ := isOf hZ e0 f0_E_v0
  obtain ⟨_, _, ⟨T42, L42, k42, n42⟩, -, X42, ⟨Lc42, hQ42, l42, y42, z42⟩, st42⟩ := X0.virtualBack hx (y := (⟨"java/lang/String", "isLatin1", "()Z"⟩ : MethodName)) (z := (⟨"java/lang/String", "isLatin1", "()Z"⟩ : MethodName)) hown (mvT hZ (own_w hw 113 rfl)) (mvT hZ (own_w hw 114 rfl)) (notFace_of_selects (args := #[]) (mvT hZ (own_w hw 116 rfl))) (mvT hZ (own_w hw 116 rfl)) (mvT hZ (own_w hw 115 rfl)) (by decide) (backOf (W := 0) (rm_isLat l Z a0 hw [] v0 cs h0 n0 Z0 f0_E_v0 f2_F_v0 f3_S_java_lang_String (by assumption)) hZ (own_w hw 117 rfl) (own_w hw 78 rfl) (by decide) (by decide)) q42a q42c (g := (mkF m 1 #[.val (.ref v0), .val (.int v1)] [(.ref v0)])) rfl (by rw [hml]; rfl) (Steps.refl _) (argsL := []) (rest := []) (lenOf pd_5 rfl) rfl (by show 2 * 0 + _ ≤ _; exact Nat.le_of_eq rfl) (hb hby d23_1) (fun _ _ => ⟨rfl, e0, (by decide : 0 + 0 ≤ _), (by decide : 0 + 0 ≤ _)⟩)
  dsimp only [Pt.U, Pt.locs, Pt.cells, Pt.slots] at X42 l42 y42 z42 st42 hQ42
  rw [l42, y42, z42] at X42
  clear l42 y42 z42
  obtain ⟨rfl, N42q, e42⟩ := hQ42
  have N42 := Fr.app N0 N42q
  refine Go.st (fun _ k => st42.trans k) ?_
  obtain ⟨G42, Y42, M42⟩ : ∃ L, Stand p l e ({ frames := 3, cells := 0, slots := 0, locals := 40 } : Room) s m #[(.ref v0), (.int v1)] below meth c T42 L 0 0 ∧ Fr n0 L := ⟨_, X42, N42⟩
  clear X42 N42
  show Go p e below s _ _ _ T42 (mkF m 4 #[.val (.ref v0), .val (.int v1)] [(.int (1 : Int32))])
  refine G_ifNo Y42 hx (pc' := 7) rfl (hb hby d23_4) ((if0 _ _).trans (feq (by decide : ¬ ((1 : Int32) = (0 : Int32)))).1) ?_
  refine G_aloadN Y42 hx (pc' := 8) rfl (hb hby d23_7) rfl rfl ?_
  obtain ⟨T43, X43, e43, st43⟩ := getF Y42 hx hZ hown (host := "") (Or.inl (own_w hw 93 rfl)) Via.refl e42 f1_F_v0 (g := (mkF m 8 #[.val (.ref v0), .val (.int v1)] [(.ref v0)])) rfl rfl (hb hby d23_8)
  refine Go.st st43 ?_
  show Go p e below s _ _ _ T43 (mkF m 11 #[.val (.ref v0), .val (.int v1)] [(.ref bb)])
  refine G_iloadN X43 hx (pc' := 12) rfl (hb hby d23_11) rfl ?_
  obtain ⟨_, _, ⟨T44, L44, k44, n44⟩, -, X44, ⟨Lc44, hQ44, l44, y44, z44⟩, st44⟩ := Jvm.LawKit.callS X43 hx (y := (⟨"java/lang/StringLatin1", "charAt", "([BI)C"⟩ : MethodName)) hown (mvT hZ (own_w hw 118 rfl)) (mvT hZ (own_w hw 119 rfl)) (mvT hZ (own_w hw 120 rfl)) (mvT hZ (own_w hw 121 rfl)) (by decide) (backOf (W := 0) (rm_lcharr l Z a0 hw [] bb v1 vf xs h0 n0 Z0 f4_S_jdk_internal_util_Preconditions f5_A_bb (by assumption) (by assumption) (by assumption)) hZ (own_w hw 121 rfl) (own_w hw 120 rfl) (by decide) (by decide)) (g := (mkF m 12 #[.val (.ref v0), .val (.int v1)] [(.int v1), (.ref bb)])) rfl (by rw [hml]; rfl) (argsL := [(.ref bb), (.int v1)]) (rest := []) (lenOf pd_6 rfl) rfl (by show 2 * 0 + _ ≤ _; exact Nat.le_of_eq rfl) (hb hby d23_12) (fun _ _ => ⟨rfl, e43, (by decide : 0 + 0 ≤ _), (by decide : 0 + 0 ≤ _)⟩)
  dsimp only [Pt.U, Pt.locs, Pt.cells, Pt.slots] at X44 l44 y44 z44 st44 hQ44
  rw [l44, y44, z44] at X44
  clear l44 y44 z44
  obtain ⟨rfl, N44q, e44⟩ := hQ44
  have N44 := Fr.app M42 N44q
  refine Go.st st44 ?_
  obtain ⟨G44, Y44, M44⟩ : ∃ L, Stand p l e ({ frames := 3, cells := 0, slots := 0, locals := 40 } : Room) s m #[(.ref v0), (.int v1)] below meth c T44 L 0 0 ∧ Fr n0 L := ⟨_, X44, N44⟩
  clear X44 N44
  show Go p e below s _ _ _ T44 (mkF m 15 #[.val (.ref v0), .val (.int v1)] [(.int (f_lcharr v1 xs))])
  refine Go.fin Y44 hlk (v := some (.int (nar .char (f_lcharr v1 xs)))) (fun h => by rw [Bd.returns] at h; cases h) (by decide) (by decide) ?_ (fun fs hr => retN Y44 hx (t := .char) Bd.returns (by simp) (hb hby d23_15) hr)
  show Q_scharr Z v0 v1 cs bb xs vf h0 n0 _ T44.heap _
  rw [e44]
  exact ⟨congrArg (fun z => some (Value.int z)) (Eq.symm (rfl : f_scharr v1 cs xs = _)), M44, rfl⟩
theorem d24_86 : decode jdk_35_method_14_code 86 = .ok (.iload 10, 2) := by decide +kernel
theorem d24_88 : decode jdk_35_method_14_code 88 = .ok (.bipush (-100), 2) := by decide +kernel
theorem d24_90 : decode jdk_35_method_14_code 90 = .ok (.if_icmp .gt 53, 3) := by decide +kernel
theorem d24_143 : decode jdk_35_method_14_code 143 = .ok (.aload_n 3, 1) := by decide +kernel
theorem d24_144 : decode jdk_35_method_14_code 144 = .ok (.iinc 7 (-1), 3) := by decide +kernel
theorem d24_147 : decode jdk_35_method_14_code 147 = .ok (.iload 7, 2) := by decide +kernel
theorem d24_149 : decode jdk_35_method_14_code 149 = .ok (.getstatic 133, 3) := by decide +kernel
theorem d24_152 : decode jdk_35_method_14_code 152 = .ok (.iload 10, 2) := by decide +kernel
theorem d24_154 : decode jdk_35_method_14_code 154 = .ok (.ineg, 1) := by decide +kernel
theorem d24_155 : decode jdk_35_method_14_code 155 = .ok (.baload, 1) := by decide +kernel
theorem d24_156 : decode jdk_35_method_14_code 156 = .ok (.bastore, 1) := by decide +kernel
theorem d24_157 : decode jdk_35_method_14_code 157 = .ok (.iload 10, 2) := by decide +kernel
theorem d24_159 : decode jdk_35_method_14_code 159 = .ok (.bipush (-9), 2) := by decide +kernel
theorem d24_161 : decode jdk_35_method_14_code 161 = .ok (.if_icmp .ge 17, 3) := by decide +kernel
theorem d24_164 : decode jdk_35_method_14_code 164 = .ok (.aload_n 3, 1) := by decide +kernel
theorem d24_165 : decode jdk_35_method_14_code 165 = .ok (.iinc 7 (-1), 3) := by decide +kernel
theorem d24_168 : decode jdk_35_method_14_code 168 = .ok (.iload 7, 2) := by decide +kernel
theorem d24_170 : decode jdk_35_method_14_code 170 = .ok (.getstatic 137, 3) := by decide +kernel
theorem d24_173 : decode jdk_35_method_14_code 173 = .ok (.iload 10, 2) := by decide +kernel
theorem d24_175 : decode jdk_35_method_14_code 175 = .ok (.ineg, 1) := by decide +kernel
theorem d24_176 : decode jdk_35_method_14_code 176 = .ok (.baload, 1) := by decide +kernel
theorem d24_177 : decode jdk_35_method_14_code 177 = .ok (.bastore, 1) := by decide +kernel
theorem d24_178 : decode jdk_35_method_14_code 178 = .ok (.iload 8, 2) := by decide +kernel
theorem d24_180 : decode jdk_35_method_14_code 180 = .ok (.ifCond .eq 12, 3) := by decide +kernel
theorem d24_192 : decode jdk_35_method_14_code 192 = .ok (.iload 7, 2) := by decide +kernel
theorem d24_194 : decode jdk_35_method_14_code 194 = .ok (.ireturn, 1) := by decide +kernel
theorem d24_183 : decode jdk_35_method_14_code 183 = .ok (.aload_n 3, 1) := by decide +kernel
theorem d24_184 : decode jdk_35_method_14_code 184 = .ok (.iinc 7 (-1), 3) := by decide +kernel
theorem d24_187 : decode jdk_35_method_14_code 187 = .ok (.iload 7, 2) := by decide +kernel
theorem d24_189 : decode jdk_35_method_14_code 189 = .ok (.bipush 45, 2) := by decide +kernel
theorem d24_191 : decode jdk_35_method_14_code 191 = .ok (.bastore, 1) := by decide +kernel
theorem d24_93 : decode jdk_35_method_14_code 93 = .ok (.iload 10, 2) := by decide +kernel
theorem d24_95 : decode jdk_35_method_14_code 95 = .ok (.bipush 100, 2) := by decide +kernel
theorem d24_97 : decode jdk_35_method_14_code 97 = .ok (.idiv, 1) := by decide +kernel
theorem d24_98 : decode jdk_35_method_14_code 98 = .ok (.istore 9, 2) := by decide +kernel
theorem d24_100 : decode jdk_35_method_14_code 100 = .ok (.iload 9, 2) := by decide +kernel
theorem d24_102 : decode jdk_35_method_14_code 102 = .ok (.bipush 100, 2) := by decide +kernel
theorem d24_104 : decode jdk_35_method_14_code 104 = .ok (.imul, 1) := by decide +kernel
theorem d24_105 : decode jdk_35_method_14_code 105 = .ok (.iload 10, 2) := by decide +kernel
theorem d24_107 : decode jdk_35_method_14_code 107 = .ok (.isub, 1) := by decide +kernel
theorem d24_108 : decode jdk_35_method_14_code 108 = .ok (.istore 6, 2) := by decide +kernel
theorem d24_110 : decode jdk_35_method_14_code 110 = .ok (.iload 9, 2) := by decide +kernel
theorem d24_112 : decode jdk_35_method_14_code 112 = .ok (.istore 10, 2) := by decide +kernel
theorem d24_114 : decode jdk_35_method_14_code 114 = .ok (.aload_n 3, 1) := by decide +kernel
theorem d24_115 : decode jdk_35_method_14_code 115 = .ok (.iinc 7 (-1), 3) := by decide +kernel
theorem d24_118 : decode jdk_35_method_14_code 118 = .ok (.iload 7, 2) := by decide +kernel
theorem d24_120 : decode jdk_35_method_14_code 120 = .ok (.getstatic 133, 3) := by decide +kernel
theorem d24_123 : decode jdk_35_method_14_code 123 = .ok (.iload 6, 2) := by decide +kernel
theorem d24_125 : decode jdk_35_method_14_code 125 = .ok (.baload, 1) := by decide +kernel
theorem d24_126 : decode jdk_35_method_14_code 126 = .ok (.bastore, 1) := by decide +kernel
theorem d24_127 : decode jdk_35_method_14_code 127 = .ok (.aload_n 3, 1) := by decide +kernel
theorem d24_128 : decode jdk_35_method_14_code 128 = .ok (.iinc 7 (-1), 3) := by decide +kernel
theorem d24_131 : decode jdk_35_method_14_code 131 = .ok (.iload 7, 2) := by decide +kernel
theorem d24_133 : decode jdk_35_method_14_code 133 = .ok (.getstatic 137, 3) := by decide +kernel
theorem d24_136 : decode jdk_35_method_14_code 136 = .ok (.iload 6, 2) := by decide +kernel
theorem d24_138 : decode jdk_35_method_14_code 138 = .ok (.baload, 1) := by decide +kernel
theorem d24_139 : decode jdk_35_method_14_code 139 = .ok (.bastore, 1) := by decide +kernel
theorem d24_140 : decode jdk_35_method_14_code 140 = .ok (.goto (-54), 3) := by decide +kernel
theorem d24_24 : decode jdk_35_method_14_code 24 = .ok (.lload_n 0, 1) := by decide +kernel
theorem d24_25 : decode jdk_35_method_14_code 25 = .ok (.ldc2_w 129, 3) := by decide +kernel
theorem d24_28 : decode jdk_35_method_14_code 28 = .ok (.lcmp, 1) := by decide +kernel
theorem d24_29 : decode jdk_35_method_14_code 29 = .ok (.ifCond .gt 53, 3) := by decide +kernel
theorem d24_82 : decode jdk_35_method_14_code 82 = .ok (.lload_n 0, 1) := by decide +kernel
theorem d24_83 : decode jdk_35_method_14_code 83 = .ok (.l2i, 1) := by decide +kernel
theorem d24_84 : decode jdk_35_method_14_code 84 = .ok (.istore 10, 2) := by decide +kernel
theorem d24_32 : decode jdk_35_method_14_code 32 = .ok (.lload_n 0, 1) := by decide +kernel
theorem d24_33 : decode jdk_35_method_14_code 33 = .ok (.ldc2_w 131, 3) := by decide +kernel
theorem d24_36 : decode jdk_35_method_14_code 36 = .ok (.ldiv, 1) := by decide +kernel
theorem d24_37 : decode jdk_35_method_14_code 37 = .ok (.lstore 4, 2) := by decide +kernel
theorem d24_39 : decode jdk_35_method_14_code 39 = .ok (.lload 4, 2) := by decide +kernel
theorem d24_41 : decode jdk_35_method_14_code 41 = .ok (.ldc2_w 131, 3) := by decide +kernel
theorem d24_44 : decode jdk_35_method_14_code 44 = .ok (.lmul, 1) := by decide +kernel
theorem d24_45 : decode jdk_35_method_14_code 45 = .ok (.lload_n 0, 1) := by decide +kernel
theorem d24_46 : decode jdk_35_method_14_code 46 = .ok (.lsub, 1) := by decide +kernel
theorem d24_47 : decode jdk_35_method_14_code 47 = .ok (.l2i, 1) := by decide +kernel
theorem d24_48 : decode jdk_35_method_14_code 48 = .ok (.istore 6, 2) := by decide +kernel
theorem d24_50 : decode jdk_35_method_14_code 50 = .ok (.lload 4, 2) := by decide +kernel
theorem d24_52 : decode jdk_35_method_14_code 52 = .ok (.lstore_n 0, 1) := by decide +kernel
theorem d24_53 : decode jdk_35_method_14_code 53 = .ok (.aload_n 3, 1) := by decide +kernel
theorem d24_54 : decode jdk_35_method_14_code 54 = .ok (.iinc 7 (-1), 3) := by decide +kernel
theorem d24_57 : decode jdk_35_method_14_code 57 = .ok (.iload 7, 2) := by decide +kernel
theorem d24_59 : decode jdk_35_method_14_code 59 = .ok (.getstatic 133, 3) := by decide +kernel
theorem d24_62 : decode jdk_35_method_14_code 62 = .ok (.iload 6, 2) := by decide +kernel
theorem d24_64 : decode jdk_35_method_14_code 64 = .ok (.baload, 1) := by decide +kernel
theorem d24_65 : decode jdk_35_method_14_code 65 = .ok (.bastore, 1) := by decide +kernel
theorem d24_66 : decode jdk_35_method_14_code 66 = .ok (.aload_n 3, 1) := by decide +kernel
theorem d24_67 : decode jdk_35_method_14_code 67 = .ok (.iinc 7 (-1), 3) := by decide +kernel
theorem d24_70 : decode jdk_35_method_14_code 70 = .ok (.iload 7, 2) := by decide +kernel
theorem d24_72 : decode jdk_35_method_14_code 72 = .ok (.getstatic 137, 3) := by decide +kernel
theorem d24_75 : decode jdk_35_method_14_code 75 = .ok (.iload 6, 2) := by decide +kernel
theorem d24_77 : decode jdk_35_method_14_code 77 = .ok (.baload, 1) := by decide +kernel
theorem d24_78 : decode jdk_35_method_14_code 78 = .ok (.bastore, 1) := by decide +kernel
theorem d24_79 : decode jdk_35_method_14_code 79 = .ok (.goto (-55), 3) := by decide +kernel
theorem d24_0 : decode jdk_35_method_14_code 0 = .ok (.iload_n 2, 1) := by decide +kernel
theorem d24_1 : decode jdk_35_method_14_code 1 = .ok (.istore 7, 2) := by decide +kernel
theorem d24_3 : decode jdk_35_method_14_code 3 = .ok (.lload_n 0, 1) := by decide +kernel
theorem d24_4 : decode jdk_35_method_14_code 4 = .ok (.lconst 0, 1) := by decide +kernel
theorem d24_5 : decode jdk_35_method_14_code 5 = .ok (.lcmp, 1) := by decide +kernel
theorem d24_6 : decode jdk_35_method_14_code 6 = .ok (.ifCond .ge 7, 3) := by decide +kernel
theorem d24_9 : decode jdk_35_method_14_code 9 = .ok (.iconst 1, 1) := by decide +kernel
theorem d24_10 : decode jdk_35_method_14_code 10 = .ok (.goto 4, 3) := by decide +kernel
theorem d24_14 : decode jdk_35_method_14_code 14 = .ok (.istore 8, 2) := by decide +kernel
theorem d24_16 : decode jdk_35_method_14_code 16 = .ok (.iload 8, 2) := by decide +kernel
theorem d24_18 : decode jdk_35_method_14_code 18 = .ok (.ifCond .ne 6, 3) := by decide +kernel
theorem d24_13 : decode jdk_35_method_14_code 13 = .ok (.iconst 0, 1) := by decide +kernel
theorem d24_21 : decode jdk_35_method_14_code 21 = .ok (.lload_n 0, 1) := by decide +kernel
theorem d24_22 : decode jdk_35_method_14_code 22 = .ok (.lneg, 1) := by decide +kernel
theorem d24_23 : decode jdk_35_method_14_code 23 = .ok (.lstore_n 0, 1) := by decide +kernel
theorem ef_getc (m : MethodId) (v0 : Int64) (v2 : Addr) : entryFrame m #[(.long v0), (.int (Int32.ofNat (ng + Nd))), (.ref v2)] 11 = mkF m 0 #[.val (.long v0), .second, .val (.int (Int32.ofNat (ng + Nd))), .val (.ref v2), .unset, .unset, .unset, .unset, .unset, .unset, .unset] [] := by first | (simp [entryFrame, mkF, argsToLocals, Value.category]; done) | rfl
def Q_getc (Z : State) (v0 : Int64) (v2 : Addr) (uu : Nat) (Nd : Nat) (ng : Nat) (aO : Addr) (aT : Addr) (h0 : Heap) (n0 : Nat) (v : Option Value) (h : Heap) (L : List Loc) : Prop := v = some (.int (0 : Int32)) ∧ Fr n0 L ∧ Keep h0 h [v2] ∧ AI Z h v2 .byte (own_txt ng uu Nd)
set_option maxRecDepth 65536 in
set_option maxHeartbeats 40000000 in
theorem rm_getc (l : Launch) (Z : State) (a0 : Array Value) (hw : ∀ d ∈ tables_1, d.before a0 Z = true) (ws : List Jvm.Cond) (v0 : Int64) (v2 : Addr) (uu : Nat) (Nd : Nat) (ng : Nat) (aO : Addr) (aT : Addr) (h0 : Heap) (n0 : Nat) (Z0 : n0 ≤ h0.size) (f0_A_v2 : AI Z h0 v2 .byte (List.replicate (ng + Nd) (0 : Int32))) (f1_S_java_lang_Integer : Sta Z h0 "java/lang/Integer" "DigitOnes" "[B" (.ref aO)) (f2_A_aO : AI Z h0 aO .byte own_ones) (f3_S_java_lang_Integer : Sta Z h0 "java/lang/Integer" "DigitTens" "[B" (.ref aT)) (f4_A_aT : AI Z h0 aT .byte own_tens) (g_v2 : n0 ≤ v2) (ne_v2_aO : v2 ≠ aO) (ne_v2_aT : v2 ≠ aT) (hP : own_P uu Nd) (hN0 : 1 ≤ Nd) (hv : (v0 < 0 ∧ ng = 1 ∧ v0.toInt = -(uu : Int)) ∨ (¬ v0 < 0 ∧ ng = 0 ∧ v0.toInt = (uu : Int))) :
    MetFree l (⟨"java/lang/Long", "getChars", "(JI[B)I"⟩ : MethodName) (head1 (Jvm.Cond.code (⟨"java/lang/Long", "getChars", "(JI[B)I"⟩ : MethodName) jdk_35_method_14_code 11 (some .int) :: ws) ({ frames := 0, cells := 0, slots := 0, locals := 0 } : Room)) (fun a U => a = #[(.long v0), (.int (Int32.ofNat (ng + Nd))), (.ref v2)] ∧ Z.Warmed39 U.vm ∧ U.heap = h0) (fun _ _ _ _ _ => True) (fun _ U o U' => ∃ v L, o = .returned v ∧ Q_getc Z v0 v2 uu Nd ng aO aT h0 n0 v U'.heap L ∧ FrameEnd U o U' L ({ frames := 0, cells := 0, slots := 0, locals := 0 } : Room).cells ({ frames := 0, cells := 0, slots := 0, locals := 0 } : Room).slots) := by
  refine MetFree.of_bodySF (plainFor_of_name (by first | (simp [plainName, overriddenIn]; done) | decide +kernel)) hisR ?_
  intro p e s m args below meth c s₁ Bd hml0 hP hK
  obtain ⟨rfl, hZ, hh⟩ := hP
  have hx := Bd.exec
  have hby := Bd.bytes
  have hml : c.maxLocals = 11 := hml0
  have hown : s.vm.findClass "java/lang/Long" = some m.cls := findClass_of_methodNamed Bd.named
  have hnm := (name_of_methodNamed Bd.named Bd.method).1
  have hlk : meth.locks = false := Bd.notSynchronized
  have X0 : Stand p l e ({ frames := 0, cells := 0, slots := 0, locals := 0 } : Room) s m #[(.long v0), (.int (Int32.ofNat (ng + Nd))), (.ref v2)] below meth c s₁ [] 0 0 := Stand.of_body Bd
  have e0 : s₁.heap = h0 := by rw [← hh, Bd.state]; rfl
  have N0 := Fr.nil n0
  refine Go.enter (Q := Q_getc Z v0 v2 uu Nd ng aO aT h0 n0) (C := ({ frames := 0, cells := 0, slots := 0, locals := 0 } : Room).cells) (N := ({ frames := 0, cells := 0, slots := 0, locals := 0 } : Room).slots) (ef_getc m v0 v2) ?_
  show Go p e below s _ _ _ s₁ (mkF m 0 #[.val (.long v0), .second, .val (.int (Int32.ofNat (ng + Nd))), .val (.ref v2), .unset, .unset, .unset, .unset, .unset, .unset, .unset] [])
  have KC : ∀ (nn kk cc : Nat) (nf : Int32) (ii : Int32) (i0 : Int64) (q4 : Int64) (r6 : Int32) (q9 : Int32) (T : State) (h : Heap) (L : List Loc) (X : Stand p l e ({ frames := 0, cells := 0, slots := 0, locals := 0 } : Room) s m #[(.long v0), (.int (Int32.ofNat (ng + Nd))), (.ref v2)] below meth c T L 0 0) (e1 : T.heap = h) (N_ : Fr n0 L) (K : Keep h0 h [v2]) (Zq : n0 ≤ h.size) (FA : AI Z h v2 .byte (List.replicate cc (0 : Int32) ++ own_dg uu kk)) (FO : AI Z h aO .byte own_ones) (FT : AI Z h aT .byte own_tens) (FSo : Sta Z h "java/lang/Integer" "DigitOnes" "[B" (.ref aO)) (FSt : Sta Z h "java/lang/Integer" "DigitTens" "[B" (.ref aT)) (hK : own_K uu Nd ng nf kk cc ii.toInt) (hn : Nd ≤ kk + nn), Go p e below s ({ frames := 0, cells := 0, slots := 0, locals := 0 } : Room).cells ({ frames := 0, cells := 0, slots := 0, locals := 0 } : Room).slots (Q_getc Z v0 v2 uu Nd ng aO aT h0 n0) T (mkF m 86 #[.val (.long i0), .second, .val (.int (Int32.ofNat (ng + Nd))), .val (.ref v2), .val (.long q4), .second, .val (.int r6), .val (.int (Int32.ofNat cc)), .val (.int nf), .val (.int q9), .val (.int ii)] []) := by
    intro nn
    induction nn with
    | zero => intro kk cc nf ii i0 q4 r6 q9 Tj hj Lj Xj ej Nj Kj Zj FA FO FT FSo FSt hK hn; exact absurd hK.hk (by omega)
    | succ nn ih =>
      intro kk cc nf ii i0 q4 r6 q9 Tj hj Lj Xj ej Nj Kj Zj FA FO FT FSo FSt hK hn
      refine G_iload Xj hx (pc' := 88) rfl (hb hby d24_86) rfl ?_
      refine G_bipush Xj hx (pc' := 90) rfl (hb hby d24_88) (z := (-100 : Int32)) rfl ?_
      by_cases hc90_1 : (-100 : Int32) < ii
      · refine G_icmpYes Xj hx (pc' := 143) (hb hby d24_90) (tlt hc90_1).2.2.1 (by decide) (by decide) ?_
        have hgt := own_gt2 hc90_1
        have hr := own_ng hK.hz hgt
        obtain ⟨d, rfl, hd⟩ := own_c1 hP hK
        show Go p e below s _ _ _ Tj (mkF m 143 #[.val (.long i0), .second, .val (.int (Int32.ofNat (ng + Nd))), .val (.ref v2), .val (.long q4), .second, .val (.int r6), .val (.int (Int32.ofNat (d + 1))), .val (.int nf), .val (.int q9), .val (.int ii)] [])
        refine G_aloadN Xj hx (pc' := 144) rfl (hb hby d24_143) rfl rfl ?_
        refine G_iinc Xj hx (pc' := 147) rfl (hb hby d24_144) rfl (z := ((Int32.ofNat (d + 1)) + (-1 : Int32))) rfl (L' := #[.val (.long i0), .second, .val (.int (Int32.ofNat (ng + Nd))), .val (.ref v2), .val (.long q4), .second, .val (.int r6), .val (.int ((Int32.ofNat (d + 1)) + (-1 : Int32))), .val (.int nf), .val (.int q9), .val (.int ii)]) rfl ?_
        rw [own_decB hd]
        show Go p e below s _ _ _ Tj (mkF m 147 #[.val (.long i0), .second, .val (.int (Int32.ofNat (ng + Nd))), .val (.ref v2), .val (.long q4), .second, .val (.int r6), .val (.int (Int32.ofNat d)), .val (.int nf), .val (.int q9), .val (.int ii)] [(.ref v2)])
        refine G_iload Xj hx (pc' := 149) rfl (hb hby d24_147) rfl ?_
        obtain ⟨T45, X45, e45, st45⟩ := getS2 Xj hx hZ hown (host := "") (Or.inl (own_w hw 84 rfl)) Via.refl ej FSo (g := (mkF m 149 #[.val (.long i0), .second, .val (.int (Int32.ofNat (ng + Nd))), .val (.ref v2), .val (.long q4), .second, .val (.int r6), .val (.int (Int32.ofNat d)), .val (.int nf), .val (.int q9), .val (.int ii)] [(.int (Int32.ofNat d)), (.ref v2)])) rfl (hb hby d24_149)
        refine Go.st st45 ?_
        show Go p e below s _ _ _ T45 (mkF m 152 #[.val (.long i0), .second, .val (.int (Int32.ofNat (ng + Nd))), .val (.ref v2), .val (.long q4), .second, .val (.int r6), .val (.int (Int32.ofNat d)), .val (.int nf), .val (.int q9), .val (.int ii)] [(.ref aO), (.int (Int32.ofNat d)), (.ref v2)])
        refine G_iload X45 hx (pc' := 154) rfl (hb hby d24_152) rfl ?_
        refine G_ineg X45 hx (pc' := 155) rfl (hb hby d24_154)  ?_
        refine Go.st (ldAB X45 hx hZ e45 FO (j := (-ii)) (own_rd (k := kk) (U := uu) hr).1 (own_rd (k := kk) (U := uu) hr).2.1 (g := (mkF m 155 #[.val (.long i0), .second, .val (.int (Int32.ofNat (ng + Nd))), .val (.ref v2), .val (.long q4), .second, .val (.int r6), .val (.int (Int32.ofNat d)), .val (.int nf), .val (.int q9), .val (.int ii)] [(.int (-ii)), (.ref aO), (.int (Int32.ofNat d)), (.ref v2)])) rfl rfl (hb hby d24_155)) ?_
        show Go p e below s _ _ _ T45 (mkF m 156 #[.val (.long i0), .second, .val (.int (Int32.ofNat (ng + Nd))), .val (.ref v2), .val (.long q4), .second, .val (.int r6), .val (.int (Int32.ofNat d)), .val (.int nf), .val (.int q9), .val (.int ii)] [(.int (own_ones.getD (-ii).toNatClampNeg 0)), (.int (Int32.ofNat d)), (.ref v2)])
        obtain ⟨T46, h46, X46, e46, W46, A46, st46⟩ := stAB X45 hx hZ e45 FA (j := (Int32.ofNat d)) (own_px hd []).1 (own_px hd _).2 (g := (mkF m 156 #[.val (.long i0), .second, .val (.int (Int32.ofNat (ng + Nd))), .val (.ref v2), .val (.long q4), .second, .val (.int r6), .val (.int (Int32.ofNat d)), .val (.int nf), .val (.int q9), .val (.int ii)] [(.int (own_ones.getD (-ii).toNatClampNeg 0)), (.int (Int32.ofNat d)), (.ref v2)])) rfl rfl (hb hby d24_156)
        refine Go.st st46 ?_
        have A_aO_46 := FO.other W46 (Ne.symm ne_v2_aO)
        have A_aT_46 := FT.other W46 (Ne.symm ne_v2_aT)
        have S_java_lang_Integer_DigitOnes_46 := FSo.wr W46
        have S_java_lang_Integer_DigitTens_46 := FSt.wr W46
        have A_v2_46 : AI Z h46 v2 .byte ((List.replicate (d + 1) (0 : Int32) ++ own_dg uu kk).set (Int32.ofNat d).toNatClampNeg ((own_ones.getD (-ii).toNatClampNeg 0).toInt8.toInt32)) := A46
        have K_46 : Keep h0 h46 [v2] := Kj.wr W46 (Or.inl (List.mem_of_getElem? (i := 0) rfl))
        have Z_46 : n0 ≤ h46.size := Nat.le_trans Z0 K_46.1
        have N46 := Fr.snoc X46 Nj g_v2
        clear FA FO FT FSo FSt W46 st46 A46
        obtain ⟨G46, Y46, M46⟩ : ∃ L, Stand p l e ({ frames := 0, cells := 0, slots := 0, locals := 0 } : Room) s m #[(.long v0), (.int (Int32.ofNat (ng + Nd))), (.ref v2)] below meth c T46 L 0 0 ∧ Fr n0 L := ⟨_, X46, N46⟩
        clear X46 N46
        show Go p e below s _ _ _ T46 (mkF m 157 #[.val (.long i0), .second, .val (.int (Int32.ofNat (ng + Nd))), .val (.ref v2), .val (.long q4), .second, .val (.int r6), .val (.int (Int32.ofNat d)), .val (.int nf), .val (.int q9), .val (.int ii)] [])
        have AC47 : AI Z h46 v2 .byte (List.replicate d (0 : Int32) ++ (Int32.ofNat (48 + uu / 10 ^ kk % 10)) :: own_dg uu kk) := own_sx hd _ (own_rd (k := kk) (U := uu) hr).2.2.2.1 ▸ A_v2_46
        refine G_iload Y46 hx (pc' := 159) rfl (hb hby d24_157) rfl ?_
        refine G_bipush Y46 hx (pc' := 161) rfl (hb hby d24_159) (z := (-9 : Int32)) rfl ?_
        by_cases hc161_2 : ii < (-9 : Int32)
        · refine G_icmpNo Y46 hx (pc' := 164) rfl (hb hby d24_161) (tlt hc161_2).2.1 ?_
          have hE := own_e2 hP hK hgt (own_le9 hc161_2)
          obtain rfl : d = ng + 1 := by omega
          show Go p e below s _ _ _ T46 (mkF m 164 #[.val (.long i0), .second, .val (.int (Int32.ofNat (ng + Nd))), .val (.ref v2), .val (.long q4), .second, .val (.int r6), .val (.int (Int32.ofNat (ng + 1))), .val (.int nf), .val (.int q9), .val (.int ii)] [])
          refine G_aloadN Y46 hx (pc' := 165) rfl (hb hby d24_164) rfl rfl ?_
          refine G_iinc Y46 hx (pc' := 168) rfl (hb hby d24_165) rfl (z := ((Int32.ofNat (ng + 1)) + (-1 : Int32))) rfl (L' := #[.val (.long i0), .second, .val (.int (Int32.ofNat (ng + Nd))), .val (.ref v2), .val (.long q4), .second, .val (.int r6), .val (.int ((Int32.ofNat (ng + 1)) + (-1 : Int32))), .val (.int nf), .val (.int q9), .val (.int ii)]) rfl ?_
          rw [own_decB (by omega : ng ≤ 19)]
          show Go p e below s _ _ _ T46 (mkF m 168 #[.val (.long i0), .second, .val (.int (Int32.ofNat (ng + Nd))), .val (.ref v2), .val (.long q4), .second, .val (.int r6), .val (.int (Int32.ofNat ng)), .val (.int nf), .val (.int q9), .val (.int ii)] [(.ref v2)])
          refine G_iload Y46 hx (pc' := 170) rfl (hb hby d24_168) rfl ?_
          obtain ⟨T48, X48, e48, st48⟩ := getS2 Y46 hx hZ hown (host := "") (Or.inl (own_w hw 155 rfl)) Via.refl e46 S_java_lang_Integer_DigitTens_46 (g := (mkF m 170 #[.val (.long i0), .second, .val (.int (Int32.ofNat (ng + Nd))), .val (.ref v2), .val (.long q4), .second, .val (.int r6), .val (.int (Int32.ofNat ng)), .val (.int nf), .val (.int q9), .val (.int ii)] [(.int (Int32.ofNat ng)), (.ref v2)])) rfl (hb hby d24_170)
          refine Go.st st48 ?_
          show Go p e below s _ _ _ T48 (mkF m 173 #[.val (.long i0), .second, .val (.int (Int32.ofNat (ng + Nd))), .val (.ref v2), .val (.long q4), .second, .val (.int r6), .val (.int (Int32.ofNat ng)), .val (.int nf), .val (.int q9), .val (.int ii)] [(.ref aT), (.int (Int32.ofNat ng)), (.ref v2)])
          refine G_iload X48 hx (pc' := 175) rfl (hb hby d24_173) rfl ?_
          refine G_ineg X48 hx (pc' := 176) rfl (hb hby d24_175)  ?_
          refine Go.st (ldAB X48 hx hZ e48 A_aT_46 (j := (-ii)) (own_rd (k := kk) (U := uu) hr).1 (own_rd (k := kk) (U := uu) hr).2.2.1 (g := (mkF m 176 #[.val (.long i0), .second, .val (.int (Int32.ofNat (ng + Nd))), .val (.ref v2), .val (.long q4), .second, .val (.int r6), .val (.int (Int32.ofNat ng)), .val (.int nf), .val (.int q9), .val (.int ii)] [(.int (-ii)), (.ref aT), (.int (Int32.ofNat ng)), (.ref v2)])) rfl rfl (hb hby d24_176)) ?_
          show Go p e below s _ _ _ T48 (mkF m 177 #[.val (.long i0), .second, .val (.int (Int32.ofNat (ng + Nd))), .val (.ref v2), .val (.long q4), .second, .val (.int r6), .val (.int (Int32.ofNat ng)), .val (.int nf), .val (.int q9), .val (.int ii)] [(.int (own_tens.getD (-ii).toNatClampNeg 0)), (.int (Int32.ofNat ng)), (.ref v2)])
          obtain ⟨T49, h49, X49, e49, W49, A49, st49⟩ := stAB X48 hx hZ e48 AC47 (j := (Int32.ofNat ng)) (own_px (by omega : ng ≤ 19) []).1 (own_px (by omega : ng ≤ 19) _).2 (g := (mkF m 177 #[.val (.long i0), .second, .val (.int (Int32.ofNat (ng + Nd))), .val (.ref v2), .val (.long q4), .second, .val (.int r6), .val (.int (Int32.ofNat ng)), .val (.int nf), .val (.int q9), .val (.int ii)] [(.int (own_tens.getD (-ii).toNatClampNeg 0)), (.int (Int32.ofNat ng)), (.ref v2)])) rfl rfl (hb hby d24_177)
          refine Go.st st49 ?_
          have A_aO_49 := A_aO_46.other W49 (Ne.symm ne_v2_aO)
          have A_aT_49 := A_aT_46.other W49 (Ne.symm ne_v2_aT)
          have S_java_lang_Integer_DigitOnes_49 := S_java_lang_Integer_DigitOnes_46.wr W49
          have S_java_lang_Integer_DigitTens_49 := S_java_lang_Integer_DigitTens_46.wr W49
          have A_v2_49 : AI Z h49 v2 .byte ((List.replicate (ng + 1) (0 : Int32) ++ (Int32.ofNat (48 + uu / 10 ^ kk % 10)) :: own_dg uu kk).set (Int32.ofNat ng).toNatClampNeg ((own_tens.getD (-ii).toNatClampNeg 0).toInt8.toInt32)) := A49
          have K_49 : Keep h0 h49 [v2] := K_46.wr W49 (Or.inl (List.mem_of_getElem? (i := 0) rfl))
          have Z_49 : n0 ≤ h49.size := Nat.le_trans Z0 K_49.1
          have N49 := Fr.snoc X49 M46 g_v2
          clear A_aO_46 A_aT_46 S_java_lang_Integer_DigitOnes_46 S_java_lang_Integer_DigitTens_46 AC47 W49 st49 A49
          obtain ⟨G49, Y49, M49⟩ : ∃ L, Stand p l e ({ frames := 0, cells := 0, slots := 0, locals := 0 } : Room) s m #[(.long v0), (.int (Int32.ofNat (ng + Nd))), (.ref v2)] below meth c T49 L 0 0 ∧ Fr n0 L := ⟨_, X49, N49⟩
          clear X49 N49
          show Go p e below s _ _ _ T49 (mkF m 178 #[.val (.long i0), .second, .val (.int (Int32.ofNat (ng + Nd))), .val (.ref v2), .val (.long q4), .second, .val (.int r6), .val (.int (Int32.ofNat ng)), .val (.int nf), .val (.int q9), .val (.int ii)] [])
          have AD50 : AI Z h49 v2 .byte (List.replicate ng (0 : Int32) ++ own_dg uu (kk + 2)) := own_sx (by omega : ng ≤ 19) ((Int32.ofNat (48 + uu / 10 ^ kk % 10)) :: own_dg uu kk) (own_rd (k := kk) (U := uu) hr).2.2.2.2 ▸ A_v2_49
          rw [← hE.1] at AD50
          show Go p e below s _ _ _ T49 (mkF m 178 #[.val (.long i0), .second, .val (.int (Int32.ofNat (ng + Nd))), .val (.ref v2), .val (.long q4), .second, .val (.int r6), .val (.int (Int32.ofNat ng)), .val (.int nf), .val (.int q9), .val (.int ii)] [])
          refine G_iload Y49 hx (pc' := 180) rfl (hb hby d24_178) rfl ?_
          by_cases hc180_3 : nf = (0 : Int32)
          · refine G_ifYes Y49 hx (pc' := 192) (hb hby d24_180) ((if0 _ _).trans (teq hc180_3).1) (by decide) (by decide) ?_
            have AE51 : AI Z h49 v2 .byte (own_txt ng uu Nd) := (own_t0 hK.hf hc180_3).1 ▸ AD50
            refine G_iload Y49 hx (pc' := 194) rfl (hb hby d24_192) rfl ?_
            refine Go.fin Y49 hlk (v := some (.int (Int32.ofNat ng))) (fun h => by rw [Bd.returns] at h; cases h) (by decide) (by decide) ?_ (fun fs hr => retOut Y49 hx Bd.returns rfl (Or.inl ⟨rfl, Or.inl rfl, _, rfl⟩) (hb hby d24_194) hr)
            show Q_getc Z v0 v2 uu Nd ng aO aT h0 n0 _ T49.heap _
            rw [e49]
            exact ⟨congrArg (fun z => some (Value.int z)) (own_t0 (U := uu) (N := Nd) hK.hf hc180_3).2, M49, K_49, AE51⟩
          refine G_ifNo Y49 hx (pc' := 183) rfl (hb hby d24_180) ((if0 _ _).trans (feq hc180_3).1) ?_
          refine G_aloadN Y49 hx (pc' := 184) rfl (hb hby d24_183) rfl rfl ?_
          refine G_iinc Y49 hx (pc' := 187) rfl (hb hby d24_184) rfl (z := ((Int32.ofNat ng) + (-1 : Int32))) rfl (L' := #[.val (.long i0), .second, .val (.int (Int32.ofNat (ng + Nd))), .val (.ref v2), .val (.long q4), .second, .val (.int r6), .val (.int ((Int32.ofNat ng) + (-1 : Int32))), .val (.int nf), .val (.int q9), .val (.int ii)]) rfl ?_
          refine G_iload Y49 hx (pc' := 189) rfl (hb hby d24_187) rfl ?_
          refine G_bipush Y49 hx (pc' := 191) rfl (hb hby d24_189) (z := (45 : Int32)) rfl ?_
          obtain ⟨T52, h52, X52, e52, W52, A52, st52⟩ := stAB Y49 hx hZ e49 AD50 (j := ((Int32.ofNat ng) + (-1 : Int32))) (own_t1 (U := uu) (N := Nd) hK.hf hc180_3).2.2.1 (own_t1 (U := uu) (N := Nd) hK.hf hc180_3).2.2.2 (g := (mkF m 191 #[.val (.long i0), .second, .val (.int (Int32.ofNat (ng + Nd))), .val (.ref v2), .val (.long q4), .second, .val (.int r6), .val (.int ((Int32.ofNat ng) + (-1 : Int32))), .val (.int nf), .val (.int q9), .val (.int ii)] [(.int (45 : Int32)), (.int ((Int32.ofNat ng) + (-1 : Int32))), (.ref v2)])) rfl rfl (hb hby d24_191)
          refine Go.st st52 ?_
          have A_aO_52 := A_aO_49.other W52 (Ne.symm ne_v2_aO)
          have A_aT_52 := A_aT_49.other W52 (Ne.symm ne_v2_aT)
          have S_java_lang_Integer_DigitOnes_52 := S_java_lang_Integer_DigitOnes_49.wr W52
          have S_java_lang_Integer_DigitTens_52 := S_java_lang_Integer_DigitTens_49.wr W52
          have A_v2_52 : AI Z h52 v2 .byte ((List.replicate ng (0 : Int32) ++ own_dg uu Nd).set ((Int32.ofNat ng) + (-1 : Int32)).toNatClampNeg (45 : Int32)) := A52
          have K_52 : Keep h0 h52 [v2] := K_49.wr W52 (Or.inl (List.mem_of_getElem? (i := 0) rfl))
          have Z_52 : n0 ≤ h52.size := Nat.le_trans Z0 K_52.1
          have N52 := Fr.snoc X52 M49 g_v2
          clear A_aO_49 A_aT_49 S_java_lang_Integer_DigitOnes_49 S_java_lang_Integer_DigitTens_49 AD50 W52 st52 A52
          obtain ⟨G52, Y52, M52⟩ : ∃ L, Stand p l e ({ frames := 0, cells := 0, slots := 0, locals := 0 } : Room) s m #[(.long v0), (.int (Int32.ofNat (ng + Nd))), (.ref v2)] below meth c T52 L 0 0 ∧ Fr n0 L := ⟨_, X52, N52⟩
          clear X52 N52
          show Go p e below s _ _ _ T52 (mkF m 192 #[.val (.long i0), .second, .val (.int (Int32.ofNat (ng + Nd))), .val (.ref v2), .val (.long q4), .second, .val (.int r6), .val (.int ((Int32.ofNat ng) + (-1 : Int32))), .val (.int nf), .val (.int q9), .val (.int ii)] [])
          have AE53 : AI Z h52 v2 .byte (own_txt ng uu Nd) := (own_t1 hK.hf hc180_3).1 ▸ A_v2_52
          refine G_iload Y52 hx (pc' := 194) rfl (hb hby d24_192) rfl ?_
          refine Go.fin Y52 hlk (v := some (.int ((Int32.ofNat ng) + (-1 : Int32)))) (fun h => by rw [Bd.returns] at h; cases h) (by decide) (by decide) ?_ (fun fs hr => retOut Y52 hx Bd.returns rfl (Or.inl ⟨rfl, Or.inl rfl, _, rfl⟩) (hb hby d24_194) hr)
          show Q_getc Z v0 v2 uu Nd ng aO aT h0 n0 _ T52.heap _
          rw [e52]
          exact ⟨congrArg (fun z => some (Value.int z)) (own_t1 (U := uu) (N := Nd) hK.hf hc180_3).2.1, M52, K_52, AE53⟩
        refine G_icmpYes Y46 hx (pc' := 178) (hb hby d24_161) (flt hc161_2).2.1 (by decide) (by decide) ?_
        have hE := own_e1 hP hK (own_gt9 hc161_2)
        obtain rfl : ng = d := by omega
        have AD54 : AI Z h46 v2 .byte (List.replicate ng (0 : Int32) ++ own_dg uu (kk + 1)) := AC47
        rw [← hE.1] at AD54
        show Go p e below s _ _ _ T46 (mkF m 178 #[.val (.long i0), .second, .val (.int (Int32.ofNat (ng + Nd))), .val (.ref v2), .val (.long q4), .second, .val (.int r6), .val (.int (Int32.ofNat ng)), .val (.int nf), .val (.int q9), .val (.int ii)] [])
        refine G_iload Y46 hx (pc' := 180) rfl (hb hby d24_178) rfl ?_
        by_cases hc180_4 : nf = (0 : Int32)
        · refine G_ifYes Y46 hx (pc' := 192) (hb hby d24_180) ((if0 _ _).trans (teq hc180_4).1) (by decide) (by decide) ?_
          have AE55 : AI Z h46 v2 .byte (own_txt ng uu Nd) := (own_t0 hK.hf hc180_4).1 ▸ AD54
          refine G_iload Y46 hx (pc' := 194) rfl (hb hby d24_192) rfl ?_
          refine Go.fin Y46 hlk (v := some (.int (Int32.ofNat ng))) (fun h => by rw [Bd.returns] at h; cases h) (by decide) (by decide) ?_ (fun fs hr => retOut Y46 hx Bd.returns rfl (Or.inl ⟨rfl, Or.inl rfl, _, rfl⟩) (hb hby d24_194) hr)
          show Q_getc Z v0 v2 uu Nd ng aO aT h0 n0 _ T46.heap _
          rw [e46]
          exact ⟨congrArg (fun z => some (Value.int z)) (own_t0 (U := uu) (N := Nd) hK.hf hc180_4).2, M46, K_46, AE55⟩
        refine G_ifNo Y46 hx (pc' := 183) rfl (hb hby d24_180) ((if0 _ _).trans (feq hc180_4).1) ?_
        refine G_aloadN Y46 hx (pc' := 184) rfl (hb hby d24_183) rfl rfl ?_
        refine G_iinc Y46 hx (pc' := 187) rfl (hb hby d24_184) rfl (z := ((Int32.ofNat ng) + (-1 : Int32))) rfl (L' := #[.val (.long i0), .second, .val (.int (Int32.ofNat (ng + Nd))), .val (.ref v2), .val (.long q4), .second, .val (.int r6), .val (.int ((Int32.ofNat ng) + (-1 : Int32))), .val (.int nf), .val (.int q9), .val (.int ii)]) rfl ?_
        refine G_iload Y46 hx (pc' := 189) rfl (hb hby d24_187) rfl ?_
        refine G_bipush Y46 hx (pc' := 191) rfl (hb hby d24_189) (z := (45 : Int32)) rfl ?_
        obtain ⟨T56, h56, X56, e56, W56, A56, st56⟩ := stAB Y46 hx hZ e46 AD54 (j := ((Int32.ofNat ng) + (-1 : Int32))) (own_t1 (U := uu) (N := Nd) hK.hf hc180_4).2.2.1 (own_t1 (U := uu) (N := Nd) hK.hf hc180_4).2.2.2 (g := (mkF m 191 #[.val (.long i0), .second, .val (.int (Int32.ofNat (ng + Nd))), .val (.ref v2), .val (.long q4), .second, .val (.int r6), .val (.int ((Int32.ofNat ng) + (-1 : Int32))), .val (.int nf), .val (.int q9), .val (.int ii)] [(.int (45 : Int32)), (.int ((Int32.ofNat ng) + (-1 : Int32))), (.ref v2)])) rfl rfl (hb hby d24_191)
        refine Go.st st56 ?_
        have A_aO_56 := A_aO_46.other W56 (Ne.symm ne_v2_aO)
        have A_aT_56 := A_aT_46.other W56 (Ne.symm ne_v2_aT)
        have S_java_lang_Integer_DigitOnes_56 := S_java_lang_Integer_DigitOnes_46.wr W56
        have S_java_lang_Integer_DigitTens_56 := S_java_lang_Integer_DigitTens_46.wr W56
        have A_v2_56 : AI Z h56 v2 .byte ((List.replicate ng (0 : Int32) ++ own_dg uu Nd).set ((Int32.ofNat ng) + (-1 : Int32)).toNatClampNeg (45 : Int32)) := A56
        have K_56 : Keep h0 h56 [v2] := K_46.wr W56 (Or.inl (List.mem_of_getElem? (i := 0) rfl))
        have Z_56 : n0 ≤ h56.size := Nat.le_trans Z0 K_56.1
        have N56 := Fr.snoc X56 M46 g_v2
        clear A_aO_46 A_aT_46 S_java_lang_Integer_DigitOnes_46 S_java_lang_Integer_DigitTens_46 AD54 W56 st56 A56
        obtain ⟨G56, Y56, M56⟩ : ∃ L, Stand p l e ({ frames := 0, cells := 0, slots := 0, locals := 0 } : Room) s m #[(.long v0), (.int (Int32.ofNat (ng + Nd))), (.ref v2)] below meth c T56 L 0 0 ∧ Fr n0 L := ⟨_, X56, N56⟩
        clear X56 N56
        show Go p e below s _ _ _ T56 (mkF m 192 #[.val (.long i0), .second, .val (.int (Int32.ofNat (ng + Nd))), .val (.ref v2), .val (.long q4), .second, .val (.int r6), .val (.int ((Int32.ofNat ng) + (-1 : Int32))), .val (.int nf), .val (.int q9), .val (.int ii)] [])
        have AE57 : AI Z h56 v2 .byte (own_txt ng uu Nd) := (own_t1 hK.hf hc180_4).1 ▸ A_v2_56
        refine G_iload Y56 hx (pc' := 194) rfl (hb hby d24_192) rfl ?_
        refine Go.fin Y56 hlk (v := some (.int ((Int32.ofNat ng) + (-1 : Int32)))) (fun h => by rw [Bd.returns] at h; cases h) (by decide) (by decide) ?_ (fun fs hr => retOut Y56 hx Bd.returns rfl (Or.inl ⟨rfl, Or.inl rfl, _, rfl⟩) (hb hby d24_194) hr)
        show Q_getc Z v0 v2 uu Nd ng aO aT h0 n0 _ T56.heap _
        rw [e56]
        exact ⟨congrArg (fun z => some (Value.int z)) (own_t1 (U := uu) (N := Nd) hK.hf hc180_4).2.1, M56, K_56, AE57⟩
      refine G_icmpNo Xj hx (pc' := 93) rfl (hb hby d24_90) (flt hc90_1).2.2.1 ?_
      have hle := own_le2 hc90_1
      have hlq := own_iq hK.hz (by omega)
      obtain ⟨hk2, d, rfl, hd, hK2⟩ := own_q1 hP hK hle
      show Go p e below s _ _ _ Tj (mkF m 93 #[.val (.long i0), .second, .val (.int (Int32.ofNat (ng + Nd))), .val (.ref v2), .val (.long q4), .second, .val (.int r6), .val (.int (Int32.ofNat (d + 2))), .val (.int nf), .val (.int q9), .val (.int ii)] [])
      refine G_iload Xj hx (pc' := 95) rfl (hb hby d24_93) rfl ?_
      refine G_bipush Xj hx (pc' := 97) rfl (hb hby d24_95) (z := (100 : Int32)) rfl ?_
      refine G_idiv Xj hx (pc' := 98) rfl (hb hby d24_97) (by decide) ?_
      refine G_istore Xj hx (pc' := 100) rfl (hb hby d24_98) (L' := #[.val (.long i0), .second, .val (.int (Int32.ofNat (ng + Nd))), .val (.ref v2), .val (.long q4), .second, .val (.int r6), .val (.int (Int32.ofNat (d + 2))), .val (.int nf), .val (.int (ii / (100 : Int32))), .val (.int ii)]) rfl ?_
      obtain ⟨qq, h_qq⟩ : ∃ z : Int32, (ii / (100 : Int32)) = z := ⟨_, rfl⟩
      rw [h_qq] at hlq
      rw [h_qq]
      show Go p e below s _ _ _ Tj (mkF m 100 #[.val (.long i0), .second, .val (.int (Int32.ofNat (ng + Nd))), .val (.ref v2), .val (.long q4), .second, .val (.int r6), .val (.int (Int32.ofNat (d + 2))), .val (.int nf), .val (.int qq), .val (.int ii)] [])
      refine G_iload Xj hx (pc' := 102) rfl (hb hby d24_100) rfl ?_
      refine G_bipush Xj hx (pc' := 104) rfl (hb hby d24_102) (z := (100 : Int32)) rfl ?_
      refine G_imul Xj hx (pc' := 105) rfl (hb hby d24_104)  ?_
      refine G_iload Xj hx (pc' := 107) rfl (hb hby d24_105) rfl ?_
      refine G_isub Xj hx (pc' := 108) rfl (hb hby d24_107)  ?_
      refine G_istore Xj hx (pc' := 110) rfl (hb hby d24_108) (L' := #[.val (.long i0), .second, .val (.int (Int32.ofNat (ng + Nd))), .val (.ref v2), .val (.long q4), .second, .val (.int ((qq * (100 : Int32)) - ii)), .val (.int (Int32.ofNat (d + 2))), .val (.int nf), .val (.int qq), .val (.int ii)]) rfl ?_
      obtain ⟨rr, h_rr⟩ : ∃ z : Int32, ((qq * (100 : Int32)) - ii) = z := ⟨_, rfl⟩
      rw [h_rr] at hlq
      rw [h_rr]
      show Go p e below s _ _ _ Tj (mkF m 110 #[.val (.long i0), .second, .val (.int (Int32.ofNat (ng + Nd))), .val (.ref v2), .val (.long q4), .second, .val (.int rr), .val (.int (Int32.ofNat (d + 2))), .val (.int nf), .val (.int qq), .val (.int ii)] [])
      refine G_iload Xj hx (pc' := 112) rfl (hb hby d24_110) rfl ?_
      refine G_istore Xj hx (pc' := 114) rfl (hb hby d24_112) (L' := #[.val (.long i0), .second, .val (.int (Int32.ofNat (ng + Nd))), .val (.ref v2), .val (.long q4), .second, .val (.int rr), .val (.int (Int32.ofNat (d + 2))), .val (.int nf), .val (.int qq), .val (.int qq)]) rfl ?_
      refine G_aloadN Xj hx (pc' := 115) rfl (hb hby d24_114) rfl rfl ?_
      refine G_iinc Xj hx (pc' := 118) rfl (hb hby d24_115) rfl (z := ((Int32.ofNat (d + 2)) + (-1 : Int32))) rfl (L' := #[.val (.long i0), .second, .val (.int (Int32.ofNat (ng + Nd))), .val (.ref v2), .val (.long q4), .second, .val (.int rr), .val (.int ((Int32.ofNat (d + 2)) + (-1 : Int32))), .val (.int nf), .val (.int qq), .val (.int qq)]) rfl ?_
      rw [own_decA hd]
      show Go p e below s _ _ _ Tj (mkF m 118 #[.val (.long i0), .second, .val (.int (Int32.ofNat (ng + Nd))), .val (.ref v2), .val (.long q4), .second, .val (.int rr), .val (.int (Int32.ofNat (d + 1))), .val (.int nf), .val (.int qq), .val (.int qq)] [(.ref v2)])
      refine G_iload Xj hx (pc' := 120) rfl (hb hby d24_118) rfl ?_
      obtain ⟨T58, X58, e58, st58⟩ := getS2 Xj hx hZ hown (host := "") (Or.inl (own_w hw 84 rfl)) Via.refl ej FSo (g := (mkF m 120 #[.val (.long i0), .second, .val (.int (Int32.ofNat (ng + Nd))), .val (.ref v2), .val (.long q4), .second, .val (.int rr), .val (.int (Int32.ofNat (d + 1))), .val (.int nf), .val (.int qq), .val (.int qq)] [(.int (Int32.ofNat (d + 1))), (.ref v2)])) rfl (hb hby d24_120)
      refine Go.st st58 ?_
      show Go p e below s _ _ _ T58 (mkF m 123 #[.val (.long i0), .second, .val (.int (Int32.ofNat (ng + Nd))), .val (.ref v2), .val (.long q4), .second, .val (.int rr), .val (.int (Int32.ofNat (d + 1))), .val (.int nf), .val (.int qq), .val (.int qq)] [(.ref aO), (.int (Int32.ofNat (d + 1))), (.ref v2)])
      refine G_iload X58 hx (pc' := 125) rfl (hb hby d24_123) rfl ?_
      refine Go.st (ldAB X58 hx hZ e58 FO (j := rr) (own_rd (k := kk) (U := uu) hlq.2).1 (own_rd (k := kk) (U := uu) hlq.2).2.1 (g := (mkF m 125 #[.val (.long i0), .second, .val (.int (Int32.ofNat (ng + Nd))), .val (.ref v2), .val (.long q4), .second, .val (.int rr), .val (.int (Int32.ofNat (d + 1))), .val (.int nf), .val (.int qq), .val (.int qq)] [(.int rr), (.ref aO), (.int (Int32.ofNat (d + 1))), (.ref v2)])) rfl rfl (hb hby d24_125)) ?_
      show Go p e below s _ _ _ T58 (mkF m 126 #[.val (.long i0), .second, .val (.int (Int32.ofNat (ng + Nd))), .val (.ref v2), .val (.long q4), .second, .val (.int rr), .val (.int (Int32.ofNat (d + 1))), .val (.int nf), .val (.int qq), .val (.int qq)] [(.int (own_ones.getD rr.toNatClampNeg 0)), (.int (Int32.ofNat (d + 1))), (.ref v2)])
      obtain ⟨T59, h59, X59, e59, W59, A59, st59⟩ := stAB X58 hx hZ e58 FA (j := (Int32.ofNat (d + 1))) (own_px (by omega : d + 1 ≤ 19) []).1 (own_px (by omega : d + 1 ≤ 19) _).2 (g := (mkF m 126 #[.val (.long i0), .second, .val (.int (Int32.ofNat (ng + Nd))), .val (.ref v2), .val (.long q4), .second, .val (.int rr), .val (.int (Int32.ofNat (d + 1))), .val (.int nf), .val (.int qq), .val (.int qq)] [(.int (own_ones.getD rr.toNatClampNeg 0)), (.int (Int32.ofNat (d + 1))), (.ref v2)])) rfl rfl (hb hby d24_126)
      refine Go.st st59 ?_
      have A_aO_59 := FO.other W59 (Ne.symm ne_v2_aO)
      have A_aT_59 := FT.other W59 (Ne.symm ne_v2_aT)
      have S_java_lang_Integer_DigitOnes_59 := FSo.wr W59
      have S_java_lang_Integer_DigitTens_59 := FSt.wr W59
      have A_v2_59 : AI Z h59 v2 .byte ((List.replicate (d + 2) (0 : Int32) ++ own_dg uu kk).set (Int32.ofNat (d + 1)).toNatClampNeg ((own_ones.getD rr.toNatClampNeg 0).toInt8.toInt32)) := A59
      have K_59 : Keep h0 h59 [v2] := Kj.wr W59 (Or.inl (List.mem_of_getElem? (i := 0) rfl))
      have Z_59 : n0 ≤ h59.size := Nat.le_trans Z0 K_59.1
      have N59 := Fr.snoc X59 Nj g_v2
      clear FA FO FT FSo FSt W59 st59 A59
      obtain ⟨G59, Y59, M59⟩ : ∃ L, Stand p l e ({ frames := 0, cells := 0, slots := 0, locals := 0 } : Room) s m #[(.long v0), (.int (Int32.ofNat (ng + Nd))), (.ref v2)] below meth c T59 L 0 0 ∧ Fr n0 L := ⟨_, X59, N59⟩
      clear X59 N59
      show Go p e below s _ _ _ T59 (mkF m 127 #[.val (.long i0), .second, .val (.int (Int32.ofNat (ng + Nd))), .val (.ref v2), .val (.long q4), .second, .val (.int rr), .val (.int (Int32.ofNat (d + 1))), .val (.int nf), .val (.int qq), .val (.int qq)] [])
      have AC60 : AI Z h59 v2 .byte (List.replicate (d + 1) (0 : Int32) ++ (Int32.ofNat (48 + uu / 10 ^ kk % 10)) :: own_dg uu kk) := own_sx (by omega : d + 1 ≤ 19) _ (own_rd (k := kk) (U := uu) hlq.2).2.2.2.1 ▸ A_v2_59
      refine G_aloadN Y59 hx (pc' := 128) rfl (hb hby d24_127) rfl rfl ?_
      refine G_iinc Y59 hx (pc' := 131) rfl (hb hby d24_128) rfl (z := ((Int32.ofNat (d + 1)) + (-1 : Int32))) rfl (L' := #[.val (.long i0), .second, .val (.int (Int32.ofNat (ng + Nd))), .val (.ref v2), .val (.long q4), .second, .val (.int rr), .val (.int ((Int32.ofNat (d + 1)) + (-1 : Int32))), .val (.int nf), .val (.int qq), .val (.int qq)]) rfl ?_
      rw [own_decB (by omega : d ≤ 19)]
      show Go p e below s _ _ _ T59 (mkF m 131 #[.val (.long i0), .second, .val (.int (Int32.ofNat (ng + Nd))), .val (.ref v2), .val (.long q4), .second, .val (.int rr), .val (.int (Int32.ofNat d)), .val (.int nf), .val (.int qq), .val (.int qq)] [(.ref v2)])
      refine G_iload Y59 hx (pc' := 133) rfl (hb hby d24_131) rfl ?_
      obtain ⟨T61, X61, e61, st61⟩ := getS2 Y59 hx hZ hown (host := "") (Or.inl (own_w hw 155 rfl)) Via.refl e59 S_java_lang_Integer_DigitTens_59 (g := (mkF m 133 #[.val (.long i0), .second, .val (.int (Int32.ofNat (ng + Nd))), .val (.ref v2), .val (.long q4), .second, .val (.int rr), .val (.int (Int32.ofNat d)), .val (.int nf), .val (.int qq), .val (.int qq)] [(.int (Int32.ofNat d)), (.ref v2)])) rfl (hb hby d24_133)
      refine Go.st st61 ?_
      show Go p e below s _ _ _ T61 (mkF m 136 #[.val (.long i0), .second, .val (.int (Int32.ofNat (ng + Nd))), .val (.ref v2), .val (.long q4), .second, .val (.int rr), .val (.int (Int32.ofNat d)), .val (.int nf), .val (.int qq), .val (.int qq)] [(.ref aT), (.int (Int32.ofNat d)), (.ref v2)])
      refine G_iload X61 hx (pc' := 138) rfl (hb hby d24_136) rfl ?_
      refine Go.st (ldAB X61 hx hZ e61 A_aT_59 (j := rr) (own_rd (k := kk) (U := uu) hlq.2).1 (own_rd (k := kk) (U := uu) hlq.2).2.2.1 (g := (mkF m 138 #[.val (.long i0), .second, .val (.int (Int32.ofNat (ng + Nd))), .val (.ref v2), .val (.long q4), .second, .val (.int rr), .val (.int (Int32.ofNat d)), .val (.int nf), .val (.int qq), .val (.int qq)] [(.int rr), (.ref aT), (.int (Int32.ofNat d)), (.ref v2)])) rfl rfl (hb hby d24_138)) ?_
      show Go p e below s _ _ _ T61 (mkF m 139 #[.val (.long i0), .second, .val (.int (Int32.ofNat (ng + Nd))), .val (.ref v2), .val (.long q4), .second, .val (.int rr), .val (.int (Int32.ofNat d)), .val (.int nf), .val (.int qq), .val (.int qq)] [(.int (own_tens.getD rr.toNatClampNeg 0)), (.int (Int32.ofNat d)), (.ref v2)])
      obtain ⟨T62, h62, X62, e62, W62, A62, st62⟩ := stAB X61 hx hZ e61 AC60 (j := (Int32.ofNat d)) (own_px (by omega : d ≤ 19) []).1 (own_px (by omega : d ≤ 19) _).2 (g := (mkF m 139 #[.val (.long i0), .second, .val (.int (Int32.ofNat (ng + Nd))), .val (.ref v2), .val (.long q4), .second, .val (.int rr), .val (.int (Int32.ofNat d)), .val (.int nf), .val (.int qq), .val (.int qq)] [(.int (own_tens.getD rr.toNatClampNeg 0)), (.int (Int32.ofNat d)), (.ref v2)])) rfl rfl (hb hby d24_139)
      refine Go.st st62 ?_
      have A_aO_62 := A_aO_59.other W62 (Ne.symm ne_v2_aO)
      have A_aT_62 := A_aT_59.other W62 (Ne.symm ne_v2_aT)
      have S_java_lang_Integer_DigitOnes_62 := S_java_lang_Integer_DigitOnes_59.wr W62
      have S_java_lang_Integer_DigitTens_62 := S_java_lang_Integer_DigitTens_59.wr W62
      have A_v2_62 : AI Z h62 v2 .byte ((List.replicate (d + 1) (0 : Int32) ++ (Int32.ofNat (48 + uu / 10 ^ kk % 10)) :: own_dg uu kk).set (Int32.ofNat d).toNatClampNeg ((own_tens.getD rr.toNatClampNeg 0).toInt8.toInt32)) := A62
      have K_62 : Keep h0 h62 [v2] := K_59.wr W62 (Or.inl (List.mem_of_getElem? (i := 0) rfl))
      have Z_62 : n0 ≤ h62.size := Nat.le_trans Z0 K_62.1
      have N62 := Fr.snoc X62 M59 g_v2
      clear A_aO_59 A_aT_59 S_java_lang_Integer_DigitOnes_59 S_java_lang_Integer_DigitTens_59 AC60 W62 st62 A62
      obtain ⟨G62, Y62, M62⟩ : ∃ L, Stand p l e ({ frames := 0, cells := 0, slots := 0, locals := 0 } : Room) s m #[(.long v0), (.int (Int32.ofNat (ng + Nd))), (.ref v2)] below meth c T62 L 0 0 ∧ Fr n0 L := ⟨_, X62, N62⟩
      clear X62 N62
      show Go p e below s _ _ _ T62 (mkF m 140 #[.val (.long i0), .second, .val (.int (Int32.ofNat (ng + Nd))), .val (.ref v2), .val (.long q4), .second, .val (.int rr), .val (.int (Int32.ofNat d)), .val (.int nf), .val (.int qq), .val (.int qq)] [])
      have AC63 : AI Z h62 v2 .byte (List.replicate d (0 : Int32) ++ own_dg uu (kk + 2)) := own_sx (by omega : d ≤ 19) ((Int32.ofNat (48 + uu / 10 ^ kk % 10)) :: own_dg uu kk) (own_rd (k := kk) (U := uu) hlq.2).2.2.2.2 ▸ A_v2_62
      refine G_goto Y62 hx (pc' := 86) (hb hby d24_140)  (by decide) (by decide) ?_
      exact ih (kk + 2) d nf qq i0 q4 rr qq _ _ _ Y62 e62 M62 K_62 Z_62 AC63 A_aO_62 A_aT_62 S_java_lang_Integer_DigitOnes_62 S_java_lang_Integer_DigitTens_62 (hlq.1 ▸ hK2) (by omega)
  have KB : ∀ (nn kk cc : Nat) (nf : Int32) (ii : Int32) (i0 : Int64) (q4 : Int64) (r6 : Int32) (T : State) (h : Heap) (L : List Loc) (X : Stand p l e ({ frames := 0, cells := 0, slots := 0, locals := 0 } : Room) s m #[(.long v0), (.int (Int32.ofNat (ng + Nd))), (.ref v2)] below meth c T L 0 0) (e1 : T.heap = h) (N_ : Fr n0 L) (K : Keep h0 h [v2]) (Zq : n0 ≤ h.size) (FA : AI Z h v2 .byte (List.replicate cc (0 : Int32) ++ own_dg uu kk)) (FO : AI Z h aO .byte own_ones) (FT : AI Z h aT .byte own_tens) (FSo : Sta Z h "java/lang/Integer" "DigitOnes" "[B" (.ref aO)) (FSt : Sta Z h "java/lang/Integer" "DigitTens" "[B" (.ref aT)) (hK : own_K uu Nd ng nf kk cc ii.toInt) (hn : Nd ≤ kk + nn), Go p e below s ({ frames := 0, cells := 0, slots := 0, locals := 0 } : Room).cells ({ frames := 0, cells := 0, slots := 0, locals := 0 } : Room).slots (Q_getc Z v0 v2 uu Nd ng aO aT h0 n0) T (mkF m 86 #[.val (.long i0), .second, .val (.int (Int32.ofNat (ng + Nd))), .val (.ref v2), .val (.long q4), .second, .val (.int r6), .val (.int (Int32.ofNat cc)), .val (.int nf), .unset, .val (.int ii)] []) := by
    intro nn
    intro kk cc nf ii i0 q4 r6 Tj hj Lj Xj ej Nj Kj Zj FA FO FT FSo FSt hK hn
    refine G_iload Xj hx (pc' := 88) rfl (hb hby d24_86) rfl ?_
    refine G_bipush Xj hx (pc' := 90) rfl (hb hby d24_88) (z := (-100 : Int32)) rfl ?_
    by_cases hc90_5 : (-100 : Int32) < ii
    · refine G_icmpYes Xj hx (pc' := 143) (hb hby d24_90) (tlt hc90_5).2.2.1 (by decide) (by decide) ?_
      have hgt := own_gt2 hc90_5
      have hr := own_ng hK.hz hgt
      obtain ⟨d, rfl, hd⟩ := own_c1 hP hK
      show Go p e below s _ _ _ Tj (mkF m 143 #[.val (.long i0), .second, .val (.int (Int32.ofNat (ng + Nd))), .val (.ref v2), .val (.long q4), .second, .val (.int r6), .val (.int (Int32.ofNat (d + 1))), .val (.int nf), .unset, .val (.int ii)] [])
      refine G_aloadN Xj hx (pc' := 144) rfl (hb hby d24_143) rfl rfl ?_
      refine G_iinc Xj hx (pc' := 147) rfl (hb hby d24_144) rfl (z := ((Int32.ofNat (d + 1)) + (-1 : Int32))) rfl (L' := #[.val (.long i0), .second, .val (.int (Int32.ofNat (ng + Nd))), .val (.ref v2), .val (.long q4), .second, .val (.int r6), .val (.int ((Int32.ofNat (d + 1)) + (-1 : Int32))), .val (.int nf), .unset, .val (.int ii)]) rfl ?_
      rw [own_decB hd]
      show Go p e below s _ _ _ Tj (mkF m 147 #[.val (.long i0), .second, .val (.int (Int32.ofNat (ng + Nd))), .val (.ref v2), .val (.long q4), .second, .val (.int r6), .val (.int (Int32.ofNat d)), .val (.int nf), .unset, .val (.int ii)] [(.ref v2)])
      refine G_iload Xj hx (pc' := 149) rfl (hb hby d24_147) rfl ?_
      obtain ⟨T64, X64, e64, st64⟩ := getS2 Xj hx hZ hown (host := "") (Or.inl (own_w hw 84 rfl)) Via.refl ej FSo (g := (mkF m 149 #[.val (.long i0), .second, .val (.int (Int32.ofNat (ng + Nd))), .val (.ref v2), .val (.long q4), .second, .val (.int r6), .val (.int (Int32.ofNat d)), .val (.int nf), .unset, .val (.int ii)] [(.int (Int32.ofNat d)), (.ref v2)])) rfl (hb hby d24_149)
      refine Go.st st64 ?_
      show Go p e below s _ _ _ T64 (mkF m 152 #[.val (.long i0), .second, .val (.int (Int32.ofNat (ng + Nd))), .val (.ref v2), .val (.long q4), .second, .val (.int r6), .val (.int (Int32.ofNat d)), .val (.int nf), .unset, .val (.int ii)] [(.ref aO), (.int (Int32.ofNat d)), (.ref v2)])
      refine G_iload X64 hx (pc' := 154) rfl (hb hby d24_152) rfl ?_
      refine G_ineg X64 hx (pc' := 155) rfl (hb hby d24_154)  ?_
      refine Go.st (ldAB X64 hx hZ e64 FO (j := (-ii)) (own_rd (k := kk) (U := uu) hr).1 (own_rd (k := kk) (U := uu) hr).2.1 (g := (mkF m 155 #[.val (.long i0), .second, .val (.int (Int32.ofNat (ng + Nd))), .val (.ref v2), .val (.long q4), .second, .val (.int r6), .val (.int (Int32.ofNat d)), .val (.int nf), .unset, .val (.int ii)] [(.int (-ii)), (.ref aO), (.int (Int32.ofNat d)), (.ref v2)])) rfl rfl (hb hby d24_155)) ?_
      show Go p e below s _ _ _ T64 (mkF m 156 #[.val (.long i0), .second, .val (.int (Int32.ofNat (ng + Nd))), .val (.ref v2), .val (.long q4), .second, .val (.int r6), .val (.int (Int32.ofNat d)), .val (.int nf), .unset, .val (.int ii)] [(.int (own_ones.getD (-ii).toNatClampNeg 0)), (.int (Int32.ofNat d)), (.ref v2)])
      obtain ⟨T65, h65, X65, e65, W65, A65, st65⟩ := stAB X64 hx hZ e64 FA (j := (Int32.ofNat d)) (own_px hd []).1 (own_px hd _).2 (g := (mkF m 156 #[.val (.long i0), .second, .val (.int (Int32.ofNat (ng + Nd))), .val (.ref v2), .val (.long q4), .second, .val (.int r6), .val (.int (Int32.ofNat d)), .val (.int nf), .unset, .val (.int ii)] [(.int (own_ones.getD (-ii).toNatClampNeg 0)), (.int (Int32.ofNat d)), (.ref v2)])) rfl rfl (hb hby d24_156)
      refine Go.st st65 ?_
      have A_aO_65 := FO.other W65 (Ne.symm ne_v2_aO)
      have A_aT_65 := FT.other W65 (Ne.symm ne_v2_aT)
      have S_java_lang_Integer_DigitOnes_65 := FSo.wr W65
      have S_java_lang_Integer_DigitTens_65 := FSt.wr W65
      have A_v2_65 : AI Z h65 v2 .byte ((List.replicate (d + 1) (0 : Int32) ++ own_dg uu kk).set (Int32.ofNat d).toNatClampNeg ((own_ones.getD (-ii).toNatClampNeg 0).toInt8.toInt32)) := A65
      have K_65 : Keep h0 h65 [v2] := Kj.wr W65 (Or.inl (List.mem_of_getElem? (i := 0) rfl))
      have Z_65 : n0 ≤ h65.size := Nat.le_trans Z0 K_65.1
      have N65 := Fr.snoc X65 Nj g_v2
      clear FA FO FT FSo FSt W65 st65 A65
      obtain ⟨G65, Y65, M65⟩ : ∃ L, Stand p l e ({ frames := 0, cells := 0, slots := 0, locals := 0 } : Room) s m #[(.long v0), (.int (Int32.ofNat (ng + Nd))), (.ref v2)] below meth c T65 L 0 0 ∧ Fr n0 L := ⟨_, X65, N65⟩
      clear X65 N65
      show Go p e below s _ _ _ T65 (mkF m 157 #[.val (.long i0), .second, .val (.int (Int32.ofNat (ng + Nd))), .val (.ref v2), .val (.long q4), .second, .val (.int r6), .val (.int (Int32.ofNat d)), .val (.int nf), .unset, .val (.int ii)] [])
      have AC66 : AI Z h65 v2 .byte (List.replicate d (0 : Int32) ++ (Int32.ofNat (48 + uu / 10 ^ kk % 10)) :: own_dg uu kk) := own_sx hd _ (own_rd (k := kk) (U := uu) hr).2.2.2.1 ▸ A_v2_65
      refine G_iload Y65 hx (pc' := 159) rfl (hb hby d24_157) rfl ?_
      refine G_bipush Y65 hx (pc' := 161) rfl (hb hby d24_159) (z := (-9 : Int32)) rfl ?_
      by_cases hc161_6 : ii < (-9 : Int32)
      · refine G_icmpNo Y65 hx (pc' := 164) rfl (hb hby d24_161) (tlt hc161_6).2.1 ?_
        have hE := own_e2 hP hK hgt (own_le9 hc161_6)
        obtain rfl : d = ng + 1 := by omega
        show Go p e below s _ _ _ T65 (mkF m 164 #[.val (.long i0), .second, .val (.int (Int32.ofNat (ng + Nd))), .val (.ref v2), .val (.long q4), .second, .val (.int r6), .val (.int (Int32.ofNat (ng + 1))), .val (.int nf), .unset, .val (.int ii)] [])
        refine G_aloadN Y65 hx (pc' := 165) rfl (hb hby d24_164) rfl rfl ?_
        refine G_iinc Y65 hx (pc' := 168) rfl (hb hby d24_165) rfl (z := ((Int32.ofNat (ng + 1)) + (-1 : Int32))) rfl (L' := #[.val (.long i0), .second, .val (.int (Int32.ofNat (ng + Nd))), .val (.ref v2), .val (.long q4), .second, .val (.int r6), .val (.int ((Int32.ofNat (ng + 1)) + (-1 : Int32))), .val (.int nf), .unset, .val (.int ii)]) rfl ?_
        rw [own_decB (by omega : ng ≤ 19)]
        show Go p e below s _ _ _ T65 (mkF m 168 #[.val (.long i0), .second, .val (.int (Int32.ofNat (ng + Nd))), .val (.ref v2), .val (.long q4), .second, .val (.int r6), .val (.int (Int32.ofNat ng)), .val (.int nf), .unset, .val (.int ii)] [(.ref v2)])
        refine G_iload Y65 hx (pc' := 170) rfl (hb hby d24_168) rfl ?_
        obtain ⟨T67, X67, e67, st67⟩ := getS2 Y65 hx hZ hown (host := "") (Or.inl (own_w hw 155 rfl)) Via.refl e65 S_java_lang_Integer_DigitTens_65 (g := (mkF m 170 #[.val (.long i0), .second, .val (.int (Int32.ofNat (ng + Nd))), .val (.ref v2), .val (.long q4), .second, .val (.int r6), .val (.int (Int32.ofNat ng)), .val (.int nf), .unset, .val (.int ii)] [(.int (Int32.ofNat ng)), (.ref v2)])) rfl (hb hby d24_170)
        refine Go.st st67 ?_
        show Go p e below s _ _ _ T67 (mkF m 173 #[.val (.long i0), .second, .val (.int (Int32.ofNat (ng + Nd))), .val (.ref v2), .val (.long q4), .second, .val (.int r6), .val (.int (Int32.ofNat ng)), .val (.int nf), .unset, .val (.int ii)] [(.ref aT), (.int (Int32.ofNat ng)), (.ref v2)])
        refine G_iload X67 hx (pc' := 175) rfl (hb hby d24_173) rfl ?_
        refine G_ineg X67 hx (pc' := 176) rfl (hb hby d24_175)  ?_
        refine Go.st (ldAB X67 hx hZ e67 A_aT_65 (j := (-ii)) (own_rd (k := kk) (U := uu) hr).1 (own_rd (k := kk) (U := uu) hr).2.2.1 (g := (mkF m 176 #[.val (.long i0), .second, .val (.int (Int32.ofNat (ng + Nd))), .val (.ref v2), .val (.long q4), .second, .val (.int r6), .val (.int (Int32.ofNat ng)), .val (.int nf), .unset, .val (.int ii)] [(.int (-ii)), (.ref aT), (.int (Int32.ofNat ng)), (.ref v2)])) rfl rfl (hb hby d24_176)) ?_
        show Go p e below s _ _ _ T67 (mkF m 177 #[.val (.long i0), .second, .val (.int (Int32.ofNat (ng + Nd))), .val (.ref v2), .val (.long q4), .second, .val (.int r6), .val (.int (Int32.ofNat ng)), .val (.int nf), .unset, .val (.int ii)] [(.int (own_tens.getD (-ii).toNatClampNeg 0)), (.int (Int32.ofNat ng)), (.ref v2)])
        obtain ⟨T68, h68, X68, e68, W68, A68, st68⟩ := stAB X67 hx hZ e67 AC66 (j := (Int32.ofNat ng)) (own_px (by omega : ng ≤ 19) []).1 (own_px (by omega : ng ≤ 19) _).2 (g := (mkF m 177 #[.val (.long i0), .second, .val (.int (Int32.ofNat (ng + Nd))), .val (.ref v2), .val (.long q4), .second, .val (.int r6), .val (.int (Int32.ofNat ng)), .val (.int nf), .unset, .val (.int ii)] [(.int (own_tens.getD (-ii).toNatClampNeg 0)), (.int (Int32.ofNat ng)), (.ref v2)])) rfl rfl (hb hby d24_177)
        refine Go.st st68 ?_
        have A_aO_68 := A_aO_65.other W68 (Ne.symm ne_v2_aO)
        have A_aT_68 := A_aT_65.other W68 (Ne.symm ne_v2_aT)
        have S_java_lang_Integer_DigitOnes_68 := S_java_lang_Integer_DigitOnes_65.wr W68
        have S_java_lang_Integer_DigitTens_68 := S_java_lang_Integer_DigitTens_65.wr W68
        have A_v2_68 : AI Z h68 v2 .byte ((List.replicate (ng + 1) (0 : Int32) ++ (Int32.ofNat (48 + uu / 10 ^ kk % 10)) :: own_dg uu kk).set (Int32.ofNat ng).toNatClampNeg ((own_tens.getD (-ii).toNatClampNeg 0).toInt8.toInt32)) := A68
        have K_68 : Keep h0 h68 [v2] := K_65.wr W68 (Or.inl (List.mem_of_getElem? (i := 0) rfl))
        have Z_68 : n0 ≤ h68.size := Nat.le_trans Z0 K_68.1
        have N68 := Fr.snoc X68 M65 g_v2
        clear A_aO_65 A_aT_65 S_java_lang_Integer_DigitOnes_65 S_java_lang_Integer_DigitTens_65 AC66 W68 st68 A68
        obtain ⟨G68, Y68, M68⟩ : ∃ L, Stand p l e ({ frames := 0, cells := 0, slots := 0, locals := 0 } : Room) s m #[(.long v0), (.int (Int32.ofNat (ng + Nd))), (.ref v2)] below meth c T68 L 0 0 ∧ Fr n0 L := ⟨_, X68, N68⟩
        clear X68 N68
        show Go p e below s _ _ _ T68 (mkF m 178 #[.val (.long i0), .second, .val (.int (Int32.ofNat (ng + Nd))), .val (.ref v2), .val (.long q4), .second, .val (.int r6), .val (.int (Int32.ofNat ng)), .val (.int nf), .unset, .val (.int ii)] [])
        have AD69 : AI Z h68 v2 .byte (List.replicate ng (0 : Int32) ++ own_dg uu (kk + 2)) := own_sx (by omega : ng ≤ 19) ((Int32.ofNat (48 + uu / 10 ^ kk % 10)) :: own_dg uu kk) (own_rd (k := kk) (U := uu) hr).2.2.2.2 ▸ A_v2_68
        rw [← hE.1] at AD69
        show Go p e below s _ _ _ T68 (mkF m 178 #[.val (.long i0), .second, .val (.int (Int32.ofNat (ng + Nd))), .val (.ref v2), .val (.long q4), .second, .val (.int r6), .val (.int (Int32.ofNat ng)), .val (.int nf), .unset, .val (.int ii)] [])
        refine G_iload Y68 hx (pc' := 180) rfl (hb hby d24_178) rfl ?_
        by_cases hc180_7 : nf = (0 : Int32)
        · refine G_ifYes Y68 hx (pc' := 192) (hb hby d24_180) ((if0 _ _).trans (teq hc180_7).1) (by decide) (by decide) ?_
          have AE70 : AI Z h68 v2 .byte (own_txt ng uu Nd) := (own_t0 hK.hf hc180_7).1 ▸ AD69
          refine G_iload Y68 hx (pc' := 194) rfl (hb hby d24_192) rfl ?_
          refine Go.fin Y68 hlk (v := some (.int (Int32.ofNat ng))) (fun h => by rw [Bd.returns] at h; cases h) (by decide) (by decide) ?_ (fun fs hr => retOut Y68 hx Bd.returns rfl (Or.inl ⟨rfl, Or.inl rfl, _, rfl⟩) (hb hby d24_194) hr)
          show Q_getc Z v0 v2 uu Nd ng aO aT h0 n0 _ T68.heap _
          rw [e68]
          exact ⟨congrArg (fun z => some (Value.int z)) (own_t0 (U := uu) (N := Nd) hK.hf hc180_7).2, M68, K_68, AE70⟩
        refine G_ifNo Y68 hx (pc' := 183) rfl (hb hby d24_180) ((if0 _ _).trans (feq hc180_7).1) ?_
        refine G_aloadN Y68 hx (pc' := 184) rfl (hb hby d24_183) rfl rfl ?_
        refine G_iinc Y68 hx (pc' := 187) rfl (hb hby d24_184) rfl (z := ((Int32.ofNat ng) + (-1 : Int32))) rfl (L' := #[.val (.long i0), .second, .val (.int (Int32.ofNat (ng + Nd))), .val (.ref v2), .val (.long q4), .second, .val (.int r6), .val (.int ((Int32.ofNat ng) + (-1 : Int32))), .val (.int nf), .unset, .val (.int ii)]) rfl ?_
        refine G_iload Y68 hx (pc' := 189) rfl (hb hby d24_187) rfl ?_
        refine G_bipush Y68 hx (pc' := 191) rfl (hb hby d24_189) (z := (45 : Int32)) rfl ?_
        obtain ⟨T71, h71, X71, e71, W71, A71, st71⟩ := stAB Y68 hx hZ e68 AD69 (j := ((Int32.ofNat ng) + (-1 : Int32))) (own_t1 (U := uu) (N := Nd) hK.hf hc180_7).2.2.1 (own_t1 (U := uu) (N := Nd) hK.hf hc180_7).2.2.2 (g := (mkF m 191 #[.val (.long i0), .second, .val (.int (Int32.ofNat (ng + Nd))), .val (.ref v2), .val (.long q4), .second, .val (.int r6), .val (.int ((Int32.ofNat ng) + (-1 : Int32))), .val (.int nf), .unset, .val (.int ii)] [(.int (45 : Int32)), (.int ((Int32.ofNat ng) + (-1 : Int32))), (.ref v2)])) rfl rfl (hb hby d24_191)
        refine Go.st st71 ?_
        have A_aO_71 := A_aO_68.other W71 (Ne.symm ne_v2_aO)
        have A_aT_71 := A_aT_68.other W71 (Ne.symm ne_v2_aT)
        have S_java_lang_Integer_DigitOnes_71 := S_java_lang_Integer_DigitOnes_68.wr W71
        have S_java_lang_Integer_DigitTens_71 := S_java_lang_Integer_DigitTens_68.wr W71
        have A_v2_71 : AI Z h71 v2 .byte ((List.replicate ng (0 : Int32) ++ own_dg uu Nd).set ((Int32.ofNat ng) + (-1 : Int32)).toNatClampNeg (45 : Int32)) := A71
        have K_71 : Keep h0 h71 [v2] := K_68.wr W71 (Or.inl (List.mem_of_getElem? (i := 0) rfl))
        have Z_71 : n0 ≤ h71.size := Nat.le_trans Z0 K_71.1
        have N71 := Fr.snoc X71 M68 g_v2
        clear A_aO_68 A_aT_68 S_java_lang_Integer_DigitOnes_68 S_java_lang_Integer_DigitTens_68 AD69 W71 st71 A71
        obtain ⟨G71, Y71, M71⟩ : ∃ L, Stand p l e ({ frames := 0, cells := 0, slots := 0, locals := 0 } : Room) s m #[(.long v0), (.int (Int32.ofNat (ng + Nd))), (.ref v2)] below meth c T71 L 0 0 ∧ Fr n0 L := ⟨_, X71, N71⟩
        clear X71 N71
        show Go p e below s _ _ _ T71 (mkF m 192 #[.val (.long i0), .second, .val (.int (Int32.ofNat (ng + Nd))), .val (.ref v2), .val (.long q4), .second, .val (.int r6), .val (.int ((Int32.ofNat ng) + (-1 : Int32))), .val (.int nf), .unset, .val (.int ii)] [])
        have AE72 : AI Z h71 v2 .byte (own_txt ng uu Nd) := (own_t1 hK.hf hc180_7).1 ▸ A_v2_71
        refine G_iload Y71 hx (pc' := 194) rfl (hb hby d24_192) rfl ?_
        refine Go.fin Y71 hlk (v := some (.int ((Int32.ofNat ng) + (-1 : Int32)))) (fun h => by rw [Bd.returns] at h; cases h) (by decide) (by decide) ?_ (fun fs hr => retOut Y71 hx Bd.returns rfl (Or.inl ⟨rfl, Or.inl rfl, _, rfl⟩) (hb hby d24_194) hr)
        show Q_getc Z v0 v2 uu Nd ng aO aT h0 n0 _ T71.heap _
        rw [e71]
        exact ⟨congrArg (fun z => some (Value.int z)) (own_t1 (U := uu) (N := Nd) hK.hf hc180_7).2.1, M71, K_71, AE72⟩
      refine G_icmpYes Y65 hx (pc' := 178) (hb hby d24_161) (flt hc161_6).2.1 (by decide) (by decide) ?_
      have hE := own_e1 hP hK (own_gt9 hc161_6)
      obtain rfl : ng = d := by omega
      have AD73 : AI Z h65 v2 .byte (List.replicate ng (0 : Int32) ++ own_dg uu (kk + 1)) := AC66
      rw [← hE.1] at AD73
      show Go p e below s _ _ _ T65 (mkF m 178 #[.val (.long i0), .second, .val (.int (Int32.ofNat (ng + Nd))), .val (.ref v2), .val (.long q4), .second, .val (.int r6), .val (.int (Int32.ofNat ng)), .val (.int nf), .unset, .val (.int ii)] [])
      refine G_iload Y65 hx (pc' := 180) rfl (hb hby d24_178) rfl ?_
      by_cases hc180_8 : nf = (0 : Int32)
      · refine G_ifYes Y65 hx (pc' := 192) (hb hby d24_180) ((if0 _ _).trans (teq hc180_8).1) (by decide) (by decide) ?_
        have AE74 : AI Z h65 v2 .byte (own_txt ng uu Nd) := (own_t0 hK.hf hc180_8).1 ▸ AD73
        refine G_iload Y65 hx (pc' := 194) rfl (hb hby d24_192) rfl ?_
        refine Go.fin Y65 hlk (v := some (.int (Int32.ofNat ng))) (fun h => by rw [Bd.returns] at h; cases h) (by decide) (by decide) ?_ (fun fs hr => retOut Y65 hx Bd.returns rfl (Or.inl ⟨rfl, Or.inl rfl, _, rfl⟩) (hb hby d24_194) hr)
        show Q_getc Z v0 v2 uu Nd ng aO aT h0 n0 _ T65.heap _
        rw [e65]
        exact ⟨congrArg (fun z => some (Value.int z)) (own_t0 (U := uu) (N := Nd) hK.hf hc180_8).2, M65, K_65, AE74⟩
      refine G_ifNo Y65 hx (pc' := 183) rfl (hb hby d24_180) ((if0 _ _).trans (feq hc180_8).1) ?_
      refine G_aloadN Y65 hx (pc' := 184) rfl (hb hby d24_183) rfl rfl ?_
      refine G_iinc Y65 hx (pc' := 187) rfl (hb hby d24_184) rfl (z := ((Int32.ofNat ng) + (-1 : Int32))) rfl (L' := #[.val (.long i0), .second, .val (.int (Int32.ofNat (ng + Nd))), .val (.ref v2), .val (.long q4), .second, .val (.int r6), .val (.int ((Int32.ofNat ng) + (-1 : Int32))), .val (.int nf), .unset, .val (.int ii)]) rfl ?_
      refine G_iload Y65 hx (pc' := 189) rfl (hb hby d24_187) rfl ?_
      refine G_bipush Y65 hx (pc' := 191) rfl (hb hby d24_189) (z := (45 : Int32)) rfl ?_
      obtain ⟨T75, h75, X75, e75, W75, A75, st75⟩ := stAB Y65 hx hZ e65 AD73 (j := ((Int32.ofNat ng) + (-1 : Int32))) (own_t1 (U := uu) (N := Nd) hK.hf hc180_8).2.2.1 (own_t1 (U := uu) (N := Nd) hK.hf hc180_8).2.2.2 (g := (mkF m 191 #[.val (.long i0), .second, .val (.int (Int32.ofNat (ng + Nd))), .val (.ref v2), .val (.long q4), .second, .val (.int r6), .val (.int ((Int32.ofNat ng) + (-1 : Int32))), .val (.int nf), .unset, .val (.int ii)] [(.int (45 : Int32)), (.int ((Int32.ofNat ng) + (-1 : Int32))), (.ref v2)])) rfl rfl (hb hby d24_191)
      refine Go.st st75 ?_
      have A_aO_75 := A_aO_65.other W75 (Ne.symm ne_v2_aO)
      have A_aT_75 := A_aT_65.other W75 (Ne.symm ne_v2_aT)
      have S_java_lang_Integer_DigitOnes_75 := S_java_lang_Integer_DigitOnes_65.wr W75
      have S_java_lang_Integer_DigitTens_75 := S_java_lang_Integer_DigitTens_65.wr W75
      have A_v2_75 : AI Z h75 v2 .byte ((List.replicate ng (0 : Int32) ++ own_dg uu Nd).set ((Int32.ofNat ng) + (-1 : Int32)).toNatClampNeg (45 : Int32)) := A75
      have K_75 : Keep h0 h75 [v2] := K_65.wr W75 (Or.inl (List.mem_of_getElem? (i := 0) rfl))
      have Z_75 : n0 ≤ h75.size := Nat.le_trans Z0 K_75.1
      have N75 := Fr.snoc X75 M65 g_v2
      clear A_aO_65 A_aT_65 S_java_lang_Integer_DigitOnes_65 S_java_lang_Integer_DigitTens_65 AD73 W75 st75 A75
      obtain ⟨G75, Y75, M75⟩ : ∃ L, Stand p l e ({ frames := 0, cells := 0, slots := 0, locals := 0 } : Room) s m #[(.long v0), (.int (Int32.ofNat (ng + Nd))), (.ref v2)] below meth c T75 L 0 0 ∧ Fr n0 L := ⟨_, X75, N75⟩
      clear X75 N75
      show Go p e below s _ _ _ T75 (mkF m 192 #[.val (.long i0), .second, .val (.int (Int32.ofNat (ng + Nd))), .val (.ref v2), .val (.long q4), .second, .val (.int r6), .val (.int ((Int32.ofNat ng) + (-1 : Int32))), .val (.int nf), .unset, .val (.int ii)] [])
      have AE76 : AI Z h75 v2 .byte (own_txt ng uu Nd) := (own_t1 hK.hf hc180_8).1 ▸ A_v2_75
      refine G_iload Y75 hx (pc' := 194) rfl (hb hby d24_192) rfl ?_
      refine Go.fin Y75 hlk (v := some (.int ((Int32.ofNat ng) + (-1 : Int32)))) (fun h => by rw [Bd.returns] at h; cases h) (by decide) (by decide) ?_ (fun fs hr => retOut Y75 hx Bd.returns rfl (Or.inl ⟨rfl, Or.inl rfl, _, rfl⟩) (hb hby d24_194) hr)
      show Q_getc Z v0 v2 uu Nd ng aO aT h0 n0 _ T75.heap _
      rw [e75]
      exact ⟨congrArg (fun z => some (Value.int z)) (own_t1 (U := uu) (N := Nd) hK.hf hc180_8).2.1, M75, K_75, AE76⟩
    refine G_icmpNo Xj hx (pc' := 93) rfl (hb hby d24_90) (flt hc90_5).2.2.1 ?_
    have hle := own_le2 hc90_5
    have hlq := own_iq hK.hz (by omega)
    obtain ⟨hk2, d, rfl, hd, hK2⟩ := own_q1 hP hK hle
    show Go p e below s _ _ _ Tj (mkF m 93 #[.val (.long i0), .second, .val (.int (Int32.ofNat (ng + Nd))), .val (.ref v2), .val (.long q4), .second, .val (.int r6), .val (.int (Int32.ofNat (d + 2))), .val (.int nf), .unset, .val (.int ii)] [])
    refine G_iload Xj hx (pc' := 95) rfl (hb hby d24_93) rfl ?_
    refine G_bipush Xj hx (pc' := 97) rfl (hb hby d24_95) (z := (100 : Int32)) rfl ?_
    refine G_idiv Xj hx (pc' := 98) rfl (hb hby d24_97) (by decide) ?_
    refine G_istore Xj hx (pc' := 100) rfl (hb hby d24_98) (L' := #[.val (.long i0), .second, .val (.int (Int32.ofNat (ng + Nd))), .val (.ref v2), .val (.long q4), .second, .val (.int r6), .val (.int (Int32.ofNat (d + 2))), .val (.int nf), .val (.int (ii / (100 : Int32))), .val (.int ii)]) rfl ?_
    obtain ⟨qq, h_qq⟩ : ∃ z : Int32, (ii / (100 : Int32)) = z := ⟨_, rfl⟩
    rw [h_qq] at hlq
    rw [h_qq]
    show Go p e below s _ _ _ Tj (mkF m 100 #[.val (.long i0), .second, .val (.int (Int32.ofNat (ng + Nd))), .val (.ref v2), .val (.long q4), .second, .val (.int r6), .val (.int (Int32.ofNat (d + 2))), .val (.int nf), .val (.int qq), .val (.int ii)] [])
    refine G_iload Xj hx (pc' := 102) rfl (hb hby d24_100) rfl ?_
    refine G_bipush Xj hx (pc' := 104) rfl (hb hby d24_102) (z := (100 : Int32)) rfl ?_
    refine G_imul Xj hx (pc' := 105) rfl (hb hby d24_104)  ?_
    refine G_iload Xj hx (pc' := 107) rfl (hb hby d24_105) rfl ?_
    refine G_isub Xj hx (pc' := 108) rfl (hb hby d24_107)  ?_
    refine G_istore Xj hx (pc' := 110) rfl (hb hby d24_108) (L' := #[.val (.long i0), .second, .val (.int (Int32.ofNat (ng + Nd))), .val (.ref v2), .val (.long q4), .second, .val (.int ((qq * (100 : Int32)) - ii)), .val (.int (Int32.ofNat (d + 2))), .val (.int nf), .val (.int qq), .val (.int ii)]) rfl ?_
    obtain ⟨rr, h_rr⟩ : ∃ z : Int32, ((qq * (100 : Int32)) - ii) = z := ⟨_, rfl⟩
    rw [h_rr] at hlq
    rw [h_rr]
    show Go p e below s _ _ _ Tj (mkF m 110 #[.val (.long i0), .second, .val (.int (Int32.ofNat (ng + Nd))), .val (.ref v2), .val (.long q4), .second, .val (.int rr), .val (.int (Int32.ofNat (d + 2))), .val (.int nf), .val (.int qq), .val (.int ii)] [])
    refine G_iload Xj hx (pc' := 112) rfl (hb hby d24_110) rfl ?_
    refine G_istore Xj hx (pc' := 114) rfl (hb hby d24_112) (L' := #[.val (.long i0), .second, .val (.int (Int32.ofNat (ng + Nd))), .val (.ref v2), .val (.long q4), .second, .val (.int rr), .val (.int (Int32.ofNat (d + 2))), .val (.int nf), .val (.int qq), .val (.int qq)]) rfl ?_
    refine G_aloadN Xj hx (pc' := 115) rfl (hb hby d24_114) rfl rfl ?_
    refine G_iinc Xj hx (pc' := 118) rfl (hb hby d24_115) rfl (z := ((Int32.ofNat (d + 2)) + (-1 : Int32))) rfl (L' := #[.val (.long i0), .second, .val (.int (Int32.ofNat (ng + Nd))), .val (.ref v2), .val (.long q4), .second, .val (.int rr), .val (.int ((Int32.ofNat (d + 2)) + (-1 : Int32))), .val (.int nf), .val (.int qq), .val (.int qq)]) rfl ?_
    rw [own_decA hd]
    show Go p e below s _ _ _ Tj (mkF m 118 #[.val (.long i0), .second, .val (.int (Int32.ofNat (ng + Nd))), .val (.ref v2), .val (.long q4), .second, .val (.int rr), .val (.int (Int32.ofNat (d + 1))), .val (.int nf), .val (.int qq), .val (.int qq)] [(.ref v2)])
    refine G_iload Xj hx (pc' := 120) rfl (hb hby d24_118) rfl ?_
    obtain ⟨T77, X77, e77, st77⟩ := getS2 Xj hx hZ hown (host := "") (Or.inl (own_w hw 84 rfl)) Via.refl ej FSo (g := (mkF m 120 #[.val (.long i0), .second, .val (.int (Int32.ofNat (ng + Nd))), .val (.ref v2), .val (.long q4), .second, .val (.int rr), .val (.int (Int32.ofNat (d + 1))), .val (.int nf), .val (.int qq), .val (.int qq)] [(.int (Int32.ofNat (d + 1))), (.ref v2)])) rfl (hb hby d24_120)
    refine Go.st st77 ?_
    show Go p e below s _ _ _ T77 (mkF m 123 #[.val (.long i0), .second, .val (.int (Int32.ofNat (ng + Nd))), .val (.ref v2), .val (.long q4), .second, .val (.int rr), .val (.int (Int32.ofNat (d + 1))), .val (.int nf), .val (.int qq), .val (.int qq)] [(.ref aO), (.int (Int32.ofNat (d + 1))), (.ref v2)])
    refine G_iload X77 hx (pc' := 125) rfl (hb hby d24_123) rfl ?_
    refine Go.st (ldAB X77 hx hZ e77 FO (j := rr) (own_rd (k := kk) (U := uu) hlq.2).1 (own_rd (k := kk) (U := uu) hlq.2).2.1 (g := (mkF m 125 #[.val (.long i0), .second, .val (.int (Int32.ofNat (ng + Nd))), .val (.ref v2), .val (.long q4), .second, .val (.int rr), .val (.int (Int32.ofNat (d + 1))), .val (.int nf), .val (.int qq), .val (.int qq)] [(.int rr), (.ref aO), (.int (Int32.ofNat (d + 1))), (.ref v2)])) rfl rfl (hb hby d24_125)) ?_
    show Go p e below s _ _ _ T77 (mkF m 126 #[.val (.long i0), .second, .val (.int (Int32.ofNat (ng + Nd))), .val (.ref v2), .val (.long q4), .second, .val (.int rr), .val (.int (Int32.ofNat (d + 1))), .val (.int nf), .val (.int qq), .val (.int qq)] [(.int (own_ones.getD rr.toNatClampNeg 0)), (.int (Int32.ofNat (d + 1))), (.ref v2)])
    obtain ⟨T78, h78, X78, e78, W78, A78, st78⟩ := stAB X77 hx hZ e77 FA (j := (Int32.ofNat (d + 1))) (own_px (by omega : d + 1 ≤ 19) []).1 (own_px (by omega : d + 1 ≤ 19) _).2 (g := (mkF m 126 #[.val (.long i0), .second, .val (.int (Int32.ofNat (ng + Nd))), .val (.ref v2), .val (.long q4), .second, .val (.int rr), .val (.int (Int32.ofNat (d + 1))), .val (.int nf), .val (.int qq), .val (.int qq)] [(.int (own_ones.getD rr.toNatClampNeg 0)), (.int (Int32.ofNat (d + 1))), (.ref v2)])) rfl rfl (hb hby d24_126)
    refine Go.st st78 ?_
    have A_aO_78 := FO.other W78 (Ne.symm ne_v2_aO)
    have A_aT_78 := FT.other W78 (Ne.symm ne_v2_aT)
    have S_java_lang_Integer_DigitOnes_78 := FSo.wr W78
    have S_java_lang_Integer_DigitTens_78 := FSt.wr W78
    have A_v2_78 : AI Z h78 v2 .byte ((List.replicate (d + 2) (0 : Int32) ++ own_dg uu kk).set (Int32.ofNat (d + 1)).toNatClampNeg ((own_ones.getD rr.toNatClampNeg 0).toInt8.toInt32)) := A78
    have K_78 : Keep h0 h78 [v2] := Kj.wr W78 (Or.inl (List.mem_of_getElem? (i := 0) rfl))
    have Z_78 : n0 ≤ h78.size := Nat.le_trans Z0 K_78.1
    have N78 := Fr.snoc X78 Nj g_v2
    clear FA FO FT FSo FSt W78 st78 A78
    obtain ⟨G78, Y78, M78⟩ : ∃ L, Stand p l e ({ frames := 0, cells := 0, slots := 0, locals := 0 } : Room) s m #[(.long v0), (.int (Int32.ofNat (ng + Nd))), (.ref v2)] below meth c T78 L 0 0 ∧ Fr n0 L := ⟨_, X78, N78⟩
    clear X78 N78
    show Go p e below s _ _ _ T78 (mkF m 127 #[.val (.long i0), .second, .val (.int (Int32.ofNat (ng + Nd))), .val (.ref v2), .val (.long q4), .second, .val (.int rr), .val (.int (Int32.ofNat (d + 1))), .val (.int nf), .val (.int qq), .val (.int qq)] [])
    have AC79 : AI Z h78 v2 .byte (List.replicate (d + 1) (0 : Int32) ++ (Int32.ofNat (48 + uu / 10 ^ kk % 10)) :: own_dg uu kk) := own_sx (by omega : d + 1 ≤ 19) _ (own_rd (k := kk) (U := uu) hlq.2).2.2.2.1 ▸ A_v2_78
    refine G_aloadN Y78 hx (pc' := 128) rfl (hb hby d24_127) rfl rfl ?_
    refine G_iinc Y78 hx (pc' := 131) rfl (hb hby d24_128) rfl (z := ((Int32.ofNat (d + 1)) + (-1 : Int32))) rfl (L' := #[.val (.long i0), .second, .val (.int (Int32.ofNat (ng + Nd))), .val (.ref v2), .val (.long q4), .second, .val (.int rr), .val (.int ((Int32.ofNat (d + 1)) + (-1 : Int32))), .val (.int nf), .val (.int qq), .val (.int qq)]) rfl ?_
    rw [own_decB (by omega : d ≤ 19)]
    show Go p e below s _ _ _ T78 (mkF m 131 #[.val (.long i0), .second, .val (.int (Int32.ofNat (ng + Nd))), .val (.ref v2), .val (.long q4), .second, .val (.int rr), .val (.int (Int32.ofNat d)), .val (.int nf), .val (.int qq), .val (.int qq)] [(.ref v2)])
    refine G_iload Y78 hx (pc' := 133) rfl (hb hby d24_131) rfl ?_
    obtain ⟨T80, X80, e80, st80⟩ := getS2 Y78 hx hZ hown (host := "") (Or.inl (own_w hw 155 rfl)) Via.refl e78 S_java_lang_Integer_DigitTens_78 (g := (mkF m 133 #[.val (.long i0), .second, .val (.int (Int32.ofNat (ng + Nd))), .val (.ref v2), .val (.long q4), .second, .val (.int rr), .val (.int (Int32.ofNat d)), .val (.int nf), .val (.int qq), .val (.int qq)] [(.int (Int32.ofNat d)), (.ref v2)])) rfl (hb hby d24_133)
    refine Go.st st80 ?_
    show Go p e below s _ _ _ T80 (mkF m 136 #[.val (.long i0), .second, .val (.int (Int32.ofNat (ng + Nd))), .val (.ref v2), .val (.long q4), .second, .val (.int rr), .val (.int (Int32.ofNat d)), .val (.int nf), .val (.int qq), .val (.int qq)] [(.ref aT), (.int (Int32.ofNat d)), (.ref v2)])
    refine G_iload X80 hx (pc' := 138) rfl (hb hby d24_136) rfl ?_
    refine Go.st (ldAB X80 hx hZ e80 A_aT_78 (j := rr) (own_rd (k := kk) (U := uu) hlq.2).1 (own_rd (k := kk) (U := uu) hlq.2).2.2.1 (g := (mkF m 138 #[.val (.long i0), .second, .val (.int (Int32.ofNat (ng + Nd))), .val (.ref v2), .val (.long q4), .second, .val (.int rr), .val (.int (Int32.ofNat d)), .val (.int nf), .val (.int qq), .val (.int qq)] [(.int rr), (.ref aT), (.int (Int32.ofNat d)), (.ref v2)])) rfl rfl (hb hby d24_138)) ?_
    show Go p e below s _ _ _ T80 (mkF m 139 #[.val (.long i0), .second, .val (.int (Int32.ofNat (ng + Nd))), .val (.ref v2), .val (.long q4), .second, .val (.int rr), .val (.int (Int32.ofNat d)), .val (.int nf), .val (.int qq), .val (.int qq)] [(.int (own_tens.getD rr.toNatClampNeg 0)), (.int (Int32.ofNat d)), (.ref v2)])
    obtain ⟨T81, h81, X81, e81, W81, A81, st81⟩ := stAB X80 hx hZ e80 AC79 (j := (Int32.ofNat d)) (own_px (by omega : d ≤ 19) []).1 (own_px (by omega : d ≤ 19) _).2 (g := (mkF m 139 #[.val (.long i0), .second, .val (.int (Int32.ofNat (ng + Nd))), .val (.ref v2), .val (.long q4), .second, .val (.int rr), .val (.int (Int32.ofNat d)), .val (.int nf), .val (.int qq), .val (.int qq)] [(.int (own_tens.getD rr.toNatClampNeg 0)), (.int (Int32.ofNat d)), (.ref v2)])) rfl rfl (hb hby d24_139)
    refine Go.st st81 ?_
    have A_aO_81 := A_aO_78.other W81 (Ne.symm ne_v2_aO)
    have A_aT_81 := A_aT_78.other W81 (Ne.symm ne_v2_aT)
    have S_java_lang_Integer_DigitOnes_81 := S_java_lang_Integer_DigitOnes_78.wr W81
    have S_java_lang_Integer_DigitTens_81 := S_java_lang_Integer_DigitTens_78.wr W81
    have A_v2_81 : AI Z h81 v2 .byte ((List.replicate (d + 1) (0 : Int32) ++ (Int32.ofNat (48 + uu / 10 ^ kk % 10)) :: own_dg uu kk).set (Int32.ofNat d).toNatClampNeg ((own_tens.getD rr.toNatClampNeg 0).toInt8.toInt32)) := A81
    have K_81 : Keep h0 h81 [v2] := K_78.wr W81 (Or.inl (List.mem_of_getElem? (i := 0) rfl))
    have Z_81 : n0 ≤ h81.size := Nat.le_trans Z0 K_81.1
    have N81 := Fr.snoc X81 M78 g_v2
    clear A_aO_78 A_aT_78 S_java_lang_Integer_DigitOnes_78 S_java_lang_Integer_DigitTens_78 AC79 W81 st81 A81
    obtain ⟨G81, Y81, M81⟩ : ∃ L, Stand p l e ({ frames := 0, cells := 0, slots := 0, locals := 0 } : Room) s m #[(.long v0), (.int (Int32.ofNat (ng + Nd))), (.ref v2)] below meth c T81 L 0 0 ∧ Fr n0 L := ⟨_, X81, N81⟩
    clear X81 N81
    show Go p e below s _ _ _ T81 (mkF m 140 #[.val (.long i0), .second, .val (.int (Int32.ofNat (ng + Nd))), .val (.ref v2), .val (.long q4), .second, .val (.int rr), .val (.int (Int32.ofNat d)), .val (.int nf), .val (.int qq), .val (.int qq)] [])
    have AC82 : AI Z h81 v2 .byte (List.replicate d (0 : Int32) ++ own_dg uu (kk + 2)) := own_sx (by omega : d ≤ 19) ((Int32.ofNat (48 + uu / 10 ^ kk % 10)) :: own_dg uu kk) (own_rd (k := kk) (U := uu) hlq.2).2.2.2.2 ▸ A_v2_81
    refine G_goto Y81 hx (pc' := 86) (hb hby d24_140)  (by decide) (by decide) ?_
    exact KC Nd (kk + 2) d nf qq i0 q4 rr qq _ _ _ Y81 e81 M81 K_81 Z_81 AC82 A_aO_81 A_aT_81 S_java_lang_Integer_DigitOnes_81 S_java_lang_Integer_DigitTens_81 (hlq.1 ▸ hK2) (by omega)
  have KA1 : ∀ (nn kk cc : Nat) (nf : Int32) (ii : Int32) (i0 : Int64) (r6 : Int32) (q9 : Int32) (T : State) (h : Heap) (L : List Loc) (X : Stand p l e ({ frames := 0, cells := 0, slots := 0, locals := 0 } : Room) s m #[(.long v0), (.int (Int32.ofNat (ng + Nd))), (.ref v2)] below meth c T L 0 0) (e1 : T.heap = h) (N_ : Fr n0 L) (K : Keep h0 h [v2]) (Zq : n0 ≤ h.size) (FA : AI Z h v2 .byte (List.replicate cc (0 : Int32) ++ own_dg uu kk)) (FO : AI Z h aO .byte own_ones) (FT : AI Z h aT .byte own_tens) (FSo : Sta Z h "java/lang/Integer" "DigitOnes" "[B" (.ref aO)) (FSt : Sta Z h "java/lang/Integer" "DigitTens" "[B" (.ref aT)) (hK : own_K uu Nd ng nf kk cc ii.toInt) (hn : Nd ≤ kk + nn), Go p e below s ({ frames := 0, cells := 0, slots := 0, locals := 0 } : Room).cells ({ frames := 0, cells := 0, slots := 0, locals := 0 } : Room).slots (Q_getc Z v0 v2 uu Nd ng aO aT h0 n0) T (mkF m 86 #[.val (.long i0), .second, .val (.int (Int32.ofNat (ng + Nd))), .val (.ref v2), .unset, .unset, .val (.int r6), .val (.int (Int32.ofNat cc)), .val (.int nf), .val (.int q9), .val (.int ii)] []) := by
    intro nn
    induction nn with
    | zero => intro kk cc nf ii i0 r6 q9 Tj hj Lj Xj ej Nj Kj Zj FA FO FT FSo FSt hK hn; exact absurd hK.hk (by omega)
    | succ nn ih =>
      intro kk cc nf ii i0 r6 q9 Tj hj Lj Xj ej Nj Kj Zj FA FO FT FSo FSt hK hn
      refine G_iload Xj hx (pc' := 88) rfl (hb hby d24_86) rfl ?_
      refine G_bipush Xj hx (pc' := 90) rfl (hb hby d24_88) (z := (-100 : Int32)) rfl ?_
      by_cases hc90_9 : (-100 : Int32) < ii
      · refine G_icmpYes Xj hx (pc' := 143) (hb hby d24_90) (tlt hc90_9).2.2.1 (by decide) (by decide) ?_
        have hgt := own_gt2 hc90_9
        have hr := own_ng hK.hz hgt
        obtain ⟨d, rfl, hd⟩ := own_c1 hP hK
        show Go p e below s _ _ _ Tj (mkF m 143 #[.val (.long i0), .second, .val (.int (Int32.ofNat (ng + Nd))), .val (.ref v2), .unset, .unset, .val (.int r6), .val (.int (Int32.ofNat (d + 1))), .val (.int nf), .val (.int q9), .val (.int ii)] [])
        refine G_aloadN Xj hx (pc' := 144) rfl (hb hby d24_143) rfl rfl ?_
        refine G_iinc Xj hx (pc' := 147) rfl (hb hby d24_144) rfl (z := ((Int32.ofNat (d + 1)) + (-1 : Int32))) rfl (L' := #[.val (.long i0), .second, .val (.int (Int32.ofNat (ng + Nd))), .val (.ref v2), .unset, .unset, .val (.int r6), .val (.int ((Int32.ofNat (d + 1)) + (-1 : Int32))), .val (.int nf), .val (.int q9), .val (.int ii)]) rfl ?_
        rw [own_decB hd]
        show Go p e below s _ _ _ Tj (mkF m 147 #[.val (.long i0), .second, .val (.int (Int32.ofNat (ng + Nd))), .val (.ref v2), .unset, .unset, .val (.int r6), .val (.int (Int32.ofNat d)), .val (.int nf), .val (.int q9), .val (.int ii)] [(.ref v2)])
        refine G_iload Xj hx (pc' := 149) rfl (hb hby d24_147) rfl ?_
        obtain ⟨T83, X83, e83, st83⟩ := getS2 Xj hx hZ hown (host := "") (Or.inl (own_w hw 84 rfl)) Via.refl ej FSo (g := (mkF m 149 #[.val (.long i0), .second, .val (.int (Int32.ofNat (ng + Nd))), .val (.ref v2), .unset, .unset, .val (.int r6), .val (.int (Int32.ofNat d)), .val (.int nf), .val (.int q9), .val (.int ii)] [(.int (Int32.ofNat d)), (.ref v2)])) rfl (hb hby d24_149)
        refine Go.st st83 ?_
        show Go p e below s _ _ _ T83 (mkF m 152 #[.val (.long i0), .second, .val (.int (Int32.ofNat (ng + Nd))), .val (.ref v2), .unset, .unset, .val (.int r6), .val (.int (Int32.ofNat d)), .val (.int nf), .val (.int q9), .val (.int ii)] [(.ref aO), (.int (Int32.ofNat d)), (.ref v2)])
        refine G_iload X83 hx (pc' := 154) rfl (hb hby d24_152) rfl ?_
        refine G_ineg X83 hx (pc' := 155) rfl (hb hby d24_154)  ?_
        refine Go.st (ldAB X83 hx hZ e83 FO (j := (-ii)) (own_rd (k := kk) (U := uu) hr).1 (own_rd (k := kk) (U := uu) hr).2.1 (g := (mkF m 155 #[.val (.long i0), .second, .val (.int (Int32.ofNat (ng + Nd))), .val (.ref v2), .unset, .unset, .val (.int r6), .val (.int (Int32.ofNat d)), .val (.int nf), .val (.int q9), .val (.int ii)] [(.int (-ii)), (.ref aO), (.int (Int32.ofNat d)), (.ref v2)])) rfl rfl (hb hby d24_155)) ?_
        show Go p e below s _ _ _ T83 (mkF m 156 #[.val (.long i0), .second, .val (.int (Int32.ofNat (ng + Nd))), .val (.ref v2), .unset, .unset, .val (.int r6), .val (.int (Int32.ofNat d)), .val (.int nf), .val (.int q9), .val (.int ii)] [(.int (own_ones.getD (-ii).toNatClampNeg 0)), (.int (Int32.ofNat d)), (.ref v2)])
        obtain ⟨T84, h84, X84, e84, W84, A84, st84⟩ := stAB X83 hx hZ e83 FA (j := (Int32.ofNat d)) (own_px hd []).1 (own_px hd _).2 (g := (mkF m 156 #[.val (.long i0), .second, .val (.int (Int32.ofNat (ng + Nd))), .val (.ref v2), .unset, .unset, .val (.int r6), .val (.int (Int32.ofNat d)), .val (.int nf), .val (.int q9), .val (.int ii)] [(.int (own_ones.getD (-ii).toNatClampNeg 0)), (.int (Int32.ofNat d)), (.ref v2)])) rfl rfl (hb hby d24_156)
        refine Go.st st84 ?_
        have A_aO_84 := FO.other W84 (Ne.symm ne_v2_aO)
        have A_aT_84 := FT.other W84 (Ne.symm ne_v2_aT)
        have S_java_lang_Integer_DigitOnes_84 := FSo.wr W84
        have S_java_lang_Integer_DigitTens_84 := FSt.wr W84
        have A_v2_84 : AI Z h84 v2 .byte ((List.replicate (d + 1) (0 : Int32) ++ own_dg uu kk).set (Int32.ofNat d).toNatClampNeg ((own_ones.getD (-ii).toNatClampNeg 0).toInt8.toInt32)) := A84
        have K_84 : Keep h0 h84 [v2] := Kj.wr W84 (Or.inl (List.mem_of_getElem? (i := 0) rfl))
        have Z_84 : n0 ≤ h84.size := Nat.le_trans Z0 K_84.1
        have N84 := Fr.snoc X84 Nj g_v2
        clear FA FO FT FSo FSt W84 st84 A84
        obtain ⟨G84, Y84, M84⟩ : ∃ L, Stand p l e ({ frames := 0, cells := 0, slots := 0, locals := 0 } : Room) s m #[(.long v0), (.int (Int32.ofNat (ng + Nd))), (.ref v2)] below meth c T84 L 0 0 ∧ Fr n0 L := ⟨_, X84, N84⟩
        clear X84 N84
        show Go p e below s _ _ _ T84 (mkF m 157 #[.val (.long i0), .second, .val (.int (Int32.ofNat (ng + Nd))), .val (.ref v2), .unset, .unset, .val (.int r6), .val (.int (Int32.ofNat d)), .val (.int nf), .val (.int q9), .val (.int ii)] [])
        have AC85 : AI Z h84 v2 .byte (List.replicate d (0 : Int32) ++ (Int32.ofNat (48 + uu / 10 ^ kk % 10)) :: own_dg uu kk) := own_sx hd _ (own_rd (k := kk) (U := uu) hr).2.2.2.1 ▸ A_v2_84
        refine G_iload Y84 hx (pc' := 159) rfl (hb hby d24_157) rfl ?_
        refine G_bipush Y84 hx (pc' := 161) rfl (hb hby d24_159) (z := (-9 : Int32)) rfl ?_
        by_cases hc161_10 : ii < (-9 : Int32)
        · refine G_icmpNo Y84 hx (pc' := 164) rfl (hb hby d24_161) (tlt hc161_10).2.1 ?_
          have hE := own_e2 hP hK hgt (own_le9 hc161_10)
          obtain rfl : d = ng + 1 := by omega
          show Go p e below s _ _ _ T84 (mkF m 164 #[.val (.long i0), .second, .val (.int (Int32.ofNat (ng + Nd))), .val (.ref v2), .unset, .unset, .val (.int r6), .val (.int (Int32.ofNat (ng + 1))), .val (.int nf), .val (.int q9), .val (.int ii)] [])
          refine G_aloadN Y84 hx (pc' := 165) rfl (hb hby d24_164) rfl rfl ?_
          refine G_iinc Y84 hx (pc' := 168) rfl (hb hby d24_165) rfl (z := ((Int32.ofNat (ng + 1)) + (-1 : Int32))) rfl (L' := #[.val (.long i0), .second, .val (.int (Int32.ofNat (ng + Nd))), .val (.ref v2), .unset, .unset, .val (.int r6), .val (.int ((Int32.ofNat (ng + 1)) + (-1 : Int32))), .val (.int nf), .val (.int q9), .val (.int ii)]) rfl ?_
          rw [own_decB (by omega : ng ≤ 19)]
          show Go p e below s _ _ _ T84 (mkF m 168 #[.val (.long i0), .second, .val (.int (Int32.ofNat (ng + Nd))), .val (.ref v2), .unset, .unset, .val (.int r6), .val (.int (Int32.ofNat ng)), .val (.int nf), .val (.int q9), .val (.int ii)] [(.ref v2)])
          refine G_iload Y84 hx (pc' := 170) rfl (hb hby d24_168) rfl ?_
          obtain ⟨T86, X86, e86, st86⟩ := getS2 Y84 hx hZ hown (host := "") (Or.inl (own_w hw 155 rfl)) Via.refl e84 S_java_lang_Integer_DigitTens_84 (g := (mkF m 170 #[.val (.long i0), .second, .val (.int (Int32.ofNat (ng + Nd))), .val (.ref v2), .unset, .unset, .val (.int r6), .val (.int (Int32.ofNat ng)), .val (.int nf), .val (.int q9), .val (.int ii)] [(.int (Int32.ofNat ng)), (.ref v2)])) rfl (hb hby d24_170)
          refine Go.st st86 ?_
          show Go p e below s _ _ _ T86 (mkF m 173 #[.val (.long i0), .second, .val (.int (Int32.ofNat (ng + Nd))), .val (.ref v2), .unset, .unset, .val (.int r6), .val (.int (Int32.ofNat ng)), .val (.int nf), .val (.int q9), .val (.int ii)] [(.ref aT), (.int (Int32.ofNat ng)), (.ref v2)])
          refine G_iload X86 hx (pc' := 175) rfl (hb hby d24_173) rfl ?_
          refine G_ineg X86 hx (pc' := 176) rfl (hb hby d24_175)  ?_
          refine Go.st (ldAB X86 hx hZ e86 A_aT_84 (j := (-ii)) (own_rd (k := kk) (U := uu) hr).1 (own_rd (k := kk) (U := uu) hr).2.2.1 (g := (mkF m 176 #[.val (.long i0), .second, .val (.int (Int32.ofNat (ng + Nd))), .val (.ref v2), .unset, .unset, .val (.int r6), .val (.int (Int32.ofNat ng)), .val (.int nf), .val (.int q9), .val (.int ii)] [(.int (-ii)), (.ref aT), (.int (Int32.ofNat ng)), (.ref v2)])) rfl rfl (hb hby d24_176)) ?_
          show Go p e below s _ _ _ T86 (mkF m 177 #[.val (.long i0), .second, .val (.int (Int32.ofNat (ng + Nd))), .val (.ref v2), .unset, .unset, .val (.int r6), .val (.int (Int32.ofNat ng)), .val (.int nf), .val (.int q9), .val (.int ii)] [(.int (own_tens.getD (-ii).toNatClampNeg 0)), (.int (Int32.ofNat ng)), (.ref v2)])
          obtain ⟨T87, h87, X87, e87, W87, A87, st87⟩ := stAB X86 hx hZ e86 AC85 (j := (Int32.ofNat ng)) (own_px (by omega : ng ≤ 19) []).1 (own_px (by omega : ng ≤ 19) _).2 (g := (mkF m 177 #[.val (.long i0), .second, .val (.int (Int32.ofNat (ng + Nd))), .val (.ref v2), .unset, .unset, .val (.int r6), .val (.int (Int32.ofNat ng)), .val (.int nf), .val (.int q9), .val (.int ii)] [(.int (own_tens.getD (-ii).toNatClampNeg 0)), (.int (Int32.ofNat ng)), (.ref v2)])) rfl rfl (hb hby d24_177)
          refine Go.st st87 ?_
          have A_aO_87 := A_aO_84.other W87 (Ne.symm ne_v2_aO)
          have A_aT_87 := A_aT_84.other W87 (Ne.symm ne_v2_aT)
          have S_java_lang_Integer_DigitOnes_87 := S_java_lang_Integer_DigitOnes_84.wr W87
          have S_java_lang_Integer_DigitTens_87 := S_java_lang_Integer_DigitTens_84.wr W87
          have A_v2_87 : AI Z h87 v2 .byte ((List.replicate (ng + 1) (0 : Int32) ++ (Int32.ofNat (48 + uu / 10 ^ kk % 10)) :: own_dg uu kk).set (Int32.ofNat ng).toNatClampNeg ((own_tens.getD (-ii).toNatClampNeg 0).toInt8.toInt32)) := A87
          have K_87 : Keep h0 h87 [v2] := K_84.wr W87 (Or.inl (List.mem_of_getElem? (i := 0) rfl))
          have Z_87 : n0 ≤ h87.size := Nat.le_trans Z0 K_87.1
          have N87 := Fr.snoc X87 M84 g_v2
          clear A_aO_84 A_aT_84 S_java_lang_Integer_DigitOnes_84 S_java_lang_Integer_DigitTens_84 AC85 W87 st87 A87
          obtain ⟨G87, Y87, M87⟩ : ∃ L, Stand p l e ({ frames := 0, cells := 0, slots := 0, locals := 0 } : Room) s m #[(.long v0), (.int (Int32.ofNat (ng + Nd))), (.ref v2)] below meth c T87 L 0 0 ∧ Fr n0 L := ⟨_, X87, N87⟩
          clear X87 N87
          show Go p e below s _ _ _ T87 (mkF m 178 #[.val (.long i0), .second, .val (.int (Int32.ofNat (ng + Nd))), .val (.ref v2), .unset, .unset, .val (.int r6), .val (.int (Int32.ofNat ng)), .val (.int nf), .val (.int q9), .val (.int ii)] [])
          have AD88 : AI Z h87 v2 .byte (List.replicate ng (0 : Int32) ++ own_dg uu (kk + 2)) := own_sx (by omega : ng ≤ 19) ((Int32.ofNat (48 + uu / 10 ^ kk % 10)) :: own_dg uu kk) (own_rd (k := kk) (U := uu) hr).2.2.2.2 ▸ A_v2_87
          rw [← hE.1] at AD88
          show Go p e below s _ _ _ T87 (mkF m 178 #[.val (.long i0), .second, .val (.int (Int32.ofNat (ng + Nd))), .val (.ref v2), .unset, .unset, .val (.int r6), .val (.int (Int32.ofNat ng)), .val (.int nf), .val (.int q9), .val (.int ii)] [])
          refine G_iload Y87 hx (pc' := 180) rfl (hb hby d24_178) rfl ?_
          by_cases hc180_11 : nf = (0 : Int32)
          · refine G_ifYes Y87 hx (pc' := 192) (hb hby d24_180) ((if0 _ _).trans (teq hc180_11).1) (by decide) (by decide) ?_
            have AE89 : AI Z h87 v2 .byte (own_txt ng uu Nd) := (own_t0 hK.hf hc180_11).1 ▸ AD88
            refine G_iload Y87 hx (pc' := 194) rfl (hb hby d24_192) rfl ?_
            refine Go.fin Y87 hlk (v := some (.int (Int32.ofNat ng))) (fun h => by rw [Bd.returns] at h; cases h) (by decide) (by decide) ?_ (fun fs hr => retOut Y87 hx Bd.returns rfl (Or.inl ⟨rfl, Or.inl rfl, _, rfl⟩) (hb hby d24_194) hr)
            show Q_getc Z v0 v2 uu Nd ng aO aT h0 n0 _ T87.heap _
            rw [e87]
            exact ⟨congrArg (fun z => some (Value.int z)) (own_t0 (U := uu) (N := Nd) hK.hf hc180_11).2, M87, K_87, AE89⟩
          refine G_ifNo Y87 hx (pc' := 183) rfl (hb hby d24_180) ((if0 _ _).trans (feq hc180_11).1) ?_
          refine G_aloadN Y87 hx (pc' := 184) rfl (hb hby d24_183) rfl rfl ?_
          refine G_iinc Y87 hx (pc' := 187) rfl (hb hby d24_184) rfl (z := ((Int32.ofNat ng) + (-1 : Int32))) rfl (L' := #[.val (.long i0), .second, .val (.int (Int32.ofNat (ng + Nd))), .val (.ref v2), .unset, .unset, .val (.int r6), .val (.int ((Int32.ofNat ng) + (-1 : Int32))), .val (.int nf), .val (.int q9), .val (.int ii)]) rfl ?_
          refine G_iload Y87 hx (pc' := 189) rfl (hb hby d24_187) rfl ?_
          refine G_bipush Y87 hx (pc' := 191) rfl (hb hby d24_189) (z := (45 : Int32)) rfl ?_
          obtain ⟨T90, h90, X90, e90, W90, A90, st90⟩ := stAB Y87 hx hZ e87 AD88 (j := ((Int32.ofNat ng) + (-1 : Int32))) (own_t1 (U := uu) (N := Nd) hK.hf hc180_11).2.2.1 (own_t1 (U := uu) (N := Nd) hK.hf hc180_11).2.2.2 (g := (mkF m 191 #[.val (.long i0), .second, .val (.int (Int32.ofNat (ng + Nd))), .val (.ref v2), .unset, .unset, .val (.int r6), .val (.int ((Int32.ofNat ng) + (-1 : Int32))), .val (.int nf), .val (.int q9), .val (.int ii)] [(.int (45 : Int32)), (.int ((Int32.ofNat ng) + (-1 : Int32))), (.ref v2)])) rfl rfl (hb hby d24_191)
          refine Go.st st90 ?_
          have A_aO_90 := A_aO_87.other W90 (Ne.symm ne_v2_aO)
          have A_aT_90 := A_aT_87.other W90 (Ne.symm ne_v2_aT)
          have S_java_lang_Integer_DigitOnes_90 := S_java_lang_Integer_DigitOnes_87.wr W90
          have S_java_lang_Integer_DigitTens_90 := S_java_lang_Integer_DigitTens_87.wr W90
          have A_v2_90 : AI Z h90 v2 .byte ((List.replicate ng (0 : Int32) ++ own_dg uu Nd).set ((Int32.ofNat ng) + (-1 : Int32)).toNatClampNeg (45 : Int32)) := A90
          have K_90 : Keep h0 h90 [v2] := K_87.wr W90 (Or.inl (List.mem_of_getElem? (i := 0) rfl))
          have Z_90 : n0 ≤ h90.size := Nat.le_trans Z0 K_90.1
          have N90 := Fr.snoc X90 M87 g_v2
          clear A_aO_87 A_aT_87 S_java_lang_Integer_DigitOnes_87 S_java_lang_Integer_DigitTens_87 AD88 W90 st90 A90
          obtain ⟨G90, Y90, M90⟩ : ∃ L, Stand p l e ({ frames := 0, cells := 0, slots := 0, locals := 0 } : Room) s m #[(.long v0), (.int (Int32.ofNat (ng + Nd))), (.ref v2)] below meth c T90 L 0 0 ∧ Fr n0 L := ⟨_, X90, N90⟩
          clear X90 N90
          show Go p e below s _ _ _ T90 (mkF m 192 #[.val (.long i0), .second, .val (.int (Int32.ofNat (ng + Nd))), .val (.ref v2), .unset, .unset, .val (.int r6), .val (.int ((Int32.ofNat ng) + (-1 : Int32))), .val (.int nf), .val (.int q9), .val (.int ii)] [])
          have AE91 : AI Z h90 v2 .byte (own_txt ng uu Nd) := (own_t1 hK.hf hc180_11).1 ▸ A_v2_90
          refine G_iload Y90 hx (pc' := 194) rfl (hb hby d24_192) rfl ?_
          refine Go.fin Y90 hlk (v := some (.int ((Int32.ofNat ng) + (-1 : Int32)))) (fun h => by rw [Bd.returns] at h; cases h) (by decide) (by decide) ?_ (fun fs hr => retOut Y90 hx Bd.returns rfl (Or.inl ⟨rfl, Or.inl rfl, _, rfl⟩) (hb hby d24_194) hr)
          show Q_getc Z v0 v2 uu Nd ng aO aT h0 n0 _ T90.heap _
          rw [e90]
          exact ⟨congrArg (fun z => some (Value.int z)) (own_t1 (U := uu) (N := Nd) hK.hf hc180_11).2.1, M90, K_90, AE91⟩
        refine G_icmpYes Y84 hx (pc' := 178) (hb hby d24_161) (flt hc161_10).2.1 (by decide) (by decide) ?_
        have hE := own_e1 hP hK (own_gt9 hc161_10)
        obtain rfl : ng = d := by omega
        have AD92 : AI Z h84 v2 .byte (List.replicate ng (0 : Int32) ++ own_dg uu (kk + 1)) := AC85
        rw [← hE.1] at AD92
        show Go p e below s _ _ _ T84 (mkF m 178 #[.val (.long i0), .second, .val (.int (Int32.ofNat (ng + Nd))), .val (.ref v2), .unset, .unset, .val (.int r6), .val (.int (Int32.ofNat ng)), .val (.int nf), .val (.int q9), .val (.int ii)] [])
        refine G_iload Y84 hx (pc' := 180) rfl (hb hby d24_178) rfl ?_
        by_cases hc180_12 : nf = (0 : Int32)
        · refine G_ifYes Y84 hx (pc' := 192) (hb hby d24_180) ((if0 _ _).trans (teq hc180_12).1) (by decide) (by decide) ?_
          have AE93 : AI Z h84 v2 .byte (own_txt ng uu Nd) := (own_t0 hK.hf hc180_12).1 ▸ AD92
          refine G_iload Y84 hx (pc' := 194) rfl (hb hby d24_192) rfl ?_
          refine Go.fin Y84 hlk (v := some (.int (Int32.ofNat ng))) (fun h => by rw [Bd.returns] at h; cases h) (by decide) (by decide) ?_ (fun fs hr => retOut Y84 hx Bd.returns rfl (Or.inl ⟨rfl, Or.inl rfl, _, rfl⟩) (hb hby d24_194) hr)
          show Q_getc Z v0 v2 uu Nd ng aO aT h0 n0 _ T84.heap _
          rw [e84]
          exact ⟨congrArg (fun z => some (Value.int z)) (own_t0 (U := uu) (N := Nd) hK.hf hc180_12).2, M84, K_84, AE93⟩
        refine G_ifNo Y84 hx (pc' := 183) rfl (hb hby d24_180) ((if0 _ _).trans (feq hc180_12).1) ?_
        refine G_aloadN Y84 hx (pc' := 184) rfl (hb hby d24_183) rfl rfl ?_
        refine G_iinc Y84 hx (pc' := 187) rfl (hb hby d24_184) rfl (z := ((Int32.ofNat ng) + (-1 : Int32))) rfl (L' := #[.val (.long i0), .second, .val (.int (Int32.ofNat (ng + Nd))), .val (.ref v2), .unset, .unset, .val (.int r6), .val (.int ((Int32.ofNat ng) + (-1 : Int32))), .val (.int nf), .val (.int q9), .val (.int ii)]) rfl ?_
        refine G_iload Y84 hx (pc' := 189) rfl (hb hby d24_187) rfl ?_
        refine G_bipush Y84 hx (pc' := 191) rfl (hb hby d24_189) (z := (45 : Int32)) rfl ?_
        obtain ⟨T94, h94, X94, e94, W94, A94, st94⟩ := stAB Y84 hx hZ e84 AD92 (j := ((Int32.ofNat ng) + (-1 : Int32))) (own_t1 (U := uu) (N := Nd) hK.hf hc180_12).2.2.1 (own_t1 (U := uu) (N := Nd) hK.hf hc180_12).2.2.2 (g := (mkF m 191 #[.val (.long i0), .second, .val (.int (Int32.ofNat (ng + Nd))), .val (.ref v2), .unset, .unset, .val (.int r6), .val (.int ((Int32.ofNat ng) + (-1 : Int32))), .val (.int nf), .val (.int q9), .val (.int ii)] [(.int (45 : Int32)), (.int ((Int32.ofNat ng) + (-1 : Int32))), (.ref v2)])) rfl rfl (hb hby d24_191)
        refine Go.st st94 ?_
        have A_aO_94 := A_aO_84.other W94 (Ne.symm ne_v2_aO)
        have A_aT_94 := A_aT_84.other W94 (Ne.symm ne_v2_aT)
        have S_java_lang_Integer_DigitOnes_94 := S_java_lang_Integer_DigitOnes_84.wr W94
        have S_java_lang_Integer_DigitTens_94 := S_java_lang_Integer_DigitTens_84.wr W94
        have A_v2_94 : AI Z h94 v2 .byte ((List.replicate ng (0 : Int32) ++ own_dg uu Nd).set ((Int32.ofNat ng) + (-1 : Int32)).toNatClampNeg (45 : Int32)) := A94
        have K_94 : Keep h0 h94 [v2] := K_84.wr W94 (Or.inl (List.mem_of_getElem? (i := 0) rfl))
        have Z_94 : n0 ≤ h94.size := Nat.le_trans Z0 K_94.1
        have N94 := Fr.snoc X94 M84 g_v2
        clear A_aO_84 A_aT_84 S_java_lang_Integer_DigitOnes_84 S_java_lang_Integer_DigitTens_84 AD92 W94 st94 A94
        obtain ⟨G94, Y94, M94⟩ : ∃ L, Stand p l e ({ frames := 0, cells := 0, slots := 0, locals := 0 } : Room) s m #[(.long v0), (.int (Int32.ofNat (ng + Nd))), (.ref v2)] below meth c T94 L 0 0 ∧ Fr n0 L := ⟨_, X94, N94⟩
        clear X94 N94
        show Go p e below s _ _ _ T94 (mkF m 192 #[.val (.long i0), .second, .val (.int (Int32.ofNat (ng + Nd))), .val (.ref v2), .unset, .unset, .val (.int r6), .val (.int ((Int32.ofNat ng) + (-1 : Int32))), .val (.int nf), .val (.int q9), .val (.int ii)] [])
        have AE95 : AI Z h94 v2 .byte (own_txt ng uu Nd) := (own_t1 hK.hf hc180_12).1 ▸ A_v2_94
        refine G_iload Y94 hx (pc' := 194) rfl (hb hby d24_192) rfl ?_
        refine Go.fin Y94 hlk (v := some (.int ((Int32.ofNat ng) + (-1 : Int32)))) (fun h => by rw [Bd.returns] at h; cases h) (by decide) (by decide) ?_ (fun fs hr => retOut Y94 hx Bd.returns rfl (Or.inl ⟨rfl, Or.inl rfl, _, rfl⟩) (hb hby d24_194) hr)
        show Q_getc Z v0 v2 uu Nd ng aO aT h0 n0 _ T94.heap _
        rw [e94]
        exact ⟨congrArg (fun z => some (Value.int z)) (own_t1 (U := uu) (N := Nd) hK.hf hc180_12).2.1, M94, K_94, AE95⟩
      refine G_icmpNo Xj hx (pc' := 93) rfl (hb hby d24_90) (flt hc90_9).2.2.1 ?_
      have hle := own_le2 hc90_9
      have hlq := own_iq hK.hz (by omega)
      obtain ⟨hk2, d, rfl, hd, hK2⟩ := own_q1 hP hK hle
      show Go p e below s _ _ _ Tj (mkF m 93 #[.val (.long i0), .second, .val (.int (Int32.ofNat (ng + Nd))), .val (.ref v2), .unset, .unset, .val (.int r6), .val (.int (Int32.ofNat (d + 2))), .val (.int nf), .val (.int q9), .val (.int ii)] [])
      refine G_iload Xj hx (pc' := 95) rfl (hb hby d24_93) rfl ?_
      refine G_bipush Xj hx (pc' := 97) rfl (hb hby d24_95) (z := (100 : Int32)) rfl ?_
      refine G_idiv Xj hx (pc' := 98) rfl (hb hby d24_97) (by decide) ?_
      refine G_istore Xj hx (pc' := 100) rfl (hb hby d24_98) (L' := #[.val (.long i0), .second, .val (.int (Int32.ofNat (ng + Nd))), .val (.ref v2), .unset, .unset, .val (.int r6), .val (.int (Int32.ofNat (d + 2))), .val (.int nf), .val (.int (ii / (100 : Int32))), .val (.int ii)]) rfl ?_
      obtain ⟨qq, h_qq⟩ : ∃ z : Int32, (ii / (100 : Int32)) = z := ⟨_, rfl⟩
      rw [h_qq] at hlq
      rw [h_qq]
      show Go p e below s _ _ _ Tj (mkF m 100 #[.val (.long i0), .second, .val (.int (Int32.ofNat (ng + Nd))), .val (.ref v2), .unset, .unset, .val (.int r6), .val (.int (Int32.ofNat (d + 2))), .val (.int nf), .val (.int qq), .val (.int ii)] [])
      refine G_iload Xj hx (pc' := 102) rfl (hb hby d24_100) rfl ?_
      refine G_bipush Xj hx (pc' := 104) rfl (hb hby d24_102) (z := (100 : Int32)) rfl ?_
      refine G_imul Xj hx (pc' := 105) rfl (hb hby d24_104)  ?_
      refine G_iload Xj hx (pc' := 107) rfl (hb hby d24_105) rfl ?_
      refine G_isub Xj hx (pc' := 108) rfl (hb hby d24_107)  ?_
      refine G_istore Xj hx (pc' := 110) rfl (hb hby d24_108) (L' := #[.val (.long i0), .second, .val (.int (Int32.ofNat (ng + Nd))), .val (.ref v2), .unset, .unset, .val (.int ((qq * (100 : Int32)) - ii)), .val (.int (Int32.ofNat (d + 2))), .val (.int nf), .val (.int qq), .val (.int ii)]) rfl ?_
      obtain ⟨rr, h_rr⟩ : ∃ z : Int32, ((qq * (100 : Int32)) - ii) = z := ⟨_, rfl⟩
      rw [h_rr] at hlq
      rw [h_rr]
      show Go p e below s _ _ _ Tj (mkF m 110 #[.val (.long i0), .second, .val (.int (Int32.ofNat (ng + Nd))), .val (.ref v2), .unset, .unset, .val (.int rr), .val (.int (Int32.ofNat (d + 2))), .val (.int nf), .val (.int qq), .val (.int ii)] [])
      refine G_iload Xj hx (pc' := 112) rfl (hb hby d24_110) rfl ?_
      refine G_istore Xj hx (pc' := 114) rfl (hb hby d24_112) (L' := #[.val (.long i0), .second, .val (.int (Int32.ofNat (ng + Nd))), .val (.ref v2), .unset, .unset, .val (.int rr), .val (.int (Int32.ofNat (d + 2))), .val (.int nf), .val (.int qq), .val (.int qq)]) rfl ?_
      refine G_aloadN Xj hx (pc' := 115) rfl (hb hby d24_114) rfl rfl ?_
      refine G_iinc Xj hx (pc' := 118) rfl (hb hby d24_115) rfl (z := ((Int32.ofNat (d + 2)) + (-1 : Int32))) rfl (L' := #[.val (.long i0), .second, .val (.int (Int32.ofNat (ng + Nd))), .val (.ref v2), .unset, .unset, .val (.int rr), .val (.int ((Int32.ofNat (d + 2)) + (-1 : Int32))), .val (.int nf), .val (.int qq), .val (.int qq)]) rfl ?_
      rw [own_decA hd]
      show Go p e below s _ _ _ Tj (mkF m 118 #[.val (.long i0), .second, .val (.int (Int32.ofNat (ng + Nd))), .val (.ref v2), .unset, .unset, .val (.int rr), .val (.int (Int32.ofNat (d + 1))), .val (.int nf), .val (.int qq), .val (.int qq)] [(.ref v2)])
      refine G_iload Xj hx (pc' := 120) rfl (hb hby d24_118) rfl ?_
      obtain ⟨T96, X96, e96, st96⟩ := getS2 Xj hx hZ hown (host := "") (Or.inl (own_w hw 84 rfl)) Via.refl ej FSo (g := (mkF m 120 #[.val (.long i0), .second, .val (.int (Int32.ofNat (ng + Nd))), .val (.ref v2), .unset, .unset, .val (.int rr), .val (.int (Int32.ofNat (d + 1))), .val (.int nf), .val (.int qq), .val (.int qq)] [(.int (Int32.ofNat (d + 1))), (.ref v2)])) rfl (hb hby d24_120)
      refine Go.st st96 ?_
      show Go p e below s _ _ _ T96 (mkF m 123 #[.val (.long i0), .second, .val (.int (Int32.ofNat (ng + Nd))), .val (.ref v2), .unset, .unset, .val (.int rr), .val (.int (Int32.ofNat (d + 1))), .val (.int nf), .val (.int qq), .val (.int qq)] [(.ref aO), (.int (Int32.ofNat (d + 1))), (.ref v2)])
      refine G_iload X96 hx (pc' := 125) rfl (hb hby d24_123) rfl ?_
      refine Go.st (ldAB X96 hx hZ e96 FO (j := rr) (own_rd (k := kk) (U := uu) hlq.2).1 (own_rd (k := kk) (U := uu) hlq.2).2.1 (g := (mkF m 125 #[.val (.long i0), .second, .val (.int (Int32.ofNat (ng + Nd))), .val (.ref v2), .unset, .unset, .val (.int rr), .val (.int (Int32.ofNat (d + 1))), .val (.int nf), .val (.int qq), .val (.int qq)] [(.int rr), (.ref aO), (.int (Int32.ofNat (d + 1))), (.ref v2)])) rfl rfl (hb hby d24_125)) ?_
      show Go p e below s _ _ _ T96 (mkF m 126 #[.val (.long i0), .second, .val (.int (Int32.ofNat (ng + Nd))), .val (.ref v2), .unset, .unset, .val (.int rr), .val (.int (Int32.ofNat (d + 1))), .val (.int nf), .val (.int qq), .val (.int qq)] [(.int (own_ones.getD rr.toNatClampNeg 0)), (.int (Int32.ofNat (d + 1))), (.ref v2)])
      obtain ⟨T97, h97, X97, e97, W97, A97, st97⟩ := stAB X96 hx hZ e96 FA (j := (Int32.ofNat (d + 1))) (own_px (by omega : d + 1 ≤ 19) []).1 (own_px (by omega : d + 1 ≤ 19) _).2 (g := (mkF m 126 #[.val (.long i0), .second, .val (.int (Int32.ofNat (ng + Nd))), .val (.ref v2), .unset, .unset, .val (.int rr), .val (.int (Int32.ofNat (d + 1))), .val (.int nf), .val (.int qq), .val (.int qq)] [(.int (own_ones.getD rr.toNatClampNeg 0)), (.int (Int32.ofNat (d + 1))), (.ref v2)])) rfl rfl (hb hby d24_126)
      refine Go.st st97 ?_
      have A_aO_97 := FO.other W97 (Ne.symm ne_v2_aO)
      have A_aT_97 := FT.other W97 (Ne.symm ne_v2_aT)
      have S_java_lang_Integer_DigitOnes_97 := FSo.wr W97
      have S_java_lang_Integer_DigitTens_97 := FSt.wr W97
      have A_v2_97 : AI Z h97 v2 .byte ((List.replicate (d + 2) (0 : Int32) ++ own_dg uu kk).set (Int32.ofNat (d + 1)).toNatClampNeg ((own_ones.getD rr.toNatClampNeg 0).toInt8.toInt32)) := A97
      have K_97 : Keep h0 h97 [v2] := Kj.wr W97 (Or.inl (List.mem_of_getElem? (i := 0) rfl))
      have Z_97 : n0 ≤ h97.size := Nat.le_trans Z0 K_97.1
      have N97 := Fr.snoc X97 Nj g_v2
      clear FA FO FT FSo FSt W97 st97 A97
      obtain ⟨G97, Y97, M97⟩ : ∃ L, Stand p l e ({ frames := 0, cells := 0, slots := 0, locals := 0 } : Room) s m #[(.long v0), (.int (Int32.ofNat (ng + Nd))), (.ref v2)] below meth c T97 L 0 0 ∧ Fr n0 L := ⟨_, X97, N97⟩
      clear X97 N97
      show Go p e below s _ _ _ T97 (mkF m 127 #[.val (.long i0), .second, .val (.int (Int32.ofNat (ng + Nd))), .val (.ref v2), .unset, .unset, .val (.int rr), .val (.int (Int32.ofNat (d + 1))), .val (.int nf), .val (.int qq), .val (.int qq)] [])
      have AC98 : AI Z h97 v2 .byte (List.replicate (d + 1) (0 : Int32) ++ (Int32.ofNat (48 + uu / 10 ^ kk % 10)) :: own_dg uu kk) := own_sx (by omega : d + 1 ≤ 19) _ (own_rd (k := kk) (U := uu) hlq.2).2.2.2.1 ▸ A_v2_97
      refine G_aloadN Y97 hx (pc' := 128) rfl (hb hby d24_127) rfl rfl ?_
      refine G_iinc Y97 hx (pc' := 131) rfl (hb hby d24_128) rfl (z := ((Int32.ofNat (d + 1)) + (-1 : Int32))) rfl (L' := #[.val (.long i0), .second, .val (.int (Int32.ofNat (ng + Nd))), .val (.ref v2), .unset, .unset, .val (.int rr), .val (.int ((Int32.ofNat (d + 1)) + (-1 : Int32))), .val (.int nf), .val (.int qq), .val (.int qq)]) rfl ?_
      rw [own_decB (by omega : d ≤ 19)]
      show Go p e below s _ _ _ T97 (mkF m 131 #[.val (.long i0), .second, .val (.int (Int32.ofNat (ng + Nd))), .val (.ref v2), .unset, .unset, .val (.int rr), .val (.int (Int32.ofNat d)), .val (.int nf), .val (.int qq), .val (.int qq)] [(.ref v2)])
      refine G_iload Y97 hx (pc' := 133) rfl (hb hby d24_131) rfl ?_
      obtain ⟨T99, X99, e99, st99⟩ := getS2 Y97 hx hZ hown (host := "") (Or.inl (own_w hw 155 rfl)) Via.refl e97 S_java_lang_Integer_DigitTens_97 (g := (mkF m 133 #[.val (.long i0), .second, .val (.int (Int32.ofNat (ng + Nd))), .val (.ref v2), .unset, .unset, .val (.int rr), .val (.int (Int32.ofNat d)), .val (.int nf), .val (.int qq), .val (.int qq)] [(.int (Int32.ofNat d)), (.ref v2)])) rfl (hb hby d24_133)
      refine Go.st st99 ?_
      show Go p e below s _ _ _ T99 (mkF m 136 #[.val (.long i0), .second, .val (.int (Int32.ofNat (ng + Nd))), .val (.ref v2), .unset, .unset, .val (.int rr), .val (.int (Int32.ofNat d)), .val (.int nf), .val (.int qq), .val (.int qq)] [(.ref aT), (.int (Int32.ofNat d)), (.ref v2)])
      refine G_iload X99 hx (pc' := 138) rfl (hb hby d24_136) rfl ?_
      refine Go.st (ldAB X99 hx hZ e99 A_aT_97 (j := rr) (own_rd (k := kk) (U := uu) hlq.2).1 (own_rd (k := kk) (U := uu) hlq.2).2.2.1 (g := (mkF m 138 #[.val (.long i0), .second, .val (.int (Int32.ofNat (ng + Nd))), .val (.ref v2), .unset, .unset, .val (.int rr), .val (.int (Int32.ofNat d)), .val (.int nf), .val (.int qq), .val (.int qq)] [(.int rr), (.ref aT), (.int (Int32.ofNat d)), (.ref v2)])) rfl rfl (hb hby d24_138)) ?_
      show Go p e below s _ _ _ T99 (mkF m 139 #[.val (.long i0), .second, .val (.int (Int32.ofNat (ng + Nd))), .val (.ref v2), .unset, .unset, .val (.int rr), .val (.int (Int32.ofNat d)), .val (.int nf), .val (.int qq), .val (.int qq)] [(.int (own_tens.getD rr.toNatClampNeg 0)), (.int (Int32.ofNat d)), (.ref v2)])
      obtain ⟨T100, h100, X100, e100, W100, A100, st100⟩ := stAB X99 hx hZ e99 AC98 (j := (Int32.ofNat d)) (own_px (by omega : d ≤ 19) []).1 (own_px (by omega : d ≤ 19) _).2 (g := (mkF m 139 #[.val (.long i0), .second, .val (.int (Int32.ofNat (ng + Nd))), .val (.ref v2), .unset, .unset, .val (.int rr), .val (.int (Int32.ofNat d)), .val (.int nf), .val (.int qq), .val (.int qq)] [(.int (own_tens.getD rr.toNatClampNeg 0)), (.int (Int32.ofNat d)), (.ref v2)])) rfl rfl (hb hby d24_139)
      refine Go.st st100 ?_
      have A_aO_100 := A_aO_97.other W100 (Ne.symm ne_v2_aO)
      have A_aT_100 := A_aT_97.other W100 (Ne.symm ne_v2_aT)
      have S_java_lang_Integer_DigitOnes_100 := S_java_lang_Integer_DigitOnes_97.wr W100
      have S_java_lang_Integer_DigitTens_100 := S_java_lang_Integer_DigitTens_97.wr W100
      have A_v2_100 : AI Z h100 v2 .byte ((List.replicate (d + 1) (0 : Int32) ++ (Int32.ofNat (48 + uu / 10 ^ kk % 10)) :: own_dg uu kk).set (Int32.ofNat d).toNatClampNeg ((own_tens.getD rr.toNatClampNeg 0).toInt8.toInt32)) := A100
      have K_100 : Keep h0 h100 [v2] := K_97.wr W100 (Or.inl (List.mem_of_getElem? (i := 0) rfl))
      have Z_100 : n0 ≤ h100.size := Nat.le_trans Z0 K_100.1
      have N100 := Fr.snoc X100 M97 g_v2
      clear A_aO_97 A_aT_97 S_java_lang_Integer_DigitOnes_97 S_java_lang_Integer_DigitTens_97 AC98 W100 st100 A100
      obtain ⟨G100, Y100, M100⟩ : ∃ L, Stand p l e ({ frames := 0, cells := 0, slots := 0, locals := 0 } : Room) s m #[(.long v0), (.int (Int32.ofNat (ng + Nd))), (.ref v2)] below meth c T100 L 0 0 ∧ Fr n0 L := ⟨_, X100, N100⟩
      clear X100 N100
      show Go p e below s _ _ _ T100 (mkF m 140 #[.val (.long i0), .second, .val (.int (Int32.ofNat (ng + Nd))), .val (.ref v2), .unset, .unset, .val (.int rr), .val (.int (Int32.ofNat d)), .val (.int nf), .val (.int qq), .val (.int qq)] [])
      have AC101 : AI Z h100 v2 .byte (List.replicate d (0 : Int32) ++ own_dg uu (kk + 2)) := own_sx (by omega : d ≤ 19) ((Int32.ofNat (48 + uu / 10 ^ kk % 10)) :: own_dg uu kk) (own_rd (k := kk) (U := uu) hlq.2).2.2.2.2 ▸ A_v2_100
      refine G_goto Y100 hx (pc' := 86) (hb hby d24_140)  (by decide) (by decide) ?_
      exact ih (kk + 2) d nf qq i0 rr qq _ _ _ Y100 e100 M100 K_100 Z_100 AC101 A_aO_100 A_aT_100 S_java_lang_Integer_DigitOnes_100 S_java_lang_Integer_DigitTens_100 (hlq.1 ▸ hK2) (by omega)
  have KA : ∀ (nn kk cc : Nat) (nf : Int32) (ii : Int32) (i0 : Int64) (T : State) (h : Heap) (L : List Loc) (X : Stand p l e ({ frames := 0, cells := 0, slots := 0, locals := 0 } : Room) s m #[(.long v0), (.int (Int32.ofNat (ng + Nd))), (.ref v2)] below meth c T L 0 0) (e1 : T.heap = h) (N_ : Fr n0 L) (K : Keep h0 h [v2]) (Zq : n0 ≤ h.size) (FA : AI Z h v2 .byte (List.replicate cc (0 : Int32) ++ own_dg uu kk)) (FO : AI Z h aO .byte own_ones) (FT : AI Z h aT .byte own_tens) (FSo : Sta Z h "java/lang/Integer" "DigitOnes" "[B" (.ref aO)) (FSt : Sta Z h "java/lang/Integer" "DigitTens" "[B" (.ref aT)) (hK : own_K uu Nd ng nf kk cc ii.toInt) (hn : Nd ≤ kk + nn), Go p e below s ({ frames := 0, cells := 0, slots := 0, locals := 0 } : Room).cells ({ frames := 0, cells := 0, slots := 0, locals := 0 } : Room).slots (Q_getc Z v0 v2 uu Nd ng aO aT h0 n0) T (mkF m 86 #[.val (.long i0), .second, .val (.int (Int32.ofNat (ng + Nd))), .val (.ref v2), .unset, .unset, .unset, .val (.int (Int32.ofNat cc)), .val (.int nf), .unset, .val (.int ii)] []) := by
    intro nn
    intro kk cc nf ii i0 Tj hj Lj Xj ej Nj Kj Zj FA FO FT FSo FSt hK hn
    refine G_iload Xj hx (pc' := 88) rfl (hb hby d24_86) rfl ?_
    refine G_bipush Xj hx (pc' := 90) rfl (hb hby d24_88) (z := (-100 : Int32)) rfl ?_
    by_cases hc90_13 : (-100 : Int32) < ii
    · refine G_icmpYes Xj hx (pc' := 143) (hb hby d24_90) (tlt hc90_13).2.2.1 (by decide) (by decide) ?_
      have hgt := own_gt2 hc90_13
      have hr := own_ng hK.hz hgt
      obtain ⟨d, rfl, hd⟩ := own_c1 hP hK
      show Go p e below s _ _ _ Tj (mkF m 143 #[.val (.long i0), .second, .val (.int (Int32.ofNat (ng + Nd))), .val (.ref v2), .unset, .unset, .unset, .val (.int (Int32.ofNat (d + 1))), .val (.int nf), .unset, .val (.int ii)] [])
      refine G_aloadN Xj hx (pc' := 144) rfl (hb hby d24_143) rfl rfl ?_
      refine G_iinc Xj hx (pc' := 147) rfl (hb hby d24_144) rfl (z := ((Int32.ofNat (d + 1)) + (-1 : Int32))) rfl (L' := #[.val (.long i0), .second, .val (.int (Int32.ofNat (ng + Nd))), .val (.ref v2), .unset, .unset, .unset, .val (.int ((Int32.ofNat (d + 1)) + (-1 : Int32))), .val (.int nf), .unset, .val (.int ii)]) rfl ?_
      rw [own_decB hd]
      show Go p e below s _ _ _ Tj (mkF m 147 #[.val (.long i0), .second, .val (.int (Int32.ofNat (ng + Nd))), .val (.ref v2), .unset, .unset, .unset, .val (.int (Int32.ofNat d)), .val (.int nf), .unset, .val (.int ii)] [(.ref v2)])
      refine G_iload Xj hx (pc' := 149) rfl (hb hby d24_147) rfl ?_
      obtain ⟨T102, X102, e102, st102⟩ := getS2 Xj hx hZ hown (host := "") (Or.inl (own_w hw 84 rfl)) Via.refl ej FSo (g := (mkF m 149 #[.val (.long i0), .second, .val (.int (Int32.ofNat (ng + Nd))), .val (.ref v2), .unset, .unset, .unset, .val (.int (Int32.ofNat d)), .val (.int nf), .unset, .val (.int ii)] [(.int (Int32.ofNat d)), (.ref v2)])) rfl (hb hby d24_149)
      refine Go.st st102 ?_
      show Go p e below s _ _ _ T102 (mkF m 152 #[.val (.long i0), .second, .val (.int (Int32.ofNat (ng + Nd))), .val (.ref v2), .unset, .unset, .unset, .val (.int (Int32.ofNat d)), .val (.int nf), .unset, .val (.int ii)] [(.ref aO), (.int (Int32.ofNat d)), (.ref v2)])
      refine G_iload X102 hx (pc' := 154) rfl (hb hby d24_152) rfl ?_
      refine G_ineg X102 hx (pc' := 155) rfl (hb hby d24_154)  ?_
      refine Go.st (ldAB X102 hx hZ e102 FO (j := (-ii)) (own_rd (k := kk) (U := uu) hr).1 (own_rd (k := kk) (U := uu) hr).2.1 (g := (mkF m 155 #[.val (.long i0), .second, .val (.int (Int32.ofNat (ng + Nd))), .val (.ref v2), .unset, .unset, .unset, .val (.int (Int32.ofNat d)), .val (.int nf), .unset, .val (.int ii)] [(.int (-ii)), (.ref aO), (.int (Int32.ofNat d)), (.ref v2)])) rfl rfl (hb hby d24_155)) ?_
      show Go p e below s _ _ _ T102 (mkF m 156 #[.val (.long i0), .second, .val (.int (Int32.ofNat (ng + Nd))), .val (.ref v2), .unset, .unset, .unset, .val (.int (Int32.ofNat d)), .val (.int nf), .unset, .val (.int ii)] [(.int (own_ones.getD (-ii).toNatClampNeg 0)), (.int (Int32.ofNat d)), (.ref v2)])
      obtain ⟨T103, h103, X103, e103, W103, A103, st103⟩ := stAB X102 hx hZ e102 FA (j := (Int32.ofNat d)) (own_px hd []).1 (own_px hd _).2 (g := (mkF m 156 #[.val (.long i0), .second, .val (.int (Int32.ofNat (ng + Nd))), .val (.ref v2), .unset, .unset, .unset, .val (.int (Int32.ofNat d)), .val (.int nf), .unset, .val (.int ii)] [(.int (own_ones.getD (-ii).toNatClampNeg 0)), (.int (Int32.ofNat d)), (.ref v2)])) rfl rfl (hb hby d24_156)
      refine Go.st st103 ?_
      have A_aO_103 := FO.other W103 (Ne.symm ne_v2_aO)
      have A_aT_103 := FT.other W103 (Ne.symm ne_v2_aT)
      have S_java_lang_Integer_DigitOnes_103 := FSo.wr W103
      have S_java_lang_Integer_DigitTens_103 := FSt.wr W103
      have A_v2_103 : AI Z h103 v2 .byte ((List.replicate (d + 1) (0 : Int32) ++ own_dg uu kk).set (Int32.ofNat d).toNatClampNeg ((own_ones.getD (-ii).toNatClampNeg 0).toInt8.toInt32)) := A103
      have K_103 : Keep h0 h103 [v2] := Kj.wr W103 (Or.inl (List.mem_of_getElem? (i := 0) rfl))
      have Z_103 : n0 ≤ h103.size := Nat.le_trans Z0 K_103.1
      have N103 := Fr.snoc X103 Nj g_v2
      clear FA FO FT FSo FSt W103 st103 A103
      obtain ⟨G103, Y103, M103⟩ : ∃ L, Stand p l e ({ frames := 0, cells := 0, slots := 0, locals := 0 } : Room) s m #[(.long v0), (.int (Int32.ofNat (ng + Nd))), (.ref v2)] below meth c T103 L 0 0 ∧ Fr n0 L := ⟨_, X103, N103⟩
      clear X103 N103
      show Go p e below s _ _ _ T103 (mkF m 157 #[.val (.long i0), .second, .val (.int (Int32.ofNat (ng + Nd))), .val (.ref v2), .unset, .unset, .unset, .val (.int (Int32.ofNat d)), .val (.int nf), .unset, .val (.int ii)] [])
      have AC104 : AI Z h103 v2 .byte (List.replicate d (0 : Int32) ++ (Int32.ofNat (48 + uu / 10 ^ kk % 10)) :: own_dg uu kk) := own_sx hd _ (own_rd (k := kk) (U := uu) hr).2.2.2.1 ▸ A_v2_103
      refine G_iload Y103 hx (pc' := 159) rfl (hb hby d24_157) rfl ?_
      refine G_bipush Y103 hx (pc' := 161) rfl (hb hby d24_159) (z := (-9 : Int32)) rfl ?_
      by_cases hc161_14 : ii < (-9 : Int32)
      · refine G_icmpNo Y103 hx (pc' := 164) rfl (hb hby d24_161) (tlt hc161_14).2.1 ?_
        have hE := own_e2 hP hK hgt (own_le9 hc161_14)
        obtain rfl : d = ng + 1 := by omega
        show Go p e below s _ _ _ T103 (mkF m 164 #[.val (.long i0), .second, .val (.int (Int32.ofNat (ng + Nd))), .val (.ref v2), .unset, .unset, .unset, .val (.int (Int32.ofNat (ng + 1))), .val (.int nf), .unset, .val (.int ii)] [])
        refine G_aloadN Y103 hx (pc' := 165) rfl (hb hby d24_164) rfl rfl ?_
        refine G_iinc Y103 hx (pc' := 168) rfl (hb hby d24_165) rfl (z := ((Int32.ofNat (ng + 1)) + (-1 : Int32))) rfl (L' := #[.val (.long i0), .second, .val (.int (Int32.ofNat (ng + Nd))), .val (.ref v2), .unset, .unset, .unset, .val (.int ((Int32.ofNat (ng + 1)) + (-1 : Int32))), .val (.int nf), .unset, .val (.int ii)]) rfl ?_
        rw [own_decB (by omega : ng ≤ 19)]
        show Go p e below s _ _ _ T103 (mkF m 168 #[.val (.long i0), .second, .val (.int (Int32.ofNat (ng + Nd))), .val (.ref v2), .unset, .unset, .unset, .val (.int (Int32.ofNat ng)), .val (.int nf), .unset, .val (.int ii)] [(.ref v2)])
        refine G_iload Y103 hx (pc' := 170) rfl (hb hby d24_168) rfl ?_
        obtain ⟨T105, X105, e105, st105⟩ := getS2 Y103 hx hZ hown (host := "") (Or.inl (own_w hw 155 rfl)) Via.refl e103 S_java_lang_Integer_DigitTens_103 (g := (mkF m 170 #[.val (.long i0), .second, .val (.int (Int32.ofNat (ng + Nd))), .val (.ref v2), .unset, .unset, .unset, .val (.int (Int32.ofNat ng)), .val (.int nf), .unset, .val (.int ii)] [(.int (Int32.ofNat ng)), (.ref v2)])) rfl (hb hby d24_170)
        refine Go.st st105 ?_
        show Go p e below s _ _ _ T105 (mkF m 173 #[.val (.long i0), .second, .val (.int (Int32.ofNat (ng + Nd))), .val (.ref v2), .unset, .unset, .unset, .val (.int (Int32.ofNat ng)), .val (.int nf), .unset, .val (.int ii)] [(.ref aT), (.int (Int32.ofNat ng)), (.ref v2)])
        refine G_iload X105 hx (pc' := 175) rfl (hb hby d24_173) rfl ?_
        refine G_ineg X105 hx (pc' := 176) rfl (hb hby d24_175)  ?_
        refine Go.st (ldAB X105 hx hZ e105 A_aT_103 (j := (-ii)) (own_rd (k := kk) (U := uu) hr).1 (own_rd (k := kk) (U := uu) hr).2.2.1 (g := (mkF m 176 #[.val (.long i0), .second, .val (.int (Int32.ofNat (ng + Nd))), .val (.ref v2), .unset, .unset, .unset, .val (.int (Int32.ofNat ng)), .val (.int nf), .unset, .val (.int ii)] [(.int (-ii)), (.ref aT), (.int (Int32.ofNat ng)), (.ref v2)])) rfl rfl (hb hby d24_176)) ?_
        show Go p e below s _ _ _ T105 (mkF m 177 #[.val (.long i0), .second, .val (.int (Int32.ofNat (ng + Nd))), .val (.ref v2), .unset, .unset, .unset, .val (.int (Int32.ofNat ng)), .val (.int nf), .unset, .val (.int ii)] [(.int (own_tens.getD (-ii).toNatClampNeg 0)), (.int (Int32.ofNat ng)), (.ref v2)])
        obtain ⟨T106, h106, X106, e106, W106, A106, st106⟩ := stAB X105 hx hZ e105 AC104 (j := (Int32.ofNat ng)) (own_px (by omega : ng ≤ 19) []).1 (own_px (by omega : ng ≤ 19) _).2 (g := (mkF m 177 #[.val (.long i0), .second, .val (.int (Int32.ofNat (ng + Nd))), .val (.ref v2), .unset, .unset, .unset, .val (.int (Int32.ofNat ng)), .val (.int nf), .unset, .val (.int ii)] [(.int (own_tens.getD (-ii).toNatClampNeg 0)), (.int (Int32.ofNat ng)), (.ref v2)])) rfl rfl (hb hby d24_177)
        refine Go.st st106 ?_
        have A_aO_106 := A_aO_103.other W106 (Ne.symm ne_v2_aO)
        have A_aT_106 := A_aT_103.other W106 (Ne.symm ne_v2_aT)
        have S_java_lang_Integer_DigitOnes_106 := S_java_lang_Integer_DigitOnes_103.wr W106
        have S_java_lang_Integer_DigitTens_106 := S_java_lang_Integer_DigitTens_103.wr W106
        have A_v2_106 : AI Z h106 v2 .byte ((List.replicate (ng + 1) (0 : Int32) ++ (Int32.ofNat (48 + uu / 10 ^ kk % 10)) :: own_dg uu kk).set (Int32.ofNat ng).toNatClampNeg ((own_tens.getD (-ii).toNatClampNeg 0).toInt8.toInt32)) := A106
        have K_106 : Keep h0 h106 [v2] := K_103.wr W106 (Or.inl (List.mem_of_getElem? (i := 0) rfl))
        have Z_106 : n0 ≤ h106.size := Nat.le_trans Z0 K_106.1
        have N106 := Fr.snoc X106 M103 g_v2
        clear A_aO_103 A_aT_103 S_java_lang_Integer_DigitOnes_103 S_java_lang_Integer_DigitTens_103 AC104 W106 st106 A106
        obtain ⟨G106, Y106, M106⟩ : ∃ L, Stand p l e ({ frames := 0, cells := 0, slots := 0, locals := 0 } : Room) s m #[(.long v0), (.int (Int32.ofNat (ng + Nd))), (.ref v2)] below meth c T106 L 0 0 ∧ Fr n0 L := ⟨_, X106, N106⟩
        clear X106 N106
        show Go p e below s _ _ _ T106 (mkF m 178 #[.val (.long i0), .second, .val (.int (Int32.ofNat (ng + Nd))), .val (.ref v2), .unset, .unset, .unset, .val (.int (Int32.ofNat ng)), .val (.int nf), .unset, .val (.int ii)] [])
        have AD107 : AI Z h106 v2 .byte (List.replicate ng (0 : Int32) ++ own_dg uu (kk + 2)) := own_sx (by omega : ng ≤ 19) ((Int32.ofNat (48 + uu / 10 ^ kk % 10)) :: own_dg uu kk) (own_rd (k := kk) (U := uu) hr).2.2.2.2 ▸ A_v2_106
        rw [← hE.1] at AD107
        show Go p e below s _ _ _ T106 (mkF m 178 #[.val (.long i0), .second, .val (.int (Int32.ofNat (ng + Nd))), .val (.ref v2), .unset, .unset, .unset, .val (.int (Int32.ofNat ng)), .val (.int nf), .unset, .val (.int ii)] [])
        refine G_iload Y106 hx (pc' := 180) rfl (hb hby d24_178) rfl ?_
        by_cases hc180_15 : nf = (0 : Int32)
        · refine G_ifYes Y106 hx (pc' := 192) (hb hby d24_180) ((if0 _ _).trans (teq hc180_15).1) (by decide) (by decide) ?_
          have AE108 : AI Z h106 v2 .byte (own_txt ng uu Nd) := (own_t0 hK.hf hc180_15).1 ▸ AD107
          refine G_iload Y106 hx (pc' := 194) rfl (hb hby d24_192) rfl ?_
          refine Go.fin Y106 hlk (v := some (.int (Int32.ofNat ng))) (fun h => by rw [Bd.returns] at h; cases h) (by decide) (by decide) ?_ (fun fs hr => retOut Y106 hx Bd.returns rfl (Or.inl ⟨rfl, Or.inl rfl, _, rfl⟩) (hb hby d24_194) hr)
          show Q_getc Z v0 v2 uu Nd ng aO aT h0 n0 _ T106.heap _
          rw [e106]
          exact ⟨congrArg (fun z => some (Value.int z)) (own_t0 (U := uu) (N := Nd) hK.hf hc180_15).2, M106, K_106, AE108⟩
        refine G_ifNo Y106 hx (pc' := 183) rfl (hb hby d24_180) ((if0 _ _).trans (feq hc180_15).1) ?_
        refine G_aloadN Y106 hx (pc' := 184) rfl (hb hby d24_183) rfl rfl ?_
        refine G_iinc Y106 hx (pc' := 187) rfl (hb hby d24_184) rfl (z := ((Int32.ofNat ng) + (-1 : Int32))) rfl (L' := #[.val (.long i0), .second, .val (.int (Int32.ofNat (ng + Nd))), .val (.ref v2), .unset, .unset, .unset, .val (.int ((Int32.ofNat ng) + (-1 : Int32))), .val (.int nf), .unset, .val (.int ii)]) rfl ?_
        refine G_iload Y106 hx (pc' := 189) rfl (hb hby d24_187) rfl ?_
        refine G_bipush Y106 hx (pc' := 191) rfl (hb hby d24_189) (z := (45 : Int32)) rfl ?_
        obtain ⟨T109, h109, X109, e109, W109, A109, st109⟩ := stAB Y106 hx hZ e106 AD107 (j := ((Int32.ofNat ng) + (-1 : Int32))) (own_t1 (U := uu) (N := Nd) hK.hf hc180_15).2.2.1 (own_t1 (U := uu) (N := Nd) hK.hf hc180_15).2.2.2 (g := (mkF m 191 #[.val (.long i0), .second, .val (.int (Int32.ofNat (ng + Nd))), .val (.ref v2), .unset, .unset, .unset, .val (.int ((Int32.ofNat ng) + (-1 : Int32))), .val (.int nf), .unset, .val (.int ii)] [(.int (45 : Int32)), (.int ((Int32.ofNat ng) + (-1 : Int32))), (.ref v2)])) rfl rfl (hb hby d24_191)
        refine Go.st st109 ?_
        have A_aO_109 := A_aO_106.other W109 (Ne.symm ne_v2_aO)
        have A_aT_109 := A_aT_106.other W109 (Ne.symm ne_v2_aT)
        have S_java_lang_Integer_DigitOnes_109 := S_java_lang_Integer_DigitOnes_106.wr W109
        have S_java_lang_Integer_DigitTens_109 := S_java_lang_Integer_DigitTens_106.wr W109
        have A_v2_109 : AI Z h109 v2 .byte ((List.replicate ng (0 : Int32) ++ own_dg uu Nd).set ((Int32.ofNat ng) + (-1 : Int32)).toNatClampNeg (45 : Int32)) := A109
        have K_109 : Keep h0 h109 [v2] := K_106.wr W109 (Or.inl (List.mem_of_getElem? (i := 0) rfl))
        have Z_109 : n0 ≤ h109.size := Nat.le_trans Z0 K_109.1
        have N109 := Fr.snoc X109 M106 g_v2
        clear A_aO_106 A_aT_106 S_java_lang_Integer_DigitOnes_106 S_java_lang_Integer_DigitTens_106 AD107 W109 st109 A109
        obtain ⟨G109, Y109, M109⟩ : ∃ L, Stand p l e ({ frames := 0, cells := 0, slots := 0, locals := 0 } : Room) s m #[(.long v0), (.int (Int32.ofNat (ng + Nd))), (.ref v2)] below meth c T109 L 0 0 ∧ Fr n0 L := ⟨_, X109, N109⟩
        clear X109 N109
        show Go p e below s _ _ _ T109 (mkF m 192 #[.val (.long i0), .second, .val (.int (Int32.ofNat (ng + Nd))), .val (.ref v2), .unset, .unset, .unset, .val (.int ((Int32.ofNat ng) + (-1 : Int32))), .val (.int nf), .unset, .val (.int ii)] [])
        have AE110 : AI Z h109 v2 .byte (own_txt ng uu Nd) := (own_t1 hK.hf hc180_15).1 ▸ A_v2_109
        refine G_iload Y109 hx (pc' := 194) rfl (hb hby d24_192) rfl ?_
        refine Go.fin Y109 hlk (v := some (.int ((Int32.ofNat ng) + (-1 : Int32)))) (fun h => by rw [Bd.returns] at h; cases h) (by decide) (by decide) ?_ (fun fs hr => retOut Y109 hx Bd.returns rfl (Or.inl ⟨rfl, Or.inl rfl, _, rfl⟩) (hb hby d24_194) hr)
        show Q_getc Z v0 v2 uu Nd ng aO aT h0 n0 _ T109.heap _
        rw [e109]
        exact ⟨congrArg (fun z => some (Value.int z)) (own_t1 (U := uu) (N := Nd) hK.hf hc180_15).2.1, M109, K_109, AE110⟩
      refine G_icmpYes Y103 hx (pc' := 178) (hb hby d24_161) (flt hc161_14).2.1 (by decide) (by decide) ?_
      have hE := own_e1 hP hK (own_gt9 hc161_14)
      obtain rfl : ng = d := by omega
      have AD111 : AI Z h103 v2 .byte (List.replicate ng (0 : Int32) ++ own_dg uu (kk + 1)) := AC104
      rw [← hE.1] at AD111
      show Go p e below s _ _ _ T103 (mkF m 178 #[.val (.long i0), .second, .val (.int (Int32.ofNat (ng + Nd))), .val (.ref v2), .unset, .unset, .unset, .val (.int (Int32.ofNat ng)), .val (.int nf), .unset, .val (.int ii)] [])
      refine G_iload Y103 hx (pc' := 180) rfl (hb hby d24_178) rfl ?_
      by_cases hc180_16 : nf = (0 : Int32)
      · refine G_ifYes Y103 hx (pc' := 192) (hb hby d24_180) ((if0 _ _).trans (teq hc180_16).1) (by decide) (by decide) ?_
        have AE112 : AI Z h103 v2 .byte (own_txt ng uu Nd) := (own_t0 hK.hf hc180_16).1 ▸ AD111
        refine G_iload Y103 hx (pc' := 194) rfl (hb hby d24_192) rfl ?_
        refine Go.fin Y103 hlk (v := some (.int (Int32.ofNat ng))) (fun h => by rw [Bd.returns] at h; cases h) (by decide) (by decide) ?_ (fun fs hr => retOut Y103 hx Bd.returns rfl (Or.inl ⟨rfl, Or.inl rfl, _, rfl⟩) (hb hby d24_194) hr)
        show Q_getc Z v0 v2 uu Nd ng aO aT h0 n0 _ T103.heap _
        rw [e103]
        exact ⟨congrArg (fun z => some (Value.int z)) (own_t0 (U := uu) (N := Nd) hK.hf hc180_16).2, M103, K_103, AE112⟩
      refine G_ifNo Y103 hx (pc' := 183) rfl (hb hby d24_180) ((if0 _ _).trans (feq hc180_16).1) ?_
      refine G_aloadN Y103 hx (pc' := 184) rfl (hb hby d24_183) rfl rfl ?_
      refine G_iinc Y103 hx (pc' := 187) rfl (hb hby d24_184) rfl (z := ((Int32.ofNat ng) + (-1 : Int32))) rfl (L' := #[.val (.long i0), .second, .val (.int (Int32.ofNat (ng + Nd))), .val (.ref v2), .unset, .unset, .unset, .val (.int ((Int32.ofNat ng) + (-1 : Int32))), .val (.int nf), .unset, .val (.int ii)]) rfl ?_
      refine G_iload Y103 hx (pc' := 189) rfl (hb hby d24_187) rfl ?_
      refine G_bipush Y103 hx (pc' := 191) rfl (hb hby d24_189) (z := (45 : Int32)) rfl ?_
      obtain ⟨T113, h113, X113, e113, W113, A113, st113⟩ := stAB Y103 hx hZ e103 AD111 (j := ((Int32.ofNat ng) + (-1 : Int32))) (own_t1 (U := uu) (N := Nd) hK.hf hc180_16).2.2.1 (own_t1 (U := uu) (N := Nd) hK.hf hc180_16).2.2.2 (g := (mkF m 191 #[.val (.long i0), .second, .val (.int (Int32.ofNat (ng + Nd))), .val (.ref v2), .unset, .unset, .unset, .val (.int ((Int32.ofNat ng) + (-1 : Int32))), .val (.int nf), .unset, .val (.int ii)] [(.int (45 : Int32)), (.int ((Int32.ofNat ng) + (-1 : Int32))), (.ref v2)])) rfl rfl (hb hby d24_191)
      refine Go.st st113 ?_
      have A_aO_113 := A_aO_103.other W113 (Ne.symm ne_v2_aO)
      have A_aT_113 := A_aT_103.other W113 (Ne.symm ne_v2_aT)
      have S_java_lang_Integer_DigitOnes_113 := S_java_lang_Integer_DigitOnes_103.wr W113
      have S_java_lang_Integer_DigitTens_113 := S_java_lang_Integer_DigitTens_103.wr W113
      have A_v2_113 : AI Z h113 v2 .byte ((List.replicate ng (0 : Int32) ++ own_dg uu Nd).set ((Int32.ofNat ng) + (-1 : Int32)).toNatClampNeg (45 : Int32)) := A113
      have K_113 : Keep h0 h113 [v2] := K_103.wr W113 (Or.inl (List.mem_of_getElem? (i := 0) rfl))
      have Z_113 : n0 ≤ h113.size := Nat.le_trans Z0 K_113.1
      have N113 := Fr.snoc X113 M103 g_v2
      clear A_aO_103 A_aT_103 S_java_lang_Integer_DigitOnes_103 S_java_lang_Integer_DigitTens_103 AD111 W113 st113 A113
      obtain ⟨G113, Y113, M113⟩ : ∃ L, Stand p l e ({ frames := 0, cells := 0, slots := 0, locals := 0 } : Room) s m #[(.long v0), (.int (Int32.ofNat (ng + Nd))), (.ref v2)] below meth c T113 L 0 0 ∧ Fr n0 L := ⟨_, X113, N113⟩
      clear X113 N113
      show Go p e below s _ _ _ T113 (mkF m 192 #[.val (.long i0), .second, .val (.int (Int32.ofNat (ng + Nd))), .val (.ref v2), .unset, .unset, .unset, .val (.int ((Int32.ofNat ng) + (-1 : Int32))), .val (.int nf), .unset, .val (.int ii)] [])
      have AE114 : AI Z h113 v2 .byte (own_txt ng uu Nd) := (own_t1 hK.hf hc180_16).1 ▸ A_v2_113
      refine G_iload Y113 hx (pc' := 194) rfl (hb hby d24_192) rfl ?_
      refine Go.fin Y113 hlk (v := some (.int ((Int32.ofNat ng) + (-1 : Int32)))) (fun h => by rw [Bd.returns] at h; cases h) (by decide) (by decide) ?_ (fun fs hr => retOut Y113 hx Bd.returns rfl (Or.inl ⟨rfl, Or.inl rfl, _, rfl⟩) (hb hby d24_194) hr)
      show Q_getc Z v0 v2 uu Nd ng aO aT h0 n0 _ T113.heap _
      rw [e113]
      exact ⟨congrArg (fun z => some (Value.int z)) (own_t1 (U := uu) (N := Nd) hK.hf hc180_16).2.1, M113, K_113, AE114⟩
    refine G_icmpNo Xj hx (pc' := 93) rfl (hb hby d24_90) (flt hc90_13).2.2.1 ?_
    have hle := own_le2 hc90_13
    have hlq := own_iq hK.hz (by omega)
    obtain ⟨hk2, d, rfl, hd, hK2⟩ := own_q1 hP hK hle
    show Go p e below s _ _ _ Tj (mkF m 93 #[.val (.long i0), .second, .val (.int (Int32.ofNat (ng + Nd))), .val (.ref v2), .unset, .unset, .unset, .val (.int (Int32.ofNat (d + 2))), .val (.int nf), .unset, .val (.int ii)] [])
    refine G_iload Xj hx (pc' := 95) rfl (hb hby d24_93) rfl ?_
    refine G_bipush Xj hx (pc' := 97) rfl (hb hby d24_95) (z := (100 : Int32)) rfl ?_
    refine G_idiv Xj hx (pc' := 98) rfl (hb hby d24_97) (by decide) ?_
    refine G_istore Xj hx (pc' := 100) rfl (hb hby d24_98) (L' := #[.val (.long i0), .second, .val (.int (Int32.ofNat (ng + Nd))), .val (.ref v2), .unset, .unset, .unset, .val (.int (Int32.ofNat (d + 2))), .val (.int nf), .val (.int (ii / (100 : Int32))), .val (.int ii)]) rfl ?_
    obtain ⟨qq, h_qq⟩ : ∃ z : Int32, (ii / (100 : Int32)) = z := ⟨_, rfl⟩
    rw [h_qq] at hlq
    rw [h_qq]
    show Go p e below s _ _ _ Tj (mkF m 100 #[.val (.long i0), .second, .val (.int (Int32.ofNat (ng + Nd))), .val (.ref v2), .unset, .unset, .unset, .val (.int (Int32.ofNat (d + 2))), .val (.int nf), .val (.int qq), .val (.int ii)] [])
    refine G_iload Xj hx (pc' := 102) rfl (hb hby d24_100) rfl ?_
    refine G_bipush Xj hx (pc' := 104) rfl (hb hby d24_102) (z := (100 : Int32)) rfl ?_
    refine G_imul Xj hx (pc' := 105) rfl (hb hby d24_104)  ?_
    refine G_iload Xj hx (pc' := 107) rfl (hb hby d24_105) rfl ?_
    refine G_isub Xj hx (pc' := 108) rfl (hb hby d24_107)  ?_
    refine G_istore Xj hx (pc' := 110) rfl (hb hby d24_108) (L' := #[.val (.long i0), .second, .val (.int (Int32.ofNat (ng + Nd))), .val (.ref v2), .unset, .unset, .val (.int ((qq * (100 : Int32)) - ii)), .val (.int (Int32.ofNat (d + 2))), .val (.int nf), .val (.int qq), .val (.int ii)]) rfl ?_
    obtain ⟨rr, h_rr⟩ : ∃ z : Int32, ((qq * (100 : Int32)) - ii) = z := ⟨_, rfl⟩
    rw [h_rr] at hlq
    rw [h_rr]
    show Go p e below s _ _ _ Tj (mkF m 110 #[.val (.long i0), .second, .val (.int (Int32.ofNat (ng + Nd))), .val (.ref v2), .unset, .unset, .val (.int rr), .val (.int (Int32.ofNat (d + 2))), .val (.int nf), .val (.int qq), .val (.int ii)] [])
    refine G_iload Xj hx (pc' := 112) rfl (hb hby d24_110) rfl ?_
    refine G_istore Xj hx (pc' := 114) rfl (hb hby d24_112) (L' := #[.val (.long i0), .second, .val (.int (Int32.ofNat (ng + Nd))), .val (.ref v2), .unset, .unset, .val (.int rr), .val (.int (Int32.ofNat (d + 2))), .val (.int nf), .val (.int qq), .val (.int qq)]) rfl ?_
    refine G_aloadN Xj hx (pc' := 115) rfl (hb hby d24_114) rfl rfl ?_
    refine G_iinc Xj hx (pc' := 118) rfl (hb hby d24_115) rfl (z := ((Int32.ofNat (d + 2)) + (-1 : Int32))) rfl (L' := #[.val (.long i0), .second, .val (.int (Int32.ofNat (ng + Nd))), .val (.ref v2), .unset, .unset, .val (.int rr), .val (.int ((Int32.ofNat (d + 2)) + (-1 : Int32))), .val (.int nf), .val (.int qq), .val (.int qq)]) rfl ?_
    rw [own_decA hd]
    show Go p e below s _ _ _ Tj (mkF m 118 #[.val (.long i0), .second, .val (.int (Int32.ofNat (ng + Nd))), .val (.ref v2), .unset, .unset, .val (.int rr), .val (.int (Int32.ofNat (d + 1))), .val (.int nf), .val (.int qq), .val (.int qq)] [(.ref v2)])
    refine G_iload Xj hx (pc' := 120) rfl (hb hby d24_118) rfl ?_
    obtain ⟨T115, X115, e115, st115⟩ := getS2 Xj hx hZ hown (host := "") (Or.inl (own_w hw 84 rfl)) Via.refl ej FSo (g := (mkF m 120 #[.val (.long i0), .second, .val (.int (Int32.ofNat (ng + Nd))), .val (.ref v2), .unset, .unset, .val (.int rr), .val (.int (Int32.ofNat (d + 1))), .val (.int nf), .val (.int qq), .val (.int qq)] [(.int (Int32.ofNat (d + 1))), (.ref v2)])) rfl (hb hby d24_120)
    refine Go.st st115 ?_
    show Go p e below s _ _ _ T115 (mkF m 123 #[.val (.long i0), .second, .val (.int (Int32.ofNat (ng + Nd))), .val (.ref v2), .unset, .unset, .val (.int rr), .val (.int (Int32.ofNat (d + 1))), .val (.int nf), .val (.int qq), .val (.int qq)] [(.ref aO), (.int (Int32.ofNat (d + 1))), (.ref v2)])
    refine G_iload X115 hx (pc' := 125) rfl (hb hby d24_123) rfl ?_
    refine Go.st (ldAB X115 hx hZ e115 FO (j := rr) (own_rd (k := kk) (U := uu) hlq.2).1 (own_rd (k := kk) (U := uu) hlq.2).2.1 (g := (mkF m 125 #[.val (.long i0), .second, .val (.int (Int32.ofNat (ng + Nd))), .val (.ref v2), .unset, .unset, .val (.int rr), .val (.int (Int32.ofNat (d + 1))), .val (.int nf), .val (.int qq), .val (.int qq)] [(.int rr), (.ref aO), (.int (Int32.ofNat (d + 1))), (.ref v2)])) rfl rfl (hb hby d24_125)) ?_
    show Go p e below s _ _ _ T115 (mkF m 126 #[.val (.long i0), .second, .val (.int (Int32.ofNat (ng + Nd))), .val (.ref v2), .unset, .unset, .val (.int rr), .val (.int (Int32.ofNat (d + 1))), .val (.int nf), .val (.int qq), .val (.int qq)] [(.int (own_ones.getD rr.toNatClampNeg 0)), (.int (Int32.ofNat (d + 1))), (.ref v2)])
    obtain ⟨T116, h116, X116, e116, W116, A116, st116⟩ := stAB X115 hx hZ e115 FA (j := (Int32.ofNat (d + 1))) (own_px (by omega : d + 1 ≤ 19) []).1 (own_px (by omega : d + 1 ≤ 19) _).2 (g := (mkF m 126 #[.val (.long i0), .second, .val (.int (Int32.ofNat (ng + Nd))), .val (.ref v2), .unset, .unset, .val (.int rr), .val (.int (Int32.ofNat (d + 1))), .val (.int nf), .val (.int qq), .val (.int qq)] [(.int (own_ones.getD rr.toNatClampNeg 0)), (.int (Int32.ofNat (d + 1))), (.ref v2)])) rfl rfl (hb hby d24_126)
    refine Go.st st116 ?_
    have A_aO_116 := FO.other W116 (Ne.symm ne_v2_aO)
    have A_aT_116 := FT.other W116 (Ne.symm ne_v2_aT)
    have S_java_lang_Integer_DigitOnes_116 := FSo.wr W116
    have S_java_lang_Integer_DigitTens_116 := FSt.wr W116
    have A_v2_116 : AI Z h116 v2 .byte ((List.replicate (d + 2) (0 : Int32) ++ own_dg uu kk).set (Int32.ofNat (d + 1)).toNatClampNeg ((own_ones.getD rr.toNatClampNeg 0).toInt8.toInt32)) := A116
    have K_116 : Keep h0 h116 [v2] := Kj.wr W116 (Or.inl (List.mem_of_getElem? (i := 0) rfl))
    have Z_116 : n0 ≤ h116.size := Nat.le_trans Z0 K_116.1
    have N116 := Fr.snoc X116 Nj g_v2
    clear FA FO FT FSo FSt W116 st116 A116
    obtain ⟨G116, Y116, M116⟩ : ∃ L, Stand p l e ({ frames := 0, cells := 0, slots := 0, locals := 0 } : Room) s m #[(.long v0), (.int (Int32.ofNat (ng + Nd))), (.ref v2)] below meth c T116 L 0 0 ∧ Fr n0 L := ⟨_, X116, N116⟩
    clear X116 N116
    show Go p e below s _ _ _ T116 (mkF m 127 #[.val (.long i0), .second, .val (.int (Int32.ofNat (ng + Nd))), .val (.ref v2), .unset, .unset, .val (.int rr), .val (.int (Int32.ofNat (d + 1))), .val (.int nf), .val (.int qq), .val (.int qq)] [])
    have AC117 : AI Z h116 v2 .byte (List.replicate (d + 1) (0 : Int32) ++ (Int32.ofNat (48 + uu / 10 ^ kk % 10)) :: own_dg uu kk) := own_sx (by omega : d + 1 ≤ 19) _ (own_rd (k := kk) (U := uu) hlq.2).2.2.2.1 ▸ A_v2_116
    refine G_aloadN Y116 hx (pc' := 128) rfl (hb hby d24_127) rfl rfl ?_
    refine G_iinc Y116 hx (pc' := 131) rfl (hb hby d24_128) rfl (z := ((Int32.ofNat (d + 1)) + (-1 : Int32))) rfl (L' := #[.val (.long i0), .second, .val (.int (Int32.ofNat (ng + Nd))), .val (.ref v2), .unset, .unset, .val (.int rr), .val (.int ((Int32.ofNat (d + 1)) + (-1 : Int32))), .val (.int nf), .val (.int qq), .val (.int qq)]) rfl ?_
    rw [own_decB (by omega : d ≤ 19)]
    show Go p e below s _ _ _ T116 (mkF m 131 #[.val (.long i0), .second, .val (.int (Int32.ofNat (ng + Nd))), .val (.ref v2), .unset, .unset, .val (.int rr), .val (.int (Int32.ofNat d)), .val (.int nf), .val (.int qq), .val (.int qq)] [(.ref v2)])
    refine G_iload Y116 hx (pc' := 133) rfl (hb hby d24_131) rfl ?_
    obtain ⟨T118, X118, e118, st118⟩ := getS2 Y116 hx hZ hown (host := "") (Or.inl (own_w hw 155 rfl)) Via.refl e116 S_java_lang_Integer_DigitTens_116 (g := (mkF m 133 #[.val (.long i0), .second, .val (.int (Int32.ofNat (ng + Nd))), .val (.ref v2), .unset, .unset, .val (.int rr), .val (.int (Int32.ofNat d)), .val (.int nf), .val (.int qq), .val (.int qq)] [(.int (Int32.ofNat d)), (.ref v2)])) rfl (hb hby d24_133)
    refine Go.st st118 ?_
    show Go p e below s _ _ _ T118 (mkF m 136 #[.val (.long i0), .second, .val (.int (Int32.ofNat (ng + Nd))), .val (.ref v2), .unset, .unset, .val (.int rr), .val (.int (Int32.ofNat d)), .val (.int nf), .val (.int qq), .val (.int qq)] [(.ref aT), (.int (Int32.ofNat d)), (.ref v2)])
    refine G_iload X118 hx (pc' := 138) rfl (hb hby d24_136) rfl ?_
    refine Go.st (ldAB X118 hx hZ e118 A_aT_116 (j := rr) (own_rd (k := kk) (U := uu) hlq.2).1 (own_rd (k := kk) (U := uu) hlq.2).2.2.1 (g := (mkF m 138 #[.val (.long i0), .second, .val (.int (Int32.ofNat (ng + Nd))), .val (.ref v2), .unset, .unset, .val (.int rr), .val (.int (Int32.ofNat d)), .val (.int nf), .val (.int qq), .val (.int qq)] [(.int rr), (.ref aT), (.int (Int32.ofNat d)), (.ref v2)])) rfl rfl (hb hby d24_138)) ?_
    show Go p e below s _ _ _ T118 (mkF m 139 #[.val (.long i0), .second, .val (.int (Int32.ofNat (ng + Nd))), .val (.ref v2), .unset, .unset, .val (.int rr), .val (.int (Int32.ofNat d)), .val (.int nf), .val (.int qq), .val (.int qq)] [(.int (own_tens.getD rr.toNatClampNeg 0)), (.int (Int32.ofNat d)), (.ref v2)])
    obtain ⟨T119, h119, X119, e119, W119, A119, st119⟩ := stAB X118 hx hZ e118 AC117 (j := (Int32.ofNat d)) (own_px (by omega : d ≤ 19) []).1 (own_px (by omega : d ≤ 19) _).2 (g := (mkF m 139 #[.val (.long i0), .second, .val (.int (Int32.ofNat (ng + Nd))), .val (.ref v2), .unset, .unset, .val (.int rr), .val (.int (Int32.ofNat d)), .val (.int nf), .val (.int qq), .val (.int qq)] [(.int (own_tens.getD rr.toNatClampNeg 0)), (.int (Int32.ofNat d)), (.ref v2)])) rfl rfl (hb hby d24_139)
    refine Go.st st119 ?_
    have A_aO_119 := A_aO_116.other W119 (Ne.symm ne_v2_aO)
    have A_aT_119 := A_aT_116.other W119 (Ne.symm ne_v2_aT)
    have S_java_lang_Integer_DigitOnes_119 := S_java_lang_Integer_DigitOnes_116.wr W119
    have S_java_lang_Integer_DigitTens_119 := S_java_lang_Integer_DigitTens_116.wr W119
    have A_v2_119 : AI Z h119 v2 .byte ((List.replicate (d + 1) (0 : Int32) ++ (Int32.ofNat (48 + uu / 10 ^ kk % 10)) :: own_dg uu kk).set (Int32.ofNat d).toNatClampNeg ((own_tens.getD rr.toNatClampNeg 0).toInt8.toInt32)) := A119
    have K_119 : Keep h0 h119 [v2] := K_116.wr W119 (Or.inl (List.mem_of_getElem? (i := 0) rfl))
    have Z_119 : n0 ≤ h119.size := Nat.le_trans Z0 K_119.1
    have N119 := Fr.snoc X119 M116 g_v2
    clear A_aO_116 A_aT_116 S_java_lang_Integer_DigitOnes_116 S_java_lang_Integer_DigitTens_116 AC117 W119 st119 A119
    obtain ⟨G119, Y119, M119⟩ : ∃ L, Stand p l e ({ frames := 0, cells := 0, slots := 0, locals := 0 } : Room) s m #[(.long v0), (.int (Int32.ofNat (ng + Nd))), (.ref v2)] below meth c T119 L 0 0 ∧ Fr n0 L := ⟨_, X119, N119⟩
    clear X119 N119
    show Go p e below s _ _ _ T119 (mkF m 140 #[.val (.long i0), .second, .val (.int (Int32.ofNat (ng + Nd))), .val (.ref v2), .unset, .unset, .val (.int rr), .val (.int (Int32.ofNat d)), .val (.int nf), .val (.int qq), .val (.int qq)] [])
    have AC120 : AI Z h119 v2 .byte (List.replicate d (0 : Int32) ++ own_dg uu (kk + 2)) := own_sx (by omega : d ≤ 19) ((Int32.ofNat (48 + uu / 10 ^ kk % 10)) :: own_dg uu kk) (own_rd (k := kk) (U := uu) hlq.2).2.2.2.2 ▸ A_v2_119
    refine G_goto Y119 hx (pc' := 86) (hb hby d24_140)  (by decide) (by decide) ?_
    exact KA1 Nd (kk + 2) d nf qq i0 rr qq _ _ _ Y119 e119 M119 K_119 Z_119 AC120 A_aO_119 A_aT_119 S_java_lang_Integer_DigitOnes_119 S_java_lang_Integer_DigitTens_119 (hlq.1 ▸ hK2) (by omega)
  have JB : ∀ (nn kk cc : Nat) (nf : Int32) (ii : Int64) (q4 : Int64) (r6 : Int32) (T : State) (h : Heap) (L : List Loc) (X : Stand p l e ({ frames := 0, cells := 0, slots := 0, locals := 0 } : Room) s m #[(.long v0), (.int (Int32.ofNat (ng + Nd))), (.ref v2)] below meth c T L 0 0) (e1 : T.heap = h) (N_ : Fr n0 L) (K : Keep h0 h [v2]) (Zq : n0 ≤ h.size) (FA : AI Z h v2 .byte (List.replicate cc (0 : Int32) ++ own_dg uu kk)) (FO : AI Z h aO .byte own_ones) (FT : AI Z h aT .byte own_tens) (FSo : Sta Z h "java/lang/Integer" "DigitOnes" "[B" (.ref aO)) (FSt : Sta Z h "java/lang/Integer" "DigitTens" "[B" (.ref aT)) (hK : own_K uu Nd ng nf kk cc ii.toInt) (hn : Nd ≤ kk + nn), Go p e below s ({ frames := 0, cells := 0, slots := 0, locals := 0 } : Room).cells ({ frames := 0, cells := 0, slots := 0, locals := 0 } : Room).slots (Q_getc Z v0 v2 uu Nd ng aO aT h0 n0) T (mkF m 24 #[.val (.long ii), .second, .val (.int (Int32.ofNat (ng + Nd))), .val (.ref v2), .val (.long q4), .second, .val (.int r6), .val (.int (Int32.ofNat cc)), .val (.int nf), .unset, .unset] []) := by
    intro nn
    induction nn with
    | zero => intro kk cc nf ii q4 r6 Tj hj Lj Xj ej Nj Kj Zj FA FO FT FSo FSt hK hn; exact absurd hK.hk (by omega)
    | succ nn ih =>
      intro kk cc nf ii q4 r6 Tj hj Lj Xj ej Nj Kj Zj FA FO FT FSo FSt hK hn
      refine G_lloadN Xj hx (pc' := 25) rfl (hb hby d24_24) rfl ?_
      refine G_ldc2 Xj hx (pc' := 28) rfl hown (mvT hZ (own_w hw 83 rfl)) (hb hby d24_25) ?_
      refine G_lcmp Xj hx (pc' := 29) rfl (hb hby d24_28)  ?_
      by_cases hc29_17 : (-2147483648 : Int64) < ii
      · refine G_ifYes Xj hx (pc' := 82) (hb hby d24_29) ((if0 _ _).trans (tlt ((lw_gt _ _).2 hc29_17)).2.2.1) (by decide) (by decide) ?_
        refine G_lloadN Xj hx (pc' := 83) rfl (hb hby d24_82) rfl ?_
        refine G_l2i Xj hx (pc' := 84) rfl (hb hby d24_83)  ?_
        refine G_istore Xj hx (pc' := 86) rfl (hb hby d24_84) (L' := #[.val (.long ii), .second, .val (.int (Int32.ofNat (ng + Nd))), .val (.ref v2), .val (.long q4), .second, .val (.int r6), .val (.int (Int32.ofNat cc)), .val (.int nf), .unset, .val (.int (ii.toInt32))]) rfl ?_
        have hL := own_l2i hK.hz hc29_17
        exact KB Nd kk cc nf (ii.toInt32) ii q4 r6 _ _ _ Xj ej Nj Kj Zj FA FO FT FSo FSt (hL.symm ▸ hK) (by omega)
      refine G_ifNo Xj hx (pc' := 32) rfl (hb hby d24_29) ((if0 _ _).trans (flt (fun q => hc29_17 ((lw_gt _ _).1 q))).2.2.1) ?_
      have hle := own_le1 hc29_17
      have hlq := own_lq2 hP hK hle
      obtain ⟨hk2, d, rfl, hd, hK2⟩ := own_q1 hP hK hle
      show Go p e below s _ _ _ Tj (mkF m 32 #[.val (.long ii), .second, .val (.int (Int32.ofNat (ng + Nd))), .val (.ref v2), .val (.long q4), .second, .val (.int r6), .val (.int (Int32.ofNat (d + 2))), .val (.int nf), .unset, .unset] [])
      refine G_lloadN Xj hx (pc' := 33) rfl (hb hby d24_32) rfl ?_
      refine G_ldc2 Xj hx (pc' := 36) rfl hown (mvT hZ (own_w hw 154 rfl)) (hb hby d24_33) ?_
      refine G_ldiv Xj hx (pc' := 37) rfl (hb hby d24_36) (by decide) ?_
      refine G_lstore Xj hx (pc' := 39) rfl (hb hby d24_37) (L' := #[.val (.long ii), .second, .val (.int (Int32.ofNat (ng + Nd))), .val (.ref v2), .val (.long (ii / (100 : Int64))), .second, .val (.int r6), .val (.int (Int32.ofNat (d + 2))), .val (.int nf), .unset, .unset]) rfl ?_
      obtain ⟨qq, h_qq⟩ : ∃ z : Int64, (ii / (100 : Int64)) = z := ⟨_, rfl⟩
      rw [h_qq] at hlq
      rw [h_qq]
      show Go p e below s _ _ _ Tj (mkF m 39 #[.val (.long ii), .second, .val (.int (Int32.ofNat (ng + Nd))), .val (.ref v2), .val (.long qq), .second, .val (.int r6), .val (.int (Int32.ofNat (d + 2))), .val (.int nf), .unset, .unset] [])
      refine G_lload Xj hx (pc' := 41) rfl (hb hby d24_39) rfl ?_
      refine G_ldc2 Xj hx (pc' := 44) rfl hown (mvT hZ (own_w hw 154 rfl)) (hb hby d24_41) ?_
      refine G_lmul Xj hx (pc' := 45) rfl (hb hby d24_44)  ?_
      refine G_lloadN Xj hx (pc' := 46) rfl (hb hby d24_45) rfl ?_
      refine G_lsub Xj hx (pc' := 47) rfl (hb hby d24_46)  ?_
      refine G_l2i Xj hx (pc' := 48) rfl (hb hby d24_47)  ?_
      refine G_istore Xj hx (pc' := 50) rfl (hb hby d24_48) (L' := #[.val (.long ii), .second, .val (.int (Int32.ofNat (ng + Nd))), .val (.ref v2), .val (.long qq), .second, .val (.int (((qq * (100 : Int64)) - ii).toInt32)), .val (.int (Int32.ofNat (d + 2))), .val (.int nf), .unset, .unset]) rfl ?_
      obtain ⟨rr, h_rr⟩ : ∃ z : Int32, (((qq * (100 : Int64)) - ii).toInt32) = z := ⟨_, rfl⟩
      rw [h_rr] at hlq
      rw [h_rr]
      show Go p e below s _ _ _ Tj (mkF m 50 #[.val (.long ii), .second, .val (.int (Int32.ofNat (ng + Nd))), .val (.ref v2), .val (.long qq), .second, .val (.int rr), .val (.int (Int32.ofNat (d + 2))), .val (.int nf), .unset, .unset] [])
      refine G_lload Xj hx (pc' := 52) rfl (hb hby d24_50) rfl ?_
      refine G_lstoreN Xj hx (pc' := 53) rfl (hb hby d24_52) (L' := #[.val (.long qq), .second, .val (.int (Int32.ofNat (ng + Nd))), .val (.ref v2), .val (.long qq), .second, .val (.int rr), .val (.int (Int32.ofNat (d + 2))), .val (.int nf), .unset, .unset]) rfl ?_
      refine G_aloadN Xj hx (pc' := 54) rfl (hb hby d24_53) rfl rfl ?_
      refine G_iinc Xj hx (pc' := 57) rfl (hb hby d24_54) rfl (z := ((Int32.ofNat (d + 2)) + (-1 : Int32))) rfl (L' := #[.val (.long qq), .second, .val (.int (Int32.ofNat (ng + Nd))), .val (.ref v2), .val (.long qq), .second, .val (.int rr), .val (.int ((Int32.ofNat (d + 2)) + (-1 : Int32))), .val (.int nf), .unset, .unset]) rfl ?_
      rw [own_decA hd]
      show Go p e below s _ _ _ Tj (mkF m 57 #[.val (.long qq), .second, .val (.int (Int32.ofNat (ng + Nd))), .val (.ref v2), .val (.long qq), .second, .val (.int rr), .val (.int (Int32.ofNat (d + 1))), .val (.int nf), .unset, .unset] [(.ref v2)])
      refine G_iload Xj hx (pc' := 59) rfl (hb hby d24_57) rfl ?_
      obtain ⟨T121, X121, e121, st121⟩ := getS2 Xj hx hZ hown (host := "") (Or.inl (own_w hw 84 rfl)) Via.refl ej FSo (g := (mkF m 59 #[.val (.long qq), .second, .val (.int (Int32.ofNat (ng + Nd))), .val (.ref v2), .val (.long qq), .second, .val (.int rr), .val (.int (Int32.ofNat (d + 1))), .val (.int nf), .unset, .unset] [(.int (Int32.ofNat (d + 1))), (.ref v2)])) rfl (hb hby d24_59)
      refine Go.st st121 ?_
      show Go p e below s _ _ _ T121 (mkF m 62 #[.val (.long qq), .second, .val (.int (Int32.ofNat (ng + Nd))), .val (.ref v2), .val (.long qq), .second, .val (.int rr), .val (.int (Int32.ofNat (d + 1))), .val (.int nf), .unset, .unset] [(.ref aO), (.int (Int32.ofNat (d + 1))), (.ref v2)])
      refine G_iload X121 hx (pc' := 64) rfl (hb hby d24_62) rfl ?_
      refine Go.st (ldAB X121 hx hZ e121 FO (j := rr) (own_rd (k := kk) (U := uu) hlq.2).1 (own_rd (k := kk) (U := uu) hlq.2).2.1 (g := (mkF m 64 #[.val (.long qq), .second, .val (.int (Int32.ofNat (ng + Nd))), .val (.ref v2), .val (.long qq), .second, .val (.int rr), .val (.int (Int32.ofNat (d + 1))), .val (.int nf), .unset, .unset] [(.int rr), (.ref aO), (.int (Int32.ofNat (d + 1))), (.ref v2)])) rfl rfl (hb hby d24_64)) ?_
      show Go p e below s _ _ _ T121 (mkF m 65 #[.val (.long qq), .second, .val (.int (Int32.ofNat (ng + Nd))), .val (.ref v2), .val (.long qq), .second, .val (.int rr), .val (.int (Int32.ofNat (d + 1))), .val (.int nf), .unset, .unset] [(.int (own_ones.getD rr.toNatClampNeg 0)), (.int (Int32.ofNat (d + 1))), (.ref v2)])
      obtain ⟨T122, h122, X122, e122, W122, A122, st122⟩ := stAB X121 hx hZ e121 FA (j := (Int32.ofNat (d + 1))) (own_px (by omega : d + 1 ≤ 19) []).1 (own_px (by omega : d + 1 ≤ 19) _).2 (g := (mkF m 65 #[.val (.long qq), .second, .val (.int (Int32.ofNat (ng + Nd))), .val (.ref v2), .val (.long qq), .second, .val (.int rr), .val (.int (Int32.ofNat (d + 1))), .val (.int nf), .unset, .unset] [(.int (own_ones.getD rr.toNatClampNeg 0)), (.int (Int32.ofNat (d + 1))), (.ref v2)])) rfl rfl (hb hby d24_65)
      refine Go.st st122 ?_
      have A_aO_122 := FO.other W122 (Ne.symm ne_v2_aO)
      have A_aT_122 := FT.other W122 (Ne.symm ne_v2_aT)
      have S_java_lang_Integer_DigitOnes_122 := FSo.wr W122
      have S_java_lang_Integer_DigitTens_122 := FSt.wr W122
      have A_v2_122 : AI Z h122 v2 .byte ((List.replicate (d + 2) (0 : Int32) ++ own_dg uu kk).set (Int32.ofNat (d + 1)).toNatClampNeg ((own_ones.getD rr.toNatClampNeg 0).toInt8.toInt32)) := A122
      have K_122 : Keep h0 h122 [v2] := Kj.wr W122 (Or.inl (List.mem_of_getElem? (i := 0) rfl))
      have Z_122 : n0 ≤ h122.size := Nat.le_trans Z0 K_122.1
      have N122 := Fr.snoc X122 Nj g_v2
      clear FA FO FT FSo FSt W122 st122 A122
      obtain ⟨G122, Y122, M122⟩ : ∃ L, Stand p l e ({ frames := 0, cells := 0, slots := 0, locals := 0 } : Room) s m #[(.long v0), (.int (Int32.ofNat (ng + Nd))), (.ref v2)] below meth c T122 L 0 0 ∧ Fr n0 L := ⟨_, X122, N122⟩
      clear X122 N122
      show Go p e below s _ _ _ T122 (mkF m 66 #[.val (.long qq), .second, .val (.int (Int32.ofNat (ng + Nd))), .val (.ref v2), .val (.long qq), .second, .val (.int rr), .val (.int (Int32.ofNat (d + 1))), .val (.int nf), .unset, .unset] [])
      have AC123 : AI Z h122 v2 .byte (List.replicate (d + 1) (0 : Int32) ++ (Int32.ofNat (48 + uu / 10 ^ kk % 10)) :: own_dg uu kk) := own_sx (by omega : d + 1 ≤ 19) _ (own_rd (k := kk) (U := uu) hlq.2).2.2.2.1 ▸ A_v2_122
      refine G_aloadN Y122 hx (pc' := 67) rfl (hb hby d24_66) rfl rfl ?_
      refine G_iinc Y122 hx (pc' := 70) rfl (hb hby d24_67) rfl (z := ((Int32.ofNat (d + 1)) + (-1 : Int32))) rfl (L' := #[.val (.long qq), .second, .val (.int (Int32.ofNat (ng + Nd))), .val (.ref v2), .val (.long qq), .second, .val (.int rr), .val (.int ((Int32.ofNat (d + 1)) + (-1 : Int32))), .val (.int nf), .unset, .unset]) rfl ?_
      rw [own_decB (by omega : d ≤ 19)]
      show Go p e below s _ _ _ T122 (mkF m 70 #[.val (.long qq), .second, .val (.int (Int32.ofNat (ng + Nd))), .val (.ref v2), .val (.long qq), .second, .val (.int rr), .val (.int (Int32.ofNat d)), .val (.int nf), .unset, .unset] [(.ref v2)])
      refine G_iload Y122 hx (pc' := 72) rfl (hb hby d24_70) rfl ?_
      obtain ⟨T124, X124, e124, st124⟩ := getS2 Y122 hx hZ hown (host := "") (Or.inl (own_w hw 155 rfl)) Via.refl e122 S_java_lang_Integer_DigitTens_122 (g := (mkF m 72 #[.val (.long qq), .second, .val (.int (Int32.ofNat (ng + Nd))), .val (.ref v2), .val (.long qq), .second, .val (.int rr), .val (.int (Int32.ofNat d)), .val (.int nf), .unset, .unset] [(.int (Int32.ofNat d)), (.ref v2)])) rfl (hb hby d24_72)
      refine Go.st st124 ?_
      show Go p e below s _ _ _ T124 (mkF m 75 #[.val (.long qq), .second, .val (.int (Int32.ofNat (ng + Nd))), .val (.ref v2), .val (.long qq), .second, .val (.int rr), .val (.int (Int32.ofNat d)), .val (.int nf), .unset, .unset] [(.ref aT), (.int (Int32.ofNat d)), (.ref v2)])
      refine G_iload X124 hx (pc' := 77) rfl (hb hby d24_75) rfl ?_
      refine Go.st (ldAB X124 hx hZ e124 A_aT_122 (j := rr) (own_rd (k := kk) (U := uu) hlq.2).1 (own_rd (k := kk) (U := uu) hlq.2).2.2.1 (g := (mkF m 77 #[.val (.long qq), .second, .val (.int (Int32.ofNat (ng + Nd))), .val (.ref v2), .val (.long qq), .second, .val (.int rr), .val (.int (Int32.ofNat d)), .val (.int nf), .unset, .unset] [(.int rr), (.ref aT), (.int (Int32.ofNat d)), (.ref v2)])) rfl rfl (hb hby d24_77)) ?_
      show Go p e below s _ _ _ T124 (mkF m 78 #[.val (.long qq), .second, .val (.int (Int32.ofNat (ng + Nd))), .val (.ref v2), .val (.long qq), .second, .val (.int rr), .val (.int (Int32.ofNat d)), .val (.int nf), .unset, .unset] [(.int (own_tens.getD rr.toNatClampNeg 0)), (.int (Int32.ofNat d)), (.ref v2)])
      obtain ⟨T125, h125, X125, e125, W125, A125, st125⟩ := stAB X124 hx hZ e124 AC123 (j := (Int32.ofNat d)) (own_px (by omega : d ≤ 19) []).1 (own_px (by omega : d ≤ 19) _).2 (g := (mkF m 78 #[.val (.long qq), .second, .val (.int (Int32.ofNat (ng + Nd))), .val (.ref v2), .val (.long qq), .second, .val (.int rr), .val (.int (Int32.ofNat d)), .val (.int nf), .unset, .unset] [(.int (own_tens.getD rr.toNatClampNeg 0)), (.int (Int32.ofNat d)), (.ref v2)])) rfl rfl (hb hby d24_78)
      refine Go.st st125 ?_
      have A_aO_125 := A_aO_122.other W125 (Ne.symm ne_v2_aO)
      have A_aT_125 := A_aT_122.other W125 (Ne.symm ne_v2_aT)
      have S_java_lang_Integer_DigitOnes_125 := S_java_lang_Integer_DigitOnes_122.wr W125
      have S_java_lang_Integer_DigitTens_125 := S_java_lang_Integer_DigitTens_122.wr W125
      have A_v2_125 : AI Z h125 v2 .byte ((List.replicate (d + 1) (0 : Int32) ++ (Int32.ofNat (48 + uu / 10 ^ kk % 10)) :: own_dg uu kk).set (Int32.ofNat d).toNatClampNeg ((own_tens.getD rr.toNatClampNeg 0).toInt8.toInt32)) := A125
      have K_125 : Keep h0 h125 [v2] := K_122.wr W125 (Or.inl (List.mem_of_getElem? (i := 0) rfl))
      have Z_125 : n0 ≤ h125.size := Nat.le_trans Z0 K_125.1
      have N125 := Fr.snoc X125 M122 g_v2
      clear A_aO_122 A_aT_122 S_java_lang_Integer_DigitOnes_122 S_java_lang_Integer_DigitTens_122 AC123 W125 st125 A125
      obtain ⟨G125, Y125, M125⟩ : ∃ L, Stand p l e ({ frames := 0, cells := 0, slots := 0, locals := 0 } : Room) s m #[(.long v0), (.int (Int32.ofNat (ng + Nd))), (.ref v2)] below meth c T125 L 0 0 ∧ Fr n0 L := ⟨_, X125, N125⟩
      clear X125 N125
      show Go p e below s _ _ _ T125 (mkF m 79 #[.val (.long qq), .second, .val (.int (Int32.ofNat (ng + Nd))), .val (.ref v2), .val (.long qq), .second, .val (.int rr), .val (.int (Int32.ofNat d)), .val (.int nf), .unset, .unset] [])
      have AC126 : AI Z h125 v2 .byte (List.replicate d (0 : Int32) ++ own_dg uu (kk + 2)) := own_sx (by omega : d ≤ 19) ((Int32.ofNat (48 + uu / 10 ^ kk % 10)) :: own_dg uu kk) (own_rd (k := kk) (U := uu) hlq.2).2.2.2.2 ▸ A_v2_125
      refine G_goto Y125 hx (pc' := 24) (hb hby d24_79)  (by decide) (by decide) ?_
      exact ih (kk + 2) d nf qq qq rr _ _ _ Y125 e125 M125 K_125 Z_125 AC126 A_aO_125 A_aT_125 S_java_lang_Integer_DigitOnes_125 S_java_lang_Integer_DigitTens_125 (hlq.1 ▸ hK2) (by omega)
  have JA : ∀ (nn kk cc : Nat) (nf : Int32) (ii : Int64) (T : State) (h : Heap) (L : List Loc) (X : Stand p l e ({ frames := 0, cells := 0, slots := 0, locals := 0 } : Room) s m #[(.long v0), (.int (Int32.ofNat (ng + Nd))), (.ref v2)] below meth c T L 0 0) (e1 : T.heap = h) (N_ : Fr n0 L) (K : Keep h0 h [v2]) (Zq : n0 ≤ h.size) (FA : AI Z h v2 .byte (List.replicate cc (0 : Int32) ++ own_dg uu kk)) (FO : AI Z h aO .byte own_ones) (FT : AI Z h aT .byte own_tens) (FSo : Sta Z h "java/lang/Integer" "DigitOnes" "[B" (.ref aO)) (FSt : Sta Z h "java/lang/Integer" "DigitTens" "[B" (.ref aT)) (hK : own_K uu Nd ng nf kk cc ii.toInt) (hn : Nd ≤ kk + nn), Go p e below s ({ frames := 0, cells := 0, slots := 0, locals := 0 } : Room).cells ({ frames := 0, cells := 0, slots := 0, locals := 0 } : Room).slots (Q_getc Z v0 v2 uu Nd ng aO aT h0 n0) T (mkF m 24 #[.val (.long ii), .second, .val (.int (Int32.ofNat (ng + Nd))), .val (.ref v2), .unset, .unset, .unset, .val (.int (Int32.ofNat cc)), .val (.int nf), .unset, .unset] []) := by
    intro nn
    intro kk cc nf ii Tj hj Lj Xj ej Nj Kj Zj FA FO FT FSo FSt hK hn
    refine G_lloadN Xj hx (pc' := 25) rfl (hb hby d24_24) rfl ?_
    refine G_ldc2 Xj hx (pc' := 28) rfl hown (mvT hZ (own_w hw 83 rfl)) (hb hby d24_25) ?_
    refine G_lcmp Xj hx (pc' := 29) rfl (hb hby d24_28)  ?_
    by_cases hc29_18 : (-2147483648 : Int64) < ii
    · refine G_ifYes Xj hx (pc' := 82) (hb hby d24_29) ((if0 _ _).trans (tlt ((lw_gt _ _).2 hc29_18)).2.2.1) (by decide) (by decide) ?_
      refine G_lloadN Xj hx (pc' := 83) rfl (hb hby d24_82) rfl ?_
      refine G_l2i Xj hx (pc' := 84) rfl (hb hby d24_83)  ?_
      refine G_istore Xj hx (pc' := 86) rfl (hb hby d24_84) (L' := #[.val (.long ii), .second, .val (.int (Int32.ofNat (ng + Nd))), .val (.ref v2), .unset, .unset, .unset, .val (.int (Int32.ofNat cc)), .val (.int nf), .unset, .val (.int (ii.toInt32))]) rfl ?_
      have hL := own_l2i hK.hz hc29_18
      exact KA Nd kk cc nf (ii.toInt32) ii _ _ _ Xj ej Nj Kj Zj FA FO FT FSo FSt (hL.symm ▸ hK) (by omega)
    refine G_ifNo Xj hx (pc' := 32) rfl (hb hby d24_29) ((if0 _ _).trans (flt (fun q => hc29_18 ((lw_gt _ _).1 q))).2.2.1) ?_
    have hle := own_le1 hc29_18
    have hlq := own_lq2 hP hK hle
    obtain ⟨hk2, d, rfl, hd, hK2⟩ := own_q1 hP hK hle
    show Go p e below s _ _ _ Tj (mkF m 32 #[.val (.long ii), .second, .val (.int (Int32.ofNat (ng + Nd))), .val (.ref v2), .unset, .unset, .unset, .val (.int (Int32.ofNat (d + 2))), .val (.int nf), .unset, .unset] [])
    refine G_lloadN Xj hx (pc' := 33) rfl (hb hby d24_32) rfl ?_
    refine G_ldc2 Xj hx (pc' := 36) rfl hown (mvT hZ (own_w hw 154 rfl)) (hb hby d24_33) ?_
    refine G_ldiv Xj hx (pc' := 37) rfl (hb hby d24_36) (by decide) ?_
    refine G_lstore Xj hx (pc' := 39) rfl (hb hby d24_37) (L' := #[.val (.long ii), .second, .val (.int (Int32.ofNat (ng + Nd))), .val (.ref v2), .val (.long (ii / (100 : Int64))), .second, .unset, .val (.int (Int32.ofNat (d + 2))), .val (.int nf), .unset, .unset]) rfl ?_
    obtain ⟨qq, h_qq⟩ : ∃ z : Int64, (ii / (100 : Int64)) = z := ⟨_, rfl⟩
    rw [h_qq] at hlq
    rw [h_qq]
    show Go p e below s _ _ _ Tj (mkF m 39 #[.val (.long ii), .second, .val (.int (Int32.ofNat (ng + Nd))), .val (.ref v2), .val (.long qq), .second, .unset, .val (.int (Int32.ofNat (d + 2))), .val (.int nf), .unset, .unset] [])
    refine G_lload Xj hx (pc' := 41) rfl (hb hby d24_39) rfl ?_
    refine G_ldc2 Xj hx (pc' := 44) rfl hown (mvT hZ (own_w hw 154 rfl)) (hb hby d24_41) ?_
    refine G_lmul Xj hx (pc' := 45) rfl (hb hby d24_44)  ?_
    refine G_lloadN Xj hx (pc' := 46) rfl (hb hby d24_45) rfl ?_
    refine G_lsub Xj hx (pc' := 47) rfl (hb hby d24_46)  ?_
    refine G_l2i Xj hx (pc' := 48) rfl (hb hby d24_47)  ?_
    refine G_istore Xj hx (pc' := 50) rfl (hb hby d24_48) (L' := #[.val (.long ii), .second, .val (.int (Int32.ofNat (ng + Nd))), .val (.ref v2), .val (.long qq), .second, .val (.int (((qq * (100 : Int64)) - ii).toInt32)), .val (.int (Int32.ofNat (d + 2))), .val (.int nf), .unset, .unset]) rfl ?_
    obtain ⟨rr, h_rr⟩ : ∃ z : Int32, (((qq * (100 : Int64)) - ii).toInt32) = z := ⟨_, rfl⟩
    rw [h_rr] at hlq
    rw [h_rr]
    show Go p e below s _ _ _ Tj (mkF m 50 #[.val (.long ii), .second, .val (.int (Int32.ofNat (ng + Nd))), .val (.ref v2), .val (.long qq), .second, .val (.int rr), .val (.int (Int32.ofNat (d + 2))), .val (.int nf), .unset, .unset] [])
    refine G_lload Xj hx (pc' := 52) rfl (hb hby d24_50) rfl ?_
    refine G_lstoreN Xj hx (pc' := 53) rfl (hb hby d24_52) (L' := #[.val (.long qq), .second, .val (.int (Int32.ofNat (ng + Nd))), .val (.ref v2), .val (.long qq), .second, .val (.int rr), .val (.int (Int32.ofNat (d + 2))), .val (.int nf), .unset, .unset]) rfl ?_
    refine G_aloadN Xj hx (pc' := 54) rfl (hb hby d24_53) rfl rfl ?_
    refine G_iinc Xj hx (pc' := 57) rfl (hb hby d24_54) rfl (z := ((Int32.ofNat (d + 2)) + (-1 : Int32))) rfl (L' := #[.val (.long qq), .second, .val (.int (Int32.ofNat (ng + Nd))), .val (.ref v2), .val (.long qq), .second, .val (.int rr), .val (.int ((Int32.ofNat (d + 2)) + (-1 : Int32))), .val (.int nf), .unset, .unset]) rfl ?_
    rw [own_decA hd]
    show Go p e below s _ _ _ Tj (mkF m 57 #[.val (.long qq), .second, .val (.int (Int32.ofNat (ng + Nd))), .val (.ref v2), .val (.long qq), .second, .val (.int rr), .val (.int (Int32.ofNat (d + 1))), .val (.int nf), .unset, .unset] [(.ref v2)])
    refine G_iload Xj hx (pc' := 59) rfl (hb hby d24_57) rfl ?_
    obtain ⟨T127, X127, e127, st127⟩ := getS2 Xj hx hZ hown (host := "") (Or.inl (own_w hw 84 rfl)) Via.refl ej FSo (g := (mkF m 59 #[.val (.long qq), .second, .val (.int (Int32.ofNat (ng + Nd))), .val (.ref v2), .val (.long qq), .second, .val (.int rr), .val (.int (Int32.ofNat (d + 1))), .val (.int nf), .unset, .unset] [(.int (Int32.ofNat (d + 1))), (.ref v2)])) rfl (hb hby d24_59)
    refine Go.st st127 ?_
    show Go p e below s _ _ _ T127 (mkF m 62 #[.val (.long qq), .second, .val (.int (Int32.ofNat (ng + Nd))), .val (.ref v2), .val (.long qq), .second, .val (.int rr), .val (.int (Int32.ofNat (d + 1))), .val (.int nf), .unset, .unset] [(.ref aO), (.int (Int32.ofNat (d + 1))), (.ref v2)])
    refine G_iload X127 hx (pc' := 64) rfl (hb hby d24_62) rfl ?_
    refine Go.st (ldAB X127 hx hZ e127 FO (j := rr) (own_rd (k := kk) (U := uu) hlq.2).1 (own_rd (k := kk) (U := uu) hlq.2).2.1 (g := (mkF m 64 #[.val (.long qq), .second, .val (.int (Int32.ofNat (ng + Nd))), .val (.ref v2), .val (.long qq), .second, .val (.int rr), .val (.int (Int32.ofNat (d + 1))), .val (.int nf), .unset, .unset] [(.int rr), (.ref aO), (.int (Int32.ofNat (d + 1))), (.ref v2)])) rfl rfl (hb hby d24_64)) ?_
    show Go p e below s _ _ _ T127 (mkF m 65 #[.val (.long qq), .second, .val (.int (Int32.ofNat (ng + Nd))), .val (.ref v2), .val (.long qq), .second, .val (.int rr), .val (.int (Int32.ofNat (d + 1))), .val (.int nf), .unset, .unset] [(.int (own_ones.getD rr.toNatClampNeg 0)), (.int (Int32.ofNat (d + 1))), (.ref v2)])
    obtain ⟨T128, h128, X128, e128, W128, A128, st128⟩ := stAB X127 hx hZ e127 FA (j := (Int32.ofNat (d + 1))) (own_px (by omega : d + 1 ≤ 19) []).1 (own_px (by omega : d + 1 ≤ 19) _).2 (g := (mkF m 65 #[.val (.long qq), .second, .val (.int (Int32.ofNat (ng + Nd))), .val (.ref v2), .val (.long qq), .second, .val (.int rr), .val (.int (Int32.ofNat (d + 1))), .val (.int nf), .unset, .unset] [(.int (own_ones.getD rr.toNatClampNeg 0)), (.int (Int32.ofNat (d + 1))), (.ref v2)])) rfl rfl (hb hby d24_65)
    refine Go.st st128 ?_
    have A_aO_128 := FO.other W128 (Ne.symm ne_v2_aO)
    have A_aT_128 := FT.other W128 (Ne.symm ne_v2_aT)
    have S_java_lang_Integer_DigitOnes_128 := FSo.wr W128
    have S_java_lang_Integer_DigitTens_128 := FSt.wr W128
    have A_v2_128 : AI Z h128 v2 .byte ((List.replicate (d + 2) (0 : Int32) ++ own_dg uu kk).set (Int32.ofNat (d + 1)).toNatClampNeg ((own_ones.getD rr.toNatClampNeg 0).toInt8.toInt32)) := A128
    have K_128 : Keep h0 h128 [v2] := Kj.wr W128 (Or.inl (List.mem_of_getElem? (i := 0) rfl))
    have Z_128 : n0 ≤ h128.size := Nat.le_trans Z0 K_128.1
    have N128 := Fr.snoc X128 Nj g_v2
    clear FA FO FT FSo FSt W128 st128 A128
    obtain ⟨G128, Y128, M128⟩ : ∃ L, Stand p l e ({ frames := 0, cells := 0, slots := 0, locals := 0 } : Room) s m #[(.long v0), (.int (Int32.ofNat (ng + Nd))), (.ref v2)] below meth c T128 L 0 0 ∧ Fr n0 L := ⟨_, X128, N128⟩
    clear X128 N128
    show Go p e below s _ _ _ T128 (mkF m 66 #[.val (.long qq), .second, .val (.int (Int32.ofNat (ng + Nd))), .val (.ref v2), .val (.long qq), .second, .val (.int rr), .val (.int (Int32.ofNat (d + 1))), .val (.int nf), .unset, .unset] [])
    have AC129 : AI Z h128 v2 .byte (List.replicate (d + 1) (0 : Int32) ++ (Int32.ofNat (48 + uu / 10 ^ kk % 10)) :: own_dg uu kk) := own_sx (by omega : d + 1 ≤ 19) _ (own_rd (k := kk) (U := uu) hlq.2).2.2.2.1 ▸ A_v2_128
    refine G_aloadN Y128 hx (pc' := 67) rfl (hb hby d24_66) rfl rfl ?_
    refine G_iinc Y128 hx (pc' := 70) rfl (hb hby d24_67) rfl (z := ((Int32.ofNat (d + 1)) + (-1 : Int32))) rfl (L' := #[.val (.long qq), .second, .val (.int (Int32.ofNat (ng + Nd))), .val (.ref v2), .val (.long qq), .second, .val (.int rr), .val (.int ((Int32.ofNat (d + 1)) + (-1 : Int32))), .val (.int nf), .unset, .unset]) rfl ?_
    rw [own_decB (by omega : d ≤ 19)]
    show Go p e below s _ _ _ T128 (mkF m 70 #[.val (.long qq), .second, .val (.int (Int32.ofNat (ng + Nd))), .val (.ref v2), .val (.long qq), .second, .val (.int rr), .val (.int (Int32.ofNat d)), .val (.int nf), .unset, .unset] [(.ref v2)])
    refine G_iload Y128 hx (pc' := 72) rfl (hb hby d24_70) rfl ?_
    obtain ⟨T130, X130, e130, st130⟩ := getS2 Y128 hx hZ hown (host := "") (Or.inl (own_w hw 155 rfl)) Via.refl e128 S_java_lang_Integer_DigitTens_128 (g := (mkF m 72 #[.val (.long qq), .second, .val (.int (Int32.ofNat (ng + Nd))), .val (.ref v2), .val (.long qq), .second, .val (.int rr), .val (.int (Int32.ofNat d)), .val (.int nf), .unset, .unset] [(.int (Int32.ofNat d)), (.ref v2)])) rfl (hb hby d24_72)
    refine Go.st st130 ?_
    show Go p e below s _ _ _ T130 (mkF m 75 #[.val (.long qq), .second, .val (.int (Int32.ofNat (ng + Nd))), .val (.ref v2), .val (.long qq), .second, .val (.int rr), .val (.int (Int32.ofNat d)), .val (.int nf), .unset, .unset] [(.ref aT), (.int (Int32.ofNat d)), (.ref v2)])
    refine G_iload X130 hx (pc' := 77) rfl (hb hby d24_75) rfl ?_
    refine Go.st (ldAB X130 hx hZ e130 A_aT_128 (j := rr) (own_rd (k := kk) (U := uu) hlq.2).1 (own_rd (k := kk) (U := uu) hlq.2).2.2.1 (g := (mkF m 77 #[.val (.long qq), .second, .val (.int (Int32.ofNat (ng + Nd))), .val (.ref v2), .val (.long qq), .second, .val (.int rr), .val (.int (Int32.ofNat d)), .val (.int nf), .unset, .unset] [(.int rr), (.ref aT), (.int (Int32.ofNat d)), (.ref v2)])) rfl rfl (hb hby d24_77)) ?_
    show Go p e below s _ _ _ T130 (mkF m 78 #[.val (.long qq), .second, .val (.int (Int32.ofNat (ng + Nd))), .val (.ref v2), .val (.long qq), .second, .val (.int rr), .val (.int (Int32.ofNat d)), .val (.int nf), .unset, .unset] [(.int (own_tens.getD rr.toNatClampNeg 0)), (.int (Int32.ofNat d)), (.ref v2)])
    obtain ⟨T131, h131, X131, e131, W131, A131, st131⟩ := stAB X130 hx hZ e130 AC129 (j := (Int32.ofNat d)) (own_px (by omega : d ≤ 19) []).1 (own_px (by omega : d ≤ 19) _).2 (g := (mkF m 78 #[.val (.long qq), .second, .val (.int (Int32.ofNat (ng + Nd))), .val (.ref v2), .val (.long qq), .second, .val (.int rr), .val (.int (Int32.ofNat d)), .val (.int nf), .unset, .unset] [(.int (own_tens.getD rr.toNatClampNeg 0)), (.int (Int32.ofNat d)), (.ref v2)])) rfl rfl (hb hby d24_78)
    refine Go.st st131 ?_
    have A_aO_131 := A_aO_128.other W131 (Ne.symm ne_v2_aO)
    have A_aT_131 := A_aT_128.other W131 (Ne.symm ne_v2_aT)
    have S_java_lang_Integer_DigitOnes_131 := S_java_lang_Integer_DigitOnes_128.wr W131
    have S_java_lang_Integer_DigitTens_131 := S_java_lang_Integer_DigitTens_128.wr W131
    have A_v2_131 : AI Z h131 v2 .byte ((List.replicate (d + 1) (0 : Int32) ++ (Int32.ofNat (48 + uu / 10 ^ kk % 10)) :: own_dg uu kk).set (Int32.ofNat d).toNatClampNeg ((own_tens.getD rr.toNatClampNeg 0).toInt8.toInt32)) := A131
    have K_131 : Keep h0 h131 [v2] := K_128.wr W131 (Or.inl (List.mem_of_getElem? (i := 0) rfl))
    have Z_131 : n0 ≤ h131.size := Nat.le_trans Z0 K_131.1
    have N131 := Fr.snoc X131 M128 g_v2
    clear A_aO_128 A_aT_128 S_java_lang_Integer_DigitOnes_128 S_java_lang_Integer_DigitTens_128 AC129 W131 st131 A131
    obtain ⟨G131, Y131, M131⟩ : ∃ L, Stand p l e ({ frames := 0, cells := 0, slots := 0, locals := 0 } : Room) s m #[(.long v0), (.int (Int32.ofNat (ng + Nd))), (.ref v2)] below meth c T131 L 0 0 ∧ Fr n0 L := ⟨_, X131, N131⟩
    clear X131 N131
    show Go p e below s _ _ _ T131 (mkF m 79 #[.val (.long qq), .second, .val (.int (Int32.ofNat (ng + Nd))), .val (.ref v2), .val (.long qq), .second, .val (.int rr), .val (.int (Int32.ofNat d)), .val (.int nf), .unset, .unset] [])
    have AC132 : AI Z h131 v2 .byte (List.replicate d (0 : Int32) ++ own_dg uu (kk + 2)) := own_sx (by omega : d ≤ 19) ((Int32.ofNat (48 + uu / 10 ^ kk % 10)) :: own_dg uu kk) (own_rd (k := kk) (U := uu) hlq.2).2.2.2.2 ▸ A_v2_131
    refine G_goto Y131 hx (pc' := 24) (hb hby d24_79)  (by decide) (by decide) ?_
    exact JB Nd (kk + 2) d nf qq qq rr _ _ _ Y131 e131 M131 K_131 Z_131 AC132 A_aO_131 A_aT_131 S_java_lang_Integer_DigitOnes_131 S_java_lang_Integer_DigitTens_131 (hlq.1 ▸ hK2) (by omega)
  show Go p e below s _ _ _ s₁ (mkF m 0 #[.val (.long v0), .second, .val (.int (Int32.ofNat (ng + Nd))), .val (.ref v2), .unset, .unset, .unset, .unset, .unset, .unset, .unset] [])
  refine G_iloadN X0 hx (pc' := 1) rfl (hb hby d24_0) rfl ?_
  refine G_istore X0 hx (pc' := 3) rfl (hb hby d24_1) (L' := #[.val (.long v0), .second, .val (.int (Int32.ofNat (ng + Nd))), .val (.ref v2), .unset, .unset, .unset, .val (.int (Int32.ofNat (ng + Nd))), .unset, .unset, .unset]) rfl ?_
  refine G_lloadN X0 hx (pc' := 4) rfl (hb hby d24_3) rfl ?_
  refine G_lconst X0 hx (pc' := 5) rfl (hb hby d24_4) (z := (0 : Int64)) rfl ?_
  refine G_lcmp X0 hx (pc' := 6) rfl (hb hby d24_5)  ?_
  by_cases hc6_19 : v0 < (0 : Int64)
  · refine G_ifNo X0 hx (pc' := 9) rfl (hb hby d24_6) ((if0 _ _).trans (tlt ((lw_lt _ _).2 hc6_19)).2.1) ?_
    refine G_iconst X0 hx (pc' := 10) rfl (hb hby d24_9) (z := (1 : Int32)) rfl ?_
    refine G_goto X0 hx (pc' := 14) (hb hby d24_10)  (by decide) (by decide) ?_
    refine G_istore X0 hx (pc' := 16) rfl (hb hby d24_14) (L' := #[.val (.long v0), .second, .val (.int (Int32.ofNat (ng + Nd))), .val (.ref v2), .unset, .unset, .unset, .val (.int (Int32.ofNat (ng + Nd))), .val (.int (1 : Int32)), .unset, .unset]) rfl ?_
    refine G_iload X0 hx (pc' := 18) rfl (hb hby d24_16) rfl ?_
    refine G_ifYes X0 hx (pc' := 24) (hb hby d24_18) ((if0 _ _).trans (feq (by decide : ¬ ((1 : Int32) = (0 : Int32)))).2) (by decide) (by decide) ?_
    have FA0 : AI Z h0 v2 .byte (List.replicate (ng + Nd) (0 : Int32) ++ own_dg uu 0) := by simpa [own_dg] using f0_A_v2
    exact JA Nd 0 (ng + Nd) (1 : Int32) v0  _ _ _ X0 e0 N0 (Keep.refl h0 [v2]) Z0 FA0 f2_A_aO f4_A_aT f1_S_java_lang_Integer f3_S_java_lang_Integer (own_kn hv hN0 hc6_19) (by omega)
  refine G_ifYes X0 hx (pc' := 13) (hb hby d24_6) ((if0 _ _).trans (flt (fun q => hc6_19 ((lw_lt _ _).1 q))).2.1) (by decide) (by decide) ?_
  refine G_iconst X0 hx (pc' := 14) rfl (hb hby d24_13) (z := (0 : Int32)) rfl ?_
  refine G_istore X0 hx (pc' := 16) rfl (hb hby d24_14) (L' := #[.val (.long v0), .second, .val (.int (Int32.ofNat (ng + Nd))), .val (.ref v2), .unset, .unset, .unset, .val (.int (Int32.ofNat (ng + Nd))), .val (.int (0 : Int32)), .unset, .unset]) rfl ?_
  refine G_iload X0 hx (pc' := 18) rfl (hb hby d24_16) rfl ?_
  refine G_ifNo X0 hx (pc' := 21) rfl (hb hby d24_18) ((if0 _ _).trans (teq (by decide : (0 : Int32) = (0 : Int32))).2) ?_
  refine G_lloadN X0 hx (pc' := 22) rfl (hb hby d24_21) rfl ?_
  refine G_lneg X0 hx (pc' := 23) rfl (hb hby d24_22)  ?_
  refine G_lstoreN X0 hx (pc' := 24) rfl (hb hby d24_23) (L' := #[.val (.long (-v0)), .second, .val (.int (Int32.ofNat (ng + Nd))), .val (.ref v2), .unset, .unset, .unset, .val (.int (Int32.ofNat (ng + Nd))), .val (.int (0 : Int32)), .unset, .unset]) rfl ?_
  have FA0 : AI Z h0 v2 .byte (List.replicate (ng + Nd) (0 : Int32) ++ own_dg uu 0) := by simpa [own_dg] using f0_A_v2
  exact JA Nd 0 (ng + Nd) (0 : Int32) (-v0)  _ _ _ X0 e0 N0 (Keep.refl h0 [v2]) Z0 FA0 f2_A_aO f4_A_aT f1_S_java_lang_Integer f3_S_java_lang_Integer (own_kp hv hN0 hc6_19) (by omega)
theorem own_nz1 {ng Nd : Nat} {v : Int64} {uu : Nat} (hP : own_P uu Nd) (hv : (v < 0 ∧ ng = 1 ∧ v.toInt = -(uu : Int)) ∨ (¬ v < 0 ∧ ng = 0 ∧ v.toInt = (uu : Int))) : ¬ (Int32.ofNat (ng + Nd)) < 0 ∧ (Int32.ofNat (ng + Nd)).toNatClampNeg ≤ 20 ∧ (Int32.ofNat (ng + Nd)).toNatClampNeg = ng + Nd := by
  have h3 := hP.h3
  have g : ng ≤ 1 := by rcases hv with ⟨-, q, -⟩ | ⟨-, q, -⟩ <;> omega
  have e := own_on (c := ng + Nd) (by omega)
  have e2 : (Int32.ofNat (ng + Nd)).toNatClampNeg = ng + Nd := by show (Int32.ofNat (ng + Nd)).toInt.toNat = _; omega
  refine ⟨?_, by omega, e2⟩
  rw [Int32.lt_iff_toInt_lt, e, show (0 : Int32).toInt = 0 from rfl]; omega
theorem d25_0 : decode jdk_35_method_12_code 0 = .ok (.lload_n 0, 1) := by decide +kernel
theorem d25_1 : decode jdk_35_method_12_code 1 = .ok (.invokestatic 118, 3) := by decide +kernel
theorem d25_4 : decode jdk_35_method_12_code 4 = .ok (.istore_n 2, 1) := by decide +kernel
theorem d25_5 : decode jdk_35_method_12_code 5 = .ok (.getstatic 13, 3) := by decide +kernel
theorem d25_8 : decode jdk_35_method_12_code 8 = .ok (.ifCond .eq 24, 3) := by decide +kernel
theorem d25_11 : decode jdk_35_method_12_code 11 = .ok (.iload_n 2, 1) := by decide +kernel
theorem d25_12 : decode jdk_35_method_12_code 12 = .ok (.newarray .byte, 2) := by decide +kernel
theorem d25_14 : decode jdk_35_method_12_code 14 = .ok (.astore_n 3, 1) := by decide +kernel
theorem d25_15 : decode jdk_35_method_12_code 15 = .ok (.lload_n 0, 1) := by decide +kernel
theorem d25_16 : decode jdk_35_method_12_code 16 = .ok (.iload_n 2, 1) := by decide +kernel
theorem d25_17 : decode jdk_35_method_12_code 17 = .ok (.aload_n 3, 1) := by decide +kernel
theorem d25_18 : decode jdk_35_method_12_code 18 = .ok (.invokestatic 121, 3) := by decide +kernel
theorem pd_7 : parseMethodDescriptor "(JI[B)I" = some ⟨[.long, .int, (.array .byte)], some .int⟩ := by decide +kernel
theorem d25_21 : decode jdk_35_method_12_code 21 = .ok (.pop, 1) := by decide +kernel
theorem d25_22 : decode jdk_35_method_12_code 22 = .ok (.new 5, 3) := by decide +kernel
theorem d25_25 : decode jdk_35_method_12_code 25 = .ok (.dup, 1) := by decide +kernel
theorem d25_26 : decode jdk_35_method_12_code 26 = .ok (.aload_n 3, 1) := by decide +kernel
theorem d25_27 : decode jdk_35_method_12_code 27 = .ok (.iconst 0, 1) := by decide +kernel
theorem d25_28 : decode jdk_35_method_12_code 28 = .ok (.invokespecial 112, 3) := by decide +kernel
theorem pd_8 : parseMethodDescriptor "([BB)V" = some ⟨[(.array .byte), .byte], none⟩ := by decide +kernel
theorem d25_31 : decode jdk_35_method_12_code 31 = .ok (.areturn, 1) := by decide +kernel
theorem ef_ltos (m : MethodId) (v0 : Int64) : entryFrame m #[(.long v0)] 4 = mkF m 0 #[.val (.long v0), .second, .unset, .unset] [] := by first | (simp [entryFrame, mkF, argsToLocals, Value.category]; done) | rfl
def Q_ltos (Z : State) (v0 : Int64) (cs : Int32) (uu : Nat) (Nd : Nat) (ng : Nat) (aO : Addr) (aT : Addr) (h0 : Heap) (n0 : Nat) (v : Option Value) (h : Heap) (L : List Loc) : Prop := ∃ b0 b1 : Addr, v = some (.ref b0) ∧ Fr n0 L ∧ Keep h0 h [] ∧ h0.size ≤ b0 ∧ h0.size ≤ b1 ∧ Exa Z h b0 "java/lang/String" ∧ Fld Z h b0 "java/lang/String" "value" "[B" (.ref b1) ∧ Fld Z h b0 "java/lang/String" "coder" "B" (.int (0 : Int32)) ∧ AI Z h b1 .byte (own_txt ng uu Nd)
set_option maxRecDepth 65536 in
set_option maxHeartbeats 40000000 in
theorem rm_ltos (l : Launch) (Z : State) (a0 : Array Value) (hw : ∀ d ∈ tables_1, d.before a0 Z = true) (ws : List Jvm.Cond) (v0 : Int64) (cs : Int32) (uu : Nat) (Nd : Nat) (ng : Nat) (aO : Addr) (aT : Addr) (h0 : Heap) (n0 : Nat) (Z0 : n0 ≤ h0.size) (f0_S_java_lang_Integer : Sta Z h0 "java/lang/Integer" "DigitOnes" "[B" (.ref aO)) (f1_A_aO : AI Z h0 aO .byte own_ones) (f2_S_java_lang_Integer : Sta Z h0 "java/lang/Integer" "DigitTens" "[B" (.ref aT)) (f3_A_aT : AI Z h0 aT .byte own_tens) (f4_S_java_lang_String : Sta Z h0 "java/lang/String" "COMPACT_STRINGS" "Z" (.int cs)) (hcs : ¬ (cs = (0 : Int32))) (hsz : f_ssize v0 = (Int32.ofNat (ng + Nd))) (hP : own_P uu Nd) (hN0 : 1 ≤ Nd) (hv : (v0 < 0 ∧ ng = 1 ∧ v0.toInt = -(uu : Int)) ∨ (¬ v0 < 0 ∧ ng = 0 ∧ v0.toInt = (uu : Int))) :
    MetFree l (⟨"java/lang/Long", "toString", "(J)Ljava/lang/String;"⟩ : MethodName) (head1 (Jvm.Cond.code (⟨"java/lang/Long", "toString", "(J)Ljava/lang/String;"⟩ : MethodName) jdk_35_method_12_code 4 (some (.object "java/lang/String")) :: ws) ({ frames := 2, cells := 2, slots := 24, locals := 27 } : Room)) (fun a U => a = #[(.long v0)] ∧ Z.Warmed39 U.vm ∧ U.heap = h0) (fun _ _ _ _ _ => True) (fun _ U o U' => ∃ v L, o = .returned v ∧ Q_ltos Z v0 cs uu Nd ng aO aT h0 n0 v U'.heap L ∧ FrameEnd U o U' L ({ frames := 2, cells := 2, slots := 24, locals := 27 } : Room).cells ({ frames := 2, cells := 2, slots := 24, locals := 27 } : Room).slots) := by
  refine MetFree.of_bodySF (plainFor_of_name (by first | (simp [plainName, overriddenIn]; done) | decide +kernel)) hisR ?_
  intro p e s m args below meth c s₁ Bd hml0 hP hK
  obtain ⟨rfl, hZ, hh⟩ := hP
  have hx := Bd.exec
  have hby := Bd.bytes
  have hml : c.maxLocals = 4 := hml0
  have hown : s.vm.findClass "java/lang/Long" = some m.cls := findClass_of_methodNamed Bd.named
  have hnm := (name_of_methodNamed Bd.named Bd.method).1
  have hlk : meth.locks = false := Bd.notSynchronized
  have X0 : Stand p l e ({ frames := 2, cells := 2, slots := 24, locals := 27 } : Room) s m #[(.long v0)] below meth c s₁ [] 0 0 := Stand.of_body Bd
  have e0 : s₁.heap = h0 := by rw [← hh, Bd.state]; rfl
  have N0 := Fr.nil n0
  refine Go.enter (Q := Q_ltos Z v0 cs uu Nd ng aO aT h0 n0) (C := ({ frames := 2, cells := 2, slots := 24, locals := 27 } : Room).cells) (N := ({ frames := 2, cells := 2, slots := 24, locals := 27 } : Room).slots) (ef_ltos m v0) ?_
  show Go p e below s _ _ _ s₁ (mkF m 0 #[.val (.long v0), .second, .unset, .unset] [])
  refine G_lloadN X0 hx (pc' := 1) rfl (hb hby d25_0) rfl ?_
  obtain ⟨_, _, ⟨T133, L133, k133, n133⟩, -, X133, ⟨Lc133, hQ133, l133, y133, z133⟩, st133⟩ := Jvm.LawKit.callS X0 hx (y := (⟨"java/lang/Long", "stringSize", "(J)I"⟩ : MethodName)) hown (mvT hZ (own_w hw 73 rfl)) (mvT hZ (own_w hw 74 rfl)) (mvT hZ (own_w hw 43 rfl)) (mvT hZ (own_w hw 75 rfl)) (by decide) (backOf (W := 0) (rm_ssize l Z a0 hw [] v0 h0 n0 Z0 ) hZ (own_w hw 75 rfl) (own_w hw 43 rfl) (by decide) (by decide)) (g := (mkF m 1 #[.val (.long v0), .second, .unset, .unset] [(.long v0)])) rfl (by rw [hml]; rfl) (argsL := [(.long v0)]) (rest := []) (lenOf pd_1 rfl) rfl (by show 2 * 0 + _ ≤ _; exact Nat.le_of_eq rfl) (hb hby d25_1) (fun _ _ => ⟨rfl, e0, (by decide : 0 + 0 ≤ _), (by decide : 0 + 0 ≤ _)⟩)
  dsimp only [Pt.U, Pt.locs, Pt.cells, Pt.slots] at X133 l133 y133 z133 st133 hQ133
  rw [l133, y133, z133] at X133
  clear l133 y133 z133
  obtain ⟨rfl, N133q, e133⟩ := hQ133
  have N133 := Fr.app N0 N133q
  refine Go.st st133 ?_
  obtain ⟨G133, Y133, M133⟩ : ∃ L, Stand p l e ({ frames := 2, cells := 2, slots := 24, locals := 27 } : Room) s m #[(.long v0)] below meth c T133 L 0 0 ∧ Fr n0 L := ⟨_, X133, N133⟩
  clear X133 N133
  show Go p e below s _ _ _ T133 (mkF m 4 #[.val (.long v0), .second, .unset, .unset] [(.int (f_ssize v0))])
  refine G_istoreN Y133 hx (pc' := 5) rfl (hb hby d25_4) (L' := #[.val (.long v0), .second, .val (.int (f_ssize v0)), .unset]) rfl ?_
  rw [hsz]
  show Go p e below s _ _ _ T133 (mkF m 5 #[.val (.long v0), .second, .val (.int (Int32.ofNat (ng + Nd))), .unset] [])
  obtain ⟨T134, X134, e134, st134⟩ := getS2 Y133 hx hZ hown (host := "") (Or.inl (own_w hw 77 rfl)) Via.refl e133 f4_S_java_lang_String (g := (mkF m 5 #[.val (.long v0), .second, .val (.int (Int32.ofNat (ng + Nd))), .unset] [])) rfl (hb hby d25_5)
  refine Go.st st134 ?_
  show Go p e below s _ _ _ T134 (mkF m 8 #[.val (.long v0), .second, .val (.int (Int32.ofNat (ng + Nd))), .unset] [(.int cs)])
  refine G_ifNo X134 hx (pc' := 11) rfl (hb hby d25_8) ((if0 _ _).trans (feq (hcs : ¬ (cs = (0 : Int32)))).1) ?_
  refine G_iloadN X134 hx (pc' := 12) rfl (hb hby d25_11) rfl ?_
  obtain ⟨T135, h135, X135, e135, E135, B135, A135, st135⟩ := newAI X134 hx hZ (own_w hw 79 rfl) e134 (g := (mkF m 12 #[.val (.long v0), .second, .val (.int (Int32.ofNat (ng + Nd))), .unset] [(.int (Int32.ofNat (ng + Nd)))])) rfl (hb hby d25_12) rfl (own_nz1 hP hv).1 (ty := .byte) rfl ⟨rfl, rfl⟩ (cap := 20) (own_nz1 hP hv).2.1 (by decide) (by decide) (by decide) (ad := "[B") (by decide)
  obtain ⟨b135, q135⟩ : ∃ z, z = h0.size := ⟨_, rfl⟩
  rw [← q135] at A135 B135 st135
  refine Go.st st135 ?_
  have ne_aO_b135 : aO ≠ b135 := Nat.ne_of_lt (Nat.lt_of_lt_of_le f1_A_aO.lt (Nat.le_of_eq q135.symm))
  have ne_aT_b135 : aT ≠ b135 := Nat.ne_of_lt (Nat.lt_of_lt_of_le f3_A_aT.lt (Nat.le_of_eq q135.symm))
  have g_b135 : n0 ≤ b135 := Nat.le_trans Z0 (Nat.le_of_eq q135.symm)
  have sz_b135 : h0.size ≤ b135 := Nat.le_trans (Nat.le_refl _) (Nat.le_of_eq q135.symm)
  have S_java_lang_Integer_DigitOnes_135 := f0_S_java_lang_Integer.ext E135
  have A_aO_135 := f1_A_aO.ext E135
  have S_java_lang_Integer_DigitTens_135 := f2_S_java_lang_Integer.ext E135
  have A_aT_135 := f3_A_aT.ext E135
  have S_java_lang_String_COMPACT_STRINGS_135 := f4_S_java_lang_String.ext E135
  have A_b135 : AI Z h135 b135 .byte (List.replicate ((Int32.ofNat (ng + Nd))).toNatClampNeg (0 : Int32)) := A135
  have K_135 : Keep h0 h135 [] := (Keep.refl h0 []).ext E135
  have Z_135 : n0 ≤ h135.size := Nat.le_trans Z0 K_135.1
  clear f0_S_java_lang_Integer f1_A_aO f2_S_java_lang_Integer f3_A_aT f4_S_java_lang_String E135 st135 A135
  show Go p e below s _ _ _ T135 (mkF m 14 #[.val (.long v0), .second, .val (.int (Int32.ofNat (ng + Nd))), .unset] [(.ref b135)])
  refine G_astoreN X135 hx (pc' := 15) rfl (hb hby d25_14) rfl (L' := #[.val (.long v0), .second, .val (.int (Int32.ofNat (ng + Nd))), .val (.ref b135)]) rfl ?_
  have AN : AI Z h135 b135 .byte (List.replicate (ng + Nd) (0 : Int32)) := (own_nz1 hP hv).2.2 ▸ A_b135
  refine G_lloadN X135 hx (pc' := 16) rfl (hb hby d25_15) rfl ?_
  refine G_iloadN X135 hx (pc' := 17) rfl (hb hby d25_16) rfl ?_
  refine G_aloadN X135 hx (pc' := 18) rfl (hb hby d25_17) rfl rfl ?_
  obtain ⟨_, _, ⟨T136, L136, k136, n136⟩, -, X136, ⟨Lc136, hQ136, l136, y136, z136⟩, st136⟩ := Jvm.LawKit.callS X135 hx (y := (⟨"java/lang/Long", "getChars", "(JI[B)I"⟩ : MethodName)) hown (mvT hZ (own_w hw 80 rfl)) (mvT hZ (own_w hw 81 rfl)) (mvT hZ (own_w hw 43 rfl)) (mvT hZ (own_w hw 82 rfl)) (by decide) (backOf (W := 0) (rm_getc l Z a0 hw [] v0 b135 uu Nd ng aO aT h135 n0 Z_135 AN S_java_lang_Integer_DigitOnes_135 A_aO_135 S_java_lang_Integer_DigitTens_135 A_aT_135 g_b135 (Ne.symm ne_aO_b135) (Ne.symm ne_aT_b135) (by assumption) (by assumption) (by assumption)) hZ (own_w hw 82 rfl) (own_w hw 43 rfl) (by decide) (by decide)) (g := (mkF m 18 #[.val (.long v0), .second, .val (.int (Int32.ofNat (ng + Nd))), .val (.ref b135)] [(.ref b135), (.int (Int32.ofNat (ng + Nd))), (.long v0)])) rfl (by rw [hml]; rfl) (argsL := [(.long v0), (.int (Int32.ofNat (ng + Nd))), (.ref b135)]) (rest := []) (lenOf pd_7 rfl) rfl (by show 2 * 0 + _ ≤ _; exact Nat.le_of_eq rfl) (hb hby d25_18) (fun _ _ => ⟨rfl, e135, (by decide : 1 + 0 ≤ _), (by decide : 20 + 0 ≤ _)⟩)
  dsimp only [Pt.U, Pt.locs, Pt.cells, Pt.slots] at X136 l136 y136 z136 st136 hQ136
  rw [l136, y136, z136] at X136
  clear l136 y136 z136
  obtain ⟨rfl, N136q, K136, p136_0⟩ := hQ136
  have N136 := Fr.app M133 N136q
  refine Go.st st136 ?_
  have S_java_lang_Integer_DigitOnes_136 := own_staK S_java_lang_Integer_DigitOnes_135 K136 (own_nstS B135 own_nst0)
  have A_aO_136 := A_aO_135.keep K136 (ninS ne_aO_b135 nin0)
  have S_java_lang_Integer_DigitTens_136 := own_staK S_java_lang_Integer_DigitTens_135 K136 (own_nstS B135 own_nst0)
  have A_aT_136 := A_aT_135.keep K136 (ninS ne_aT_b135 nin0)
  have S_java_lang_String_COMPACT_STRINGS_136 := own_staK S_java_lang_String_COMPACT_STRINGS_135 K136 (own_nstS B135 own_nst0)
  have E_b135_136 := B135.keep K136
  have K_136 : Keep h0 T136.heap [] := K_135.trans K136 (allS (Or.inr sz_b135) all0)
  have Z_136 : n0 ≤ T136.heap.size := Nat.le_trans Z0 K_136.1
  clear S_java_lang_Integer_DigitOnes_135 A_aO_135 S_java_lang_Integer_DigitTens_135 A_aT_135 S_java_lang_String_COMPACT_STRINGS_135 B135 AN st136 K136
  obtain ⟨G136, Y136, M136⟩ : ∃ L, Stand p l e ({ frames := 2, cells := 2, slots := 24, locals := 27 } : Room) s m #[(.long v0)] below meth c T136 L 1 20 ∧ Fr n0 L := ⟨_, X136, N136⟩
  clear X136 N136
  show Go p e below s _ _ _ T136 (mkF m 21 #[.val (.long v0), .second, .val (.int (Int32.ofNat (ng + Nd))), .val (.ref b135)] [(.int (0 : Int32))])
  refine G_pop Y136 hx (pc' := 22) rfl (hb hby d25_21) rfl ?_
  obtain ⟨T137, h137, X137, e137, E137, A137, D137, -, st137⟩ := newO Y136 hx hZ hown (own_w hw 86 rfl) (own_w hw 87 rfl) (own_w hw 78 rfl) rfl (g := (mkF m 22 #[.val (.long v0), .second, .val (.int (Int32.ofNat (ng + Nd))), .val (.ref b135)] [])) rfl (hb hby d25_22) (by decide) (by decide)
  obtain ⟨b137, q137⟩ : ∃ z, z = T136.heap.size := ⟨_, rfl⟩
  rw [← q137] at A137 D137 st137
  refine Go.st st137 ?_
  have ne_aO_b137 : aO ≠ b137 := Nat.ne_of_lt (Nat.lt_of_lt_of_le A_aO_136.lt (Nat.le_of_eq q137.symm))
  have ne_aT_b137 : aT ≠ b137 := Nat.ne_of_lt (Nat.lt_of_lt_of_le A_aT_136.lt (Nat.le_of_eq q137.symm))
  have ne_b135_b137 : b135 ≠ b137 := Nat.ne_of_lt (Nat.lt_of_lt_of_le E_b135_136.lt (Nat.le_of_eq q137.symm))
  have g_b137 : n0 ≤ b137 := Nat.le_trans Z_136 (Nat.le_of_eq q137.symm)
  have sz_b137 : h0.size ≤ b137 := Nat.le_trans K_136.1 (Nat.le_of_eq q137.symm)
  have S_java_lang_Integer_DigitOnes_137 := S_java_lang_Integer_DigitOnes_136.ext E137
  have A_aO_137 := A_aO_136.ext E137
  have S_java_lang_Integer_DigitTens_137 := S_java_lang_Integer_DigitTens_136.ext E137
  have A_aT_137 := A_aT_136.ext E137
  have S_java_lang_String_COMPACT_STRINGS_137 := S_java_lang_String_COMPACT_STRINGS_136.ext E137
  have E_b135_137 := E_b135_136.ext E137
  have A_b135_137 := p136_0.ext E137
  have F_b137_value : Fld Z h137 b137 "java/lang/String" "value" "[B" .null := D137 (Or.inr (own_w hw 94 rfl)) (ty := (.array .byte)) (by decide)
  have F_b137_coder : Fld Z h137 b137 "java/lang/String" "coder" "B" (.int (0 : Int32)) := D137 (Or.inr (own_w hw 96 rfl)) (ty := .byte) (by decide)
  have K_137 : Keep h0 h137 [] := K_136.ext E137
  have Z_137 : n0 ≤ h137.size := Nat.le_trans Z0 K_137.1
  clear S_java_lang_Integer_DigitOnes_136 A_aO_136 S_java_lang_Integer_DigitTens_136 A_aT_136 S_java_lang_String_COMPACT_STRINGS_136 E_b135_136 p136_0 E137 st137 D137
  show Go p e below s _ _ _ T137 (mkF m 25 #[.val (.long v0), .second, .val (.int (Int32.ofNat (ng + Nd))), .val (.ref b135)] [(.ref b137)])
  refine G_dup X137 hx (pc' := 26) rfl (hb hby d25_25) rfl ?_
  refine G_aloadN X137 hx (pc' := 27) rfl (hb hby d25_26) rfl rfl ?_
  refine G_iconst X137 hx (pc' := 28) rfl (hb hby d25_27) (z := (0 : Int32)) rfl ?_
  obtain ⟨_, _, ⟨T138, L138, k138, n138⟩, -, X138, ⟨Lc138, hQ138, l138, y138, z138⟩, st138⟩ := X137.specialBack hx (y := (⟨"java/lang/String", "<init>", "([BB)V"⟩ : MethodName)) rfl hown (mvT hZ (own_w hw 88 rfl)) (mvT hZ (own_w hw 89 rfl)) (mvT hZ (own_w hw 91 rfl)) (by decide) (backOf (W := 1) (rm_sinit l Z a0 hw [] b137 b135 h137 n0 Z_137 A137 F_b137_value F_b137_coder g_b137) hZ (own_w hw 91 rfl) (own_w hw 78 rfl) (by decide) (by decide)) (g := (mkF m 28 #[.val (.long v0), .second, .val (.int (Int32.ofNat (ng + Nd))), .val (.ref b135)] [(.int (0 : Int32)), (.ref b135), (.ref b137), (.ref b137)])) rfl (by rw [hml]; rfl) (Steps.refl _) (a := b137) (argsL := [(.ref b135), (.int (0 : Int32))]) (rest := [(.ref b137)]) (lenOf pd_8 rfl) rfl (by show 2 * 0 + _ ≤ _; exact Nat.le_of_eq rfl) (hb hby d25_28) (fun _ _ => ⟨rfl, e137, (by decide : 2 + 0 ≤ _), (by decide : 24 + 0 ≤ _)⟩)
  dsimp only [Pt.U, Pt.locs, Pt.cells, Pt.slots] at X138 l138 y138 z138 st138 hQ138
  rw [l138, y138, z138] at X138
  clear l138 y138 z138
  obtain ⟨rfl, N138q, K138, p138_0, p138_1, p138_2⟩ := hQ138
  have N138 := Fr.app M136 N138q
  refine Go.st (fun _ k => st138.trans k) ?_
  have S_java_lang_Integer_DigitOnes_138 := own_staK S_java_lang_Integer_DigitOnes_137 K138 (own_nstS A137 own_nst0)
  have A_aO_138 := A_aO_137.keep K138 (ninS ne_aO_b137 nin0)
  have S_java_lang_Integer_DigitTens_138 := own_staK S_java_lang_Integer_DigitTens_137 K138 (own_nstS A137 own_nst0)
  have A_aT_138 := A_aT_137.keep K138 (ninS ne_aT_b137 nin0)
  have S_java_lang_String_COMPACT_STRINGS_138 := own_staK S_java_lang_String_COMPACT_STRINGS_137 K138 (own_nstS A137 own_nst0)
  have E_b135_138 := E_b135_137.keep K138
  have A_b135_138 := A_b135_137.keep K138 (ninS ne_b135_b137 nin0)
  have K_138 : Keep h0 T138.heap [] := K_137.trans K138 (allS (Or.inr sz_b137) all0)
  have Z_138 : n0 ≤ T138.heap.size := Nat.le_trans Z0 K_138.1
  clear S_java_lang_Integer_DigitOnes_137 A_aO_137 S_java_lang_Integer_DigitTens_137 A_aT_137 S_java_lang_String_COMPACT_STRINGS_137 E_b135_137 A_b135_137 A137 F_b137_value F_b137_coder st138 K138
  obtain ⟨G138, Y138, M138⟩ : ∃ L, Stand p l e ({ frames := 2, cells := 2, slots := 24, locals := 27 } : Room) s m #[(.long v0)] below meth c T138 L 2 24 ∧ Fr n0 L := ⟨_, X138, N138⟩
  clear X138 N138
  show Go p e below s _ _ _ T138 (mkF m 31 #[.val (.long v0), .second, .val (.int (Int32.ofNat (ng + Nd))), .val (.ref b135)] [(.ref b137)])
  refine Go.fin Y138 hlk (v := some (.ref b137)) (fun h => by rw [Bd.returns] at h; cases h) (by decide) (by decide) ?_ (fun fs hr => retOut Y138 hx Bd.returns rfl (Or.inr (Or.inr (Or.inr (Or.inr ⟨rfl, rfl, rfl⟩)))) (hb hby d25_31) hr)
  show Q_ltos Z v0 cs uu Nd ng aO aT h0 n0 _ T138.heap _
  exact ⟨b137, b135, rfl, M138, K_138, sz_b137, sz_b135, p138_0, p138_1, p138_2, A_b135_138⟩
theorem d26_0 : decode prog_28_method_14_code 0 = .ok (.aload_n 0, 1) := by decide +kernel
theorem d26_1 : decode prog_28_method_14_code 1 = .ok (.getfield 13, 3) := by decide +kernel
theorem d26_4 : decode prog_28_method_14_code 4 = .ok (.ifCond .ne 14, 3) := by decide +kernel
theorem d26_7 : decode prog_28_method_14_code 7 = .ok (.aload_n 0, 1) := by decide +kernel
theorem d26_8 : decode prog_28_method_14_code 8 = .ok (.getfield 7, 3) := by decide +kernel
theorem d26_11 : decode prog_28_method_14_code 11 = .ok (.invokestatic 117, 3) := by decide +kernel
theorem pd_9 : parseMethodDescriptor "(J)Ljava/lang/String;" = some ⟨[.long], some (.object "java/lang/String")⟩ := by decide +kernel
theorem d26_14 : decode prog_28_method_14_code 14 = .ok (.astore_n 1, 1) := by decide +kernel
theorem d26_15 : decode prog_28_method_14_code 15 = .ok (.goto 26, 3) := by decide +kernel
theorem d26_41 : decode prog_28_method_14_code 41 = .ok (.aload_n 1, 1) := by decide +kernel
theorem d26_42 : decode prog_28_method_14_code 42 = .ok (.areturn, 1) := by decide +kernel
theorem ef_bdec (m : MethodId) (v0 : Addr) : entryFrame m #[(.ref v0)] 2 = mkF m 0 #[.val (.ref v0), .unset] [] := by first | (simp [entryFrame, mkF, argsToLocals, Value.category]; done) | rfl
def Q_bdec (Z : State) (v0 : Addr) (x : Int64) (cs : Int32) (uu : Nat) (Nd : Nat) (ng : Nat) (aO : Addr) (aT : Addr) (h0 : Heap) (n0 : Nat) (v : Option Value) (h : Heap) (L : List Loc) : Prop := ∃ b0 b1 : Addr, v = some (.ref b0) ∧ Fr n0 L ∧ Keep h0 h [] ∧ h0.size ≤ b0 ∧ h0.size ≤ b1 ∧ Exa Z h b0 "java/lang/String" ∧ Fld Z h b0 "java/lang/String" "value" "[B" (.ref b1) ∧ Fld Z h b0 "java/lang/String" "coder" "B" (.int (0 : Int32)) ∧ AI Z h b1 .byte (own_txt ng uu Nd)
set_option maxRecDepth 65536 in
set_option maxHeartbeats 40000000 in
theorem rm_bdec (l : Launch) (Z : State) (a0 : Array Value) (hw : ∀ d ∈ tables_1, d.before a0 Z = true) (ws : List Jvm.Cond) (v0 : Addr) (x : Int64) (cs : Int32) (uu : Nat) (Nd : Nat) (ng : Nat) (aO : Addr) (aT : Addr) (h0 : Heap) (n0 : Nat) (Z0 : n0 ≤ h0.size) (f0_E_v0 : Exa Z h0 v0 "com/example/colonwise/colonwise/model/BencodeInteger") (f1_F_v0 : Fld Z h0 v0 "com/example/colonwise/colonwise/model/BencodeInteger" "small" "J" (.long x)) (f2_F_v0 : Fld Z h0 v0 "com/example/colonwise/colonwise/model/BencodeInteger" "wide" "Z" (.int (0 : Int32))) (f3_S_java_lang_Integer : Sta Z h0 "java/lang/Integer" "DigitOnes" "[B" (.ref aO)) (f4_A_aO : AI Z h0 aO .byte own_ones) (f5_S_java_lang_Integer : Sta Z h0 "java/lang/Integer" "DigitTens" "[B" (.ref aT)) (f6_A_aT : AI Z h0 aT .byte own_tens) (f7_S_java_lang_String : Sta Z h0 "java/lang/String" "COMPACT_STRINGS" "Z" (.int cs)) (hcs : ¬ (cs = (0 : Int32))) (hsz : f_ssize x = (Int32.ofNat (ng + Nd))) (hP : own_P uu Nd) (hN0 : 1 ≤ Nd) (hv : (x < 0 ∧ ng = 1 ∧ x.toInt = -(uu : Int)) ∨ (¬ x < 0 ∧ ng = 0 ∧ x.toInt = (uu : Int))) :
    MetFree l (⟨"com/example/colonwise/colonwise/model/BencodeInteger", "decimal", "()Ljava/lang/String;"⟩ : MethodName) (head1 (Jvm.Cond.code (⟨"com/example/colonwise/colonwise/model/BencodeInteger", "decimal", "()Ljava/lang/String;"⟩ : MethodName) prog_28_method_14_code 2 (some (.object "java/lang/String")) :: ws) ({ frames := 3, cells := 2, slots := 24, locals := 42 } : Room)) (fun a U => a = #[(.ref v0)] ∧ Z.Warmed39 U.vm ∧ U.heap = h0) (fun _ _ _ _ _ => True) (fun _ U o U' => ∃ v L, o = .returned v ∧ Q_bdec Z v0 x cs uu Nd ng aO aT h0 n0 v U'.heap L ∧ FrameEnd U o U' L ({ frames := 3, cells := 2, slots := 24, locals := 42 } : Room).cells ({ frames := 3, cells := 2, slots := 24, locals := 42 } : Room).slots) := by
  refine MetFree.of_bodySF (plainFor_of_name (by first | (simp [plainName, overriddenIn]; done) | decide +kernel)) hisR ?_
  intro p e s m args below meth c s₁ Bd hml0 hP hK
  obtain ⟨rfl, hZ, hh⟩ := hP
  have hx := Bd.exec
  have hby := Bd.bytes
  have hml : c.maxLocals = 2 := hml0
  have hown : s.vm.findClass "com/example/colonwise/colonwise/model/BencodeInteger" = some m.cls := findClass_of_methodNamed Bd.named
  have hnm := (name_of_methodNamed Bd.named Bd.method).1
  have hlk : meth.locks = false := Bd.notSynchronized
  have X0 : Stand p l e ({ frames := 3, cells := 2, slots := 24, locals := 42 } : Room) s m #[(.ref v0)] below meth c s₁ [] 0 0 := Stand.of_body Bd
  have e0 : s₁.heap = h0 := by rw [← hh, Bd.state]; rfl
  have N0 := Fr.nil n0
  refine Go.enter (Q := Q_bdec Z v0 x cs uu Nd ng aO aT h0 n0) (C := ({ frames := 3, cells := 2, slots := 24, locals := 42 } : Room).cells) (N := ({ frames := 3, cells := 2, slots := 24, locals := 42 } : Room).slots) (ef_bdec m v0) ?_
  show Go p e below s _ _ _ s₁ (mkF m 0 #[.val (.ref v0), .unset] [])
  refine G_aloadN X0 hx (pc' := 1) rfl (hb hby d26_0) rfl rfl ?_
  obtain ⟨T139, X139, e139, st139⟩ := getF X0 hx hZ hown (host := "") (Or.inl (own_w hw 14 rfl)) Via.refl e0 f2_F_v0 (g := (mkF m 1 #[.val (.ref v0), .unset] [(.ref v0)])) rfl rfl (hb hby d26_1)
  refine Go.st st139 ?_
  show Go p e below s _ _ _ T139 (mkF m 4 #[.val (.ref v0), .unset] [(.int (0 : Int32))])
  refine G_ifNo X139 hx (pc' := 7) rfl (hb hby d26_4) ((if0 _ _).trans (teq (by decide : (0 : Int32) = (0 : Int32))).2) ?_
  refine G_aloadN X139 hx (pc' := 8) rfl (hb hby d26_7) rfl rfl ?_
  obtain ⟨T140, X140, e140, st140⟩ := getF X139 hx hZ hown (host := "") (Or.inl (own_w hw 12 rfl)) Via.refl e139 f1_F_v0 (g := (mkF m 8 #[.val (.ref v0), .unset] [(.ref v0)])) rfl rfl (hb hby d26_8)
  refine Go.st st140 ?_
  show Go p e below s _ _ _ T140 (mkF m 11 #[.val (.ref v0), .unset] [(.long x)])
  obtain ⟨_, _, ⟨T141, L141, k141, n141⟩, -, X141, ⟨Lc141, hQ141, l141, y141, z141⟩, st141⟩ := Jvm.LawKit.callS X140 hx (y := (⟨"java/lang/Long", "toString", "(J)Ljava/lang/String;"⟩ : MethodName)) hown (mvT hZ (own_w hw 70 rfl)) (mvT hZ (own_w hw 71 rfl)) (mvT hZ (own_w hw 43 rfl)) (mvT hZ (own_w hw 72 rfl)) (by decide) (backOf (W := 0) (rm_ltos l Z a0 hw [] x cs uu Nd ng aO aT h0 n0 Z0 f3_S_java_lang_Integer f4_A_aO f5_S_java_lang_Integer f6_A_aT f7_S_java_lang_String (by assumption) (by assumption) (by assumption) (by assumption) (by assumption)) hZ (own_w hw 72 rfl) (own_w hw 43 rfl) (by decide) (by decide)) (g := (mkF m 11 #[.val (.ref v0), .unset] [(.long x)])) rfl (by rw [hml]; rfl) (argsL := [(.long x)]) (rest := []) (lenOf pd_9 rfl) rfl (by show 2 * 0 + _ ≤ _; exact Nat.le_of_eq rfl) (hb hby d26_11) (fun _ _ => ⟨rfl, e140, (by decide : 0 + 2 ≤ _), (by decide : 0 + 24 ≤ _)⟩)
  dsimp only [Pt.U, Pt.locs, Pt.cells, Pt.slots] at X141 l141 y141 z141 st141 hQ141
  rw [l141, y141, z141] at X141
  clear l141 y141 z141
  obtain ⟨b0_141, b1_141, rfl, N141q, K141, le_b0_141, le_b1_141, p141_0, p141_1, p141_2, p141_3⟩ := hQ141
  have N141 := Fr.app N0 N141q
  refine Go.st st141 ?_
  have ne_aO_b0_141 : aO ≠ b0_141 := Nat.ne_of_lt (Nat.lt_of_lt_of_le f4_A_aO.lt le_b0_141)
  have ne_aT_b0_141 : aT ≠ b0_141 := Nat.ne_of_lt (Nat.lt_of_lt_of_le f6_A_aT.lt le_b0_141)
  have ne_v0_b0_141 : v0 ≠ b0_141 := Nat.ne_of_lt (Nat.lt_of_lt_of_le f0_E_v0.lt le_b0_141)
  have g_b0_141 : n0 ≤ b0_141 := Nat.le_trans Z0 le_b0_141
  have sz_b0_141 : h0.size ≤ b0_141 := Nat.le_trans (Nat.le_refl _) le_b0_141
  have ne_aO_b1_141 : aO ≠ b1_141 := Nat.ne_of_lt (Nat.lt_of_lt_of_le f4_A_aO.lt le_b1_141)
  have ne_aT_b1_141 : aT ≠ b1_141 := Nat.ne_of_lt (Nat.lt_of_lt_of_le f6_A_aT.lt le_b1_141)
  have ne_v0_b1_141 : v0 ≠ b1_141 := Nat.ne_of_lt (Nat.lt_of_lt_of_le f0_E_v0.lt le_b1_141)
  have g_b1_141 : n0 ≤ b1_141 := Nat.le_trans Z0 le_b1_141
  have sz_b1_141 : h0.size ≤ b1_141 := Nat.le_trans (Nat.le_refl _) le_b1_141
  have E_v0_141 := f0_E_v0.keep K141
  have F_v0_small_141 := f1_F_v0.keep K141 nin0
  have F_v0_wide_141 := f2_F_v0.keep K141 nin0
  have S_java_lang_Integer_DigitOnes_141 := own_staK f3_S_java_lang_Integer K141 own_nst0
  have A_aO_141 := f4_A_aO.keep K141 nin0
  have S_java_lang_Integer_DigitTens_141 := own_staK f5_S_java_lang_Integer K141 own_nst0
  have A_aT_141 := f6_A_aT.keep K141 nin0
  have S_java_lang_String_COMPACT_STRINGS_141 := own_staK f7_S_java_lang_String K141 own_nst0
  have K_141 : Keep h0 T141.heap [] := (Keep.refl h0 []).trans K141 all0
  have Z_141 : n0 ≤ T141.heap.size := Nat.le_trans Z0 K_141.1
  clear f0_E_v0 f1_F_v0 f2_F_v0 f3_S_java_lang_Integer f4_A_aO f5_S_java_lang_Integer f6_A_aT f7_S_java_lang_String st141 K141
  obtain ⟨G141, Y141, M141⟩ : ∃ L, Stand p l e ({ frames := 3, cells := 2, slots := 24, locals := 42 } : Room) s m #[(.ref v0)] below meth c T141 L 2 24 ∧ Fr n0 L := ⟨_, X141, N141⟩
  clear X141 N141
  show Go p e below s _ _ _ T141 (mkF m 14 #[.val (.ref v0), .unset] [(.ref b0_141)])
  refine G_astoreN Y141 hx (pc' := 15) rfl (hb hby d26_14) rfl (L' := #[.val (.ref v0), .val (.ref b0_141)]) rfl ?_
  refine G_goto Y141 hx (pc' := 41) (hb hby d26_15)  (by decide) (by decide) ?_
  refine G_aloadN Y141 hx (pc' := 42) rfl (hb hby d26_41) rfl rfl ?_
  refine Go.fin Y141 hlk (v := some (.ref b0_141)) (fun h => by rw [Bd.returns] at h; cases h) (by decide) (by decide) ?_ (fun fs hr => retOut Y141 hx Bd.returns rfl (Or.inr (Or.inr (Or.inr (Or.inr ⟨rfl, rfl, rfl⟩)))) (hb hby d26_42) hr)
  show Q_bdec Z v0 x cs uu Nd ng aO aT h0 n0 _ T141.heap _
  exact ⟨b0_141, b1_141, rfl, M141, K_141, sz_b0_141, sz_b1_141, p141_0, p141_1, p141_2, p141_3⟩
theorem d27_0 : decode prog_28_method_13_code 0 = .ok (.aload_n 0, 1) := by decide +kernel
theorem d27_1 : decode prog_28_method_13_code 1 = .ok (.invokevirtual 82, 3) := by decide +kernel
theorem pd_10 : parseMethodDescriptor "()Ljava/lang/String;" = some ⟨[], some (.object "java/lang/String")⟩ := by decide +kernel
theorem d27_4 : decode prog_28_method_13_code 4 = .ok (.areturn, 1) := by decide +kernel
theorem ef_btos (m : MethodId) (v0 : Addr) : entryFrame m #[(.ref v0)] 1 = mkF m 0 #[.val (.ref v0)] [] := by first | (simp [entryFrame, mkF, argsToLocals, Value.category]; done) | rfl
def Q_btos (Z : State) (v0 : Addr) (x : Int64) (cs : Int32) (uu : Nat) (Nd : Nat) (ng : Nat) (aO : Addr) (aT : Addr) (h0 : Heap) (n0 : Nat) (v : Option Value) (h : Heap) (L : List Loc) : Prop := ∃ b0 b1 : Addr, v = some (.ref b0) ∧ Fr n0 L ∧ Keep h0 h [] ∧ h0.size ≤ b0 ∧ h0.size ≤ b1 ∧ Exa Z h b0 "java/lang/String" ∧ Fld Z h b0 "java/lang/String" "value" "[B" (.ref b1) ∧ Fld Z h b0 "java/lang/String" "coder" "B" (.int (0 : Int32)) ∧ AI Z h b1 .byte (own_txt ng uu Nd)
set_option maxRecDepth 65536 in
set_option maxHeartbeats 40000000 in
theorem rm_btos (l : Launch) (Z : State) (a0 : Array Value) (hw : ∀ d ∈ tables_1, d.before a0 Z = true) (ws : List Jvm.Cond) (v0 : Addr) (x : Int64) (cs : Int32) (uu : Nat) (Nd : Nat) (ng : Nat) (aO : Addr) (aT : Addr) (h0 : Heap) (n0 : Nat) (Z0 : n0 ≤ h0.size) (f0_E_v0 : Exa Z h0 v0 "com/example/colonwise/colonwise/model/BencodeInteger") (f1_F_v0 : Fld Z h0 v0 "com/example/colonwise/colonwise/model/BencodeInteger" "small" "J" (.long x)) (f2_F_v0 : Fld Z h0 v0 "com/example/colonwise/colonwise/model/BencodeInteger" "wide" "Z" (.int (0 : Int32))) (f3_S_java_lang_Integer : Sta Z h0 "java/lang/Integer" "DigitOnes" "[B" (.ref aO)) (f4_A_aO : AI Z h0 aO .byte own_ones) (f5_S_java_lang_Integer : Sta Z h0 "java/lang/Integer" "DigitTens" "[B" (.ref aT)) (f6_A_aT : AI Z h0 aT .byte own_tens) (f7_S_java_lang_String : Sta Z h0 "java/lang/String" "COMPACT_STRINGS" "Z" (.int cs)) (hcs : ¬ (cs = (0 : Int32))) (hsz : f_ssize x = (Int32.ofNat (ng + Nd))) (hP : own_P uu Nd) (hN0 : 1 ≤ Nd) (hv : (x < 0 ∧ ng = 1 ∧ x.toInt = -(uu : Int)) ∨ (¬ x < 0 ∧ ng = 0 ∧ x.toInt = (uu : Int))) :
    MetFree l (⟨"com/example/colonwise/colonwise/model/BencodeInteger", "toString", "()Ljava/lang/String;"⟩ : MethodName) (head1 (Jvm.Cond.code (⟨"com/example/colonwise/colonwise/model/BencodeInteger", "toString", "()Ljava/lang/String;"⟩ : MethodName) prog_28_method_13_code 1 (some (.object "java/lang/String")) :: ws) ({ frames := 4, cells := 2, slots := 24, locals := 55 } : Room)) (fun a U => a = #[(.ref v0)] ∧ Z.Warmed39 U.vm ∧ U.heap = h0) (fun _ _ _ _ _ => True) (fun _ U o U' => ∃ v L, o = .returned v ∧ Q_btos Z v0 x cs uu Nd ng aO aT h0 n0 v U'.heap L ∧ FrameEnd U o U' L ({ frames := 4, cells := 2, slots := 24, locals := 55 } : Room).cells ({ frames := 4, cells := 2, slots := 24, locals := 55 } : Room).slots) := by
  refine MetFree.of_bodySF (plainFor_of_name (by first | (simp [plainName, overriddenIn]; done) | decide +kernel)) hisR ?_
  intro p e s m args below meth c s₁ Bd hml0 hP hK
  obtain ⟨rfl, hZ, hh⟩ := hP
  have hx := Bd.exec
  have hby := Bd.bytes
  have hml : c.maxLocals = 1 := hml0
  have hown : s.vm.findClass "com/example/colonwise/colonwise/model/BencodeInteger" = some m.cls := findClass_of_methodNamed Bd.named
  have hnm := (name_of_methodNamed Bd.named Bd.method).1
  have hlk : meth.locks = false := Bd.notSynchronized
  have X0 : Stand p l e ({ frames := 4, cells := 2, slots := 24, locals := 55 } : Room) s m #[(.ref v0)] below meth c s₁ [] 0 0 := Stand.of_body Bd
  have e0 : s₁.heap = h0 := by rw [← hh, Bd.state]; rfl
  have N0 := Fr.nil n0
  refine Go.enter (Q := Q_btos Z v0 x cs uu Nd ng aO aT h0 n0) (C := ({ frames := 4, cells := 2, slots := 24, locals := 55 } : Room).cells) (N := ({ frames := 4, cells := 2, slots := 24, locals := 55 } : Room).slots) (ef_btos m v0) ?_
  show Go p e below s _ _ _ s₁ (mkF m 0 #[.val (.ref v0)] [])
  refine G_aloadN X0 hx (pc' := 1) rfl (hb hby d27_0) rfl rfl ?_
  obtain ⟨cq142, q142, q142'⟩ := f0_E_v0.cell
  obtain ⟨_, _, ⟨T142, L142, k142, n142⟩, -, X142, ⟨Lc142, hQ142, l142, y142, z142⟩, st142⟩ := X0.privateBack hx (y := (⟨"com/example/colonwise/colonwise/model/BencodeInteger", "decimal", "()Ljava/lang/String;"⟩ : MethodName)) hown (mvT hZ (own_w hw 66 rfl)) (mvT hZ (own_w hw 67 rfl)) (own_selp (mv hZ (own_w hw 5 rfl)) (mvP hZ (own_w hw 68 rfl)) (mvT hZ (own_w hw 67 rfl)) (by decide)) (Cond.privateMethod_at (mvP hZ (own_w hw 68 rfl) (args := #[]))) (mvT hZ (own_w hw 69 rfl)) (by decide) (backOf (W := 0) (rm_bdec l Z a0 hw [] v0 x cs uu Nd ng aO aT h0 n0 Z0 f0_E_v0 f1_F_v0 f2_F_v0 f3_S_java_lang_Integer f4_A_aO f5_S_java_lang_Integer f6_A_aT f7_S_java_lang_String (by assumption) (by assumption) (by assumption) (by assumption) (by assumption)) hZ (own_w hw 69 rfl) (own_w hw 2 rfl) (by decide) (by decide)) (g := (mkF m 1 #[.val (.ref v0)] [(.ref v0)])) rfl (by rw [hml]; rfl) (Steps.refl _) (a := v0) (by rw [e0]; exact q142) q142' (argsL := []) (rest := []) (lenOf pd_10 rfl) rfl (by show 2 * 0 + _ ≤ _; exact Nat.le_of_eq rfl) (hb hby d27_1) (fun _ _ => ⟨rfl, e0, (by decide : 0 + 2 ≤ _), (by decide : 0 + 24 ≤ _)⟩)
  dsimp only [Pt.U, Pt.locs, Pt.cells, Pt.slots] at X142 l142 y142 z142 st142 hQ142
  rw [l142, y142, z142] at X142
  clear l142 y142 z142
  obtain ⟨b0_142, b1_142, rfl, N142q, K142, le_b0_142, le_b1_142, p142_0, p142_1, p142_2, p142_3⟩ := hQ142
  have N142 := Fr.app N0 N142q
  refine Go.st (fun _ k => st142.trans k) ?_
  have ne_aO_b0_142 : aO ≠ b0_142 := Nat.ne_of_lt (Nat.lt_of_lt_of_le f4_A_aO.lt le_b0_142)
  have ne_aT_b0_142 : aT ≠ b0_142 := Nat.ne_of_lt (Nat.lt_of_lt_of_le f6_A_aT.lt le_b0_142)
  have ne_v0_b0_142 : v0 ≠ b0_142 := Nat.ne_of_lt (Nat.lt_of_lt_of_le f0_E_v0.lt le_b0_142)
  have g_b0_142 : n0 ≤ b0_142 := Nat.le_trans Z0 le_b0_142
  have sz_b0_142 : h0.size ≤ b0_142 := Nat.le_trans (Nat.le_refl _) le_b0_142
  have ne_aO_b1_142 : aO ≠ b1_142 := Nat.ne_of_lt (Nat.lt_of_lt_of_le f4_A_aO.lt le_b1_142)
  have ne_aT_b1_142 : aT ≠ b1_142 := Nat.ne_of_lt (Nat.lt_of_lt_of_le f6_A_aT.lt le_b1_142)
  have ne_v0_b1_142 : v0 ≠ b1_142 := Nat.ne_of_lt (Nat.lt_of_lt_of_le f0_E_v0.lt le_b1_142)
  have g_b1_142 : n0 ≤ b1_142 := Nat.le_trans Z0 le_b1_142
  have sz_b1_142 : h0.size ≤ b1_142 := Nat.le_trans (Nat.le_refl _) le_b1_142
  have E_v0_142 := f0_E_v0.keep K142
  have F_v0_small_142 := f1_F_v0.keep K142 nin0
  have F_v0_wide_142 := f2_F_v0.keep K142 nin0
  have S_java_lang_Integer_DigitOnes_142 := own_staK f3_S_java_lang_Integer K142 own_nst0
  have A_aO_142 := f4_A_aO.keep K142 nin0
  have S_java_lang_Integer_DigitTens_142 := own_staK f5_S_java_lang_Integer K142 own_nst0
  have A_aT_142 := f6_A_aT.keep K142 nin0
  have S_java_lang_String_COMPACT_STRINGS_142 := own_staK f7_S_java_lang_String K142 own_nst0
  have K_142 : Keep h0 T142.heap [] := (Keep.refl h0 []).trans K142 all0
  have Z_142 : n0 ≤ T142.heap.size := Nat.le_trans Z0 K_142.1
  clear f0_E_v0 f1_F_v0 f2_F_v0 f3_S_java_lang_Integer f4_A_aO f5_S_java_lang_Integer f6_A_aT f7_S_java_lang_String st142 K142
  obtain ⟨G142, Y142, M142⟩ : ∃ L, Stand p l e ({ frames := 4, cells := 2, slots := 24, locals := 55 } : Room) s m #[(.ref v0)] below meth c T142 L 2 24 ∧ Fr n0 L := ⟨_, X142, N142⟩
  clear X142 N142
  show Go p e below s _ _ _ T142 (mkF m 4 #[.val (.ref v0)] [(.ref b0_142)])
  refine Go.fin Y142 hlk (v := some (.ref b0_142)) (fun h => by rw [Bd.returns] at h; cases h) (by decide) (by decide) ?_ (fun fs hr => retOut Y142 hx Bd.returns rfl (Or.inr (Or.inr (Or.inr (Or.inr ⟨rfl, rfl, rfl⟩)))) (hb hby d27_4) hr)
  show Q_btos Z v0 x cs uu Nd ng aO aT h0 n0 _ T142.heap _
  exact ⟨b0_142, b1_142, rfl, M142, K_142, sz_b0_142, sz_b1_142, p142_0, p142_1, p142_2, p142_3⟩
theorem own_txl (ng U N : Nat) : (own_txt ng U N).length = ng + N := by
  unfold own_txt; rw [List.length_append, List.length_replicate, own_dgl]
theorem own_chT : ∀ j : Fin 58, nar .char (nar .char (((Int32.ofNat j.val) &&& 255).toUInt32.toUInt16.toUInt32.toInt32)) = Int32.ofNat j.val := by decide +kernel
theorem own_ne45 : ∀ j : Fin 10, ¬ Int32.ofNat (48 + j.val) = 45 := by decide +kernel
theorem own_48 : ∀ j : Fin 10, ((48 : Int32) + Int32.ofNat j.val).toUInt32.toUInt16.toUInt32.toInt32 = Int32.ofNat (48 + j.val) := by decide +kernel
theorem own_dgL (U : Nat) : ∀ k, (own_dg U (k + 1)).getD k 0 = Int32.ofNat (48 + U % 10)
  | 0 => by show Int32.ofNat (48 + U / 10 ^ 0 % 10) = _; rw [Nat.pow_zero, Nat.div_one]
  | k + 1 => by show (own_dg U (k + 1)).getD k 0 = _; exact own_dgL U k
theorem own_txL (ng U N : Nat) (h : 1 ≤ N) : (own_txt ng U N).getD (ng + N - 1) 0 = Int32.ofNat (48 + U % 10) := by
  obtain ⟨k, rfl⟩ : ∃ k, N = k + 1 := ⟨N - 1, by omega⟩
  unfold own_txt
  rw [← own_dgL U k, List.getD_eq_getElem?_getD, List.getD_eq_getElem?_getD, List.getElem?_append_right (by rw [List.length_replicate]; omega), List.length_replicate, show ng + (k + 1) - 1 - ng = k by omega]
abbrev own_HV (v : Int64) (ng U : Nat) : Prop := (v < 0 ∧ ng = 1 ∧ v.toInt = -(U : Int)) ∨ (¬ v < 0 ∧ ng = 0 ∧ v.toInt = (U : Int))
theorem own_ng1 {v : Int64} {ng U : Nat} (hv : own_HV v ng U) : ng ≤ 1 := by rcases hv with ⟨-, q, -⟩ | ⟨-, q, -⟩ <;> omega
theorem own_i0 {v : Int64} {ng U N : Nat} (hP : own_P U N) (hN0 : 1 ≤ N) (hv : own_HV v ng U) : ¬ (0 : Int32) < 0 ∧ (0 : Int32) < Int32.ofNat (own_txt ng U N).length ∧ (0 : Int32).toNatClampNeg < (own_txt ng U N).length := by
  have g := own_ng1 hv
  have h3 := hP.h3
  rw [own_txl]
  refine ⟨by decide, ?_, ?_⟩
  · rw [Int32.lt_iff_toInt_lt, own_on (by omega), show (0 : Int32).toInt = 0 from rfl]; omega
  · show 0 < _; omega
theorem own_ix {v : Int64} {ng U N : Nat} (hsz : f_ssize v = Int32.ofNat (ng + N)) (hP : own_P U N) (hN0 : 1 ≤ N) (hv : own_HV v ng U) : ¬ (f_decLen v - (1 : Int32)) < 0 ∧ (f_decLen v - (1 : Int32)) < Int32.ofNat (own_txt ng U N).length ∧ (f_decLen v - (1 : Int32)).toNatClampNeg < (own_txt ng U N).length ∧ (f_decLen v - (1 : Int32)).toNatClampNeg = ng + N - 1 := by
  have g := own_ng1 hv
  have h3 := hP.h3
  have t : (f_decLen v - (1 : Int32)).toInt = ng + N - 1 := by
    rw [own_dl, hsz, Int32.toInt_sub, own_on (by omega), show (1 : Int32).toInt = 1 from rfl, Int.bmod_eq_of_le (by omega) (by omega)]; omega
  have n : (f_decLen v - (1 : Int32)).toNatClampNeg = ng + N - 1 := by show (f_decLen v - (1 : Int32)).toInt.toNat = _; omega
  rw [own_txl]
  refine ⟨?_, ?_, by omega, n⟩
  · rw [Int32.lt_iff_toInt_lt, t, show (0 : Int32).toInt = 0 from rfl]; omega
  · rw [Int32.lt_iff_toInt_lt, t, own_on (by omega)]; omega
theorem own_sl {v : Int64} {cs : Int32} {ng U N : Nat} (hsz : f_ssize v = Int32.ofNat (ng + N)) : f_slen cs (own_txt ng U N) = f_decLen v := by
  unfold f_slen
  rw [own_txl, own_dl, hsz, show ((0 : Int32) &&& 31) = 0 from by decide]
  exact Int32.shiftRight_zero
theorem own_el (v : Int64) : f_encLen v = (f_decLen v).toInt64 + (2 : Int64) := by
  unfold f_encLen; rw [own_tl, own_dl]
theorem own_abs {v : Int64} {ng U : Nat} (hv : own_HV v ng U) : (f_abs (v % (10 : Int64))).toInt = ((U % 10 : Nat) : Int) := by
  have t10 : (10 : Int64).toInt = 10 := by decide
  have z0 : (0 : Int64).toInt = 0 := by decide
  have m : (v % (10 : Int64)).toInt = ((U % 10 : Nat) : Int) ∨ (v % (10 : Int64)).toInt = -((U % 10 : Nat) : Int) := by
    rcases hv with ⟨-, -, e⟩ | ⟨-, -, e⟩
    · right; rw [Int64.toInt_mod, e, t10, Int.neg_tmod]; rfl
    · left; rw [Int64.toInt_mod, e, t10]; rfl
  have b : U % 10 < 10 := Nat.mod_lt _ (by decide)
  unfold f_abs
  by_cases h : v % (10 : Int64) < 0
  · rw [if_pos h, Int64.toInt_neg]
    rw [Int64.lt_iff_toInt_lt, z0] at h
    rw [Int.bmod_eq_of_le (by omega) (by omega)]; omega
  · rw [if_neg h]
    rw [Int64.lt_iff_toInt_lt, z0] at h
    omega
theorem own_lst {v : Int64} {ng U : Nat} (hv : own_HV v ng U) : ((48 : Int32) + (f_abs (v % (10 : Int64))).toInt32).toUInt32.toUInt16.toUInt32.toInt32 = Int32.ofNat (48 + U % 10) := by
  have b : U % 10 < 10 := Nat.mod_lt _ (by decide)
  have e : (f_abs (v % (10 : Int64))).toInt32 = Int32.ofNat (U % 10) := by
    apply Int32.toInt_inj.mp
    rw [Int64.toInt_toInt32, own_abs hv, own_on (by omega), Int.bmod_eq_of_le (by omega) (by omega)]
  rw [e]
  exact own_48 ⟨U % 10, b⟩
theorem own_pick (v : Int64) : ∃ U N ng : Nat, f_ssize v = Int32.ofNat (ng + N) ∧ own_P U N ∧ 1 ≤ N ∧ own_HV v ng U := by
  have z0 : (0 : Int64).toInt = 0 := by decide
  have l1 := Int64.le_toInt v
  have l2 := Int64.toInt_lt v
  by_cases h : v < 0
  · have h' := h
    rw [Int64.lt_iff_toInt_lt, z0] at h'
    obtain ⟨U, e⟩ : ∃ U : Nat, v.toInt = -(U : Int) := ⟨v.toInt.natAbs, by omega⟩
    have q := own_PN (U := U) (by omega)
    exact ⟨U, own_N U, 1, own_ssN h e, q.1, q.2, Or.inl ⟨h, rfl, e⟩⟩
  · have h' := h
    rw [Int64.lt_iff_toInt_lt, z0] at h'
    obtain ⟨U, e⟩ : ∃ U : Nat, v.toInt = (U : Int) := ⟨v.toInt.toNat, by omega⟩
    have q := own_PN (U := U) (by omega)
    have e2 : (-v).toInt = -(U : Int) := by rw [Int64.toInt_neg, e, Int.bmod_eq_of_le (by omega) (by omega)]
    exact ⟨U, own_N U, 0, own_ssP h e2, q.1, q.2, Or.inr ⟨h, rfl, e⟩⟩

section OwnStart2
variable {args : Array Value} {s : State} {t : Term}
theorem own_isref (h : (Cond.isRef t).value args s none s [] = some true) : ∃ v, t.eval args s none [] s = some v ∧ (v = .null ∨ ∃ a, v = .ref a) := by
  obtain ⟨v, e, q⟩ := Cond.isRef_spec (show (Cond.isRef t).holds args s none s [] = true from Cond.before_iff.mpr h)
  refine ⟨v, e, ?_⟩
  cases v <;> simp [Value.isRef] at q ⊢
theorem own_notz {x : Int32} (ev : t.eval args s none [] s = some (.int x)) (h : (Cond.not (Cond.eq t (.int 0))).value args s none s [] = some true) : ¬ x = 0 := by
  simp [Cond.value, Term.eval, ev] at h
  exact h
theorem own_l1 : own_ones.length = 100 := by decide +kernel
theorem own_l2 : own_tens.length = 100 := by decide +kernel
theorem own_f1 : ∀ v ∈ own_ones, fits .byte (.int v) = true := List.all_eq_true.mp (by decide +kernel)
theorem own_f2 : ∀ v ∈ own_tens, fits .byte (.int v) = true := List.all_eq_true.mp (by decide +kernel)
theorem own_d1 : ∀ i : Fin 100, (48 : Int32) + i.val.toInt32 % 10 = own_ones.getD i.val 0 ∧ (48 : Int32) + i.val.toInt32 / 10 = own_tens.getD i.val 0 := by decide +kernel
theorem own_r1 (i : Nat) (hi : i < 100) : (Term.add (.int 48) (.rem (.index 0) (.int 10))).eval args s none [i] s = some (.int (own_ones.getD i 0)) := by
  rw [← (own_d1 ⟨i, hi⟩).1]; simp [Term.eval]
theorem own_r2 (i : Nat) (hi : i < 100) : (Term.add (.int 48) (.div (.index 0) (.int 10))).eval args s none [i] s = some (.int (own_tens.getD i 0)) := by
  rw [← (own_d1 ⟨i, hi⟩).2]; simp [Term.eval]
end OwnStart2

theorem own_chn {v1 cs : Int32} {xs : List Int32} {x : Nat} (h : x < 58) (e : xs.getD v1.toNatClampNeg 0 = Int32.ofNat x) : f_scharn v1 cs xs = Int32.ofNat x := by
  unfold f_scharn f_lcharn; rw [e]; exact own_chT ⟨x, h⟩
theorem own_fcn {v : Int64} {cs : Int32} {ng U N : Nat} (hN0 : 1 ≤ N) (hv : own_HV v ng U) : f_scharn (0 : Int32) cs (own_txt ng U N) = (45 : Int32) ↔ v < 0 := by
  rcases hv with ⟨a, rfl, -⟩ | ⟨a, rfl, -⟩
  · exact ⟨fun _ => a, fun _ => (own_chn (x := 45) (by decide) (by rw [show (0 : Int32).toNatClampNeg = 0 from rfl]; rfl)).trans (by decide)⟩
  · obtain ⟨k, rfl⟩ : ∃ k, N = k + 1 := ⟨N - 1, by omega⟩
    have b : U / 10 ^ k % 10 < 10 := Nat.mod_lt _ (by decide)
    rw [own_chn (x := 48 + U / 10 ^ k % 10) (by omega) (by rw [show (0 : Int32).toNatClampNeg = 0 from rfl]; rfl)]
    exact iff_of_false (own_ne45 ⟨_, b⟩) a
theorem own_lcn {v : Int64} {cs : Int32} {ng U N : Nat} (hsz : f_ssize v = Int32.ofNat (ng + N)) (hP : own_P U N) (hN0 : 1 ≤ N) (hv : own_HV v ng U) : f_scharn (f_decLen v - (1 : Int32)) cs (own_txt ng U N) = ((48 : Int32) + (f_abs (v % (10 : Int64))).toInt32).toUInt32.toUInt16.toUInt32.toInt32 := by
  have b : U % 10 < 10 := Nat.mod_lt _ (by decide)
  rw [own_lst hv]
  exact own_chn (x := 48 + U % 10) (by omega) (by rw [(own_ix hsz hP hN0 hv).2.2.2]; exact own_txL ng U N hN0)

theorem pd_11 : parseMethodDescriptor "(J)Lcom/example/colonwise/colonwise/model/BencodeInteger;" = some ⟨[.long], some (.object "com/example/colonwise/colonwise/model/BencodeInteger")⟩ := by decide +kernel
theorem pd_12 : parseMethodDescriptor "()J" = some ⟨[], some .long⟩ := by decide +kernel
theorem pd_13 : parseMethodDescriptor "(Ljava/lang/Object;)Z" = some ⟨[(.object "java/lang/Object")], some .boolean⟩ := by decide +kernel
theorem pd_14 : parseMethodDescriptor "()I" = some ⟨[], some .int⟩ := by decide +kernel
theorem pd_15 : parseMethodDescriptor "(I)C" = some ⟨[.int], some .char⟩ := by decide +kernel
theorem pd_16 : parseMethodDescriptor "(J)J" = some ⟨[.long], some .long⟩ := by decide +kernel
theorem ef_lawn (m : MethodId) (v0 : Int64) (v1 : Int64) (v2 : Int32) : entryFrame m #[(.long v0), (.long v1), (.int v2)] maxLocals = mkF m 0 #[.val (.long v0), .second, .val (.long v1), .second, .val (.int v2), .unset, .unset, .unset, .unset, .unset, .unset, .unset] [] := by first | (simp [entryFrame, mkF, argsToLocals, Value.category, maxLocals]; done) | rfl
def Q_lawn (Z : State) (v0 : Int64) (v1 : Int64) (v2 : Int32) (cs : Int32) (uu : Nat) (Nd : Nat) (ng : Nat) (aO : Addr) (aT : Addr) (h0 : Heap) (n0 : Nat) (v : Option Value) (h : Heap) (L : List Loc) : Prop := v = some (.int (1 : Int32)) ∧ Fr n0 L
set_option maxRecDepth 65536 in
set_option maxHeartbeats 40000000 in
theorem rm_lawn (l : Launch) (Z : State) (a0 : Array Value) (hw : ∀ d ∈ tables_1, d.before a0 Z = true) (ws : List Jvm.Cond) (v0 : Int64) (v1 : Int64) (v2 : Int32) (cs : Int32) (uu : Nat) (Nd : Nat) (ng : Nat) (aO : Addr) (aT : Addr) (h0 : Heap) (n0 : Nat) (Z0 : n0 ≤ h0.size) (f0_S_java_lang_Integer : Sta Z h0 "java/lang/Integer" "DigitOnes" "[B" (.ref aO)) (f1_A_aO : AI Z h0 aO .byte own_ones) (f2_S_java_lang_Integer : Sta Z h0 "java/lang/Integer" "DigitTens" "[B" (.ref aT)) (f3_A_aT : AI Z h0 aT .byte own_tens) (f4_S_java_lang_String : Sta Z h0 "java/lang/String" "COMPACT_STRINGS" "Z" (.int cs)) (f5_S_jdk_internal_util_Preconditions : Sta Z h0 "jdk/internal/util/Preconditions" "SIOOBE_FORMATTER" "Ljava/util/function/BiFunction;" .null) (hcs : ¬ (cs = (0 : Int32))) (hsz : f_ssize v0 = (Int32.ofNat (ng + Nd))) (hP : own_P uu Nd) (hN0 : 1 ≤ Nd) (hv : (v0 < 0 ∧ ng = 1 ∧ v0.toInt = -(uu : Int)) ∨ (¬ v0 < 0 ∧ ng = 0 ∧ v0.toInt = (uu : Int))) :
    MetFree l x (head1 (Jvm.Cond.code x code maxLocals ret :: ws) room_1) (fun a U => a = #[(.long v0), (.long v1), (.int v2)] ∧ Z.Warmed39 U.vm ∧ U.heap = h0) (fun _ _ _ _ _ => True) (fun _ U o U' => ∃ v L, o = .returned v ∧ Q_lawn Z v0 v1 v2 cs uu Nd ng aO aT h0 n0 v U'.heap L ∧ FrameEnd U o U' L room_1.cells room_1.slots) := by
  refine MetFree.of_bodySF (plainFor_of_name (by first | (simp [plainName, overriddenIn]; done) | decide +kernel)) hisR ?_
  intro p e s m args below meth c s₁ Bd hml0 hP hK
  obtain ⟨rfl, hZ, hh⟩ := hP
  have hx := Bd.exec
  have hby := Bd.bytes
  have hml : c.maxLocals = 12 := hml0
  have hown : s.vm.findClass "com/example/colonwise/colonwise/model/BencodeIntegerOfPinLaw" = some m.cls := findClass_of_methodNamed Bd.named
  have hnm := (name_of_methodNamed Bd.named Bd.method).1
  have hlk : meth.locks = false := Bd.notSynchronized
  have X0 : Stand p l e room_1 s m #[(.long v0), (.long v1), (.int v2)] below meth c s₁ [] 0 0 := Stand.of_body Bd
  have e0 : s₁.heap = h0 := by rw [← hh, Bd.state]; rfl
  have N0 := Fr.nil n0
  refine Go.enter (Q := Q_lawn Z v0 v1 v2 cs uu Nd ng aO aT h0 n0) (C := room_1.cells) (N := room_1.slots) (ef_lawn m v0 v1 v2) ?_
  show Go p e below s _ _ _ s₁ (mkF m 0 #[.val (.long v0), .second, .val (.long v1), .second, .val (.int v2), .unset, .unset, .unset, .unset, .unset, .unset, .unset] [])
  have J14 : ∀ ot : Int64, Go p e below s room_1.cells room_1.slots (Q_lawn Z v0 v1 v2 cs uu Nd ng aO aT h0 n0) s₁ (mkF m 14 #[.val (.long v0), .second, .val (.long v1), .second, .val (.int v2), .val (.long ot), .second, .unset, .unset, .unset, .unset, .unset] []) := by
    intro ot
    refine G_lloadN X0 hx (pc' := 15) rfl (hb hby at_14) rfl ?_
    obtain ⟨_, _, ⟨T143, L143, k143, n143⟩, -, X143, ⟨Lc143, hQ143, l143, y143, z143⟩, st143⟩ := Jvm.LawKit.callS X0 hx (y := (⟨"com/example/colonwise/colonwise/model/BencodeInteger", "of", "(J)Lcom/example/colonwise/colonwise/model/BencodeInteger;"⟩ : MethodName)) hown (mvT hZ (own_w hw 0 rfl)) (mvT hZ (own_w hw 1 rfl)) (mvT hZ (own_w hw 2 rfl)) (mvT hZ (own_w hw 3 rfl)) (by decide) (backOf (W := 0) (rm_of l Z a0 hw [] v0 h0 n0 Z0 ) hZ (own_w hw 3 rfl) (own_w hw 2 rfl) (by decide) (by decide)) (g := (mkF m 15 #[.val (.long v0), .second, .val (.long v1), .second, .val (.int v2), .val (.long ot), .second, .unset, .unset, .unset, .unset, .unset] [(.long v0)])) rfl (by rw [hml]; rfl) (argsL := [(.long v0)]) (rest := []) (lenOf pd_11 rfl) rfl (by show 2 * 0 + _ ≤ _; exact Nat.le_of_eq rfl) (hb hby at_15) (fun _ _ => ⟨rfl, e0, (by decide : 0 + 1 ≤ _), (by decide : 0 + 4 ≤ _)⟩)
    dsimp only [Pt.U, Pt.locs, Pt.cells, Pt.slots] at X143 l143 y143 z143 st143 hQ143
    rw [l143, y143, z143] at X143
    clear l143 y143 z143
    obtain ⟨b0_143, rfl, N143q, K143, le_b0_143, p143_0, p143_1, p143_2⟩ := hQ143
    have N143 := Fr.app N0 N143q
    refine Go.st st143 ?_
    have ne_aO_b0_143 : aO ≠ b0_143 := Nat.ne_of_lt (Nat.lt_of_lt_of_le f1_A_aO.lt le_b0_143)
    have ne_aT_b0_143 : aT ≠ b0_143 := Nat.ne_of_lt (Nat.lt_of_lt_of_le f3_A_aT.lt le_b0_143)
    have g_b0_143 : n0 ≤ b0_143 := Nat.le_trans Z0 le_b0_143
    have sz_b0_143 : h0.size ≤ b0_143 := Nat.le_trans (Nat.le_refl _) le_b0_143
    have S_java_lang_Integer_DigitOnes_143 := own_staK f0_S_java_lang_Integer K143 own_nst0
    have A_aO_143 := f1_A_aO.keep K143 nin0
    have S_java_lang_Integer_DigitTens_143 := own_staK f2_S_java_lang_Integer K143 own_nst0
    have A_aT_143 := f3_A_aT.keep K143 nin0
    have S_java_lang_String_COMPACT_STRINGS_143 := own_staK f4_S_java_lang_String K143 own_nst0
    have S_jdk_internal_util_Preconditions_SIOOBE_FORMATTER_143 := own_staK f5_S_jdk_internal_util_Preconditions K143 own_nst0
    have K_143 : Keep h0 T143.heap [] := (Keep.refl h0 []).trans K143 all0
    have Z_143 : n0 ≤ T143.heap.size := Nat.le_trans Z0 K_143.1
    clear f0_S_java_lang_Integer f1_A_aO f2_S_java_lang_Integer f3_A_aT f4_S_java_lang_String f5_S_jdk_internal_util_Preconditions st143 K143
    obtain ⟨G143, Y143, M143⟩ : ∃ L, Stand p l e room_1 s m #[(.long v0), (.long v1), (.int v2)] below meth c T143 L 1 4 ∧ Fr n0 L := ⟨_, X143, N143⟩
    clear X143 N143
    show Go p e below s _ _ _ T143 (mkF m 18 #[.val (.long v0), .second, .val (.long v1), .second, .val (.int v2), .val (.long ot), .second, .unset, .unset, .unset, .unset, .unset] [(.ref b0_143)])
    refine G_astore Y143 hx (pc' := 20) rfl (hb hby at_18) rfl (L' := #[.val (.long v0), .second, .val (.long v1), .second, .val (.int v2), .val (.long ot), .second, .val (.ref b0_143), .unset, .unset, .unset, .unset]) rfl ?_
    refine G_lload Y143 hx (pc' := 22) rfl (hb hby at_20) rfl ?_
    obtain ⟨_, _, ⟨T144, L144, k144, n144⟩, -, X144, ⟨Lc144, hQ144, l144, y144, z144⟩, st144⟩ := Jvm.LawKit.callS Y143 hx (y := (⟨"com/example/colonwise/colonwise/model/BencodeInteger", "of", "(J)Lcom/example/colonwise/colonwise/model/BencodeInteger;"⟩ : MethodName)) hown (mvT hZ (own_w hw 0 rfl)) (mvT hZ (own_w hw 1 rfl)) (mvT hZ (own_w hw 2 rfl)) (mvT hZ (own_w hw 3 rfl)) (by decide) (backOf (W := 0) (rm_of l Z a0 hw [] ot T143.heap n0 Z_143 ) hZ (own_w hw 3 rfl) (own_w hw 2 rfl) (by decide) (by decide)) (g := (mkF m 22 #[.val (.long v0), .second, .val (.long v1), .second, .val (.int v2), .val (.long ot), .second, .val (.ref b0_143), .unset, .unset, .unset, .unset] [(.long ot)])) rfl (by rw [hml]; rfl) (argsL := [(.long ot)]) (rest := []) (lenOf pd_11 rfl) rfl (by show 2 * 0 + _ ≤ _; exact Nat.le_of_eq rfl) (hb hby at_22) (fun _ _ => ⟨rfl, rfl, (by decide : 1 + 1 ≤ _), (by decide : 4 + 4 ≤ _)⟩)
    dsimp only [Pt.U, Pt.locs, Pt.cells, Pt.slots] at X144 l144 y144 z144 st144 hQ144
    rw [l144, y144, z144] at X144
    clear l144 y144 z144
    obtain ⟨b0_144, rfl, N144q, K144, le_b0_144, p144_0, p144_1, p144_2⟩ := hQ144
    have N144 := Fr.app M143 N144q
    refine Go.st st144 ?_
    have ne_aO_b0_144 : aO ≠ b0_144 := Nat.ne_of_lt (Nat.lt_of_lt_of_le A_aO_143.lt le_b0_144)
    have ne_aT_b0_144 : aT ≠ b0_144 := Nat.ne_of_lt (Nat.lt_of_lt_of_le A_aT_143.lt le_b0_144)
    have ne_b0_143_b0_144 : b0_143 ≠ b0_144 := Nat.ne_of_lt (Nat.lt_of_lt_of_le p143_0.lt le_b0_144)
    have g_b0_144 : n0 ≤ b0_144 := Nat.le_trans Z_143 le_b0_144
    have sz_b0_144 : h0.size ≤ b0_144 := Nat.le_trans K_143.1 le_b0_144
    have S_java_lang_Integer_DigitOnes_144 := own_staK S_java_lang_Integer_DigitOnes_143 K144 own_nst0
    have A_aO_144 := A_aO_143.keep K144 nin0
    have S_java_lang_Integer_DigitTens_144 := own_staK S_java_lang_Integer_DigitTens_143 K144 own_nst0
    have A_aT_144 := A_aT_143.keep K144 nin0
    have S_java_lang_String_COMPACT_STRINGS_144 := own_staK S_java_lang_String_COMPACT_STRINGS_143 K144 own_nst0
    have S_jdk_internal_util_Preconditions_SIOOBE_FORMATTER_144 := own_staK S_jdk_internal_util_Preconditions_SIOOBE_FORMATTER_143 K144 own_nst0
    have E_b0_143_144 := p143_0.keep K144
    have F_b0_143_small_144 := p143_1.keep K144 nin0
    have F_b0_143_wide_144 := p143_2.keep K144 nin0
    have K_144 : Keep h0 T144.heap [] := K_143.trans K144 all0
    have Z_144 : n0 ≤ T144.heap.size := Nat.le_trans Z0 K_144.1
    clear S_java_lang_Integer_DigitOnes_143 A_aO_143 S_java_lang_Integer_DigitTens_143 A_aT_143 S_java_lang_String_COMPACT_STRINGS_143 S_jdk_internal_util_Preconditions_SIOOBE_FORMATTER_143 p143_0 p143_1 p143_2 st144 K144
    obtain ⟨G144, Y144, M144⟩ : ∃ L, Stand p l e room_1 s m #[(.long v0), (.long v1), (.int v2)] below meth c T144 L 2 8 ∧ Fr n0 L := ⟨_, X144, N144⟩
    clear X144 N144
    show Go p e below s _ _ _ T144 (mkF m 25 #[.val (.long v0), .second, .val (.long v1), .second, .val (.int v2), .val (.long ot), .second, .val (.ref b0_143), .unset, .unset, .unset, .unset] [(.ref b0_144)])
    refine G_astore Y144 hx (pc' := 27) rfl (hb hby at_25) rfl (L' := #[.val (.long v0), .second, .val (.long v1), .second, .val (.int v2), .val (.long ot), .second, .val (.ref b0_143), .val (.ref b0_144), .unset, .unset, .unset]) rfl ?_
    refine G_aload Y144 hx (pc' := 29) rfl (hb hby at_27) rfl rfl ?_
    obtain ⟨cq145, kq145, q145a, q145b, q145c⟩ := isOf hZ rfl E_b0_143_144
    obtain ⟨_, _, ⟨T145, L145, k145, n145⟩, -, X145, ⟨Lc145, hQ145, l145, y145, z145⟩, st145⟩ := Y144.virtualBack hx (y := (⟨"com/example/colonwise/colonwise/model/BencodeInteger", "fitsInLong", "()Z"⟩ : MethodName)) (z := (⟨"com/example/colonwise/colonwise/model/BencodeInteger", "fitsInLong", "()Z"⟩ : MethodName)) hown (mvT hZ (own_w hw 20 rfl)) (mvT hZ (own_w hw 21 rfl)) (notFace_of_selects (args := #[]) (mvT hZ (own_w hw 23 rfl))) (mvT hZ (own_w hw 23 rfl)) (mvT hZ (own_w hw 22 rfl)) (by decide) (backOf (W := 0) (rm_fits l Z a0 hw [] b0_143 v0 T144.heap n0 Z_144 E_b0_143_144 F_b0_143_small_144 F_b0_143_wide_144) hZ (own_w hw 24 rfl) (own_w hw 2 rfl) (by decide) (by decide)) q145a q145c (g := (mkF m 29 #[.val (.long v0), .second, .val (.long v1), .second, .val (.int v2), .val (.long ot), .second, .val (.ref b0_143), .val (.ref b0_144), .unset, .unset, .unset] [(.ref b0_143)])) rfl (by rw [hml]; rfl) (Steps.refl _) (argsL := []) (rest := []) (lenOf pd_5 rfl) rfl (by show 2 * 0 + _ ≤ _; exact Nat.le_of_eq rfl) (hb hby at_29) (fun _ _ => ⟨rfl, rfl, (by decide : 2 + 0 ≤ _), (by decide : 8 + 0 ≤ _)⟩)
    dsimp only [Pt.U, Pt.locs, Pt.cells, Pt.slots] at X145 l145 y145 z145 st145 hQ145
    rw [l145, y145, z145] at X145
    clear l145 y145 z145
    obtain ⟨rfl, N145q, e145⟩ := hQ145
    have N145 := Fr.app M144 N145q
    refine Go.st (fun _ k => st145.trans k) ?_
    obtain ⟨G145, Y145, M145⟩ : ∃ L, Stand p l e room_1 s m #[(.long v0), (.long v1), (.int v2)] below meth c T145 L 2 8 ∧ Fr n0 L := ⟨_, X145, N145⟩
    clear X145 N145
    show Go p e below s _ _ _ T145 (mkF m 32 #[.val (.long v0), .second, .val (.long v1), .second, .val (.int v2), .val (.long ot), .second, .val (.ref b0_143), .val (.ref b0_144), .unset, .unset, .unset] [(.int (f_fits v0))])
    refine G_ifYes Y145 hx (pc' := 37) (hb hby at_32) ((if0 _ _).trans (feq (fun h => absurd (show (1 : Int32) = 0 from h) (by decide) : ¬ ((f_fits v0) = (0 : Int32)))).2) (by decide) (by decide) ?_
    refine G_aload Y145 hx (pc' := 39) rfl (hb hby at_37) rfl rfl ?_
    obtain ⟨cq146, kq146, q146a, q146b, q146c⟩ := isOf hZ e145 E_b0_143_144
    obtain ⟨_, _, ⟨T146, L146, k146, n146⟩, -, X146, ⟨Lc146, hQ146, l146, y146, z146⟩, st146⟩ := Y145.virtualBack hx (y := (⟨"com/example/colonwise/colonwise/model/BencodeInteger", "longValue", "()J"⟩ : MethodName)) (z := (⟨"com/example/colonwise/colonwise/model/BencodeInteger", "longValue", "()J"⟩ : MethodName)) hown (mvT hZ (own_w hw 25 rfl)) (mvT hZ (own_w hw 26 rfl)) (notFace_of_selects (args := #[]) (mvT hZ (own_w hw 28 rfl))) (mvT hZ (own_w hw 28 rfl)) (mvT hZ (own_w hw 27 rfl)) (by decide) (backOf (W := 0) (rm_lval l Z a0 hw [] b0_143 v0 T144.heap n0 Z_144 E_b0_143_144 F_b0_143_small_144 F_b0_143_wide_144) hZ (own_w hw 29 rfl) (own_w hw 2 rfl) (by decide) (by decide)) q146a q146c (g := (mkF m 39 #[.val (.long v0), .second, .val (.long v1), .second, .val (.int v2), .val (.long ot), .second, .val (.ref b0_143), .val (.ref b0_144), .unset, .unset, .unset] [(.ref b0_143)])) rfl (by rw [hml]; rfl) (Steps.refl _) (argsL := []) (rest := []) (lenOf pd_12 rfl) rfl (by show 2 * 0 + _ ≤ _; exact Nat.le_of_eq rfl) (hb hby at_39) (fun _ _ => ⟨rfl, e145, (by decide : 2 + 0 ≤ _), (by decide : 8 + 0 ≤ _)⟩)
    dsimp only [Pt.U, Pt.locs, Pt.cells, Pt.slots] at X146 l146 y146 z146 st146 hQ146
    rw [l146, y146, z146] at X146
    clear l146 y146 z146
    obtain ⟨rfl, N146q, e146⟩ := hQ146
    have N146 := Fr.app M145 N146q
    refine Go.st (fun _ k => st146.trans k) ?_
    obtain ⟨G146, Y146, M146⟩ : ∃ L, Stand p l e room_1 s m #[(.long v0), (.long v1), (.int v2)] below meth c T146 L 2 8 ∧ Fr n0 L := ⟨_, X146, N146⟩
    clear X146 N146
    show Go p e below s _ _ _ T146 (mkF m 42 #[.val (.long v0), .second, .val (.long v1), .second, .val (.int v2), .val (.long ot), .second, .val (.ref b0_143), .val (.ref b0_144), .unset, .unset, .unset] [(.long (f_lval v0))])
    refine G_lloadN Y146 hx (pc' := 43) rfl (hb hby at_42) rfl ?_
    refine G_lcmp Y146 hx (pc' := 44) rfl (hb hby at_43)  ?_
    refine G_ifYes Y146 hx (pc' := 49) (hb hby at_44) ((if0 _ _).trans (teq ((lw_eq _ _).2 (rfl : (f_lval v0) = v0))).1) (by decide) (by decide) ?_
    refine G_aload Y146 hx (pc' := 51) rfl (hb hby at_49) rfl rfl ?_
    refine G_aload Y146 hx (pc' := 53) rfl (hb hby at_51) rfl rfl ?_
    obtain ⟨cq147, kq147, q147a, q147b, q147c⟩ := isOf hZ e146 E_b0_143_144
    obtain ⟨_, _, ⟨T147, L147, k147, n147⟩, -, X147, ⟨Lc147, hQ147, l147, y147, z147⟩, st147⟩ := Y146.virtualBack hx (y := (⟨"com/example/colonwise/colonwise/model/BencodeInteger", "equals", "(Ljava/lang/Object;)Z"⟩ : MethodName)) (z := (⟨"com/example/colonwise/colonwise/model/BencodeInteger", "equals", "(Ljava/lang/Object;)Z"⟩ : MethodName)) hown (mvT hZ (own_w hw 30 rfl)) (mvT hZ (own_w hw 31 rfl)) (notFace_of_selects (args := #[]) (mvT hZ (own_w hw 33 rfl))) (mvT hZ (own_w hw 33 rfl)) (mvT hZ (own_w hw 32 rfl)) (by decide) (backOf (W := 0) (rm_equ l Z a0 hw [] b0_143 b0_144 v0 ot T144.heap n0 Z_144 E_b0_143_144 F_b0_143_small_144 F_b0_143_wide_144 p144_0 p144_1 p144_2) hZ (own_w hw 34 rfl) (own_w hw 2 rfl) (by decide) (by decide)) q147a q147c (g := (mkF m 53 #[.val (.long v0), .second, .val (.long v1), .second, .val (.int v2), .val (.long ot), .second, .val (.ref b0_143), .val (.ref b0_144), .unset, .unset, .unset] [(.ref b0_144), (.ref b0_143)])) rfl (by rw [hml]; rfl) (Steps.refl _) (argsL := [(.ref b0_144)]) (rest := []) (lenOf pd_13 rfl) rfl (by show 2 * 0 + _ ≤ _; exact Nat.le_of_eq rfl) (hb hby at_53) (fun _ _ => ⟨rfl, e146, (by decide : 2 + 0 ≤ _), (by decide : 8 + 0 ≤ _)⟩)
    dsimp only [Pt.U, Pt.locs, Pt.cells, Pt.slots] at X147 l147 y147 z147 st147 hQ147
    rw [l147, y147, z147] at X147
    clear l147 y147 z147
    obtain ⟨rfl, N147q, e147⟩ := hQ147
    have N147 := Fr.app M146 N147q
    refine Go.st (fun _ k => st147.trans k) ?_
    obtain ⟨G147, Y147, M147⟩ : ∃ L, Stand p l e room_1 s m #[(.long v0), (.long v1), (.int v2)] below meth c T147 L 2 8 ∧ Fr n0 L := ⟨_, X147, N147⟩
    clear X147 N147
    show Go p e below s _ _ _ T147 (mkF m 56 #[.val (.long v0), .second, .val (.long v1), .second, .val (.int v2), .val (.long ot), .second, .val (.ref b0_143), .val (.ref b0_144), .unset, .unset, .unset] [(.int (f_equ v0 ot))])
    have J73 : Go p e below s room_1.cells room_1.slots (Q_lawn Z v0 v1 v2 cs uu Nd ng aO aT h0 n0) T147 (mkF m 73 #[.val (.long v0), .second, .val (.long v1), .second, .val (.int v2), .val (.long ot), .second, .val (.ref b0_143), .val (.ref b0_144), .unset, .unset, .unset] []) := by
      refine G_aload Y147 hx (pc' := 75) rfl (hb hby at_73) rfl rfl ?_
      obtain ⟨cq148, kq148, q148a, q148b, q148c⟩ := isOf hZ e147 E_b0_143_144
      obtain ⟨_, _, ⟨T148, L148, k148, n148⟩, -, X148, ⟨Lc148, hQ148, l148, y148, z148⟩, st148⟩ := Y147.virtualBack hx (y := (⟨"com/example/colonwise/colonwise/model/BencodeInteger", "hashCode", "()I"⟩ : MethodName)) (z := (⟨"com/example/colonwise/colonwise/model/BencodeInteger", "hashCode", "()I"⟩ : MethodName)) hown (mvT hZ (own_w hw 36 rfl)) (mvT hZ (own_w hw 37 rfl)) (notFace_of_selects (args := #[]) (mvT hZ (own_w hw 39 rfl))) (mvT hZ (own_w hw 39 rfl)) (mvT hZ (own_w hw 38 rfl)) (by decide) (backOf (W := 0) (rm_bhash l Z a0 hw [] b0_143 v0 T144.heap n0 Z_144 E_b0_143_144 F_b0_143_small_144 F_b0_143_wide_144) hZ (own_w hw 40 rfl) (own_w hw 2 rfl) (by decide) (by decide)) q148a q148c (g := (mkF m 75 #[.val (.long v0), .second, .val (.long v1), .second, .val (.int v2), .val (.long ot), .second, .val (.ref b0_143), .val (.ref b0_144), .unset, .unset, .unset] [(.ref b0_143)])) rfl (by rw [hml]; rfl) (Steps.refl _) (argsL := []) (rest := []) (lenOf pd_14 rfl) rfl (by show 2 * 0 + _ ≤ _; exact Nat.le_of_eq rfl) (hb hby at_75) (fun _ _ => ⟨rfl, e147, (by decide : 2 + 0 ≤ _), (by decide : 8 + 0 ≤ _)⟩)
      dsimp only [Pt.U, Pt.locs, Pt.cells, Pt.slots] at X148 l148 y148 z148 st148 hQ148
      rw [l148, y148, z148] at X148
      clear l148 y148 z148
      obtain ⟨rfl, N148q, e148⟩ := hQ148
      have N148 := Fr.app M147 N148q
      refine Go.st (fun _ k => st148.trans k) ?_
      obtain ⟨G148, Y148, M148⟩ : ∃ L, Stand p l e room_1 s m #[(.long v0), (.long v1), (.int v2)] below meth c T148 L 2 8 ∧ Fr n0 L := ⟨_, X148, N148⟩
      clear X148 N148
      show Go p e below s _ _ _ T148 (mkF m 78 #[.val (.long v0), .second, .val (.long v1), .second, .val (.int v2), .val (.long ot), .second, .val (.ref b0_143), .val (.ref b0_144), .unset, .unset, .unset] [(.int (f_bhash v0))])
      refine G_lloadN Y148 hx (pc' := 79) rfl (hb hby at_78) rfl ?_
      refine G_lloadN Y148 hx (pc' := 80) rfl (hb hby at_79) rfl ?_
      refine G_bipush Y148 hx (pc' := 82) rfl (hb hby at_80) (z := (32 : Int32)) rfl ?_
      refine G_lushr Y148 hx (pc' := 83) rfl (hb hby at_82)  ?_
      refine G_lxor Y148 hx (pc' := 84) rfl (hb hby at_83)  ?_
      refine G_l2i Y148 hx (pc' := 85) rfl (hb hby at_84)  ?_
      refine G_icmpYes Y148 hx (pc' := 90) (hb hby at_85) (teq (rfl : (f_bhash v0) = ((v0 ^^^ ((v0.toUInt64 >>> ((32 : Int32) &&& 0x3f).toInt64.toUInt64).toInt64)).toInt32))).1 (by decide) (by decide) ?_
      refine G_lloadN Y148 hx (pc' := 91) rfl (hb hby at_90) rfl ?_
      obtain ⟨_, _, ⟨T149, L149, k149, n149⟩, -, X149, ⟨Lc149, hQ149, l149, y149, z149⟩, st149⟩ := Jvm.LawKit.callS Y148 hx (y := (⟨"com/example/colonwise/colonwise/model/BencodeIntegerOfPinLaw", "decimalLength", "(J)I"⟩ : MethodName)) hown (mvT hZ (own_w hw 45 rfl)) (mvT hZ (own_w hw 46 rfl)) (mvT hZ (own_w hw 47 rfl)) (mvT hZ (own_w hw 48 rfl)) (by decide) (backOf (W := 0) (rm_decLen l Z a0 hw [] v0 T144.heap n0 Z_144 ) hZ (own_w hw 48 rfl) (own_w hw 47 rfl) (by decide) (by decide)) (g := (mkF m 91 #[.val (.long v0), .second, .val (.long v1), .second, .val (.int v2), .val (.long ot), .second, .val (.ref b0_143), .val (.ref b0_144), .unset, .unset, .unset] [(.long v0)])) rfl (by rw [hml]; rfl) (argsL := [(.long v0)]) (rest := []) (lenOf pd_1 rfl) rfl (by show 2 * 0 + _ ≤ _; exact Nat.le_of_eq rfl) (hb hby at_91) (fun _ _ => ⟨rfl, e148, (by decide : 2 + 0 ≤ _), (by decide : 8 + 0 ≤ _)⟩)
      dsimp only [Pt.U, Pt.locs, Pt.cells, Pt.slots] at X149 l149 y149 z149 st149 hQ149
      rw [l149, y149, z149] at X149
      clear l149 y149 z149
      obtain ⟨rfl, N149q, e149⟩ := hQ149
      have N149 := Fr.app M148 N149q
      refine Go.st st149 ?_
      obtain ⟨G149, Y149, M149⟩ : ∃ L, Stand p l e room_1 s m #[(.long v0), (.long v1), (.int v2)] below meth c T149 L 2 8 ∧ Fr n0 L := ⟨_, X149, N149⟩
      clear X149 N149
      show Go p e below s _ _ _ T149 (mkF m 94 #[.val (.long v0), .second, .val (.long v1), .second, .val (.int v2), .val (.long ot), .second, .val (.ref b0_143), .val (.ref b0_144), .unset, .unset, .unset] [(.int (f_decLen v0))])
      refine G_istore Y149 hx (pc' := 96) rfl (hb hby at_94) (L' := #[.val (.long v0), .second, .val (.long v1), .second, .val (.int v2), .val (.long ot), .second, .val (.ref b0_143), .val (.ref b0_144), .val (.int (f_decLen v0)), .unset, .unset]) rfl ?_
      refine G_aload Y149 hx (pc' := 98) rfl (hb hby at_96) rfl rfl ?_
      obtain ⟨cq150, kq150, q150a, q150b, q150c⟩ := isOf hZ e149 E_b0_143_144
      obtain ⟨_, _, ⟨T150, L150, k150, n150⟩, -, X150, ⟨Lc150, hQ150, l150, y150, z150⟩, st150⟩ := Y149.virtualBack hx (y := (⟨"com/example/colonwise/colonwise/model/BencodeInteger", "encodedLength", "()J"⟩ : MethodName)) (z := (⟨"com/example/colonwise/colonwise/model/BencodeInteger", "encodedLength", "()J"⟩ : MethodName)) hown (mvT hZ (own_w hw 50 rfl)) (mvT hZ (own_w hw 51 rfl)) (notFace_of_selects (args := #[]) (mvT hZ (own_w hw 53 rfl))) (mvT hZ (own_w hw 53 rfl)) (mvT hZ (own_w hw 52 rfl)) (by decide) (backOf (W := 0) (rm_encLen l Z a0 hw [] b0_143 v0 T144.heap n0 Z_144 E_b0_143_144 F_b0_143_small_144 F_b0_143_wide_144) hZ (own_w hw 54 rfl) (own_w hw 2 rfl) (by decide) (by decide)) q150a q150c (g := (mkF m 98 #[.val (.long v0), .second, .val (.long v1), .second, .val (.int v2), .val (.long ot), .second, .val (.ref b0_143), .val (.ref b0_144), .val (.int (f_decLen v0)), .unset, .unset] [(.ref b0_143)])) rfl (by rw [hml]; rfl) (Steps.refl _) (argsL := []) (rest := []) (lenOf pd_12 rfl) rfl (by show 2 * 0 + _ ≤ _; exact Nat.le_of_eq rfl) (hb hby at_98) (fun _ _ => ⟨rfl, e149, (by decide : 2 + 0 ≤ _), (by decide : 8 + 0 ≤ _)⟩)
      dsimp only [Pt.U, Pt.locs, Pt.cells, Pt.slots] at X150 l150 y150 z150 st150 hQ150
      rw [l150, y150, z150] at X150
      clear l150 y150 z150
      obtain ⟨rfl, N150q, e150⟩ := hQ150
      have N150 := Fr.app M149 N150q
      refine Go.st (fun _ k => st150.trans k) ?_
      obtain ⟨G150, Y150, M150⟩ : ∃ L, Stand p l e room_1 s m #[(.long v0), (.long v1), (.int v2)] below meth c T150 L 2 8 ∧ Fr n0 L := ⟨_, X150, N150⟩
      clear X150 N150
      show Go p e below s _ _ _ T150 (mkF m 101 #[.val (.long v0), .second, .val (.long v1), .second, .val (.int v2), .val (.long ot), .second, .val (.ref b0_143), .val (.ref b0_144), .val (.int (f_decLen v0)), .unset, .unset] [(.long (f_encLen v0))])
      refine G_iload Y150 hx (pc' := 103) rfl (hb hby at_101) rfl ?_
      refine G_i2l Y150 hx (pc' := 104) rfl (hb hby at_103)  ?_
      refine G_ldc2 Y150 hx (pc' := 107) rfl hown (mvT hZ (own_w hw 60 rfl)) (hb hby at_104) ?_
      refine G_ladd Y150 hx (pc' := 108) rfl (hb hby at_107)  ?_
      refine G_lcmp Y150 hx (pc' := 109) rfl (hb hby at_108)  ?_
      refine G_ifYes Y150 hx (pc' := 114) (hb hby at_109) ((if0 _ _).trans (teq ((lw_eq _ _).2 (own_el v0 : (f_encLen v0) = (((f_decLen v0).toInt64) + (2 : Int64))))).1) (by decide) (by decide) ?_
      refine G_aload Y150 hx (pc' := 116) rfl (hb hby at_114) rfl rfl ?_
      obtain ⟨cq151, kq151, q151a, q151b, q151c⟩ := isOf hZ e150 E_b0_143_144
      obtain ⟨_, _, ⟨T151, L151, k151, n151⟩, -, X151, ⟨Lc151, hQ151, l151, y151, z151⟩, st151⟩ := Y150.virtualBack hx (y := (⟨"com/example/colonwise/colonwise/model/BencodeInteger", "toString", "()Ljava/lang/String;"⟩ : MethodName)) (z := (⟨"com/example/colonwise/colonwise/model/BencodeInteger", "toString", "()Ljava/lang/String;"⟩ : MethodName)) hown (mvT hZ (own_w hw 61 rfl)) (mvT hZ (own_w hw 62 rfl)) (notFace_of_selects (args := #[]) (mvT hZ (own_w hw 64 rfl))) (mvT hZ (own_w hw 64 rfl)) (mvT hZ (own_w hw 63 rfl)) (by decide) (backOf (W := 0) (rm_btos l Z a0 hw [] b0_143 v0 cs uu Nd ng aO aT T144.heap n0 Z_144 E_b0_143_144 F_b0_143_small_144 F_b0_143_wide_144 S_java_lang_Integer_DigitOnes_144 A_aO_144 S_java_lang_Integer_DigitTens_144 A_aT_144 S_java_lang_String_COMPACT_STRINGS_144 (by assumption) (by assumption) (by assumption) (by assumption) (by assumption)) hZ (own_w hw 65 rfl) (own_w hw 2 rfl) (by decide) (by decide)) q151a q151c (g := (mkF m 116 #[.val (.long v0), .second, .val (.long v1), .second, .val (.int v2), .val (.long ot), .second, .val (.ref b0_143), .val (.ref b0_144), .val (.int (f_decLen v0)), .unset, .unset] [(.ref b0_143)])) rfl (by rw [hml]; rfl) (Steps.refl _) (argsL := []) (rest := []) (lenOf pd_10 rfl) rfl (by show 2 * 0 + _ ≤ _; exact Nat.le_of_eq rfl) (hb hby at_116) (fun _ _ => ⟨rfl, e150, (by decide : 2 + 2 ≤ _), (by decide : 8 + 24 ≤ _)⟩)
      dsimp only [Pt.U, Pt.locs, Pt.cells, Pt.slots] at X151 l151 y151 z151 st151 hQ151
      rw [l151, y151, z151] at X151
      clear l151 y151 z151
      obtain ⟨b0_151, b1_151, rfl, N151q, K151, le_b0_151, le_b1_151, p151_0, p151_1, p151_2, p151_3⟩ := hQ151
      have N151 := Fr.app M150 N151q
      refine Go.st (fun _ k => st151.trans k) ?_
      have ne_aO_b0_151 : aO ≠ b0_151 := Nat.ne_of_lt (Nat.lt_of_lt_of_le A_aO_144.lt le_b0_151)
      have ne_aT_b0_151 : aT ≠ b0_151 := Nat.ne_of_lt (Nat.lt_of_lt_of_le A_aT_144.lt le_b0_151)
      have ne_b0_143_b0_151 : b0_143 ≠ b0_151 := Nat.ne_of_lt (Nat.lt_of_lt_of_le E_b0_143_144.lt le_b0_151)
      have ne_b0_144_b0_151 : b0_144 ≠ b0_151 := Nat.ne_of_lt (Nat.lt_of_lt_of_le p144_0.lt le_b0_151)
      have g_b0_151 : n0 ≤ b0_151 := Nat.le_trans Z_144 le_b0_151
      have sz_b0_151 : h0.size ≤ b0_151 := Nat.le_trans K_144.1 le_b0_151
      have ne_aO_b1_151 : aO ≠ b1_151 := Nat.ne_of_lt (Nat.lt_of_lt_of_le A_aO_144.lt le_b1_151)
      have ne_aT_b1_151 : aT ≠ b1_151 := Nat.ne_of_lt (Nat.lt_of_lt_of_le A_aT_144.lt le_b1_151)
      have ne_b0_143_b1_151 : b0_143 ≠ b1_151 := Nat.ne_of_lt (Nat.lt_of_lt_of_le E_b0_143_144.lt le_b1_151)
      have ne_b0_144_b1_151 : b0_144 ≠ b1_151 := Nat.ne_of_lt (Nat.lt_of_lt_of_le p144_0.lt le_b1_151)
      have g_b1_151 : n0 ≤ b1_151 := Nat.le_trans Z_144 le_b1_151
      have sz_b1_151 : h0.size ≤ b1_151 := Nat.le_trans K_144.1 le_b1_151
      have S_java_lang_Integer_DigitOnes_151 := own_staK S_java_lang_Integer_DigitOnes_144 K151 own_nst0
      have A_aO_151 := A_aO_144.keep K151 nin0
      have S_java_lang_Integer_DigitTens_151 := own_staK S_java_lang_Integer_DigitTens_144 K151 own_nst0
      have A_aT_151 := A_aT_144.keep K151 nin0
      have S_java_lang_String_COMPACT_STRINGS_151 := own_staK S_java_lang_String_COMPACT_STRINGS_144 K151 own_nst0
      have S_jdk_internal_util_Preconditions_SIOOBE_FORMATTER_151 := own_staK S_jdk_internal_util_Preconditions_SIOOBE_FORMATTER_144 K151 own_nst0
      have E_b0_143_151 := E_b0_143_144.keep K151
      have F_b0_143_small_151 := F_b0_143_small_144.keep K151 nin0
      have F_b0_143_wide_151 := F_b0_143_wide_144.keep K151 nin0
      have E_b0_144_151 := p144_0.keep K151
      have F_b0_144_small_151 := p144_1.keep K151 nin0
      have F_b0_144_wide_151 := p144_2.keep K151 nin0
      have K_151 : Keep h0 T151.heap [] := K_144.trans K151 all0
      have Z_151 : n0 ≤ T151.heap.size := Nat.le_trans Z0 K_151.1
      clear S_java_lang_Integer_DigitOnes_144 A_aO_144 S_java_lang_Integer_DigitTens_144 A_aT_144 S_java_lang_String_COMPACT_STRINGS_144 S_jdk_internal_util_Preconditions_SIOOBE_FORMATTER_144 E_b0_143_144 F_b0_143_small_144 F_b0_143_wide_144 p144_0 p144_1 p144_2 st151 K151
      obtain ⟨G151, Y151, M151⟩ : ∃ L, Stand p l e room_1 s m #[(.long v0), (.long v1), (.int v2)] below meth c T151 L 4 32 ∧ Fr n0 L := ⟨_, X151, N151⟩
      clear X151 N151
      show Go p e below s _ _ _ T151 (mkF m 119 #[.val (.long v0), .second, .val (.long v1), .second, .val (.int v2), .val (.long ot), .second, .val (.ref b0_143), .val (.ref b0_144), .val (.int (f_decLen v0)), .unset, .unset] [(.ref b0_151)])
      refine G_astore Y151 hx (pc' := 121) rfl (hb hby at_119) rfl (L' := #[.val (.long v0), .second, .val (.long v1), .second, .val (.int v2), .val (.long ot), .second, .val (.ref b0_143), .val (.ref b0_144), .val (.int (f_decLen v0)), .val (.ref b0_151), .unset]) rfl ?_
      refine G_aload Y151 hx (pc' := 123) rfl (hb hby at_121) rfl rfl ?_
      obtain ⟨cq152, kq152, q152a, q152b, q152c⟩ := isOf hZ rfl p151_0
      obtain ⟨_, _, ⟨T152, L152, k152, n152⟩, -, X152, ⟨Lc152, hQ152, l152, y152, z152⟩, st152⟩ := Y151.virtualBack hx (y := (⟨"java/lang/String", "length", "()I"⟩ : MethodName)) (z := (⟨"java/lang/String", "length", "()I"⟩ : MethodName)) hown (mvT hZ (own_w hw 97 rfl)) (mvT hZ (own_w hw 98 rfl)) (notFace_of_selects (args := #[]) (mvT hZ (own_w hw 100 rfl))) (mvT hZ (own_w hw 100 rfl)) (mvT hZ (own_w hw 99 rfl)) (by decide) (backOf (W := 0) (rm_slen l Z a0 hw [] b0_151 cs b1_151 (own_txt ng uu Nd) T151.heap n0 Z_151 p151_0 p151_1 p151_2 S_java_lang_String_COMPACT_STRINGS_151 p151_3 (by assumption)) hZ (own_w hw 101 rfl) (own_w hw 78 rfl) (by decide) (by decide)) q152a q152c (g := (mkF m 123 #[.val (.long v0), .second, .val (.long v1), .second, .val (.int v2), .val (.long ot), .second, .val (.ref b0_143), .val (.ref b0_144), .val (.int (f_decLen v0)), .val (.ref b0_151), .unset] [(.ref b0_151)])) rfl (by rw [hml]; rfl) (Steps.refl _) (argsL := []) (rest := []) (lenOf pd_14 rfl) rfl (by show 2 * 0 + _ ≤ _; exact Nat.le_of_eq rfl) (hb hby at_123) (fun _ _ => ⟨rfl, rfl, (by decide : 4 + 0 ≤ _), (by decide : 32 + 0 ≤ _)⟩)
      dsimp only [Pt.U, Pt.locs, Pt.cells, Pt.slots] at X152 l152 y152 z152 st152 hQ152
      rw [l152, y152, z152] at X152
      clear l152 y152 z152
      obtain ⟨rfl, N152q, e152⟩ := hQ152
      have N152 := Fr.app M151 N152q
      refine Go.st (fun _ k => st152.trans k) ?_
      obtain ⟨G152, Y152, M152⟩ : ∃ L, Stand p l e room_1 s m #[(.long v0), (.long v1), (.int v2)] below meth c T152 L 4 32 ∧ Fr n0 L := ⟨_, X152, N152⟩
      clear X152 N152
      show Go p e below s _ _ _ T152 (mkF m 126 #[.val (.long v0), .second, .val (.long v1), .second, .val (.int v2), .val (.long ot), .second, .val (.ref b0_143), .val (.ref b0_144), .val (.int (f_decLen v0)), .val (.ref b0_151), .unset] [(.int (f_slen cs (own_txt ng uu Nd)))])
      refine G_iload Y152 hx (pc' := 128) rfl (hb hby at_126) rfl ?_
      refine G_icmpYes Y152 hx (pc' := 133) (hb hby at_128) (teq (own_sl hsz : (f_slen cs (own_txt ng uu Nd)) = (f_decLen v0))).1 (by decide) (by decide) ?_
      refine G_aload Y152 hx (pc' := 135) rfl (hb hby at_133) rfl rfl ?_
      refine G_iconst Y152 hx (pc' := 136) rfl (hb hby at_135) (z := (0 : Int32)) rfl ?_
      obtain ⟨cq153, kq153, q153a, q153b, q153c⟩ := isOf hZ e152 p151_0
      obtain ⟨_, _, ⟨T153, L153, k153, n153⟩, -, X153, ⟨Lc153, hQ153, l153, y153, z153⟩, st153⟩ := Y152.virtualBack hx (y := (⟨"java/lang/String", "charAt", "(I)C"⟩ : MethodName)) (z := (⟨"java/lang/String", "charAt", "(I)C"⟩ : MethodName)) hown (mvT hZ (own_w hw 108 rfl)) (mvT hZ (own_w hw 109 rfl)) (notFace_of_selects (args := #[]) (mvT hZ (own_w hw 111 rfl))) (mvT hZ (own_w hw 111 rfl)) (mvT hZ (own_w hw 110 rfl)) (by decide) (backOf (W := 0) (rm_scharn l Z a0 hw [] b0_151 (0 : Int32) cs b1_151 (own_txt ng uu Nd) T151.heap n0 Z_151 p151_0 p151_1 p151_2 S_java_lang_String_COMPACT_STRINGS_151 S_jdk_internal_util_Preconditions_SIOOBE_FORMATTER_151 p151_3 (by assumption) (own_i0 hP hN0 hv).1 (own_i0 hP hN0 hv).2.1 (own_i0 hP hN0 hv).2.2) hZ (own_w hw 112 rfl) (own_w hw 78 rfl) (by decide) (by decide)) q153a q153c (g := (mkF m 136 #[.val (.long v0), .second, .val (.long v1), .second, .val (.int v2), .val (.long ot), .second, .val (.ref b0_143), .val (.ref b0_144), .val (.int (f_decLen v0)), .val (.ref b0_151), .unset] [(.int (0 : Int32)), (.ref b0_151)])) rfl (by rw [hml]; rfl) (Steps.refl _) (argsL := [(.int (0 : Int32))]) (rest := []) (lenOf pd_15 rfl) rfl (by show 2 * 0 + _ ≤ _; exact Nat.le_of_eq rfl) (hb hby at_136) (fun _ _ => ⟨rfl, e152, (by decide : 4 + 0 ≤ _), (by decide : 32 + 0 ≤ _)⟩)
      dsimp only [Pt.U, Pt.locs, Pt.cells, Pt.slots] at X153 l153 y153 z153 st153 hQ153
      rw [l153, y153, z153] at X153
      clear l153 y153 z153
      obtain ⟨rfl, N153q, e153⟩ := hQ153
      have N153 := Fr.app M152 N153q
      refine Go.st (fun _ k => st153.trans k) ?_
      obtain ⟨G153, Y153, M153⟩ : ∃ L, Stand p l e room_1 s m #[(.long v0), (.long v1), (.int v2)] below meth c T153 L 4 32 ∧ Fr n0 L := ⟨_, X153, N153⟩
      clear X153 N153
      show Go p e below s _ _ _ T153 (mkF m 139 #[.val (.long v0), .second, .val (.long v1), .second, .val (.int v2), .val (.long ot), .second, .val (.ref b0_143), .val (.ref b0_144), .val (.int (f_decLen v0)), .val (.ref b0_151), .unset] [(.int (f_scharn (0 : Int32) cs (own_txt ng uu Nd)))])
      have J165 : Go p e below s room_1.cells room_1.slots (Q_lawn Z v0 v1 v2 cs uu Nd ng aO aT h0 n0) T153 (mkF m 165 #[.val (.long v0), .second, .val (.long v1), .second, .val (.int v2), .val (.long ot), .second, .val (.ref b0_143), .val (.ref b0_144), .val (.int (f_decLen v0)), .val (.ref b0_151), .unset] []) := by
        refine G_bipush Y153 hx (pc' := 167) rfl (hb hby at_165) (z := (48 : Int32)) rfl ?_
        refine G_lloadN Y153 hx (pc' := 168) rfl (hb hby at_167) rfl ?_
        refine G_ldc2 Y153 hx (pc' := 171) rfl hown (mvT hZ (own_w hw 130 rfl)) (hb hby at_168) ?_
        refine G_lrem Y153 hx (pc' := 172) rfl (hb hby at_171) (by decide) ?_
        obtain ⟨_, _, ⟨T154, L154, k154, n154⟩, -, X154, ⟨Lc154, hQ154, l154, y154, z154⟩, st154⟩ := Jvm.LawKit.callS Y153 hx (y := (⟨"java/lang/Math", "abs", "(J)J"⟩ : MethodName)) hown (mvT hZ (own_w hw 131 rfl)) (mvT hZ (own_w hw 132 rfl)) (mvT hZ (own_w hw 133 rfl)) (mvT hZ (own_w hw 134 rfl)) (by decide) (backOf (W := 1) (rm_abs l Z a0 hw [] (v0 % (10 : Int64)) T151.heap n0 Z_151 ) hZ (own_w hw 134 rfl) (own_w hw 133 rfl) (by decide) (by decide)) (g := (mkF m 172 #[.val (.long v0), .second, .val (.long v1), .second, .val (.int v2), .val (.long ot), .second, .val (.ref b0_143), .val (.ref b0_144), .val (.int (f_decLen v0)), .val (.ref b0_151), .unset] [(.long (v0 % (10 : Int64))), (.int (48 : Int32))])) rfl (by rw [hml]; rfl) (argsL := [(.long (v0 % (10 : Int64)))]) (rest := [(.int (48 : Int32))]) (lenOf pd_16 rfl) rfl (by show 2 * 0 + _ ≤ _; exact Nat.le_of_eq rfl) (hb hby at_172) (fun _ _ => ⟨rfl, e153, (by decide : 4 + 0 ≤ _), (by decide : 32 + 0 ≤ _)⟩)
        dsimp only [Pt.U, Pt.locs, Pt.cells, Pt.slots] at X154 l154 y154 z154 st154 hQ154
        rw [l154, y154, z154] at X154
        clear l154 y154 z154
        obtain ⟨rfl, N154q, e154⟩ := hQ154
        have N154 := Fr.app M153 N154q
        refine Go.st st154 ?_
        obtain ⟨G154, Y154, M154⟩ : ∃ L, Stand p l e room_1 s m #[(.long v0), (.long v1), (.int v2)] below meth c T154 L 4 32 ∧ Fr n0 L := ⟨_, X154, N154⟩
        clear X154 N154
        show Go p e below s _ _ _ T154 (mkF m 175 #[.val (.long v0), .second, .val (.long v1), .second, .val (.int v2), .val (.long ot), .second, .val (.ref b0_143), .val (.ref b0_144), .val (.int (f_decLen v0)), .val (.ref b0_151), .unset] [(.long (f_abs (v0 % (10 : Int64)))), (.int (48 : Int32))])
        refine G_l2i Y154 hx (pc' := 176) rfl (hb hby at_175)  ?_
        refine G_iadd Y154 hx (pc' := 177) rfl (hb hby at_176)  ?_
        refine G_i2c Y154 hx (pc' := 178) rfl (hb hby at_177)  ?_
        refine G_istore Y154 hx (pc' := 180) rfl (hb hby at_178) (L' := #[.val (.long v0), .second, .val (.long v1), .second, .val (.int v2), .val (.long ot), .second, .val (.ref b0_143), .val (.ref b0_144), .val (.int (f_decLen v0)), .val (.ref b0_151), .val (.int (((48 : Int32) + ((f_abs (v0 % (10 : Int64))).toInt32)).toUInt32.toUInt16.toUInt32.toInt32))]) rfl ?_
        refine G_aload Y154 hx (pc' := 182) rfl (hb hby at_180) rfl rfl ?_
        refine G_iload Y154 hx (pc' := 184) rfl (hb hby at_182) rfl ?_
        refine G_iconst Y154 hx (pc' := 185) rfl (hb hby at_184) (z := (1 : Int32)) rfl ?_
        refine G_isub Y154 hx (pc' := 186) rfl (hb hby at_185)  ?_
        obtain ⟨cq155, kq155, q155a, q155b, q155c⟩ := isOf hZ e154 p151_0
        obtain ⟨_, _, ⟨T155, L155, k155, n155⟩, -, X155, ⟨Lc155, hQ155, l155, y155, z155⟩, st155⟩ := Y154.virtualBack hx (y := (⟨"java/lang/String", "charAt", "(I)C"⟩ : MethodName)) (z := (⟨"java/lang/String", "charAt", "(I)C"⟩ : MethodName)) hown (mvT hZ (own_w hw 108 rfl)) (mvT hZ (own_w hw 109 rfl)) (notFace_of_selects (args := #[]) (mvT hZ (own_w hw 111 rfl))) (mvT hZ (own_w hw 111 rfl)) (mvT hZ (own_w hw 110 rfl)) (by decide) (backOf (W := 0) (rm_scharn l Z a0 hw [] b0_151 ((f_decLen v0) - (1 : Int32)) cs b1_151 (own_txt ng uu Nd) T151.heap n0 Z_151 p151_0 p151_1 p151_2 S_java_lang_String_COMPACT_STRINGS_151 S_jdk_internal_util_Preconditions_SIOOBE_FORMATTER_151 p151_3 (by assumption) (own_ix hsz hP hN0 hv).1 (own_ix hsz hP hN0 hv).2.1 (own_ix hsz hP hN0 hv).2.2.1) hZ (own_w hw 112 rfl) (own_w hw 78 rfl) (by decide) (by decide)) q155a q155c (g := (mkF m 186 #[.val (.long v0), .second, .val (.long v1), .second, .val (.int v2), .val (.long ot), .second, .val (.ref b0_143), .val (.ref b0_144), .val (.int (f_decLen v0)), .val (.ref b0_151), .val (.int (((48 : Int32) + ((f_abs (v0 % (10 : Int64))).toInt32)).toUInt32.toUInt16.toUInt32.toInt32))] [(.int ((f_decLen v0) - (1 : Int32))), (.ref b0_151)])) rfl (by rw [hml]; rfl) (Steps.refl _) (argsL := [(.int ((f_decLen v0) - (1 : Int32)))]) (rest := []) (lenOf pd_15 rfl) rfl (by show 2 * 0 + _ ≤ _; exact Nat.le_of_eq rfl) (hb hby at_186) (fun _ _ => ⟨rfl, e154, (by decide : 4 + 0 ≤ _), (by decide : 32 + 0 ≤ _)⟩)
        dsimp only [Pt.U, Pt.locs, Pt.cells, Pt.slots] at X155 l155 y155 z155 st155 hQ155
        rw [l155, y155, z155] at X155
        clear l155 y155 z155
        obtain ⟨rfl, N155q, e155⟩ := hQ155
        have N155 := Fr.app M154 N155q
        refine Go.st (fun _ k => st155.trans k) ?_
        obtain ⟨G155, Y155, M155⟩ : ∃ L, Stand p l e room_1 s m #[(.long v0), (.long v1), (.int v2)] below meth c T155 L 4 32 ∧ Fr n0 L := ⟨_, X155, N155⟩
        clear X155 N155
        show Go p e below s _ _ _ T155 (mkF m 189 #[.val (.long v0), .second, .val (.long v1), .second, .val (.int v2), .val (.long ot), .second, .val (.ref b0_143), .val (.ref b0_144), .val (.int (f_decLen v0)), .val (.ref b0_151), .val (.int (((48 : Int32) + ((f_abs (v0 % (10 : Int64))).toInt32)).toUInt32.toUInt16.toUInt32.toInt32))] [(.int (f_scharn ((f_decLen v0) - (1 : Int32)) cs (own_txt ng uu Nd)))])
        refine G_iload Y155 hx (pc' := 191) rfl (hb hby at_189) rfl ?_
        refine G_icmpNo Y155 hx (pc' := 194) rfl (hb hby at_191) (teq (own_lcn hsz hP hN0 hv : (f_scharn ((f_decLen v0) - (1 : Int32)) cs (own_txt ng uu Nd)) = (((48 : Int32) + ((f_abs (v0 % (10 : Int64))).toInt32)).toUInt32.toUInt16.toUInt32.toInt32))).2 ?_
        refine G_iconst Y155 hx (pc' := 195) rfl (hb hby at_194) (z := (1 : Int32)) rfl ?_
        refine G_goto Y155 hx (pc' := 199) (hb hby at_195)  (by decide) (by decide) ?_
        refine Go.fin Y155 hlk (v := some (.int (1 : Int32))) (fun h => by rw [Bd.returns] at h; cases h) (by decide) (by decide) ?_ (fun fs hr => retN Y155 hx (t := .boolean) Bd.returns (by simp) (hb hby at_199) hr)
        show Q_lawn Z v0 v1 v2 cs uu Nd ng aO aT h0 n0 _ T155.heap _
        rw [e155]
        exact ⟨rfl, M155⟩
      refine G_bipush Y153 hx (pc' := 141) rfl (hb hby at_139) (z := (45 : Int32)) rfl ?_
      by_cases hc141_1 : (f_scharn (0 : Int32) cs (own_txt ng uu Nd)) = (45 : Int32)
      · refine G_icmpNo Y153 hx (pc' := 144) rfl (hb hby at_141) (teq hc141_1).2 ?_
        refine G_iconst Y153 hx (pc' := 145) rfl (hb hby at_144) (z := (1 : Int32)) rfl ?_
        refine G_goto Y153 hx (pc' := 149) (hb hby at_145)  (by decide) (by decide) ?_
        refine G_lloadN Y153 hx (pc' := 150) rfl (hb hby at_149) rfl ?_
        refine G_lconst Y153 hx (pc' := 151) rfl (hb hby at_150) (z := (0 : Int64)) rfl ?_
        refine G_lcmp Y153 hx (pc' := 152) rfl (hb hby at_151)  ?_
        refine G_ifNo Y153 hx (pc' := 155) rfl (hb hby at_152) ((if0 _ _).trans (tlt ((lw_lt _ _).2 ((own_fcn hN0 hv).1 hc141_1 : v0 < (0 : Int64)))).2.1) ?_
        refine G_iconst Y153 hx (pc' := 156) rfl (hb hby at_155) (z := (1 : Int32)) rfl ?_
        refine G_goto Y153 hx (pc' := 160) (hb hby at_156)  (by decide) (by decide) ?_
        refine G_icmpYes Y153 hx (pc' := 165) (hb hby at_160) (teq (by decide : (1 : Int32) = (1 : Int32))).1 (by decide) (by decide) ?_
        exact J165
      · refine G_icmpYes Y153 hx (pc' := 148) (hb hby at_141) (feq hc141_1).2 (by decide) (by decide) ?_
        refine G_iconst Y153 hx (pc' := 149) rfl (hb hby at_148) (z := (0 : Int32)) rfl ?_
        refine G_lloadN Y153 hx (pc' := 150) rfl (hb hby at_149) rfl ?_
        refine G_lconst Y153 hx (pc' := 151) rfl (hb hby at_150) (z := (0 : Int64)) rfl ?_
        refine G_lcmp Y153 hx (pc' := 152) rfl (hb hby at_151)  ?_
        refine G_ifYes Y153 hx (pc' := 159) (hb hby at_152) ((if0 _ _).trans (flt (fun q => (fun q => hc141_1 ((own_fcn hN0 hv).2 q) : ¬ (v0 < (0 : Int64))) ((lw_lt _ _).1 q))).2.1) (by decide) (by decide) ?_
        refine G_iconst Y153 hx (pc' := 160) rfl (hb hby at_159) (z := (0 : Int32)) rfl ?_
        refine G_icmpYes Y153 hx (pc' := 165) (hb hby at_160) (teq (by decide : (0 : Int32) = (0 : Int32))).1 (by decide) (by decide) ?_
        exact J165
    refine G_lloadN Y147 hx (pc' := 57) rfl (hb hby at_56) rfl ?_
    refine G_lload Y147 hx (pc' := 59) rfl (hb hby at_57) rfl ?_
    refine G_lcmp Y147 hx (pc' := 60) rfl (hb hby at_59)  ?_
    by_cases hc60_2 : v0 = ot
    · refine G_ifNo Y147 hx (pc' := 63) rfl (hb hby at_60) ((if0 _ _).trans (teq ((lw_eq _ _).2 hc60_2)).2) ?_
      refine G_iconst Y147 hx (pc' := 64) rfl (hb hby at_63) (z := (1 : Int32)) rfl ?_
      refine G_goto Y147 hx (pc' := 68) (hb hby at_64)  (by decide) (by decide) ?_
      refine G_icmpYes Y147 hx (pc' := 73) (hb hby at_68) (teq (if_pos hc60_2 : (f_equ v0 ot) = (1 : Int32))).1 (by decide) (by decide) ?_
      exact J73
    · refine G_ifYes Y147 hx (pc' := 67) (hb hby at_60) ((if0 _ _).trans (feq (fun q => hc60_2 ((lw_eq _ _).1 q))).2) (by decide) (by decide) ?_
      refine G_iconst Y147 hx (pc' := 68) rfl (hb hby at_67) (z := (0 : Int32)) rfl ?_
      refine G_icmpYes Y147 hx (pc' := 73) (hb hby at_68) (teq (if_neg hc60_2 : (f_equ v0 ot) = (0 : Int32))).1 (by decide) (by decide) ?_
      exact J73
  refine G_iload X0 hx (pc' := 2) rfl (hb hby at_0) rfl ?_
  refine G_iconst X0 hx (pc' := 3) rfl (hb hby at_2) (z := (1 : Int32)) rfl ?_
  refine G_iand X0 hx (pc' := 4) rfl (hb hby at_3)  ?_
  by_cases hc4_3 : (v2 &&& (1 : Int32)) = (0 : Int32)
  · refine G_ifYes X0 hx (pc' := 11) (hb hby at_4) ((if0 _ _).trans (teq hc4_3).1) (by decide) (by decide) ?_
    refine G_lloadN X0 hx (pc' := 12) rfl (hb hby at_11) rfl ?_
    refine G_lstore X0 hx (pc' := 14) rfl (hb hby at_12) (L' := #[.val (.long v0), .second, .val (.long v1), .second, .val (.int v2), .val (.long v1), .second, .unset, .unset, .unset, .unset, .unset]) rfl ?_
    exact J14 v1
  · refine G_ifNo X0 hx (pc' := 7) rfl (hb hby at_4) ((if0 _ _).trans (feq hc4_3).1) ?_
    refine G_lloadN X0 hx (pc' := 8) rfl (hb hby at_7) rfl ?_
    refine G_goto X0 hx (pc' := 12) (hb hby at_8)  (by decide) (by decide) ?_
    refine G_lstore X0 hx (pc' := 14) rfl (hb hby at_12) (L' := #[.val (.long v0), .second, .val (.long v1), .second, .val (.int v2), .val (.long v0), .second, .unset, .unset, .unset, .unset, .unset]) rfl ?_
    exact J14 v0
theorem own_chr {v1 cs : Int32} {xs : List Int32} {x : Nat} (h : x < 58) (e : xs.getD v1.toNatClampNeg 0 = Int32.ofNat x) : f_scharr v1 cs xs = Int32.ofNat x := by
  unfold f_scharr f_lcharr; rw [e]; exact own_chT ⟨x, h⟩
theorem own_fcr {v : Int64} {cs : Int32} {ng U N : Nat} (hN0 : 1 ≤ N) (hv : own_HV v ng U) : f_scharr (0 : Int32) cs (own_txt ng U N) = (45 : Int32) ↔ v < 0 := by
  rcases hv with ⟨a, rfl, -⟩ | ⟨a, rfl, -⟩
  · exact ⟨fun _ => a, fun _ => (own_chr (x := 45) (by decide) (by rw [show (0 : Int32).toNatClampNeg = 0 from rfl]; rfl)).trans (by decide)⟩
  · obtain ⟨k, rfl⟩ : ∃ k, N = k + 1 := ⟨N - 1, by omega⟩
    have b : U / 10 ^ k % 10 < 10 := Nat.mod_lt _ (by decide)
    rw [own_chr (x := 48 + U / 10 ^ k % 10) (by omega) (by rw [show (0 : Int32).toNatClampNeg = 0 from rfl]; rfl)]
    exact iff_of_false (own_ne45 ⟨_, b⟩) a
theorem own_lcr {v : Int64} {cs : Int32} {ng U N : Nat} (hsz : f_ssize v = Int32.ofNat (ng + N)) (hP : own_P U N) (hN0 : 1 ≤ N) (hv : own_HV v ng U) : f_scharr (f_decLen v - (1 : Int32)) cs (own_txt ng U N) = ((48 : Int32) + (f_abs (v % (10 : Int64))).toInt32).toUInt32.toUInt16.toUInt32.toInt32 := by
  have b : U % 10 < 10 := Nat.mod_lt _ (by decide)
  rw [own_lst hv]
  exact own_chr (x := 48 + U % 10) (by omega) (by rw [(own_ix hsz hP hN0 hv).2.2.2]; exact own_txL ng U N hN0)

theorem ef_lawr (m : MethodId) (v0 : Int64) (v1 : Int64) (v2 : Int32) : entryFrame m #[(.long v0), (.long v1), (.int v2)] maxLocals = mkF m 0 #[.val (.long v0), .second, .val (.long v1), .second, .val (.int v2), .unset, .unset, .unset, .unset, .unset, .unset, .unset] [] := by first | (simp [entryFrame, mkF, argsToLocals, Value.category, maxLocals]; done) | rfl
def Q_lawr (Z : State) (v0 : Int64) (v1 : Int64) (v2 : Int32) (cs : Int32) (uu : Nat) (Nd : Nat) (ng : Nat) (aO : Addr) (aT : Addr) (vf : Addr) (h0 : Heap) (n0 : Nat) (v : Option Value) (h : Heap) (L : List Loc) : Prop := v = some (.int (1 : Int32)) ∧ Fr n0 L
set_option maxRecDepth 65536 in
set_option maxHeartbeats 40000000 in
theorem rm_lawr (l : Launch) (Z : State) (a0 : Array Value) (hw : ∀ d ∈ tables_1, d.before a0 Z = true) (ws : List Jvm.Cond) (v0 : Int64) (v1 : Int64) (v2 : Int32) (cs : Int32) (uu : Nat) (Nd : Nat) (ng : Nat) (aO : Addr) (aT : Addr) (vf : Addr) (h0 : Heap) (n0 : Nat) (Z0 : n0 ≤ h0.size) (f0_S_java_lang_Integer : Sta Z h0 "java/lang/Integer" "DigitOnes" "[B" (.ref aO)) (f1_A_aO : AI Z h0 aO .byte own_ones) (f2_S_java_lang_Integer : Sta Z h0 "java/lang/Integer" "DigitTens" "[B" (.ref aT)) (f3_A_aT : AI Z h0 aT .byte own_tens) (f4_S_java_lang_String : Sta Z h0 "java/lang/String" "COMPACT_STRINGS" "Z" (.int cs)) (f5_S_jdk_internal_util_Preconditions : Sta Z h0 "jdk/internal/util/Preconditions" "SIOOBE_FORMATTER" "Ljava/util/function/BiFunction;" (.ref vf)) (hcs : ¬ (cs = (0 : Int32))) (hsz : f_ssize v0 = (Int32.ofNat (ng + Nd))) (hP : own_P uu Nd) (hN0 : 1 ≤ Nd) (hv : (v0 < 0 ∧ ng = 1 ∧ v0.toInt = -(uu : Int)) ∨ (¬ v0 < 0 ∧ ng = 0 ∧ v0.toInt = (uu : Int))) :
    MetFree l x (head1 (Jvm.Cond.code x code maxLocals ret :: ws) room_1) (fun a U => a = #[(.long v0), (.long v1), (.int v2)] ∧ Z.Warmed39 U.vm ∧ U.heap = h0) (fun _ _ _ _ _ => True) (fun _ U o U' => ∃ v L, o = .returned v ∧ Q_lawr Z v0 v1 v2 cs uu Nd ng aO aT vf h0 n0 v U'.heap L ∧ FrameEnd U o U' L room_1.cells room_1.slots) := by
  refine MetFree.of_bodySF (plainFor_of_name (by first | (simp [plainName, overriddenIn]; done) | decide +kernel)) hisR ?_
  intro p e s m args below meth c s₁ Bd hml0 hP hK
  obtain ⟨rfl, hZ, hh⟩ := hP
  have hx := Bd.exec
  have hby := Bd.bytes
  have hml : c.maxLocals = 12 := hml0
  have hown : s.vm.findClass "com/example/colonwise/colonwise/model/BencodeIntegerOfPinLaw" = some m.cls := findClass_of_methodNamed Bd.named
  have hnm := (name_of_methodNamed Bd.named Bd.method).1
  have hlk : meth.locks = false := Bd.notSynchronized
  have X0 : Stand p l e room_1 s m #[(.long v0), (.long v1), (.int v2)] below meth c s₁ [] 0 0 := Stand.of_body Bd
  have e0 : s₁.heap = h0 := by rw [← hh, Bd.state]; rfl
  have N0 := Fr.nil n0
  refine Go.enter (Q := Q_lawr Z v0 v1 v2 cs uu Nd ng aO aT vf h0 n0) (C := room_1.cells) (N := room_1.slots) (ef_lawr m v0 v1 v2) ?_
  show Go p e below s _ _ _ s₁ (mkF m 0 #[.val (.long v0), .second, .val (.long v1), .second, .val (.int v2), .unset, .unset, .unset, .unset, .unset, .unset, .unset] [])
  have J14 : ∀ ot : Int64, Go p e below s room_1.cells room_1.slots (Q_lawr Z v0 v1 v2 cs uu Nd ng aO aT vf h0 n0) s₁ (mkF m 14 #[.val (.long v0), .second, .val (.long v1), .second, .val (.int v2), .val (.long ot), .second, .unset, .unset, .unset, .unset, .unset] []) := by
    intro ot
    refine G_lloadN X0 hx (pc' := 15) rfl (hb hby at_14) rfl ?_
    obtain ⟨_, _, ⟨T156, L156, k156, n156⟩, -, X156, ⟨Lc156, hQ156, l156, y156, z156⟩, st156⟩ := Jvm.LawKit.callS X0 hx (y := (⟨"com/example/colonwise/colonwise/model/BencodeInteger", "of", "(J)Lcom/example/colonwise/colonwise/model/BencodeInteger;"⟩ : MethodName)) hown (mvT hZ (own_w hw 0 rfl)) (mvT hZ (own_w hw 1 rfl)) (mvT hZ (own_w hw 2 rfl)) (mvT hZ (own_w hw 3 rfl)) (by decide) (backOf (W := 0) (rm_of l Z a0 hw [] v0 h0 n0 Z0 ) hZ (own_w hw 3 rfl) (own_w hw 2 rfl) (by decide) (by decide)) (g := (mkF m 15 #[.val (.long v0), .second, .val (.long v1), .second, .val (.int v2), .val (.long ot), .second, .unset, .unset, .unset, .unset, .unset] [(.long v0)])) rfl (by rw [hml]; rfl) (argsL := [(.long v0)]) (rest := []) (lenOf pd_11 rfl) rfl (by show 2 * 0 + _ ≤ _; exact Nat.le_of_eq rfl) (hb hby at_15) (fun _ _ => ⟨rfl, e0, (by decide : 0 + 1 ≤ _), (by decide : 0 + 4 ≤ _)⟩)
    dsimp only [Pt.U, Pt.locs, Pt.cells, Pt.slots] at X156 l156 y156 z156 st156 hQ156
    rw [l156, y156, z156] at X156
    clear l156 y156 z156
    obtain ⟨b0_156, rfl, N156q, K156, le_b0_156, p156_0, p156_1, p156_2⟩ := hQ156
    have N156 := Fr.app N0 N156q
    refine Go.st st156 ?_
    have ne_aO_b0_156 : aO ≠ b0_156 := Nat.ne_of_lt (Nat.lt_of_lt_of_le f1_A_aO.lt le_b0_156)
    have ne_aT_b0_156 : aT ≠ b0_156 := Nat.ne_of_lt (Nat.lt_of_lt_of_le f3_A_aT.lt le_b0_156)
    have g_b0_156 : n0 ≤ b0_156 := Nat.le_trans Z0 le_b0_156
    have sz_b0_156 : h0.size ≤ b0_156 := Nat.le_trans (Nat.le_refl _) le_b0_156
    have S_java_lang_Integer_DigitOnes_156 := own_staK f0_S_java_lang_Integer K156 own_nst0
    have A_aO_156 := f1_A_aO.keep K156 nin0
    have S_java_lang_Integer_DigitTens_156 := own_staK f2_S_java_lang_Integer K156 own_nst0
    have A_aT_156 := f3_A_aT.keep K156 nin0
    have S_java_lang_String_COMPACT_STRINGS_156 := own_staK f4_S_java_lang_String K156 own_nst0
    have S_jdk_internal_util_Preconditions_SIOOBE_FORMATTER_156 := own_staK f5_S_jdk_internal_util_Preconditions K156 own_nst0
    have K_156 : Keep h0 T156.heap [] := (Keep.refl h0 []).trans K156 all0
    have Z_156 : n0 ≤ T156.heap.size := Nat.le_trans Z0 K_156.1
    clear f0_S_java_lang_Integer f1_A_aO f2_S_java_lang_Integer f3_A_aT f4_S_java_lang_String f5_S_jdk_internal_util_Preconditions st156 K156
    obtain ⟨G156, Y156, M156⟩ : ∃ L, Stand p l e room_1 s m #[(.long v0), (.long v1), (.int v2)] below meth c T156 L 1 4 ∧ Fr n0 L := ⟨_, X156, N156⟩
    clear X156 N156
    show Go p e below s _ _ _ T156 (mkF m 18 #[.val (.long v0), .second, .val (.long v1), .second, .val (.int v2), .val (.long ot), .second, .unset, .unset, .unset, .unset, .unset] [(.ref b0_156)])
    refine G_astore Y156 hx (pc' := 20) rfl (hb hby at_18) rfl (L' := #[.val (.long v0), .second, .val (.long v1), .second, .val (.int v2), .val (.long ot), .second, .val (.ref b0_156), .unset, .unset, .unset, .unset]) rfl ?_
    refine G_lload Y156 hx (pc' := 22) rfl (hb hby at_20) rfl ?_
    obtain ⟨_, _, ⟨T157, L157, k157, n157⟩, -, X157, ⟨Lc157, hQ157, l157, y157, z157⟩, st157⟩ := Jvm.LawKit.callS Y156 hx (y := (⟨"com/example/colonwise/colonwise/model/BencodeInteger", "of", "(J)Lcom/example/colonwise/colonwise/model/BencodeInteger;"⟩ : MethodName)) hown (mvT hZ (own_w hw 0 rfl)) (mvT hZ (own_w hw 1 rfl)) (mvT hZ (own_w hw 2 rfl)) (mvT hZ (own_w hw 3 rfl)) (by decide) (backOf (W := 0) (rm_of l Z a0 hw [] ot T156.heap n0 Z_156 ) hZ (own_w hw 3 rfl) (own_w hw 2 rfl) (by decide) (by decide)) (g := (mkF m 22 #[.val (.long v0), .second, .val (.long v1), .second, .val (.int v2), .val (.long ot), .second, .val (.ref b0_156), .unset, .unset, .unset, .unset] [(.long ot)])) rfl (by rw [hml]; rfl) (argsL := [(.long ot)]) (rest := []) (lenOf pd_11 rfl) rfl (by show 2 * 0 + _ ≤ _; exact Nat.le_of_eq rfl) (hb hby at_22) (fun _ _ => ⟨rfl, rfl, (by decide : 1 + 1 ≤ _), (by decide : 4 + 4 ≤ _)⟩)
    dsimp only [Pt.U, Pt.locs, Pt.cells, Pt.slots] at X157 l157 y157 z157 st157 hQ157
    rw [l157, y157, z157] at X157
    clear l157 y157 z157
    obtain ⟨b0_157, rfl, N157q, K157, le_b0_157, p157_0, p157_1, p157_2⟩ := hQ157
    have N157 := Fr.app M156 N157q
    refine Go.st st157 ?_
    have ne_aO_b0_157 : aO ≠ b0_157 := Nat.ne_of_lt (Nat.lt_of_lt_of_le A_aO_156.lt le_b0_157)
    have ne_aT_b0_157 : aT ≠ b0_157 := Nat.ne_of_lt (Nat.lt_of_lt_of_le A_aT_156.lt le_b0_157)
    have ne_b0_156_b0_157 : b0_156 ≠ b0_157 := Nat.ne_of_lt (Nat.lt_of_lt_of_le p156_0.lt le_b0_157)
    have g_b0_157 : n0 ≤ b0_157 := Nat.le_trans Z_156 le_b0_157
    have sz_b0_157 : h0.size ≤ b0_157 := Nat.le_trans K_156.1 le_b0_157
    have S_java_lang_Integer_DigitOnes_157 := own_staK S_java_lang_Integer_DigitOnes_156 K157 own_nst0
    have A_aO_157 := A_aO_156.keep K157 nin0
    have S_java_lang_Integer_DigitTens_157 := own_staK S_java_lang_Integer_DigitTens_156 K157 own_nst0
    have A_aT_157 := A_aT_156.keep K157 nin0
    have S_java_lang_String_COMPACT_STRINGS_157 := own_staK S_java_lang_String_COMPACT_STRINGS_156 K157 own_nst0
    have S_jdk_internal_util_Preconditions_SIOOBE_FORMATTER_157 := own_staK S_jdk_internal_util_Preconditions_SIOOBE_FORMATTER_156 K157 own_nst0
    have E_b0_156_157 := p156_0.keep K157
    have F_b0_156_small_157 := p156_1.keep K157 nin0
    have F_b0_156_wide_157 := p156_2.keep K157 nin0
    have K_157 : Keep h0 T157.heap [] := K_156.trans K157 all0
    have Z_157 : n0 ≤ T157.heap.size := Nat.le_trans Z0 K_157.1
    clear S_java_lang_Integer_DigitOnes_156 A_aO_156 S_java_lang_Integer_DigitTens_156 A_aT_156 S_java_lang_String_COMPACT_STRINGS_156 S_jdk_internal_util_Preconditions_SIOOBE_FORMATTER_156 p156_0 p156_1 p156_2 st157 K157
    obtain ⟨G157, Y157, M157⟩ : ∃ L, Stand p l e room_1 s m #[(.long v0), (.long v1), (.int v2)] below meth c T157 L 2 8 ∧ Fr n0 L := ⟨_, X157, N157⟩
    clear X157 N157
    show Go p e below s _ _ _ T157 (mkF m 25 #[.val (.long v0), .second, .val (.long v1), .second, .val (.int v2), .val (.long ot), .second, .val (.ref b0_156), .unset, .unset, .unset, .unset] [(.ref b0_157)])
    refine G_astore Y157 hx (pc' := 27) rfl (hb hby at_25) rfl (L' := #[.val (.long v0), .second, .val (.long v1), .second, .val (.int v2), .val (.long ot), .second, .val (.ref b0_156), .val (.ref b0_157), .unset, .unset, .unset]) rfl ?_
    refine G_aload Y157 hx (pc' := 29) rfl (hb hby at_27) rfl rfl ?_
    obtain ⟨cq158, kq158, q158a, q158b, q158c⟩ := isOf hZ rfl E_b0_156_157
    obtain ⟨_, _, ⟨T158, L158, k158, n158⟩, -, X158, ⟨Lc158, hQ158, l158, y158, z158⟩, st158⟩ := Y157.virtualBack hx (y := (⟨"com/example/colonwise/colonwise/model/BencodeInteger", "fitsInLong", "()Z"⟩ : MethodName)) (z := (⟨"com/example/colonwise/colonwise/model/BencodeInteger", "fitsInLong", "()Z"⟩ : MethodName)) hown (mvT hZ (own_w hw 20 rfl)) (mvT hZ (own_w hw 21 rfl)) (notFace_of_selects (args := #[]) (mvT hZ (own_w hw 23 rfl))) (mvT hZ (own_w hw 23 rfl)) (mvT hZ (own_w hw 22 rfl)) (by decide) (backOf (W := 0) (rm_fits l Z a0 hw [] b0_156 v0 T157.heap n0 Z_157 E_b0_156_157 F_b0_156_small_157 F_b0_156_wide_157) hZ (own_w hw 24 rfl) (own_w hw 2 rfl) (by decide) (by decide)) q158a q158c (g := (mkF m 29 #[.val (.long v0), .second, .val (.long v1), .second, .val (.int v2), .val (.long ot), .second, .val (.ref b0_156), .val (.ref b0_157), .unset, .unset, .unset] [(.ref b0_156)])) rfl (by rw [hml]; rfl) (Steps.refl _) (argsL := []) (rest := []) (lenOf pd_5 rfl) rfl (by show 2 * 0 + _ ≤ _; exact Nat.le_of_eq rfl) (hb hby at_29) (fun _ _ => ⟨rfl, rfl, (by decide : 2 + 0 ≤ _), (by decide : 8 + 0 ≤ _)⟩)
    dsimp only [Pt.U, Pt.locs, Pt.cells, Pt.slots] at X158 l158 y158 z158 st158 hQ158
    rw [l158, y158, z158] at X158
    clear l158 y158 z158
    obtain ⟨rfl, N158q, e158⟩ := hQ158
    have N158 := Fr.app M157 N158q
    refine Go.st (fun _ k => st158.trans k) ?_
    obtain ⟨G158, Y158, M158⟩ : ∃ L, Stand p l e room_1 s m #[(.long v0), (.long v1), (.int v2)] below meth c T158 L 2 8 ∧ Fr n0 L := ⟨_, X158, N158⟩
    clear X158 N158
    show Go p e below s _ _ _ T158 (mkF m 32 #[.val (.long v0), .second, .val (.long v1), .second, .val (.int v2), .val (.long ot), .second, .val (.ref b0_156), .val (.ref b0_157), .unset, .unset, .unset] [(.int (f_fits v0))])
    refine G_ifYes Y158 hx (pc' := 37) (hb hby at_32) ((if0 _ _).trans (feq (fun h => absurd (show (1 : Int32) = 0 from h) (by decide) : ¬ ((f_fits v0) = (0 : Int32)))).2) (by decide) (by decide) ?_
    refine G_aload Y158 hx (pc' := 39) rfl (hb hby at_37) rfl rfl ?_
    obtain ⟨cq159, kq159, q159a, q159b, q159c⟩ := isOf hZ e158 E_b0_156_157
    obtain ⟨_, _, ⟨T159, L159, k159, n159⟩, -, X159, ⟨Lc159, hQ159, l159, y159, z159⟩, st159⟩ := Y158.virtualBack hx (y := (⟨"com/example/colonwise/colonwise/model/BencodeInteger", "longValue", "()J"⟩ : MethodName)) (z := (⟨"com/example/colonwise/colonwise/model/BencodeInteger", "longValue", "()J"⟩ : MethodName)) hown (mvT hZ (own_w hw 25 rfl)) (mvT hZ (own_w hw 26 rfl)) (notFace_of_selects (args := #[]) (mvT hZ (own_w hw 28 rfl))) (mvT hZ (own_w hw 28 rfl)) (mvT hZ (own_w hw 27 rfl)) (by decide) (backOf (W := 0) (rm_lval l Z a0 hw [] b0_156 v0 T157.heap n0 Z_157 E_b0_156_157 F_b0_156_small_157 F_b0_156_wide_157) hZ (own_w hw 29 rfl) (own_w hw 2 rfl) (by decide) (by decide)) q159a q159c (g := (mkF m 39 #[.val (.long v0), .second, .val (.long v1), .second, .val (.int v2), .val (.long ot), .second, .val (.ref b0_156), .val (.ref b0_157), .unset, .unset, .unset] [(.ref b0_156)])) rfl (by rw [hml]; rfl) (Steps.refl _) (argsL := []) (rest := []) (lenOf pd_12 rfl) rfl (by show 2 * 0 + _ ≤ _; exact Nat.le_of_eq rfl) (hb hby at_39) (fun _ _ => ⟨rfl, e158, (by decide : 2 + 0 ≤ _), (by decide : 8 + 0 ≤ _)⟩)
    dsimp only [Pt.U, Pt.locs, Pt.cells, Pt.slots] at X159 l159 y159 z159 st159 hQ159
    rw [l159, y159, z159] at X159
    clear l159 y159 z159
    obtain ⟨rfl, N159q, e159⟩ := hQ159
    have N159 := Fr.app M158 N159q
    refine Go.st (fun _ k => st159.trans k) ?_
    obtain ⟨G159, Y159, M159⟩ : ∃ L, Stand p l e room_1 s m #[(.long v0), (.long v1), (.int v2)] below meth c T159 L 2 8 ∧ Fr n0 L := ⟨_, X159, N159⟩
    clear X159 N159
    show Go p e below s _ _ _ T159 (mkF m 42 #[.val (.long v0), .second, .val (.long v1), .second, .val (.int v2), .val (.long ot), .second, .val (.ref b0_156), .val (.ref b0_157), .unset, .unset, .unset] [(.long (f_lval v0))])
    refine G_lloadN Y159 hx (pc' := 43) rfl (hb hby at_42) rfl ?_
    refine G_lcmp Y159 hx (pc' := 44) rfl (hb hby at_43)  ?_
    refine G_ifYes Y159 hx (pc' := 49) (hb hby at_44) ((if0 _ _).trans (teq ((lw_eq _ _).2 (rfl : (f_lval v0) = v0))).1) (by decide) (by decide) ?_
    refine G_aload Y159 hx (pc' := 51) rfl (hb hby at_49) rfl rfl ?_
    refine G_aload Y159 hx (pc' := 53) rfl (hb hby at_51) rfl rfl ?_
    obtain ⟨cq160, kq160, q160a, q160b, q160c⟩ := isOf hZ e159 E_b0_156_157
    obtain ⟨_, _, ⟨T160, L160, k160, n160⟩, -, X160, ⟨Lc160, hQ160, l160, y160, z160⟩, st160⟩ := Y159.virtualBack hx (y := (⟨"com/example/colonwise/colonwise/model/BencodeInteger", "equals", "(Ljava/lang/Object;)Z"⟩ : MethodName)) (z := (⟨"com/example/colonwise/colonwise/model/BencodeInteger", "equals", "(Ljava/lang/Object;)Z"⟩ : MethodName)) hown (mvT hZ (own_w hw 30 rfl)) (mvT hZ (own_w hw 31 rfl)) (notFace_of_selects (args := #[]) (mvT hZ (own_w hw 33 rfl))) (mvT hZ (own_w hw 33 rfl)) (mvT hZ (own_w hw 32 rfl)) (by decide) (backOf (W := 0) (rm_equ l Z a0 hw [] b0_156 b0_157 v0 ot T157.heap n0 Z_157 E_b0_156_157 F_b0_156_small_157 F_b0_156_wide_157 p157_0 p157_1 p157_2) hZ (own_w hw 34 rfl) (own_w hw 2 rfl) (by decide) (by decide)) q160a q160c (g := (mkF m 53 #[.val (.long v0), .second, .val (.long v1), .second, .val (.int v2), .val (.long ot), .second, .val (.ref b0_156), .val (.ref b0_157), .unset, .unset, .unset] [(.ref b0_157), (.ref b0_156)])) rfl (by rw [hml]; rfl) (Steps.refl _) (argsL := [(.ref b0_157)]) (rest := []) (lenOf pd_13 rfl) rfl (by show 2 * 0 + _ ≤ _; exact Nat.le_of_eq rfl) (hb hby at_53) (fun _ _ => ⟨rfl, e159, (by decide : 2 + 0 ≤ _), (by decide : 8 + 0 ≤ _)⟩)
    dsimp only [Pt.U, Pt.locs, Pt.cells, Pt.slots] at X160 l160 y160 z160 st160 hQ160
    rw [l160, y160, z160] at X160
    clear l160 y160 z160
    obtain ⟨rfl, N160q, e160⟩ := hQ160
    have N160 := Fr.app M159 N160q
    refine Go.st (fun _ k => st160.trans k) ?_
    obtain ⟨G160, Y160, M160⟩ : ∃ L, Stand p l e room_1 s m #[(.long v0), (.long v1), (.int v2)] below meth c T160 L 2 8 ∧ Fr n0 L := ⟨_, X160, N160⟩
    clear X160 N160
    show Go p e below s _ _ _ T160 (mkF m 56 #[.val (.long v0), .second, .val (.long v1), .second, .val (.int v2), .val (.long ot), .second, .val (.ref b0_156), .val (.ref b0_157), .unset, .unset, .unset] [(.int (f_equ v0 ot))])
    have J73 : Go p e below s room_1.cells room_1.slots (Q_lawr Z v0 v1 v2 cs uu Nd ng aO aT vf h0 n0) T160 (mkF m 73 #[.val (.long v0), .second, .val (.long v1), .second, .val (.int v2), .val (.long ot), .second, .val (.ref b0_156), .val (.ref b0_157), .unset, .unset, .unset] []) := by
      refine G_aload Y160 hx (pc' := 75) rfl (hb hby at_73) rfl rfl ?_
      obtain ⟨cq161, kq161, q161a, q161b, q161c⟩ := isOf hZ e160 E_b0_156_157
      obtain ⟨_, _, ⟨T161, L161, k161, n161⟩, -, X161, ⟨Lc161, hQ161, l161, y161, z161⟩, st161⟩ := Y160.virtualBack hx (y := (⟨"com/example/colonwise/colonwise/model/BencodeInteger", "hashCode", "()I"⟩ : MethodName)) (z := (⟨"com/example/colonwise/colonwise/model/BencodeInteger", "hashCode", "()I"⟩ : MethodName)) hown (mvT hZ (own_w hw 36 rfl)) (mvT hZ (own_w hw 37 rfl)) (notFace_of_selects (args := #[]) (mvT hZ (own_w hw 39 rfl))) (mvT hZ (own_w hw 39 rfl)) (mvT hZ (own_w hw 38 rfl)) (by decide) (backOf (W := 0) (rm_bhash l Z a0 hw [] b0_156 v0 T157.heap n0 Z_157 E_b0_156_157 F_b0_156_small_157 F_b0_156_wide_157) hZ (own_w hw 40 rfl) (own_w hw 2 rfl) (by decide) (by decide)) q161a q161c (g := (mkF m 75 #[.val (.long v0), .second, .val (.long v1), .second, .val (.int v2), .val (.long ot), .second, .val (.ref b0_156), .val (.ref b0_157), .unset, .unset, .unset] [(.ref b0_156)])) rfl (by rw [hml]; rfl) (Steps.refl _) (argsL := []) (rest := []) (lenOf pd_14 rfl) rfl (by show 2 * 0 + _ ≤ _; exact Nat.le_of_eq rfl) (hb hby at_75) (fun _ _ => ⟨rfl, e160, (by decide : 2 + 0 ≤ _), (by decide : 8 + 0 ≤ _)⟩)
      dsimp only [Pt.U, Pt.locs, Pt.cells, Pt.slots] at X161 l161 y161 z161 st161 hQ161
      rw [l161, y161, z161] at X161
      clear l161 y161 z161
      obtain ⟨rfl, N161q, e161⟩ := hQ161
      have N161 := Fr.app M160 N161q
      refine Go.st (fun _ k => st161.trans k) ?_
      obtain ⟨G161, Y161, M161⟩ : ∃ L, Stand p l e room_1 s m #[(.long v0), (.long v1), (.int v2)] below meth c T161 L 2 8 ∧ Fr n0 L := ⟨_, X161, N161⟩
      clear X161 N161
      show Go p e below s _ _ _ T161 (mkF m 78 #[.val (.long v0), .second, .val (.long v1), .second, .val (.int v2), .val (.long ot), .second, .val (.ref b0_156), .val (.ref b0_157), .unset, .unset, .unset] [(.int (f_bhash v0))])
      refine G_lloadN Y161 hx (pc' := 79) rfl (hb hby at_78) rfl ?_
      refine G_lloadN Y161 hx (pc' := 80) rfl (hb hby at_79) rfl ?_
      refine G_bipush Y161 hx (pc' := 82) rfl (hb hby at_80) (z := (32 : Int32)) rfl ?_
      refine G_lushr Y161 hx (pc' := 83) rfl (hb hby at_82)  ?_
      refine G_lxor Y161 hx (pc' := 84) rfl (hb hby at_83)  ?_
      refine G_l2i Y161 hx (pc' := 85) rfl (hb hby at_84)  ?_
      refine G_icmpYes Y161 hx (pc' := 90) (hb hby at_85) (teq (rfl : (f_bhash v0) = ((v0 ^^^ ((v0.toUInt64 >>> ((32 : Int32) &&& 0x3f).toInt64.toUInt64).toInt64)).toInt32))).1 (by decide) (by decide) ?_
      refine G_lloadN Y161 hx (pc' := 91) rfl (hb hby at_90) rfl ?_
      obtain ⟨_, _, ⟨T162, L162, k162, n162⟩, -, X162, ⟨Lc162, hQ162, l162, y162, z162⟩, st162⟩ := Jvm.LawKit.callS Y161 hx (y := (⟨"com/example/colonwise/colonwise/model/BencodeIntegerOfPinLaw", "decimalLength", "(J)I"⟩ : MethodName)) hown (mvT hZ (own_w hw 45 rfl)) (mvT hZ (own_w hw 46 rfl)) (mvT hZ (own_w hw 47 rfl)) (mvT hZ (own_w hw 48 rfl)) (by decide) (backOf (W := 0) (rm_decLen l Z a0 hw [] v0 T157.heap n0 Z_157 ) hZ (own_w hw 48 rfl) (own_w hw 47 rfl) (by decide) (by decide)) (g := (mkF m 91 #[.val (.long v0), .second, .val (.long v1), .second, .val (.int v2), .val (.long ot), .second, .val (.ref b0_156), .val (.ref b0_157), .unset, .unset, .unset] [(.long v0)])) rfl (by rw [hml]; rfl) (argsL := [(.long v0)]) (rest := []) (lenOf pd_1 rfl) rfl (by show 2 * 0 + _ ≤ _; exact Nat.le_of_eq rfl) (hb hby at_91) (fun _ _ => ⟨rfl, e161, (by decide : 2 + 0 ≤ _), (by decide : 8 + 0 ≤ _)⟩)
      dsimp only [Pt.U, Pt.locs, Pt.cells, Pt.slots] at X162 l162 y162 z162 st162 hQ162
      rw [l162, y162, z162] at X162
      clear l162 y162 z162
      obtain ⟨rfl, N162q, e162⟩ := hQ162
      have N162 := Fr.app M161 N162q
      refine Go.st st162 ?_
      obtain ⟨G162, Y162, M162⟩ : ∃ L, Stand p l e room_1 s m #[(.long v0), (.long v1), (.int v2)] below meth c T162 L 2 8 ∧ Fr n0 L := ⟨_, X162, N162⟩
      clear X162 N162
      show Go p e below s _ _ _ T162 (mkF m 94 #[.val (.long v0), .second, .val (.long v1), .second, .val (.int v2), .val (.long ot), .second, .val (.ref b0_156), .val (.ref b0_157), .unset, .unset, .unset] [(.int (f_decLen v0))])
      refine G_istore Y162 hx (pc' := 96) rfl (hb hby at_94) (L' := #[.val (.long v0), .second, .val (.long v1), .second, .val (.int v2), .val (.long ot), .second, .val (.ref b0_156), .val (.ref b0_157), .val (.int (f_decLen v0)), .unset, .unset]) rfl ?_
      refine G_aload Y162 hx (pc' := 98) rfl (hb hby at_96) rfl rfl ?_
      obtain ⟨cq163, kq163, q163a, q163b, q163c⟩ := isOf hZ e162 E_b0_156_157
      obtain ⟨_, _, ⟨T163, L163, k163, n163⟩, -, X163, ⟨Lc163, hQ163, l163, y163, z163⟩, st163⟩ := Y162.virtualBack hx (y := (⟨"com/example/colonwise/colonwise/model/BencodeInteger", "encodedLength", "()J"⟩ : MethodName)) (z := (⟨"com/example/colonwise/colonwise/model/BencodeInteger", "encodedLength", "()J"⟩ : MethodName)) hown (mvT hZ (own_w hw 50 rfl)) (mvT hZ (own_w hw 51 rfl)) (notFace_of_selects (args := #[]) (mvT hZ (own_w hw 53 rfl))) (mvT hZ (own_w hw 53 rfl)) (mvT hZ (own_w hw 52 rfl)) (by decide) (backOf (W := 0) (rm_encLen l Z a0 hw [] b0_156 v0 T157.heap n0 Z_157 E_b0_156_157 F_b0_156_small_157 F_b0_156_wide_157) hZ (own_w hw 54 rfl) (own_w hw 2 rfl) (by decide) (by decide)) q163a q163c (g := (mkF m 98 #[.val (.long v0), .second, .val (.long v1), .second, .val (.int v2), .val (.long ot), .second, .val (.ref b0_156), .val (.ref b0_157), .val (.int (f_decLen v0)), .unset, .unset] [(.ref b0_156)])) rfl (by rw [hml]; rfl) (Steps.refl _) (argsL := []) (rest := []) (lenOf pd_12 rfl) rfl (by show 2 * 0 + _ ≤ _; exact Nat.le_of_eq rfl) (hb hby at_98) (fun _ _ => ⟨rfl, e162, (by decide : 2 + 0 ≤ _), (by decide : 8 + 0 ≤ _)⟩)
      dsimp only [Pt.U, Pt.locs, Pt.cells, Pt.slots] at X163 l163 y163 z163 st163 hQ163
      rw [l163, y163, z163] at X163
      clear l163 y163 z163
      obtain ⟨rfl, N163q, e163⟩ := hQ163
      have N163 := Fr.app M162 N163q
      refine Go.st (fun _ k => st163.trans k) ?_
      obtain ⟨G163, Y163, M163⟩ : ∃ L, Stand p l e room_1 s m #[(.long v0), (.long v1), (.int v2)] below meth c T163 L 2 8 ∧ Fr n0 L := ⟨_, X163, N163⟩
      clear X163 N163
      show Go p e below s _ _ _ T163 (mkF m 101 #[.val (.long v0), .second, .val (.long v1), .second, .val (.int v2), .val (.long ot), .second, .val (.ref b0_156), .val (.ref b0_157), .val (.int (f_decLen v0)), .unset, .unset] [(.long (f_encLen v0))])
      refine G_iload Y163 hx (pc' := 103) rfl (hb hby at_101) rfl ?_
      refine G_i2l Y163 hx (pc' := 104) rfl (hb hby at_103)  ?_
      refine G_ldc2 Y163 hx (pc' := 107) rfl hown (mvT hZ (own_w hw 60 rfl)) (hb hby at_104) ?_
      refine G_ladd Y163 hx (pc' := 108) rfl (hb hby at_107)  ?_
      refine G_lcmp Y163 hx (pc' := 109) rfl (hb hby at_108)  ?_
      refine G_ifYes Y163 hx (pc' := 114) (hb hby at_109) ((if0 _ _).trans (teq ((lw_eq _ _).2 (own_el v0 : (f_encLen v0) = (((f_decLen v0).toInt64) + (2 : Int64))))).1) (by decide) (by decide) ?_
      refine G_aload Y163 hx (pc' := 116) rfl (hb hby at_114) rfl rfl ?_
      obtain ⟨cq164, kq164, q164a, q164b, q164c⟩ := isOf hZ e163 E_b0_156_157
      obtain ⟨_, _, ⟨T164, L164, k164, n164⟩, -, X164, ⟨Lc164, hQ164, l164, y164, z164⟩, st164⟩ := Y163.virtualBack hx (y := (⟨"com/example/colonwise/colonwise/model/BencodeInteger", "toString", "()Ljava/lang/String;"⟩ : MethodName)) (z := (⟨"com/example/colonwise/colonwise/model/BencodeInteger", "toString", "()Ljava/lang/String;"⟩ : MethodName)) hown (mvT hZ (own_w hw 61 rfl)) (mvT hZ (own_w hw 62 rfl)) (notFace_of_selects (args := #[]) (mvT hZ (own_w hw 64 rfl))) (mvT hZ (own_w hw 64 rfl)) (mvT hZ (own_w hw 63 rfl)) (by decide) (backOf (W := 0) (rm_btos l Z a0 hw [] b0_156 v0 cs uu Nd ng aO aT T157.heap n0 Z_157 E_b0_156_157 F_b0_156_small_157 F_b0_156_wide_157 S_java_lang_Integer_DigitOnes_157 A_aO_157 S_java_lang_Integer_DigitTens_157 A_aT_157 S_java_lang_String_COMPACT_STRINGS_157 (by assumption) (by assumption) (by assumption) (by assumption) (by assumption)) hZ (own_w hw 65 rfl) (own_w hw 2 rfl) (by decide) (by decide)) q164a q164c (g := (mkF m 116 #[.val (.long v0), .second, .val (.long v1), .second, .val (.int v2), .val (.long ot), .second, .val (.ref b0_156), .val (.ref b0_157), .val (.int (f_decLen v0)), .unset, .unset] [(.ref b0_156)])) rfl (by rw [hml]; rfl) (Steps.refl _) (argsL := []) (rest := []) (lenOf pd_10 rfl) rfl (by show 2 * 0 + _ ≤ _; exact Nat.le_of_eq rfl) (hb hby at_116) (fun _ _ => ⟨rfl, e163, (by decide : 2 + 2 ≤ _), (by decide : 8 + 24 ≤ _)⟩)
      dsimp only [Pt.U, Pt.locs, Pt.cells, Pt.slots] at X164 l164 y164 z164 st164 hQ164
      rw [l164, y164, z164] at X164
      clear l164 y164 z164
      obtain ⟨b0_164, b1_164, rfl, N164q, K164, le_b0_164, le_b1_164, p164_0, p164_1, p164_2, p164_3⟩ := hQ164
      have N164 := Fr.app M163 N164q
      refine Go.st (fun _ k => st164.trans k) ?_
      have ne_aO_b0_164 : aO ≠ b0_164 := Nat.ne_of_lt (Nat.lt_of_lt_of_le A_aO_157.lt le_b0_164)
      have ne_aT_b0_164 : aT ≠ b0_164 := Nat.ne_of_lt (Nat.lt_of_lt_of_le A_aT_157.lt le_b0_164)
      have ne_b0_156_b0_164 : b0_156 ≠ b0_164 := Nat.ne_of_lt (Nat.lt_of_lt_of_le E_b0_156_157.lt le_b0_164)
      have ne_b0_157_b0_164 : b0_157 ≠ b0_164 := Nat.ne_of_lt (Nat.lt_of_lt_of_le p157_0.lt le_b0_164)
      have g_b0_164 : n0 ≤ b0_164 := Nat.le_trans Z_157 le_b0_164
      have sz_b0_164 : h0.size ≤ b0_164 := Nat.le_trans K_157.1 le_b0_164
      have ne_aO_b1_164 : aO ≠ b1_164 := Nat.ne_of_lt (Nat.lt_of_lt_of_le A_aO_157.lt le_b1_164)
      have ne_aT_b1_164 : aT ≠ b1_164 := Nat.ne_of_lt (Nat.lt_of_lt_of_le A_aT_157.lt le_b1_164)
      have ne_b0_156_b1_164 : b0_156 ≠ b1_164 := Nat.ne_of_lt (Nat.lt_of_lt_of_le E_b0_156_157.lt le_b1_164)
      have ne_b0_157_b1_164 : b0_157 ≠ b1_164 := Nat.ne_of_lt (Nat.lt_of_lt_of_le p157_0.lt le_b1_164)
      have g_b1_164 : n0 ≤ b1_164 := Nat.le_trans Z_157 le_b1_164
      have sz_b1_164 : h0.size ≤ b1_164 := Nat.le_trans K_157.1 le_b1_164
      have S_java_lang_Integer_DigitOnes_164 := own_staK S_java_lang_Integer_DigitOnes_157 K164 own_nst0
      have A_aO_164 := A_aO_157.keep K164 nin0
      have S_java_lang_Integer_DigitTens_164 := own_staK S_java_lang_Integer_DigitTens_157 K164 own_nst0
      have A_aT_164 := A_aT_157.keep K164 nin0
      have S_java_lang_String_COMPACT_STRINGS_164 := own_staK S_java_lang_String_COMPACT_STRINGS_157 K164 own_nst0
      have S_jdk_internal_util_Preconditions_SIOOBE_FORMATTER_164 := own_staK S_jdk_internal_util_Preconditions_SIOOBE_FORMATTER_157 K164 own_nst0
      have E_b0_156_164 := E_b0_156_157.keep K164
      have F_b0_156_small_164 := F_b0_156_small_157.keep K164 nin0
      have F_b0_156_wide_164 := F_b0_156_wide_157.keep K164 nin0
      have E_b0_157_164 := p157_0.keep K164
      have F_b0_157_small_164 := p157_1.keep K164 nin0
      have F_b0_157_wide_164 := p157_2.keep K164 nin0
      have K_164 : Keep h0 T164.heap [] := K_157.trans K164 all0
      have Z_164 : n0 ≤ T164.heap.size := Nat.le_trans Z0 K_164.1
      clear S_java_lang_Integer_DigitOnes_157 A_aO_157 S_java_lang_Integer_DigitTens_157 A_aT_157 S_java_lang_String_COMPACT_STRINGS_157 S_jdk_internal_util_Preconditions_SIOOBE_FORMATTER_157 E_b0_156_157 F_b0_156_small_157 F_b0_156_wide_157 p157_0 p157_1 p157_2 st164 K164
      obtain ⟨G164, Y164, M164⟩ : ∃ L, Stand p l e room_1 s m #[(.long v0), (.long v1), (.int v2)] below meth c T164 L 4 32 ∧ Fr n0 L := ⟨_, X164, N164⟩
      clear X164 N164
      show Go p e below s _ _ _ T164 (mkF m 119 #[.val (.long v0), .second, .val (.long v1), .second, .val (.int v2), .val (.long ot), .second, .val (.ref b0_156), .val (.ref b0_157), .val (.int (f_decLen v0)), .unset, .unset] [(.ref b0_164)])
      refine G_astore Y164 hx (pc' := 121) rfl (hb hby at_119) rfl (L' := #[.val (.long v0), .second, .val (.long v1), .second, .val (.int v2), .val (.long ot), .second, .val (.ref b0_156), .val (.ref b0_157), .val (.int (f_decLen v0)), .val (.ref b0_164), .unset]) rfl ?_
      refine G_aload Y164 hx (pc' := 123) rfl (hb hby at_121) rfl rfl ?_
      obtain ⟨cq165, kq165, q165a, q165b, q165c⟩ := isOf hZ rfl p164_0
      obtain ⟨_, _, ⟨T165, L165, k165, n165⟩, -, X165, ⟨Lc165, hQ165, l165, y165, z165⟩, st165⟩ := Y164.virtualBack hx (y := (⟨"java/lang/String", "length", "()I"⟩ : MethodName)) (z := (⟨"java/lang/String", "length", "()I"⟩ : MethodName)) hown (mvT hZ (own_w hw 97 rfl)) (mvT hZ (own_w hw 98 rfl)) (notFace_of_selects (args := #[]) (mvT hZ (own_w hw 100 rfl))) (mvT hZ (own_w hw 100 rfl)) (mvT hZ (own_w hw 99 rfl)) (by decide) (backOf (W := 0) (rm_slen l Z a0 hw [] b0_164 cs b1_164 (own_txt ng uu Nd) T164.heap n0 Z_164 p164_0 p164_1 p164_2 S_java_lang_String_COMPACT_STRINGS_164 p164_3 (by assumption)) hZ (own_w hw 101 rfl) (own_w hw 78 rfl) (by decide) (by decide)) q165a q165c (g := (mkF m 123 #[.val (.long v0), .second, .val (.long v1), .second, .val (.int v2), .val (.long ot), .second, .val (.ref b0_156), .val (.ref b0_157), .val (.int (f_decLen v0)), .val (.ref b0_164), .unset] [(.ref b0_164)])) rfl (by rw [hml]; rfl) (Steps.refl _) (argsL := []) (rest := []) (lenOf pd_14 rfl) rfl (by show 2 * 0 + _ ≤ _; exact Nat.le_of_eq rfl) (hb hby at_123) (fun _ _ => ⟨rfl, rfl, (by decide : 4 + 0 ≤ _), (by decide : 32 + 0 ≤ _)⟩)
      dsimp only [Pt.U, Pt.locs, Pt.cells, Pt.slots] at X165 l165 y165 z165 st165 hQ165
      rw [l165, y165, z165] at X165
      clear l165 y165 z165
      obtain ⟨rfl, N165q, e165⟩ := hQ165
      have N165 := Fr.app M164 N165q
      refine Go.st (fun _ k => st165.trans k) ?_
      obtain ⟨G165, Y165, M165⟩ : ∃ L, Stand p l e room_1 s m #[(.long v0), (.long v1), (.int v2)] below meth c T165 L 4 32 ∧ Fr n0 L := ⟨_, X165, N165⟩
      clear X165 N165
      show Go p e below s _ _ _ T165 (mkF m 126 #[.val (.long v0), .second, .val (.long v1), .second, .val (.int v2), .val (.long ot), .second, .val (.ref b0_156), .val (.ref b0_157), .val (.int (f_decLen v0)), .val (.ref b0_164), .unset] [(.int (f_slen cs (own_txt ng uu Nd)))])
      refine G_iload Y165 hx (pc' := 128) rfl (hb hby at_126) rfl ?_
      refine G_icmpYes Y165 hx (pc' := 133) (hb hby at_128) (teq (own_sl hsz : (f_slen cs (own_txt ng uu Nd)) = (f_decLen v0))).1 (by decide) (by decide) ?_
      refine G_aload Y165 hx (pc' := 135) rfl (hb hby at_133) rfl rfl ?_
      refine G_iconst Y165 hx (pc' := 136) rfl (hb hby at_135) (z := (0 : Int32)) rfl ?_
      obtain ⟨cq166, kq166, q166a, q166b, q166c⟩ := isOf hZ e165 p164_0
      obtain ⟨_, _, ⟨T166, L166, k166, n166⟩, -, X166, ⟨Lc166, hQ166, l166, y166, z166⟩, st166⟩ := Y165.virtualBack hx (y := (⟨"java/lang/String", "charAt", "(I)C"⟩ : MethodName)) (z := (⟨"java/lang/String", "charAt", "(I)C"⟩ : MethodName)) hown (mvT hZ (own_w hw 108 rfl)) (mvT hZ (own_w hw 109 rfl)) (notFace_of_selects (args := #[]) (mvT hZ (own_w hw 111 rfl))) (mvT hZ (own_w hw 111 rfl)) (mvT hZ (own_w hw 110 rfl)) (by decide) (backOf (W := 0) (rm_scharr l Z a0 hw [] b0_164 (0 : Int32) cs b1_164 (own_txt ng uu Nd) vf T164.heap n0 Z_164 p164_0 p164_1 p164_2 S_java_lang_String_COMPACT_STRINGS_164 S_jdk_internal_util_Preconditions_SIOOBE_FORMATTER_164 p164_3 (by assumption) (own_i0 hP hN0 hv).1 (own_i0 hP hN0 hv).2.1 (own_i0 hP hN0 hv).2.2) hZ (own_w hw 112 rfl) (own_w hw 78 rfl) (by decide) (by decide)) q166a q166c (g := (mkF m 136 #[.val (.long v0), .second, .val (.long v1), .second, .val (.int v2), .val (.long ot), .second, .val (.ref b0_156), .val (.ref b0_157), .val (.int (f_decLen v0)), .val (.ref b0_164), .unset] [(.int (0 : Int32)), (.ref b0_164)])) rfl (by rw [hml]; rfl) (Steps.refl _) (argsL := [(.int (0 : Int32))]) (rest := []) (lenOf pd_15 rfl) rfl (by show 2 * 0 + _ ≤ _; exact Nat.le_of_eq rfl) (hb hby at_136) (fun _ _ => ⟨rfl, e165, (by decide : 4 + 0 ≤ _), (by decide : 32 + 0 ≤ _)⟩)
      dsimp only [Pt.U, Pt.locs, Pt.cells, Pt.slots] at X166 l166 y166 z166 st166 hQ166
      rw [l166, y166, z166] at X166
      clear l166 y166 z166
      obtain ⟨rfl, N166q, e166⟩ := hQ166
      have N166 := Fr.app M165 N166q
      refine Go.st (fun _ k => st166.trans k) ?_
      obtain ⟨G166, Y166, M166⟩ : ∃ L, Stand p l e room_1 s m #[(.long v0), (.long v1), (.int v2)] below meth c T166 L 4 32 ∧ Fr n0 L := ⟨_, X166, N166⟩
      clear X166 N166
      show Go p e below s _ _ _ T166 (mkF m 139 #[.val (.long v0), .second, .val (.long v1), .second, .val (.int v2), .val (.long ot), .second, .val (.ref b0_156), .val (.ref b0_157), .val (.int (f_decLen v0)), .val (.ref b0_164), .unset] [(.int (f_scharr (0 : Int32) cs (own_txt ng uu Nd)))])
      have J165 : Go p e below s room_1.cells room_1.slots (Q_lawr Z v0 v1 v2 cs uu Nd ng aO aT vf h0 n0) T166 (mkF m 165 #[.val (.long v0), .second, .val (.long v1), .second, .val (.int v2), .val (.long ot), .second, .val (.ref b0_156), .val (.ref b0_157), .val (.int (f_decLen v0)), .val (.ref b0_164), .unset] []) := by
        refine G_bipush Y166 hx (pc' := 167) rfl (hb hby at_165) (z := (48 : Int32)) rfl ?_
        refine G_lloadN Y166 hx (pc' := 168) rfl (hb hby at_167) rfl ?_
        refine G_ldc2 Y166 hx (pc' := 171) rfl hown (mvT hZ (own_w hw 130 rfl)) (hb hby at_168) ?_
        refine G_lrem Y166 hx (pc' := 172) rfl (hb hby at_171) (by decide) ?_
        obtain ⟨_, _, ⟨T167, L167, k167, n167⟩, -, X167, ⟨Lc167, hQ167, l167, y167, z167⟩, st167⟩ := Jvm.LawKit.callS Y166 hx (y := (⟨"java/lang/Math", "abs", "(J)J"⟩ : MethodName)) hown (mvT hZ (own_w hw 131 rfl)) (mvT hZ (own_w hw 132 rfl)) (mvT hZ (own_w hw 133 rfl)) (mvT hZ (own_w hw 134 rfl)) (by decide) (backOf (W := 1) (rm_abs l Z a0 hw [] (v0 % (10 : Int64)) T164.heap n0 Z_164 ) hZ (own_w hw 134 rfl) (own_w hw 133 rfl) (by decide) (by decide)) (g := (mkF m 172 #[.val (.long v0), .second, .val (.long v1), .second, .val (.int v2), .val (.long ot), .second, .val (.ref b0_156), .val (.ref b0_157), .val (.int (f_decLen v0)), .val (.ref b0_164), .unset] [(.long (v0 % (10 : Int64))), (.int (48 : Int32))])) rfl (by rw [hml]; rfl) (argsL := [(.long (v0 % (10 : Int64)))]) (rest := [(.int (48 : Int32))]) (lenOf pd_16 rfl) rfl (by show 2 * 0 + _ ≤ _; exact Nat.le_of_eq rfl) (hb hby at_172) (fun _ _ => ⟨rfl, e166, (by decide : 4 + 0 ≤ _), (by decide : 32 + 0 ≤ _)⟩)
        dsimp only [Pt.U, Pt.locs, Pt.cells, Pt.slots] at X167 l167 y167 z167 st167 hQ167
        rw [l167, y167, z167] at X167
        clear l167 y167 z167
        obtain ⟨rfl, N167q, e167⟩ := hQ167
        have N167 := Fr.app M166 N167q
        refine Go.st st167 ?_
        obtain ⟨G167, Y167, M167⟩ : ∃ L, Stand p l e room_1 s m #[(.long v0), (.long v1), (.int v2)] below meth c T167 L 4 32 ∧ Fr n0 L := ⟨_, X167, N167⟩
        clear X167 N167
        show Go p e below s _ _ _ T167 (mkF m 175 #[.val (.long v0), .second, .val (.long v1), .second, .val (.int v2), .val (.long ot), .second, .val (.ref b0_156), .val (.ref b0_157), .val (.int (f_decLen v0)), .val (.ref b0_164), .unset] [(.long (f_abs (v0 % (10 : Int64)))), (.int (48 : Int32))])
        refine G_l2i Y167 hx (pc' := 176) rfl (hb hby at_175)  ?_
        refine G_iadd Y167 hx (pc' := 177) rfl (hb hby at_176)  ?_
        refine G_i2c Y167 hx (pc' := 178) rfl (hb hby at_177)  ?_
        refine G_istore Y167 hx (pc' := 180) rfl (hb hby at_178) (L' := #[.val (.long v0), .second, .val (.long v1), .second, .val (.int v2), .val (.long ot), .second, .val (.ref b0_156), .val (.ref b0_157), .val (.int (f_decLen v0)), .val (.ref b0_164), .val (.int (((48 : Int32) + ((f_abs (v0 % (10 : Int64))).toInt32)).toUInt32.toUInt16.toUInt32.toInt32))]) rfl ?_
        refine G_aload Y167 hx (pc' := 182) rfl (hb hby at_180) rfl rfl ?_
        refine G_iload Y167 hx (pc' := 184) rfl (hb hby at_182) rfl ?_
        refine G_iconst Y167 hx (pc' := 185) rfl (hb hby at_184) (z := (1 : Int32)) rfl ?_
        refine G_isub Y167 hx (pc' := 186) rfl (hb hby at_185)  ?_
        obtain ⟨cq168, kq168, q168a, q168b, q168c⟩ := isOf hZ e167 p164_0
        obtain ⟨_, _, ⟨T168, L168, k168, n168⟩, -, X168, ⟨Lc168, hQ168, l168, y168, z168⟩, st168⟩ := Y167.virtualBack hx (y := (⟨"java/lang/String", "charAt", "(I)C"⟩ : MethodName)) (z := (⟨"java/lang/String", "charAt", "(I)C"⟩ : MethodName)) hown (mvT hZ (own_w hw 108 rfl)) (mvT hZ (own_w hw 109 rfl)) (notFace_of_selects (args := #[]) (mvT hZ (own_w hw 111 rfl))) (mvT hZ (own_w hw 111 rfl)) (mvT hZ (own_w hw 110 rfl)) (by decide) (backOf (W := 0) (rm_scharr l Z a0 hw [] b0_164 ((f_decLen v0) - (1 : Int32)) cs b1_164 (own_txt ng uu Nd) vf T164.heap n0 Z_164 p164_0 p164_1 p164_2 S_java_lang_String_COMPACT_STRINGS_164 S_jdk_internal_util_Preconditions_SIOOBE_FORMATTER_164 p164_3 (by assumption) (own_ix hsz hP hN0 hv).1 (own_ix hsz hP hN0 hv).2.1 (own_ix hsz hP hN0 hv).2.2.1) hZ (own_w hw 112 rfl) (own_w hw 78 rfl) (by decide) (by decide)) q168a q168c (g := (mkF m 186 #[.val (.long v0), .second, .val (.long v1), .second, .val (.int v2), .val (.long ot), .second, .val (.ref b0_156), .val (.ref b0_157), .val (.int (f_decLen v0)), .val (.ref b0_164), .val (.int (((48 : Int32) + ((f_abs (v0 % (10 : Int64))).toInt32)).toUInt32.toUInt16.toUInt32.toInt32))] [(.int ((f_decLen v0) - (1 : Int32))), (.ref b0_164)])) rfl (by rw [hml]; rfl) (Steps.refl _) (argsL := [(.int ((f_decLen v0) - (1 : Int32)))]) (rest := []) (lenOf pd_15 rfl) rfl (by show 2 * 0 + _ ≤ _; exact Nat.le_of_eq rfl) (hb hby at_186) (fun _ _ => ⟨rfl, e167, (by decide : 4 + 0 ≤ _), (by decide : 32 + 0 ≤ _)⟩)
        dsimp only [Pt.U, Pt.locs, Pt.cells, Pt.slots] at X168 l168 y168 z168 st168 hQ168
        rw [l168, y168, z168] at X168
        clear l168 y168 z168
        obtain ⟨rfl, N168q, e168⟩ := hQ168
        have N168 := Fr.app M167 N168q
        refine Go.st (fun _ k => st168.trans k) ?_
        obtain ⟨G168, Y168, M168⟩ : ∃ L, Stand p l e room_1 s m #[(.long v0), (.long v1), (.int v2)] below meth c T168 L 4 32 ∧ Fr n0 L := ⟨_, X168, N168⟩
        clear X168 N168
        show Go p e below s _ _ _ T168 (mkF m 189 #[.val (.long v0), .second, .val (.long v1), .second, .val (.int v2), .val (.long ot), .second, .val (.ref b0_156), .val (.ref b0_157), .val (.int (f_decLen v0)), .val (.ref b0_164), .val (.int (((48 : Int32) + ((f_abs (v0 % (10 : Int64))).toInt32)).toUInt32.toUInt16.toUInt32.toInt32))] [(.int (f_scharr ((f_decLen v0) - (1 : Int32)) cs (own_txt ng uu Nd)))])
        refine G_iload Y168 hx (pc' := 191) rfl (hb hby at_189) rfl ?_
        refine G_icmpNo Y168 hx (pc' := 194) rfl (hb hby at_191) (teq (own_lcr hsz hP hN0 hv : (f_scharr ((f_decLen v0) - (1 : Int32)) cs (own_txt ng uu Nd)) = (((48 : Int32) + ((f_abs (v0 % (10 : Int64))).toInt32)).toUInt32.toUInt16.toUInt32.toInt32))).2 ?_
        refine G_iconst Y168 hx (pc' := 195) rfl (hb hby at_194) (z := (1 : Int32)) rfl ?_
        refine G_goto Y168 hx (pc' := 199) (hb hby at_195)  (by decide) (by decide) ?_
        refine Go.fin Y168 hlk (v := some (.int (1 : Int32))) (fun h => by rw [Bd.returns] at h; cases h) (by decide) (by decide) ?_ (fun fs hr => retN Y168 hx (t := .boolean) Bd.returns (by simp) (hb hby at_199) hr)
        show Q_lawr Z v0 v1 v2 cs uu Nd ng aO aT vf h0 n0 _ T168.heap _
        rw [e168]
        exact ⟨rfl, M168⟩
      refine G_bipush Y166 hx (pc' := 141) rfl (hb hby at_139) (z := (45 : Int32)) rfl ?_
      by_cases hc141_1 : (f_scharr (0 : Int32) cs (own_txt ng uu Nd)) = (45 : Int32)
      · refine G_icmpNo Y166 hx (pc' := 144) rfl (hb hby at_141) (teq hc141_1).2 ?_
        refine G_iconst Y166 hx (pc' := 145) rfl (hb hby at_144) (z := (1 : Int32)) rfl ?_
        refine G_goto Y166 hx (pc' := 149) (hb hby at_145)  (by decide) (by decide) ?_
        refine G_lloadN Y166 hx (pc' := 150) rfl (hb hby at_149) rfl ?_
        refine G_lconst Y166 hx (pc' := 151) rfl (hb hby at_150) (z := (0 : Int64)) rfl ?_
        refine G_lcmp Y166 hx (pc' := 152) rfl (hb hby at_151)  ?_
        refine G_ifNo Y166 hx (pc' := 155) rfl (hb hby at_152) ((if0 _ _).trans (tlt ((lw_lt _ _).2 ((own_fcr hN0 hv).1 hc141_1 : v0 < (0 : Int64)))).2.1) ?_
        refine G_iconst Y166 hx (pc' := 156) rfl (hb hby at_155) (z := (1 : Int32)) rfl ?_
        refine G_goto Y166 hx (pc' := 160) (hb hby at_156)  (by decide) (by decide) ?_
        refine G_icmpYes Y166 hx (pc' := 165) (hb hby at_160) (teq (by decide : (1 : Int32) = (1 : Int32))).1 (by decide) (by decide) ?_
        exact J165
      · refine G_icmpYes Y166 hx (pc' := 148) (hb hby at_141) (feq hc141_1).2 (by decide) (by decide) ?_
        refine G_iconst Y166 hx (pc' := 149) rfl (hb hby at_148) (z := (0 : Int32)) rfl ?_
        refine G_lloadN Y166 hx (pc' := 150) rfl (hb hby at_149) rfl ?_
        refine G_lconst Y166 hx (pc' := 151) rfl (hb hby at_150) (z := (0 : Int64)) rfl ?_
        refine G_lcmp Y166 hx (pc' := 152) rfl (hb hby at_151)  ?_
        refine G_ifYes Y166 hx (pc' := 159) (hb hby at_152) ((if0 _ _).trans (flt (fun q => (fun q => hc141_1 ((own_fcr hN0 hv).2 q) : ¬ (v0 < (0 : Int64))) ((lw_lt _ _).1 q))).2.1) (by decide) (by decide) ?_
        refine G_iconst Y166 hx (pc' := 160) rfl (hb hby at_159) (z := (0 : Int32)) rfl ?_
        refine G_icmpYes Y166 hx (pc' := 165) (hb hby at_160) (teq (by decide : (0 : Int32) = (0 : Int32))).1 (by decide) (by decide) ?_
        exact J165
    refine G_lloadN Y160 hx (pc' := 57) rfl (hb hby at_56) rfl ?_
    refine G_lload Y160 hx (pc' := 59) rfl (hb hby at_57) rfl ?_
    refine G_lcmp Y160 hx (pc' := 60) rfl (hb hby at_59)  ?_
    by_cases hc60_2 : v0 = ot
    · refine G_ifNo Y160 hx (pc' := 63) rfl (hb hby at_60) ((if0 _ _).trans (teq ((lw_eq _ _).2 hc60_2)).2) ?_
      refine G_iconst Y160 hx (pc' := 64) rfl (hb hby at_63) (z := (1 : Int32)) rfl ?_
      refine G_goto Y160 hx (pc' := 68) (hb hby at_64)  (by decide) (by decide) ?_
      refine G_icmpYes Y160 hx (pc' := 73) (hb hby at_68) (teq (if_pos hc60_2 : (f_equ v0 ot) = (1 : Int32))).1 (by decide) (by decide) ?_
      exact J73
    · refine G_ifYes Y160 hx (pc' := 67) (hb hby at_60) ((if0 _ _).trans (feq (fun q => hc60_2 ((lw_eq _ _).1 q))).2) (by decide) (by decide) ?_
      refine G_iconst Y160 hx (pc' := 68) rfl (hb hby at_67) (z := (0 : Int32)) rfl ?_
      refine G_icmpYes Y160 hx (pc' := 73) (hb hby at_68) (teq (if_neg hc60_2 : (f_equ v0 ot) = (0 : Int32))).1 (by decide) (by decide) ?_
      exact J73
  refine G_iload X0 hx (pc' := 2) rfl (hb hby at_0) rfl ?_
  refine G_iconst X0 hx (pc' := 3) rfl (hb hby at_2) (z := (1 : Int32)) rfl ?_
  refine G_iand X0 hx (pc' := 4) rfl (hb hby at_3)  ?_
  by_cases hc4_3 : (v2 &&& (1 : Int32)) = (0 : Int32)
  · refine G_ifYes X0 hx (pc' := 11) (hb hby at_4) ((if0 _ _).trans (teq hc4_3).1) (by decide) (by decide) ?_
    refine G_lloadN X0 hx (pc' := 12) rfl (hb hby at_11) rfl ?_
    refine G_lstore X0 hx (pc' := 14) rfl (hb hby at_12) (L' := #[.val (.long v0), .second, .val (.long v1), .second, .val (.int v2), .val (.long v1), .second, .unset, .unset, .unset, .unset, .unset]) rfl ?_
    exact J14 v1
  · refine G_ifNo X0 hx (pc' := 7) rfl (hb hby at_4) ((if0 _ _).trans (feq hc4_3).1) ?_
    refine G_lloadN X0 hx (pc' := 8) rfl (hb hby at_7) rfl ?_
    refine G_goto X0 hx (pc' := 12) (hb hby at_8)  (by decide) (by decide) ?_
    refine G_lstore X0 hx (pc' := 14) rfl (hb hby at_12) (L' := #[.val (.long v0), .second, .val (.long v1), .second, .val (.int v2), .val (.long v0), .second, .unset, .unset, .unset, .unset, .unset]) rfl ?_
    exact J14 v0
set_option maxRecDepth 65536 in
set_option maxHeartbeats 40000000 in
theorem comes_1 {Post : Tables → Env → Array Value → State → Outcome → State → Prop} (hpost : ∀ tb e args s v u, (limb_1_1.after args s (.returned v) u = true ∧ limb_1_2.after args s (.returned v) u = true ∧ True) → FrameEnd s (.returned v) u (Jvm.fieldLocs frame_1_writes args s ++ Jvm.arrayLocs frame_1_arrays args s ++ Jvm.staticLocs frame_1_statics s) 16 128 → Post tb e args s (.returned v) u) :
    ArmFor flags0 classFile x code maxLocals ret World_1 tables_1 room_1 Calls_1 rest_1 Pre_1 Post := by
  intro l hfl _ _ p e ha hc hk s m args below hf hA hF happ hP
  obtain ⟨hcalls, hrest, hpre⟩ := hP
  obtain ⟨-, -, -, hnamed, -, -, -, hat⟩ := (Spec.applies_iff hf).mp happ
  obtain ⟨hg, hn⟩ := and_e (Cond.before_iff.mp (show (Jvm.Cond.and given_1 narrow_1).before args s = true from hpre))
  obtain ⟨hcnt, hg0⟩ := and_e hg
  obtain ⟨ha0, hg1⟩ := and_e hg0
  obtain ⟨ha1, hg2⟩ := and_e hg1
  have ha2 := hg2
  obtain ⟨w0, w1, w2, rfl⟩ : ∃ w0 w1 w2 : Value, args = #[w0, w1, w2] := by
    have hs : args.size = 3 := by simpa [Cond.value, given_1] using hcnt
    obtain ⟨L⟩ := args
    match L, hs with
    | [w0, w1, w2], _ => exact ⟨w0, w1, w2, rfl⟩
  have hw := fun d (hd : d ∈ tables_1) => atoms_spec (ws := Jvm.Cond.code x code maxLocals ret :: tables_1) hat d (List.mem_cons_of_mem _ hd)
  have hfit : Fit s := fun {y c} hc i hi => by
    obtain ⟨ha, rfl⟩ := Array.getElem?_eq_some_iff.mp hc
    have q := List.all_eq_true.mp ((Array.all_eq_true_iff_forall_mem.mp hF) _ (Array.getElem_mem ha)) i (List.mem_range.mpr hi)
    simpa [Array.getElem?_eq_getElem hi] using q
  obtain ⟨i0, ei0⟩ := isL_v ha0
  obtain rfl : w0 = (.long i0) := Option.some.inj ei0
  obtain ⟨i1, ei1⟩ := isL_v ha1
  obtain rfl : w1 = (.long i1) := Option.some.inj ei1
  obtain ⟨i2, ei2⟩ := is_v ha2
  obtain rfl : w2 = (.int i2) := Option.some.inj ei2
  obtain ⟨q0, y1⟩ := and_e (Cond.before_iff.mp (show rest_1_c.before _ s = true from hrest))
  obtain ⟨q1, y2⟩ := and_e y1
  obtain ⟨q2, y3⟩ := and_e y2
  obtain ⟨q3, y4⟩ := and_e y3
  obtain ⟨q4, y5⟩ := and_e y4
  obtain ⟨q5, y6⟩ := and_e y5
  obtain ⟨q6, y7⟩ := and_e y6
  obtain ⟨q7, y8⟩ := and_e y7
  obtain ⟨q8, y9⟩ := and_e y8
  obtain ⟨q9, y10⟩ := and_e y9
  obtain ⟨q10, y11⟩ := and_e y10
  obtain ⟨q11, y12⟩ := and_e y11
  obtain ⟨q12, y13⟩ := and_e y12
  obtain ⟨q13, y14⟩ := and_e y13
  obtain ⟨q14, y15⟩ := and_e y14
  obtain ⟨q15, y16⟩ := and_e y15
  obtain ⟨q16, y17⟩ := and_e y16
  obtain ⟨q17, y18⟩ := and_e y17
  obtain ⟨q18, y19⟩ := and_e y18
  obtain ⟨q19, y20⟩ := and_e y19
  obtain ⟨cs, zC⟩ := is_v q1
  have SC := Sta.start zC (Or.inl (Cond.before_iff.mpr q0))
  have hcs := own_notz zC q2
  obtain ⟨vF, zF, hvF⟩ := own_isref q8
  have SF := Sta.start zF (Or.inl (Cond.before_iff.mpr q7))
  obtain ⟨aO, zO⟩ := own_ref q12
  have SO := Sta.start zO (Or.inl (Cond.before_iff.mpr q11))
  have AO := own_digA (xs := own_ones) (own_w hw 79 rfl) zO q12 q13 q14 own_l1 own_f1 own_r1 (fun _ => zO)
  obtain ⟨aT, zT⟩ := own_ref q17
  have ST := Sta.start zT (Or.inl (Cond.before_iff.mpr q16))
  have AT := own_digA (xs := own_tens) (own_w hw 79 rfl) zT q17 q18 q19 own_l2 own_f2 own_r2 (fun _ => zT)
  obtain ⟨uu, Nd, ng, hsz, hP, hN0, hV⟩ := own_pick i0
  rcases hvF with rfl | ⟨vf, rfl⟩
  · obtain ⟨n, o, h1, h2, h3, v, L, rfl, ⟨hv, N⟩, hq⟩ := rm_lawn l s _ hw tables_1 i0 i1 i2 cs uu Nd ng aO aT s.heap s.heap.size (Nat.le_refl _) SO AO ST AT SC SF hcs hsz hP hN0 hV p e ha hc hk s m _ below hf ((Spec.applies_iff_loose hf).mp happ).1 ⟨rfl, State.Warmed39.refl s, rfl⟩ trivial
    subst hv
    refine ⟨n, _, h1, h2, h3, hpost _ _ _ _ _ _ ⟨Cond.after_iff.mpr rfl, Cond.after_iff.mpr (eq_i res_at (Term.int_eval (1)) rfl), trivial⟩ ⟨hq.1, hq.2.1, (hq.2.2.sift fun y hy => Or.inr (N y hy)).mono (by decide) (by decide)⟩⟩
  · obtain ⟨n, o, h1, h2, h3, v, L, rfl, ⟨hv, N⟩, hq⟩ := rm_lawr l s _ hw tables_1 i0 i1 i2 cs uu Nd ng aO aT vf s.heap s.heap.size (Nat.le_refl _) SO AO ST AT SC SF hcs hsz hP hN0 hV p e ha hc hk s m _ below hf ((Spec.applies_iff_loose hf).mp happ).1 ⟨rfl, State.Warmed39.refl s, rfl⟩ trivial
    subst hv
    refine ⟨n, _, h1, h2, h3, hpost _ _ _ _ _ _ ⟨Cond.after_iff.mpr rfl, Cond.after_iff.mpr (eq_i res_at (Term.int_eval (1)) rfl), trivial⟩ ⟨hq.1, hq.2.1, (hq.2.2.sift fun y hy => Or.inr (N y hy)).mono (by decide) (by decide)⟩⟩
theorem main_1_1 : Claimed_1_1 := comes_1 fun _ _ _ _ _ _ h hF => ⟨h.1, hF⟩
theorem main_1_2 : Claimed_1_2 := comes_1 fun _ _ _ _ _ _ h hF => ⟨h.2.1, hF⟩
end Jvm.Pilot.@@N@@
namespace Jvm.Pilot.@@N@@
open Jvm Jvm.ClassFile Sem Op Lib Jvm.Free Jvm.Stand Jvm.Pilot.@@N@@.Jvm.D
/-! MADE BY PROGRAM (witnessworld.py) out of the Statement's table words and the real class files: 22 classes; the members and pool entries that the words name. The judged class is class 1, her method 2. -/
namespace start1
open Jvm.ClassFile
def u (s : String) : CpInfo := .utf8 (stringToUtf16 s)
/-- a pool by its gaps: so many unusable entries, then the entry; so many at the end -/
def gap : Nat → List CpInfo → List CpInfo
  | 0, r => r
  | n + 1, r => .unusable :: gap n r
def poolList (es : List (Nat × CpInfo)) (last : Nat) : List CpInfo := es.foldr (fun e r => gap e.1 (e.2 :: r)) (gap last [])
def pool (es : List (Nat × CpInfo)) (last : Nat) : Array CpInfo := ⟨poolList es last⟩
def fileOf (pool : Array CpInfo) (this : Nat) (attrs : Array Attribute := #[]) (ms : Array MethodInfo := #[]) (fl : Nat := 33) (sup : Nat := 0) (ifs : Array Nat := #[]) (fds : Array FieldInfo := #[]) : ClassFile where
  minorVersion := 0
  majorVersion := 65
  constantPool := pool
  accessFlags := fl
  thisClass := this
  superClass := sup
  interfaces := ifs
  fields := fds
  methods := ms
  attributes := attrs
def plain (name : String) (sup : Option ClassId) : Class where
  name := name
  kind := .ordinary
  loader := none
  accessFlags := 33
  super := sup
  interfaces := #[]
  cf := none
  fields := #[]
  methods := #[]
  instanceTypes := #[]
  staticTypes := #[]
  resolved := #[]
  callSites := []
  init := .initialized
  statics := none
  mirror := none

def pool0 : Array CpInfo := pool [(5, u "<init>"), (0, u "()V"), (1, .class_ 10), (1, u "java/lang/Object")] 113

def k0c0 : Code := { maxStack := 0, maxLocals := 1, code := object_method_1_code, exceptionTable := #[], attributes := #[] }
def k0m0 : Method := { name := "<init>", desc := "()V", sig := { parameters := [], returnType := none }, accessFlags := 1, code := some k0c0 }
/-- java/lang/Object -/
def k0 : Class := { plain "java/lang/Object" none with
  accessFlags := 33
  interfaces := #[]
  cf := some (fileOf pool0 8 #[] #[{ accessFlags := 1, nameIndex := 5, descriptorIndex := 6, attributes := #[] }] 33 0 #[] #[])
  fields := #[]
  methods := #[k0m0]
  instanceTypes := #[]
  staticTypes := #[]
  resolved := Array.replicate 124 none
  statics := none }

def pool1 : Array CpInfo := pool [(2, .class_ 4), (1, u "java/lang/Object"), (0, u "<init>"), (0, u "()V"), (0, .long 18446744073709551606), (1, .long 18446744073709551516), (1, .long 18446744073709550616), (1, .long 18446744073709541616), (1, .long 18446744073709451616), (1, .long 18446744073708551616), (1, .long 18446744073699551616), (1, .long 18446744073609551616), (1, .long 18446744072709551616), (1, .long 18446744063709551616), (1, .long 18446743973709551616), (1, .long 18446743073709551616), (1, .long 18446734073709551616), (1, .long 18446644073709551616), (1, .long 18445744073709551616), (1, .long 18436744073709551616), (1, .long 18346744073709551616), (1, .long 17446744073709551616), (1, .methodref 44 45), (0, .class_ 46), (0, .nameAndType 47 48), (0, u "com/example/colonwise/colonwise/model/BencodeInteger"), (0, u "of"), (0, u "(J)Lcom/example/colonwise/colonwise/model/BencodeInteger;"), (0, .methodref 44 50), (0, .nameAndType 51 52), (0, u "fitsInLong"), (0, u "()Z"), (0, .methodref 44 54), (0, .nameAndType 55 56), (0, u "longValue"), (0, u "()J"), (0, .methodref 44 58), (0, .nameAndType 59 60), (0, u "equals"), (0, u "(Ljava/lang/Object;)Z"), (0, .methodref 44 62), (0, .nameAndType 63 64), (0, u "hashCode"), (0, u "()I"), (0, .methodref 66 67), (0, .class_ 68), (0, .nameAndType 69 70), (0, u "com/example/colonwise/colonwise/model/BencodeIntegerOfPinLaw"), (0, u "decimalLength"), (0, u "(J)I"), (0, .methodref 44 72), (0, .nameAndType 73 56), (0, u "encodedLength"), (0, .long 2), (1, .methodref 44 77), (0, .nameAndType 78 79), (0, u "toString"), (0, u "()Ljava/lang/String;"), (0, .methodref 81 82), (0, .class_ 83), (0, .nameAndType 84 64), (0, u "java/lang/String"), (0, u "length"), (0, .methodref 81 86), (0, .nameAndType 87 88), (0, u "charAt"), (0, u "(I)C"), (0, .long 10), (1, .methodref 92 93), (0, .class_ 94), (0, .nameAndType 95 96), (0, u "java/lang/Math"), (0, u "abs"), (0, u "(J)J"), (3, u "law"), (0, u "(JJI)Z")] 2

def k1m0 : Method := { name := "<init>", desc := "()V", sig := { parameters := [], returnType := none }, accessFlags := 2, code := none }
def k1c1 : Code := { maxStack := 4, maxLocals := 5, code := method_2_code, exceptionTable := #[], attributes := #[] }
def k1m1 : Method := { name := "decimalLength", desc := "(J)I", sig := { parameters := [.long], returnType := some .int }, accessFlags := 10, code := some k1c1 }
def k1c2 : Code := { maxStack := 6, maxLocals := 12, code := code, exceptionTable := #[], attributes := #[] }
def k1m2 : Method := { name := "law", desc := "(JJI)Z", sig := { parameters := [.long, .long, .int], returnType := some .boolean }, accessFlags := 9, code := some k1c2 }
/-- com/example/colonwise/colonwise/model/BencodeIntegerOfPinLaw -/
def k1 : Class := { plain "com/example/colonwise/colonwise/model/BencodeIntegerOfPinLaw" (some 0) with
  accessFlags := 49
  interfaces := #[]
  cf := some (fileOf pool1 66 #[] #[{ accessFlags := 2, nameIndex := 5, descriptorIndex := 6, attributes := #[] }, { accessFlags := 10, nameIndex := 69, descriptorIndex := 70, attributes := #[] }, { accessFlags := 9, nameIndex := 100, descriptorIndex := 101, attributes := #[] }] 49 2 #[] #[])
  fields := #[]
  methods := #[k1m0, k1m1, k1m2]
  instanceTypes := #[]
  staticTypes := #[]
  resolved := Array.replicate 104 none
  statics := none }

def pool2 : Array CpInfo := pool [(1, .class_ 2), (0, u "com/example/colonwise/colonwise/model/BencodeValue"), (0, .class_ 4), (0, u "java/lang/Object")] 13

/-- com/example/colonwise/colonwise/model/BencodeValue -/
def k2 : Class := { plain "com/example/colonwise/colonwise/model/BencodeValue" (some 0) with
  accessFlags := 1537
  interfaces := #[]
  cf := some (fileOf pool2 1 #[] #[] 1537 3 #[] #[])
  fields := #[]
  methods := #[]
  instanceTypes := #[]
  staticTypes := #[]
  resolved := Array.replicate 18 none
  statics := none }

def pool3 : Array CpInfo := pool [(1, .methodref 2 3), (0, .class_ 4), (0, .nameAndType 5 6), (0, u "java/lang/Object"), (0, u "<init>"), (0, u "()V"), (0, .fieldref 8 9), (0, .class_ 10), (0, .nameAndType 11 12), (0, u "com/example/colonwise/colonwise/model/BencodeInteger"), (0, u "small"), (0, u "J"), (0, .fieldref 8 14), (0, .nameAndType 15 16), (0, u "wide"), (0, u "Z"), (0, .fieldref 8 18), (0, .nameAndType 19 20), (0, u "big"), (0, u "Ljava/math/BigInteger;"), (0, .fieldref 8 22), (0, .nameAndType 23 24), (0, u "decimal"), (0, u "Ljava/lang/String;"), (0, .methodref 8 26), (0, .nameAndType 5 27), (0, u "(JZLjava/math/BigInteger;Ljava/lang/String;)V"), (2, u "LONG_MIN"), (8, u "LONG_MAX"), (2, u "longValue"), (0, u "()J"), (2, u "of"), (0, u "(J)Lcom/example/colonwise/colonwise/model/BencodeInteger;"), (16, .class_ 66), (1, u "java/lang/String"), (1, .methodref 64 69), (0, .nameAndType 70 71), (0, u "length"), (0, u "()I"), (10, .methodref 8 83), (0, .nameAndType 23 84), (0, u "()Ljava/lang/String;"), (10, .methodref 8 96), (0, .nameAndType 97 98), (0, u "textLength"), (0, u "(J)I"), (0, .long 2), (1, .long 18446744073709551606), (1, .long 10), (3, u "equals"), (0, u "(Ljava/lang/Object;)Z"), (3, u "hashCode"), (0, .methodref 114 115), (0, .class_ 116), (0, .nameAndType 112 98), (0, u "java/lang/Long"), (0, .methodref 114 118), (0, .nameAndType 119 120), (0, u "toString"), (0, u "(J)Ljava/lang/String;"), (38, u "()Z"), (17, .class_ 178), (0, u "com/example/colonwise/colonwise/model/BencodeValue"), (0, u "LONG_DIGITS"), (0, u "I"), (7, u "fitsInLong"), (1, u "encodedLength")] 23

def k3c0 : Code := { maxStack := 3, maxLocals := 6, code := prog_28_method_1_code, exceptionTable := #[], attributes := #[] }
def k3m0 : Method := { name := "<init>", desc := "(JZLjava/math/BigInteger;Ljava/lang/String;)V", sig := { parameters := [.long, .boolean, (.object "java/math/BigInteger"), (.object "java/lang/String")], returnType := none }, accessFlags := 2, code := some k3c0 }
def k3c1 : Code := { maxStack := 7, maxLocals := 2, code := prog_28_method_2_code, exceptionTable := #[], attributes := #[] }
def k3m1 : Method := { name := "of", desc := "(J)Lcom/example/colonwise/colonwise/model/BencodeInteger;", sig := { parameters := [.long], returnType := some (.object "com/example/colonwise/colonwise/model/BencodeInteger") }, accessFlags := 9, code := some k3c1 }
def k3c2 : Code := { maxStack := 1, maxLocals := 1, code := prog_28_method_6_code, exceptionTable := #[], attributes := #[] }
def k3m2 : Method := { name := "fitsInLong", desc := "()Z", sig := { parameters := [], returnType := some .boolean }, accessFlags := 1, code := some k3c2 }
def k3c3 : Code := { maxStack := 3, maxLocals := 1, code := prog_28_method_7_code, exceptionTable := #[], attributes := #[] }
def k3m3 : Method := { name := "longValue", desc := "()J", sig := { parameters := [], returnType := some .long }, accessFlags := 1, code := some k3c3 }
def k3c4 : Code := { maxStack := 4, maxLocals := 2, code := prog_28_method_9_code, exceptionTable := #[], attributes := #[] }
def k3m4 : Method := { name := "encodedLength", desc := "()J", sig := { parameters := [], returnType := some .long }, accessFlags := 1, code := some k3c4 }
def k3c5 : Code := { maxStack := 4, maxLocals := 7, code := prog_28_method_10_code, exceptionTable := #[], attributes := #[] }
def k3m5 : Method := { name := "textLength", desc := "(J)I", sig := { parameters := [.long], returnType := some .int }, accessFlags := 8, code := some k3c5 }
def k3c6 : Code := { maxStack := 4, maxLocals := 4, code := prog_28_method_11_code, exceptionTable := #[], attributes := #[] }
def k3m6 : Method := { name := "equals", desc := "(Ljava/lang/Object;)Z", sig := { parameters := [(.object "java/lang/Object")], returnType := some .boolean }, accessFlags := 1, code := some k3c6 }
def k3c7 : Code := { maxStack := 2, maxLocals := 1, code := prog_28_method_12_code, exceptionTable := #[], attributes := #[] }
def k3m7 : Method := { name := "hashCode", desc := "()I", sig := { parameters := [], returnType := some .int }, accessFlags := 1, code := some k3c7 }
def k3c8 : Code := { maxStack := 1, maxLocals := 1, code := prog_28_method_13_code, exceptionTable := #[], attributes := #[] }
def k3m8 : Method := { name := "toString", desc := "()Ljava/lang/String;", sig := { parameters := [], returnType := some (.object "java/lang/String") }, accessFlags := 1, code := some k3c8 }
def k3c9 : Code := { maxStack := 2, maxLocals := 2, code := prog_28_method_14_code, exceptionTable := #[], attributes := #[] }
def k3m9 : Method := { name := "decimal", desc := "()Ljava/lang/String;", sig := { parameters := [], returnType := some (.object "java/lang/String") }, accessFlags := 2, code := some k3c9 }
/-- com/example/colonwise/colonwise/model/BencodeInteger -/
def k3 : Class := { plain "com/example/colonwise/colonwise/model/BencodeInteger" (some 0) with
  accessFlags := 49
  interfaces := #[2]
  cf := some (fileOf pool3 8 #[] #[{ accessFlags := 2, nameIndex := 5, descriptorIndex := 27, attributes := #[] }, { accessFlags := 9, nameIndex := 46, descriptorIndex := 47, attributes := #[] }, { accessFlags := 1, nameIndex := 188, descriptorIndex := 159, attributes := #[] }, { accessFlags := 1, nameIndex := 42, descriptorIndex := 43, attributes := #[] }, { accessFlags := 1, nameIndex := 190, descriptorIndex := 43, attributes := #[] }, { accessFlags := 8, nameIndex := 97, descriptorIndex := 98, attributes := #[] }, { accessFlags := 1, nameIndex := 107, descriptorIndex := 108, attributes := #[] }, { accessFlags := 1, nameIndex := 112, descriptorIndex := 71, attributes := #[] }, { accessFlags := 1, nameIndex := 119, descriptorIndex := 84, attributes := #[] }, { accessFlags := 2, nameIndex := 23, descriptorIndex := 84, attributes := #[] }] 49 2 #[177] #[{ accessFlags := 26, nameIndex := 30, descriptorIndex := 20, attributes := #[] }, { accessFlags := 26, nameIndex := 39, descriptorIndex := 20, attributes := #[] }, { accessFlags := 26, nameIndex := 179, descriptorIndex := 180, attributes := #[] }, { accessFlags := 18, nameIndex := 11, descriptorIndex := 12, attributes := #[] }, { accessFlags := 18, nameIndex := 15, descriptorIndex := 16, attributes := #[] }, { accessFlags := 2, nameIndex := 19, descriptorIndex := 20, attributes := #[] }, { accessFlags := 2, nameIndex := 23, descriptorIndex := 24, attributes := #[] }])
  fields := #[{ name := "LONG_MIN", type := (.object "java/math/BigInteger"), accessFlags := 26, slot := 0, constantValue := 0 }, { name := "LONG_MAX", type := (.object "java/math/BigInteger"), accessFlags := 26, slot := 1, constantValue := 0 }, { name := "LONG_DIGITS", type := .int, accessFlags := 26, slot := 2, constantValue := 0 }, { name := "small", type := .long, accessFlags := 18, slot := 0, constantValue := 0 }, { name := "wide", type := .boolean, accessFlags := 18, slot := 1, constantValue := 0 }, { name := "big", type := (.object "java/math/BigInteger"), accessFlags := 2, slot := 2, constantValue := 0 }, { name := "decimal", type := (.object "java/lang/String"), accessFlags := 2, slot := 3, constantValue := 0 }]
  methods := #[k3m0, k3m1, k3m2, k3m3, k3m4, k3m5, k3m6, k3m7, k3m8, k3m9]
  instanceTypes := #[.long, .boolean, (.object "java/math/BigInteger"), (.object "java/lang/String")]
  staticTypes := #[(.object "java/math/BigInteger"), (.object "java/math/BigInteger"), .int]
  resolved := Array.replicate 214 none
  statics := none }

def pool4 : Array CpInfo := pool [(1, .class_ 2), (0, u "java/io/Serializable"), (0, .class_ 4), (0, u "java/lang/Object")] 2

/-- java/io/Serializable -/
def k4 : Class := { plain "java/io/Serializable" (some 0) with
  accessFlags := 1537
  interfaces := #[]
  cf := some (fileOf pool4 1 #[] #[] 1537 3 #[] #[])
  fields := #[]
  methods := #[]
  instanceTypes := #[]
  staticTypes := #[]
  resolved := Array.replicate 7 none
  statics := none }

def pool5 : Array CpInfo := pool [(2, .class_ 4), (1, u "java/lang/Object"), (0, u "<init>"), (0, u "()V"), (1, .class_ 10), (1, u "java/lang/Number"), (2, .class_ 14), (0, u "java/io/Serializable"), (0, u "serialVersionUID"), (0, u "J")] 20

def k5m0 : Method := { name := "<init>", desc := "()V", sig := { parameters := [], returnType := none }, accessFlags := 1, code := none }
/-- java/lang/Number -/
def k5 : Class := { plain "java/lang/Number" (some 0) with
  accessFlags := 1057
  interfaces := #[4]
  cf := some (fileOf pool5 8 #[] #[{ accessFlags := 1, nameIndex := 5, descriptorIndex := 6, attributes := #[] }] 1057 2 #[13] #[{ accessFlags := 26, nameIndex := 15, descriptorIndex := 16, attributes := #[] }])
  fields := #[{ name := "serialVersionUID", type := .long, accessFlags := 26, slot := 0, constantValue := 0 }]
  methods := #[k5m0]
  instanceTypes := #[]
  staticTypes := #[.long]
  resolved := Array.replicate 37 none
  statics := none }

def pool6 : Array CpInfo := pool [(1, .class_ 2), (0, u "java/lang/Comparable"), (0, .class_ 4), (0, u "java/lang/Object")] 7

/-- java/lang/Comparable -/
def k6 : Class := { plain "java/lang/Comparable" (some 0) with
  accessFlags := 1537
  interfaces := #[]
  cf := some (fileOf pool6 1 #[] #[] 1537 3 #[] #[])
  fields := #[]
  methods := #[]
  instanceTypes := #[]
  staticTypes := #[]
  resolved := Array.replicate 12 none
  statics := none }

def pool7 : Array CpInfo := pool [(1, .class_ 2), (0, u "java/lang/constant/Constable"), (0, .class_ 4), (0, u "java/lang/Object")] 6

/-- java/lang/constant/Constable -/
def k7 : Class := { plain "java/lang/constant/Constable" (some 0) with
  accessFlags := 1537
  interfaces := #[]
  cf := some (fileOf pool7 1 #[] #[] 1537 3 #[] #[])
  fields := #[]
  methods := #[]
  instanceTypes := #[]
  staticTypes := #[]
  resolved := Array.replicate 11 none
  statics := none }

def pool8 : Array CpInfo := pool [(1, .class_ 2), (0, u "java/lang/constant/ConstantDesc"), (0, .class_ 4), (0, u "java/lang/Object")] 32

/-- java/lang/constant/ConstantDesc -/
def k8 : Class := { plain "java/lang/constant/ConstantDesc" (some 0) with
  accessFlags := 1537
  interfaces := #[]
  cf := some (fileOf pool8 1 #[] #[] 1537 3 #[] #[])
  fields := #[]
  methods := #[]
  instanceTypes := #[]
  staticTypes := #[]
  resolved := Array.replicate 37 none
  statics := none }

def pool9 : Array CpInfo := pool [(1, .class_ 2), (0, u "java/lang/Long"), (2, .class_ 6), (0, u "java/lang/String"), (4, u "toString"), (0, u "(J)Ljava/lang/String;"), (0, .fieldref 5 14), (0, .nameAndType 15 16), (0, u "COMPACT_STRINGS"), (0, u "Z"), (1, .class_ 20), (1, u "java/lang/Integer"), (32, .long 10), (5, u "<init>"), (41, u "(J)I"), (10, .methodref 5 113), (0, .nameAndType 59 114), (0, u "([BB)V"), (3, .methodref 1 119), (0, .nameAndType 120 101), (0, u "stringSize"), (0, .methodref 1 122), (0, .nameAndType 123 124), (0, u "getChars"), (0, u "(JI[B)I"), (4, .long 18446744071562067968), (1, .long 100), (1, .fieldref 18 134), (0, .nameAndType 135 136), (0, u "DigitOnes"), (0, u "[B"), (0, .fieldref 18 138), (0, .nameAndType 139 136), (0, u "DigitTens"), (0, .long 18446744073709551606), (94, .class_ 237), (1, u "java/lang/Long$LongCache"), (33, .class_ 272), (0, u "java/lang/Number"), (2, u "value"), (0, u "J"), (2, u "hashCode"), (81, u "TYPE"), (0, u "Ljava/lang/Class;"), (0, .class_ 364), (0, u "java/lang/Comparable"), (0, .class_ 366), (0, u "java/lang/constant/Constable"), (0, .class_ 368), (0, u "java/lang/constant/ConstantDesc"), (0, u "MIN_VALUE"), (1, u "MAX_VALUE"), (4, u "SIZE"), (0, u "I"), (1, u "BYTES"), (1, u "serialVersionUID")] 142

def k9c0 : Code := { maxStack := 4, maxLocals := 4, code := jdk_35_method_12_code, exceptionTable := #[], attributes := #[] }
def k9m0 : Method := { name := "toString", desc := "(J)Ljava/lang/String;", sig := { parameters := [.long], returnType := some (.object "java/lang/String") }, accessFlags := 9, code := some k9c0 }
def k9c1 : Code := { maxStack := 4, maxLocals := 11, code := jdk_35_method_14_code, exceptionTable := #[], attributes := #[] }
def k9m1 : Method := { name := "getChars", desc := "(JI[B)I", sig := { parameters := [.long, .int, (.array .byte)], returnType := some .int }, accessFlags := 8, code := some k9c1 }
def k9c2 : Code := { maxStack := 4, maxLocals := 6, code := jdk_35_method_15_code, exceptionTable := #[], attributes := #[] }
def k9m2 : Method := { name := "stringSize", desc := "(J)I", sig := { parameters := [.long], returnType := some .int }, accessFlags := 8, code := some k9c2 }
def k9c3 : Code := { maxStack := 5, maxLocals := 2, code := jdk_35_method_36_code, exceptionTable := #[], attributes := #[] }
def k9m3 : Method := { name := "hashCode", desc := "(J)I", sig := { parameters := [.long], returnType := some .int }, accessFlags := 9, code := some k9c3 }
/-- java/lang/Long -/
def k9 : Class := { plain "java/lang/Long" (some 5) with
  accessFlags := 49
  interfaces := #[6, 7, 8]
  cf := some (fileOf pool9 1 #[.nestMembers #[235]] #[{ accessFlags := 9, nameIndex := 11, descriptorIndex := 12, attributes := #[] }, { accessFlags := 8, nameIndex := 123, descriptorIndex := 124, attributes := #[] }, { accessFlags := 8, nameIndex := 120, descriptorIndex := 101, attributes := #[] }, { accessFlags := 9, nameIndex := 279, descriptorIndex := 101, attributes := #[] }] 49 271 #[363, 365, 367] #[{ accessFlags := 25, nameIndex := 369, descriptorIndex := 276, attributes := #[] }, { accessFlags := 25, nameIndex := 371, descriptorIndex := 276, attributes := #[] }, { accessFlags := 25, nameIndex := 361, descriptorIndex := 362, attributes := #[] }, { accessFlags := 18, nameIndex := 275, descriptorIndex := 276, attributes := #[] }, { accessFlags := 25, nameIndex := 376, descriptorIndex := 377, attributes := #[] }, { accessFlags := 25, nameIndex := 379, descriptorIndex := 377, attributes := #[] }, { accessFlags := 26, nameIndex := 381, descriptorIndex := 276, attributes := #[] }])
  fields := #[{ name := "MIN_VALUE", type := .long, accessFlags := 25, slot := 0, constantValue := 0 }, { name := "MAX_VALUE", type := .long, accessFlags := 25, slot := 1, constantValue := 0 }, { name := "TYPE", type := (.object "java/lang/Class"), accessFlags := 25, slot := 2, constantValue := 0 }, { name := "value", type := .long, accessFlags := 18, slot := 0, constantValue := 0 }, { name := "SIZE", type := .int, accessFlags := 25, slot := 3, constantValue := 0 }, { name := "BYTES", type := .int, accessFlags := 25, slot := 4, constantValue := 0 }, { name := "serialVersionUID", type := .long, accessFlags := 26, slot := 5, constantValue := 0 }]
  methods := #[k9m0, k9m1, k9m2, k9m3]
  instanceTypes := #[.long]
  staticTypes := #[.long, .long, (.object "java/lang/Class"), .int, .int, .long]
  resolved := Array.replicate 524 none
  statics := none }

def pool10 : Array CpInfo := pool [(2, .class_ 4), (1, u "java/lang/CharSequence"), (42, .class_ 48), (0, u "java/lang/CharSequence$1CodePointIterator"), (10, .class_ 60), (0, u "java/lang/CharSequence$1CharIterator"), (5, .class_ 67), (0, u "java/lang/Object")] 63

/-- java/lang/CharSequence -/
def k10 : Class := { plain "java/lang/CharSequence" (some 0) with
  accessFlags := 1537
  interfaces := #[]
  cf := some (fileOf pool10 2 #[.nestMembers #[47, 59]] #[] 1537 66 #[] #[])
  fields := #[]
  methods := #[]
  instanceTypes := #[]
  staticTypes := #[]
  resolved := Array.replicate 131 none
  statics := none }

def pool11 : Array CpInfo := pool [(1, .methodref 2 3), (0, .class_ 4), (0, .nameAndType 5 6), (0, u "java/lang/Object"), (0, u "<init>"), (0, u "()V"), (2, .fieldref 10 11), (0, .class_ 12), (0, .nameAndType 13 14), (0, u "java/lang/String"), (0, u "value"), (0, u "[B"), (0, .fieldref 10 16), (0, .nameAndType 17 18), (0, u "coder"), (0, u "B"), (2, u "hash"), (0, u "I"), (2, u "hashIsZero"), (0, u "Z"), (11, .fieldref 10 39), (0, .nameAndType 40 26), (0, u "COMPACT_STRINGS"), (66, .class_ 109), (1, u "java/lang/StringLatin1"), (32, u "()Z"), (68, u "([BB)V"), (122, u "()I"), (0, .methodref 10 336), (0, .nameAndType 17 337), (0, u "()B"), (25, u "([BI)C"), (27, u "(II)V"), (35, u "(I)C"), (64, .methodref 10 493), (0, .nameAndType 494 142), (0, u "isLatin1"), (0, .methodref 107 496), (0, .nameAndType 497 363), (0, u "charAt"), (3, u "checkIndex"), (5, u "length"), (67, .class_ 576), (0, u "java/lang/CharSequence"), (22, u "CASE_INSENSITIVE_ORDER"), (0, u "Ljava/util/Comparator;"), (452, .fieldref 1054 1055), (0, .class_ 1056), (0, .nameAndType 1057 1058), (0, u "jdk/internal/util/Preconditions"), (0, u "SIOOBE_FORMATTER"), (0, u "Ljava/util/function/BiFunction;"), (0, .methodref 1054 1060), (0, .nameAndType 501 1061), (0, u "(IILjava/util/function/BiFunction;)I"), (39, u "serialPersistentFields"), (0, u "[Ljava/io/ObjectStreamField;"), (0, .class_ 1104), (0, u "java/lang/String$CaseInsensitiveComparator"), (1, .class_ 1107), (0, u "java/io/Serializable"), (0, .class_ 1109), (0, u "java/lang/Comparable"), (0, .class_ 1111), (0, u "java/lang/constant/Constable"), (0, .class_ 1113), (0, u "java/lang/constant/ConstantDesc"), (2, u "serialVersionUID"), (0, u "J"), (3, u "REPL"), (0, u "C"), (2, u "LATIN1"), (1, u "UTF16")] 323

def k11m0 : Method := { name := "<init>", desc := "()V", sig := { parameters := [], returnType := none }, accessFlags := 1, code := none }
def k11c1 : Code := { maxStack := 2, maxLocals := 1, code := jdk_42_method_54_code, exceptionTable := #[], attributes := #[] }
def k11m1 : Method := { name := "length", desc := "()I", sig := { parameters := [], returnType := some .int }, accessFlags := 1, code := some k11c1 }
def k11c2 : Code := { maxStack := 2, maxLocals := 2, code := jdk_42_method_56_code, exceptionTable := #[], attributes := #[] }
def k11m2 : Method := { name := "charAt", desc := "(I)C", sig := { parameters := [.int], returnType := some .char }, accessFlags := 1, code := some k11c2 }
def k11c3 : Code := { maxStack := 2, maxLocals := 3, code := jdk_42_method_151_code, exceptionTable := #[], attributes := #[] }
def k11m3 : Method := { name := "<init>", desc := "([BB)V", sig := { parameters := [(.array .byte), .byte], returnType := none }, accessFlags := 0, code := some k11c3 }
def k11c4 : Code := { maxStack := 1, maxLocals := 1, code := jdk_42_method_152_code, exceptionTable := #[], attributes := #[] }
def k11m4 : Method := { name := "coder", desc := "()B", sig := { parameters := [], returnType := some .byte }, accessFlags := 0, code := some k11c4 }
def k11c5 : Code := { maxStack := 1, maxLocals := 1, code := jdk_42_method_154_code, exceptionTable := #[], attributes := #[] }
def k11m5 : Method := { name := "isLatin1", desc := "()Z", sig := { parameters := [], returnType := some .boolean }, accessFlags := 0, code := some k11c5 }
def k11c6 : Code := { maxStack := 3, maxLocals := 2, code := jdk_42_method_155_code, exceptionTable := #[], attributes := #[] }
def k11m6 : Method := { name := "checkIndex", desc := "(II)V", sig := { parameters := [.int, .int], returnType := none }, accessFlags := 8, code := some k11c6 }
/-- java/lang/String -/
def k11 : Class := { plain "java/lang/String" (some 0) with
  accessFlags := 49
  interfaces := #[4, 6, 10, 7, 8]
  cf := some (fileOf pool11 10 #[.nestMembers #[1103]] #[{ accessFlags := 1, nameIndex := 5, descriptorIndex := 6, attributes := #[] }, { accessFlags := 1, nameIndex := 507, descriptorIndex := 334, attributes := #[] }, { accessFlags := 1, nameIndex := 497, descriptorIndex := 427, attributes := #[] }, { accessFlags := 0, nameIndex := 5, descriptorIndex := 211, attributes := #[] }, { accessFlags := 0, nameIndex := 17, descriptorIndex := 337, attributes := #[] }, { accessFlags := 0, nameIndex := 494, descriptorIndex := 142, attributes := #[] }, { accessFlags := 8, nameIndex := 501, descriptorIndex := 391, attributes := #[] }] 49 2 #[1106, 1108, 575, 1110, 1112] #[{ accessFlags := 18, nameIndex := 13, descriptorIndex := 14, attributes := #[] }, { accessFlags := 18, nameIndex := 17, descriptorIndex := 18, attributes := #[] }, { accessFlags := 2, nameIndex := 21, descriptorIndex := 22, attributes := #[] }, { accessFlags := 2, nameIndex := 25, descriptorIndex := 26, attributes := #[] }, { accessFlags := 26, nameIndex := 1116, descriptorIndex := 1117, attributes := #[] }, { accessFlags := 24, nameIndex := 40, descriptorIndex := 26, attributes := #[] }, { accessFlags := 26, nameIndex := 1101, descriptorIndex := 1102, attributes := #[] }, { accessFlags := 26, nameIndex := 1121, descriptorIndex := 1122, attributes := #[] }, { accessFlags := 25, nameIndex := 599, descriptorIndex := 600, attributes := #[] }, { accessFlags := 24, nameIndex := 1125, descriptorIndex := 18, attributes := #[] }, { accessFlags := 24, nameIndex := 1127, descriptorIndex := 18, attributes := #[] }])
  fields := #[{ name := "value", type := (.array .byte), accessFlags := 18, slot := 0, constantValue := 0 }, { name := "coder", type := .byte, accessFlags := 18, slot := 1, constantValue := 0 }, { name := "hash", type := .int, accessFlags := 2, slot := 2, constantValue := 0 }, { name := "hashIsZero", type := .boolean, accessFlags := 2, slot := 3, constantValue := 0 }, { name := "serialVersionUID", type := .long, accessFlags := 26, slot := 0, constantValue := 0 }, { name := "COMPACT_STRINGS", type := .boolean, accessFlags := 24, slot := 1, constantValue := 0 }, { name := "serialPersistentFields", type := (.array (.object "java/io/ObjectStreamField")), accessFlags := 26, slot := 2, constantValue := 0 }, { name := "REPL", type := .char, accessFlags := 26, slot := 3, constantValue := 0 }, { name := "CASE_INSENSITIVE_ORDER", type := (.object "java/util/Comparator"), accessFlags := 25, slot := 4, constantValue := 0 }, { name := "LATIN1", type := .byte, accessFlags := 24, slot := 5, constantValue := 0 }, { name := "UTF16", type := .byte, accessFlags := 24, slot := 6, constantValue := 0 }]
  methods := #[k11m0, k11m1, k11m2, k11m3, k11m4, k11m5, k11m6]
  instanceTypes := #[(.array .byte), .byte, .int, .boolean]
  staticTypes := #[.long, .boolean, (.array (.object "java/io/ObjectStreamField")), .char, (.object "java/util/Comparator"), .byte, .byte]
  resolved := Array.replicate 1451 none
  statics := some 0 }

def pool12 : Array CpInfo := pool [(1, .class_ 2), (0, u "java/lang/Integer"), (16, u "digits"), (0, u "[C"), (64, u "DigitOnes"), (0, u "[B"), (2, u "DigitTens"), (99, .class_ 190), (0, u "java/lang/Integer$IntegerCache"), (3, u "I"), (8, .class_ 204), (0, u "java/lang/Number"), (2, u "value"), (94, u "TYPE"), (0, u "Ljava/lang/Class;"), (0, .class_ 305), (0, u "java/lang/Comparable"), (0, .class_ 307), (0, u "java/lang/constant/Constable"), (0, .class_ 309), (0, u "java/lang/constant/ConstantDesc"), (0, u "MIN_VALUE"), (1, u "MAX_VALUE"), (3, u "SIZE"), (1, u "BYTES"), (1, u "serialVersionUID"), (0, u "J")] 131

/-- java/lang/Integer -/
def k12 : Class := { plain "java/lang/Integer" (some 5) with
  accessFlags := 49
  interfaces := #[6, 7, 8]
  cf := some (fileOf pool12 1 #[.nestMembers #[189]] #[] 49 203 #[304, 306, 308] #[{ accessFlags := 25, nameIndex := 310, descriptorIndex := 194, attributes := #[] }, { accessFlags := 25, nameIndex := 312, descriptorIndex := 194, attributes := #[] }, { accessFlags := 25, nameIndex := 302, descriptorIndex := 303, attributes := #[] }, { accessFlags := 24, nameIndex := 19, descriptorIndex := 20, attributes := #[] }, { accessFlags := 24, nameIndex := 89, descriptorIndex := 86, attributes := #[] }, { accessFlags := 24, nameIndex := 85, descriptorIndex := 86, attributes := #[] }, { accessFlags := 18, nameIndex := 207, descriptorIndex := 194, attributes := #[] }, { accessFlags := 25, nameIndex := 316, descriptorIndex := 194, attributes := #[] }, { accessFlags := 25, nameIndex := 318, descriptorIndex := 194, attributes := #[] }, { accessFlags := 26, nameIndex := 320, descriptorIndex := 321, attributes := #[] }])
  fields := #[{ name := "MIN_VALUE", type := .int, accessFlags := 25, slot := 0, constantValue := 0 }, { name := "MAX_VALUE", type := .int, accessFlags := 25, slot := 1, constantValue := 0 }, { name := "TYPE", type := (.object "java/lang/Class"), accessFlags := 25, slot := 2, constantValue := 0 }, { name := "digits", type := (.array .char), accessFlags := 24, slot := 3, constantValue := 0 }, { name := "DigitTens", type := (.array .byte), accessFlags := 24, slot := 4, constantValue := 0 }, { name := "DigitOnes", type := (.array .byte), accessFlags := 24, slot := 5, constantValue := 0 }, { name := "value", type := .int, accessFlags := 18, slot := 0, constantValue := 0 }, { name := "SIZE", type := .int, accessFlags := 25, slot := 6, constantValue := 0 }, { name := "BYTES", type := .int, accessFlags := 25, slot := 7, constantValue := 0 }, { name := "serialVersionUID", type := .long, accessFlags := 26, slot := 8, constantValue := 0 }]
  methods := #[]
  instanceTypes := #[.int]
  staticTypes := #[.int, .int, (.object "java/lang/Class"), (.array .char), (.array .byte), (.array .byte), .int, .int, .long]
  resolved := Array.replicate 453 none
  statics := some 1 }

def pool13 : Array CpInfo := pool [(1, .class_ 2), (0, u "java/lang/String"), (1, .class_ 6), (1, u "java/lang/Object"), (0, u "<init>"), (0, u "()V"), (0, .methodref 1 10), (0, .nameAndType 11 12), (0, u "checkIndex"), (0, u "(II)V"), (1, .class_ 16), (1, u "java/lang/StringLatin1"), (36, u "([BI)C"), (67, u "$assertionsDisabled"), (0, u "Z"), (98, .class_ 223), (1, u "java/lang/StringLatin1$LinesSpliterator"), (28, u "charAt"), (137, .class_ 391), (0, u "java/lang/StringLatin1$CharsSpliterator")] 3

def k13m0 : Method := { name := "<init>", desc := "()V", sig := { parameters := [], returnType := none }, accessFlags := 0, code := none }
def k13c1 : Code := { maxStack := 2, maxLocals := 2, code := jdk_43_method_2_code, exceptionTable := #[], attributes := #[] }
def k13m1 : Method := { name := "charAt", desc := "([BI)C", sig := { parameters := [(.array .byte), .int], returnType := some .char }, accessFlags := 9, code := some k13c1 }
/-- java/lang/StringLatin1 -/
def k13 : Class := { plain "java/lang/StringLatin1" (some 0) with
  accessFlags := 48
  interfaces := #[]
  cf := some (fileOf pool13 14 #[.nestMembers #[390, 221]] #[{ accessFlags := 0, nameIndex := 7, descriptorIndex := 8, attributes := #[] }, { accessFlags := 9, nameIndex := 252, descriptorIndex := 53, attributes := #[] }] 48 4 #[] #[{ accessFlags := 4120, nameIndex := 121, descriptorIndex := 122, attributes := #[] }])
  fields := #[{ name := "$assertionsDisabled", type := .boolean, accessFlags := 4120, slot := 0, constantValue := 0 }]
  methods := #[k13m0, k13m1]
  instanceTypes := #[]
  staticTypes := #[.boolean]
  resolved := Array.replicate 395 none
  statics := none }

def pool14 : Array CpInfo := pool [(2, .class_ 4), (1, u "java/lang/Object"), (0, u "<init>"), (0, u "()V"), (17, .class_ 26), (1, u "jdk/internal/util/Preconditions"), (6, u "checkIndex"), (21, .class_ 56), (0, u "jdk/internal/util/Preconditions$4"), (57, .class_ 115), (0, u "jdk/internal/util/Preconditions$1"), (7, u "SIOOBE_FORMATTER"), (0, u "Ljava/util/function/BiFunction;"), (0, .class_ 126), (0, u "jdk/internal/util/Preconditions$2"), (3, u "AIOOBE_FORMATTER"), (0, .class_ 132), (0, u "jdk/internal/util/Preconditions$3"), (3, u "IOOBE_FORMATTER"), (41, u "(IILjava/util/function/BiFunction;)I")] 15

def k14m0 : Method := { name := "<init>", desc := "()V", sig := { parameters := [], returnType := none }, accessFlags := 1, code := none }
def k14c1 : Code := { maxStack := 3, maxLocals := 3, code := jdk_41_method_11_code, exceptionTable := #[], attributes := #[] }
def k14m1 : Method := { name := "checkIndex", desc := "(IILjava/util/function/BiFunction;)I", sig := { parameters := [.int, .int, (.object "java/util/function/BiFunction")], returnType := some .int }, accessFlags := 9, code := some k14c1 }
/-- jdk/internal/util/Preconditions -/
def k14 : Class := { plain "jdk/internal/util/Preconditions" (some 0) with
  accessFlags := 33
  interfaces := #[]
  cf := some (fileOf pool14 24 #[.nestMembers #[55, 131, 125, 114]] #[{ accessFlags := 1, nameIndex := 5, descriptorIndex := 6, attributes := #[] }, { accessFlags := 9, nameIndex := 33, descriptorIndex := 178, attributes := #[] }] 33 2 #[] #[{ accessFlags := 25, nameIndex := 123, descriptorIndex := 124, attributes := #[] }, { accessFlags := 25, nameIndex := 130, descriptorIndex := 124, attributes := #[] }, { accessFlags := 25, nameIndex := 136, descriptorIndex := 124, attributes := #[] }])
  fields := #[{ name := "SIOOBE_FORMATTER", type := (.object "java/util/function/BiFunction"), accessFlags := 25, slot := 0, constantValue := 0 }, { name := "AIOOBE_FORMATTER", type := (.object "java/util/function/BiFunction"), accessFlags := 25, slot := 1, constantValue := 0 }, { name := "IOOBE_FORMATTER", type := (.object "java/util/function/BiFunction"), accessFlags := 25, slot := 2, constantValue := 0 }]
  methods := #[k14m0, k14m1]
  instanceTypes := #[]
  staticTypes := #[(.object "java/util/function/BiFunction"), (.object "java/util/function/BiFunction"), (.object "java/util/function/BiFunction")]
  resolved := Array.replicate 194 none
  statics := some 2 }

def pool15 : Array CpInfo := pool [(1, .class_ 2), (0, u "java/lang/Math"), (1, .class_ 6), (1, u "java/lang/Object"), (0, u "<init>"), (0, u "()V"), (89, .class_ 100), (1, u "java/lang/Math$RandomNumberGeneratorHolder"), (23, u "abs"), (0, u "(J)J"), (46, u "negativeZeroFloatBits"), (0, u "J"), (2, u "negativeZeroDoubleBits"), (68, u "$assertionsDisabled"), (0, u "Z"), (91, u "twoToTheDoubleScaleDown"), (0, u "D"), (4, u "twoToTheDoubleScaleUp"), (9, u "E"), (3, u "PI"), (2, u "TAU"), (2, u "DEGREES_TO_RADIANS"), (0, u "RADIANS_TO_DEGREES")] 94

def k15m0 : Method := { name := "<init>", desc := "()V", sig := { parameters := [], returnType := none }, accessFlags := 2, code := none }
def k15c1 : Code := { maxStack := 4, maxLocals := 2, code := jdk_29_method_61_code, exceptionTable := #[], attributes := #[] }
def k15m1 : Method := { name := "abs", desc := "(J)J", sig := { parameters := [.long], returnType := some .long }, accessFlags := 9, code := some k15c1 }
/-- java/lang/Math -/
def k15 : Class := { plain "java/lang/Math" (some 0) with
  accessFlags := 49
  interfaces := #[]
  cf := some (fileOf pool15 1 #[.nestMembers #[98]] #[{ accessFlags := 2, nameIndex := 7, descriptorIndex := 8, attributes := #[] }, { accessFlags := 9, nameIndex := 124, descriptorIndex := 125, attributes := #[] }] 49 4 #[] #[{ accessFlags := 25, nameIndex := 354, descriptorIndex := 339, attributes := #[] }, { accessFlags := 25, nameIndex := 358, descriptorIndex := 339, attributes := #[] }, { accessFlags := 25, nameIndex := 361, descriptorIndex := 339, attributes := #[] }, { accessFlags := 26, nameIndex := 364, descriptorIndex := 339, attributes := #[] }, { accessFlags := 26, nameIndex := 365, descriptorIndex := 339, attributes := #[] }, { accessFlags := 26, nameIndex := 172, descriptorIndex := 173, attributes := #[] }, { accessFlags := 26, nameIndex := 176, descriptorIndex := 173, attributes := #[] }, { accessFlags := 8, nameIndex := 344, descriptorIndex := 339, attributes := #[] }, { accessFlags := 8, nameIndex := 338, descriptorIndex := 339, attributes := #[] }, { accessFlags := 4120, nameIndex := 245, descriptorIndex := 246, attributes := #[] }])
  fields := #[{ name := "E", type := .double, accessFlags := 25, slot := 0, constantValue := 0 }, { name := "PI", type := .double, accessFlags := 25, slot := 1, constantValue := 0 }, { name := "TAU", type := .double, accessFlags := 25, slot := 2, constantValue := 0 }, { name := "DEGREES_TO_RADIANS", type := .double, accessFlags := 26, slot := 3, constantValue := 0 }, { name := "RADIANS_TO_DEGREES", type := .double, accessFlags := 26, slot := 4, constantValue := 0 }, { name := "negativeZeroFloatBits", type := .long, accessFlags := 26, slot := 5, constantValue := 0 }, { name := "negativeZeroDoubleBits", type := .long, accessFlags := 26, slot := 6, constantValue := 0 }, { name := "twoToTheDoubleScaleUp", type := .double, accessFlags := 8, slot := 7, constantValue := 0 }, { name := "twoToTheDoubleScaleDown", type := .double, accessFlags := 8, slot := 8, constantValue := 0 }, { name := "$assertionsDisabled", type := .boolean, accessFlags := 4120, slot := 9, constantValue := 0 }]
  methods := #[k15m0, k15m1]
  instanceTypes := #[]
  staticTypes := #[.double, .double, .double, .double, .double, .long, .long, .double, .double, .boolean]
  resolved := Array.replicate 460 none
  statics := none }

def pool16 : Array CpInfo := pool [(9, u "<init>"), (6, .class_ 18), (1, u "java/lang/Object"), (0, u "()V"), (1, .class_ 23), (1, u "jdk/internal/util/ArraysSupport"), (0, u "LOG2_ARRAY_LONG_INDEX_SCALE"), (0, u "I"), (2, u "U"), (0, u "Ljdk/internal/misc/Unsafe;"), (8, u "BIG_ENDIAN"), (0, u "Z"), (8, u "LOG2_BYTE_BIT_SIZE"), (4, u "LOG2_ARRAY_INT_INDEX_SCALE"), (54, u "JLA"), (0, u "Ljdk/internal/access/JavaLangAccess;"), (11, u "LOG2_ARRAY_BOOLEAN_INDEX_SCALE"), (9, u "LOG2_ARRAY_BYTE_INDEX_SCALE"), (5, u "LOG2_ARRAY_CHAR_INDEX_SCALE"), (5, u "LOG2_ARRAY_SHORT_INDEX_SCALE"), (18, u "LOG2_ARRAY_FLOAT_INDEX_SCALE"), (24, u "LOG2_ARRAY_DOUBLE_INDEX_SCALE"), (89, u "T_BOOLEAN"), (2, u "T_CHAR"), (1, u "T_FLOAT"), (1, u "T_DOUBLE"), (1, u "T_BYTE"), (1, u "T_SHORT"), (1, u "T_INT"), (1, u "T_LONG"), (1, u "SOFT_MAX_ARRAY_LENGTH")] 83

def k16m0 : Method := { name := "<init>", desc := "()V", sig := { parameters := [], returnType := none }, accessFlags := 2, code := none }
/-- jdk/internal/util/ArraysSupport -/
def k16 : Class := { plain "jdk/internal/util/ArraysSupport" (some 0) with
  accessFlags := 33
  interfaces := #[]
  cf := some (fileOf pool16 21 #[] #[{ accessFlags := 2, nameIndex := 9, descriptorIndex := 19, attributes := #[] }] 33 16 #[] #[{ accessFlags := 24, nameIndex := 28, descriptorIndex := 29, attributes := #[] }, { accessFlags := 26, nameIndex := 38, descriptorIndex := 39, attributes := #[] }, { accessFlags := 25, nameIndex := 121, descriptorIndex := 25, attributes := #[] }, { accessFlags := 25, nameIndex := 131, descriptorIndex := 25, attributes := #[] }, { accessFlags := 25, nameIndex := 137, descriptorIndex := 25, attributes := #[] }, { accessFlags := 25, nameIndex := 143, descriptorIndex := 25, attributes := #[] }, { accessFlags := 25, nameIndex := 53, descriptorIndex := 25, attributes := #[] }, { accessFlags := 25, nameIndex := 24, descriptorIndex := 25, attributes := #[] }, { accessFlags := 25, nameIndex := 162, descriptorIndex := 25, attributes := #[] }, { accessFlags := 25, nameIndex := 187, descriptorIndex := 25, attributes := #[] }, { accessFlags := 26, nameIndex := 48, descriptorIndex := 25, attributes := #[] }, { accessFlags := 25, nameIndex := 277, descriptorIndex := 25, attributes := #[] }, { accessFlags := 25, nameIndex := 280, descriptorIndex := 25, attributes := #[] }, { accessFlags := 25, nameIndex := 282, descriptorIndex := 25, attributes := #[] }, { accessFlags := 25, nameIndex := 284, descriptorIndex := 25, attributes := #[] }, { accessFlags := 25, nameIndex := 286, descriptorIndex := 25, attributes := #[] }, { accessFlags := 25, nameIndex := 288, descriptorIndex := 25, attributes := #[] }, { accessFlags := 25, nameIndex := 290, descriptorIndex := 25, attributes := #[] }, { accessFlags := 25, nameIndex := 292, descriptorIndex := 25, attributes := #[] }, { accessFlags := 26, nameIndex := 108, descriptorIndex := 109, attributes := #[] }, { accessFlags := 25, nameIndex := 294, descriptorIndex := 25, attributes := #[] }])
  fields := #[{ name := "U", type := (.object "jdk/internal/misc/Unsafe"), accessFlags := 24, slot := 0, constantValue := 0 }, { name := "BIG_ENDIAN", type := .boolean, accessFlags := 26, slot := 1, constantValue := 0 }, { name := "LOG2_ARRAY_BOOLEAN_INDEX_SCALE", type := .int, accessFlags := 25, slot := 2, constantValue := 0 }, { name := "LOG2_ARRAY_BYTE_INDEX_SCALE", type := .int, accessFlags := 25, slot := 3, constantValue := 0 }, { name := "LOG2_ARRAY_CHAR_INDEX_SCALE", type := .int, accessFlags := 25, slot := 4, constantValue := 0 }, { name := "LOG2_ARRAY_SHORT_INDEX_SCALE", type := .int, accessFlags := 25, slot := 5, constantValue := 0 }, { name := "LOG2_ARRAY_INT_INDEX_SCALE", type := .int, accessFlags := 25, slot := 6, constantValue := 0 }, { name := "LOG2_ARRAY_LONG_INDEX_SCALE", type := .int, accessFlags := 25, slot := 7, constantValue := 0 }, { name := "LOG2_ARRAY_FLOAT_INDEX_SCALE", type := .int, accessFlags := 25, slot := 8, constantValue := 0 }, { name := "LOG2_ARRAY_DOUBLE_INDEX_SCALE", type := .int, accessFlags := 25, slot := 9, constantValue := 0 }, { name := "LOG2_BYTE_BIT_SIZE", type := .int, accessFlags := 26, slot := 10, constantValue := 0 }, { name := "T_BOOLEAN", type := .int, accessFlags := 25, slot := 11, constantValue := 0 }, { name := "T_CHAR", type := .int, accessFlags := 25, slot := 12, constantValue := 0 }, { name := "T_FLOAT", type := .int, accessFlags := 25, slot := 13, constantValue := 0 }, { name := "T_DOUBLE", type := .int, accessFlags := 25, slot := 14, constantValue := 0 }, { name := "T_BYTE", type := .int, accessFlags := 25, slot := 15, constantValue := 0 }, { name := "T_SHORT", type := .int, accessFlags := 25, slot := 16, constantValue := 0 }, { name := "T_INT", type := .int, accessFlags := 25, slot := 17, constantValue := 0 }, { name := "T_LONG", type := .int, accessFlags := 25, slot := 18, constantValue := 0 }, { name := "JLA", type := (.object "jdk/internal/access/JavaLangAccess"), accessFlags := 26, slot := 19, constantValue := 0 }, { name := "SOFT_MAX_ARRAY_LENGTH", type := .int, accessFlags := 25, slot := 20, constantValue := 0 }]
  methods := #[k16m0]
  instanceTypes := #[]
  staticTypes := #[(.object "jdk/internal/misc/Unsafe"), .boolean, .int, .int, .int, .int, .int, .int, .int, .int, .int, .int, .int, .int, .int, .int, .int, .int, .int, (.object "jdk/internal/access/JavaLangAccess"), .int]
  resolved := Array.replicate 378 none
  statics := none }

def pool17 : Array CpInfo := pool [(1, u "java/lang/Cloneable"), (0, .class_ 1), (0, u "java/lang/Object"), (0, .class_ 3)] 3

/-- java/lang/Cloneable -/
def k17 : Class := { plain "java/lang/Cloneable" (some 0) with
  accessFlags := 1537
  interfaces := #[]
  cf := some (fileOf pool17 2 #[] #[] 1537 4 #[] #[])
  fields := #[]
  methods := #[]
  instanceTypes := #[]
  staticTypes := #[]
  resolved := Array.replicate 8 none
  statics := none }

/-- the primitive byte -/
def k18 : Class := { plain "byte" none with kind := .primitive 'B', accessFlags := 0x411 }
/-- [B -/
def k19 : Class := { plain "[B" (some 0) with kind := .array 18 .byte, interfaces := #[17, 4], accessFlags := 1041 }

/-- the primitive int -/
def k20 : Class := { plain "int" none with kind := .primitive 'I', accessFlags := 0x411 }
/-- [I -/
def k21 : Class := { plain "[I" (some 0) with kind := .array 20 .int, interfaces := #[17, 4], accessFlags := 1041 }

def heap : Heap := #[{ cls := 11, slots := #[.long 0, .int 1, .null, .int 0, .null, .int 0, .int 0], vm := .statics 11 },
  { cls := 12, slots := #[.int 0, .int 0, .null, .null, .ref 4, .ref 3, .int 0, .int 0, .long 0], vm := .statics 12 },
  { cls := 14, slots := #[.null, .null, .null], vm := .statics 14 },
  { cls := 19, slots := #[.int 48, .int 49, .int 50, .int 51, .int 52, .int 53, .int 54, .int 55, .int 56, .int 57, .int 48, .int 49, .int 50, .int 51, .int 52, .int 53, .int 54, .int 55, .int 56, .int 57, .int 48, .int 49, .int 50, .int 51, .int 52, .int 53, .int 54, .int 55, .int 56, .int 57, .int 48, .int 49, .int 50, .int 51, .int 52, .int 53, .int 54, .int 55, .int 56, .int 57, .int 48, .int 49, .int 50, .int 51, .int 52, .int 53, .int 54, .int 55, .int 56, .int 57, .int 48, .int 49, .int 50, .int 51, .int 52, .int 53, .int 54, .int 55, .int 56, .int 57, .int 48, .int 49, .int 50, .int 51, .int 52, .int 53, .int 54, .int 55, .int 56, .int 57, .int 48, .int 49, .int 50, .int 51, .int 52, .int 53, .int 54, .int 55, .int 56, .int 57, .int 48, .int 49, .int 50, .int 51, .int 52, .int 53, .int 54, .int 55, .int 56, .int 57, .int 48, .int 49, .int 50, .int 51, .int 52, .int 53, .int 54, .int 55, .int 56, .int 57], vm := .none },
  { cls := 19, slots := #[.int 48, .int 48, .int 48, .int 48, .int 48, .int 48, .int 48, .int 48, .int 48, .int 48, .int 49, .int 49, .int 49, .int 49, .int 49, .int 49, .int 49, .int 49, .int 49, .int 49, .int 50, .int 50, .int 50, .int 50, .int 50, .int 50, .int 50, .int 50, .int 50, .int 50, .int 51, .int 51, .int 51, .int 51, .int 51, .int 51, .int 51, .int 51, .int 51, .int 51, .int 52, .int 52, .int 52, .int 52, .int 52, .int 52, .int 52, .int 52, .int 52, .int 52, .int 53, .int 53, .int 53, .int 53, .int 53, .int 53, .int 53, .int 53, .int 53, .int 53, .int 54, .int 54, .int 54, .int 54, .int 54, .int 54, .int 54, .int 54, .int 54, .int 54, .int 55, .int 55, .int 55, .int 55, .int 55, .int 55, .int 55, .int 55, .int 55, .int 55, .int 56, .int 56, .int 56, .int 56, .int 56, .int 56, .int 56, .int 56, .int 56, .int 56, .int 57, .int 57, .int 57, .int 57, .int 57, .int 57, .int 57, .int 57, .int 57, .int 57], vm := .none }]
def classes : Array Class := #[k0, k1, k2, k3, k4, k5, k6, k7, k8, k9, k10, k11, k12, k13, k14, k15, k16, k17, k18, k19, k20, k21]
def interned : List (Array UInt16 × Addr) := []
def slotsUsed : Nat := 219
def theMethod : MethodId := ⟨1, 2⟩
def args0 : Array Value := #[.long 5, .long 7, .int 3]
def aboutOver (below : List Frame) : State where
  vm := { classes := classes, interned := interned.toArray }
  heap := heap
  slotsUsed := slotsUsed
  threads := #[{ frames := .invoking theMethod args0 :: below }]
def below0 : List Frame := [.native { method := ⟨0, 0⟩, args := #[] }]
def about1 : State := aboutOver below0
def p0 : Program := .bare "" "" ""
def e0 : Env := launch0.env 0 0 0
theorem w_frames : about1.frames = Frame.invoking theMethod args0 :: below0 := rfl
set_option maxRecDepth 65536 in
theorem w_args : argsFit about1.vm theMethod args0 = true := by decide +kernel
set_option maxRecDepth 65536 in
theorem w_heap : heapFits about1 = true := by decide +kernel
set_option maxRecDepth 65536 in
theorem w_runnable : about1.curStatus? = some .runnable := by decide +kernel
set_option maxRecDepth 65536 in
theorem w_alone : about1.alone = true := by decide +kernel
set_option maxRecDepth 65536 in
theorem w_named : about1.methodNamed? x = some theMethod := by decide +kernel
set_option maxRecDepth 65536 in
theorem w_hears : about1.hears theMethod below0 = true := by decide +kernel
set_option maxRecDepth 65536 in
theorem w_ripe : about1.ripe theMethod args0 below0 = true := by decide +kernel
theorem w_running : about1.status = .running := rfl
set_option maxRecDepth 65536 in
theorem w_room : about1.hasRoom e0.platform room_1 = true :=
  launch0.hasRoom_least _ room_1 (by decide +kernel) (by decide +kernel) (by decide +kernel) (by decide +kernel) (by decide +kernel) (by decide +kernel)
theorem allAtoms_all (ts : List Jvm.Cond) (a : Array Jvm.Value) (st : Jvm.State) : (allAtoms ts).before a st = ts.all (fun c => c.before a st) := by
  induction ts with
  | nil => rfl
  | cons c t ih =>
    show (Jvm.Cond.and c (allAtoms t)).before a st = _
    rw [Jvm.Cond.before_and, ih, List.all_cons]
def words1 : List Jvm.Cond := Jvm.Cond.code x code maxLocals ret :: tables_1
/-- a 'code' word, met by the world's own term for the bytes: nothing is compared byte by byte -/
theorem code_word {y : MethodName} {bytes : ByteArray} {mx : Nat} {rt : Option FieldType} {a : Array Value} {s : State} {m : MethodId} {meth : Method} {c : Code} (h1 : s.methodNamed? y = some m) (h2 : s.vm.method? m = some meth) (h3 : meth.code = some c) (h4 : c.code = bytes)
    (h5 : (c.maxLocals == mx && c.exceptionTable.isEmpty && decide (c.maxStack ≤ mostOperands) && decide (meth.sig.returnType = rt) && !meth.locks && decide (parseMethodDescriptor y.desc = some meth.sig)) = true) : (Jvm.Cond.code y bytes mx rt).before a s = true := by
  simp only [Bool.and_eq_true, beq_iff_eq, Bool.not_eq_true', decide_eq_true_eq] at h5
  obtain ⟨⟨⟨⟨⟨g1, g2⟩, g3⟩, g4⟩, g5⟩, g6⟩ := h5
  simp [Cond.before, Cond.holds, Cond.value, h1, h2, h3, h4, g1, g2, g3, g4, g5, g6]
def isCode : Jvm.Cond → Bool
  | .code _ _ _ _ => true
  | _ => false
theorem all_split {L : List Jvm.Cond} {P : Jvm.Cond → Bool} (h1 : L.all (fun c => isCode c || P c) = true) (h2 : ∀ c ∈ L.filter isCode, P c = true) : L.all P = true := by
  refine List.all_eq_true.mpr fun c hc => ?_
  have h := List.all_eq_true.mp h1 c hc
  rcases Bool.eq_false_or_eq_true (isCode c) with hi | hi
  · exact h2 c (List.mem_filter.mpr ⟨hc, hi⟩)
  · simpa [hi] using h
set_option maxRecDepth 65536 in
theorem w_c0 : (Jvm.Cond.code x code maxLocals ret).before args0 about1 = true := code_word (m := ⟨1, 2⟩) (meth := k1m2) (c := k1c2) (by decide +kernel) rfl rfl rfl (by decide +kernel)
set_option maxRecDepth 65536 in
theorem w_c1 : (Jvm.Cond.code ({ cls := "com/example/colonwise/colonwise/model/BencodeInteger", name := "of", desc := "(J)Lcom/example/colonwise/colonwise/model/BencodeInteger;" } : Jvm.MethodName) prog_28_method_2_code (2 : Nat) (Option.some (Jvm.ClassFile.FieldType.object "com/example/colonwise/colonwise/model/BencodeInteger"))).before args0 about1 = true := code_word (m := ⟨3, 1⟩) (meth := k3m1) (c := k3c1) (by decide +kernel) rfl rfl rfl (by decide +kernel)
set_option maxRecDepth 65536 in
theorem w_c2 : (Jvm.Cond.code ({ cls := "com/example/colonwise/colonwise/model/BencodeInteger", name := "<init>", desc := "(JZLjava/math/BigInteger;Ljava/lang/String;)V" } : Jvm.MethodName) prog_28_method_1_code (6 : Nat) (Option.none : Option Jvm.ClassFile.FieldType)).before args0 about1 = true := code_word (m := ⟨3, 0⟩) (meth := k3m0) (c := k3c0) (by decide +kernel) rfl rfl rfl (by decide +kernel)
set_option maxRecDepth 65536 in
theorem w_c3 : (Jvm.Cond.code ({ cls := "java/lang/Object", name := "<init>", desc := "()V" } : Jvm.MethodName) object_method_1_code (1 : Nat) (Option.none : Option Jvm.ClassFile.FieldType)).before args0 about1 = true := code_word (m := ⟨0, 0⟩) (meth := k0m0) (c := k0c0) (by decide +kernel) rfl rfl rfl (by decide +kernel)
set_option maxRecDepth 65536 in
theorem w_c4 : (Jvm.Cond.code ({ cls := "com/example/colonwise/colonwise/model/BencodeInteger", name := "fitsInLong", desc := "()Z" } : Jvm.MethodName) prog_28_method_6_code (1 : Nat) (Option.some Jvm.ClassFile.FieldType.boolean)).before args0 about1 = true := code_word (m := ⟨3, 2⟩) (meth := k3m2) (c := k3c2) (by decide +kernel) rfl rfl rfl (by decide +kernel)
set_option maxRecDepth 65536 in
theorem w_c5 : (Jvm.Cond.code ({ cls := "com/example/colonwise/colonwise/model/BencodeInteger", name := "longValue", desc := "()J" } : Jvm.MethodName) prog_28_method_7_code (1 : Nat) (Option.some Jvm.ClassFile.FieldType.long)).before args0 about1 = true := code_word (m := ⟨3, 3⟩) (meth := k3m3) (c := k3c3) (by decide +kernel) rfl rfl rfl (by decide +kernel)
set_option maxRecDepth 65536 in
theorem w_c6 : (Jvm.Cond.code ({ cls := "com/example/colonwise/colonwise/model/BencodeInteger", name := "equals", desc := "(Ljava/lang/Object;)Z" } : Jvm.MethodName) prog_28_method_11_code (4 : Nat) (Option.some Jvm.ClassFile.FieldType.boolean)).before args0 about1 = true := code_word (m := ⟨3, 6⟩) (meth := k3m6) (c := k3c6) (by decide +kernel) rfl rfl rfl (by decide +kernel)
set_option maxRecDepth 65536 in
theorem w_c7 : (Jvm.Cond.code ({ cls := "com/example/colonwise/colonwise/model/BencodeInteger", name := "hashCode", desc := "()I" } : Jvm.MethodName) prog_28_method_12_code (1 : Nat) (Option.some Jvm.ClassFile.FieldType.int)).before args0 about1 = true := code_word (m := ⟨3, 7⟩) (meth := k3m7) (c := k3c7) (by decide +kernel) rfl rfl rfl (by decide +kernel)
set_option maxRecDepth 65536 in
theorem w_c8 : (Jvm.Cond.code ({ cls := "java/lang/Long", name := "hashCode", desc := "(J)I" } : Jvm.MethodName) jdk_35_method_36_code (2 : Nat) (Option.some Jvm.ClassFile.FieldType.int)).before args0 about1 = true := code_word (m := ⟨9, 3⟩) (meth := k9m3) (c := k9c3) (by decide +kernel) rfl rfl rfl (by decide +kernel)
set_option maxRecDepth 65536 in
theorem w_c9 : (Jvm.Cond.code ({ cls := "com/example/colonwise/colonwise/model/BencodeIntegerOfPinLaw", name := "decimalLength", desc := "(J)I" } : Jvm.MethodName) method_2_code (5 : Nat) (Option.some Jvm.ClassFile.FieldType.int)).before args0 about1 = true := code_word (m := ⟨1, 1⟩) (meth := k1m1) (c := k1c1) (by decide +kernel) rfl rfl rfl (by decide +kernel)
set_option maxRecDepth 65536 in
theorem w_c10 : (Jvm.Cond.code ({ cls := "com/example/colonwise/colonwise/model/BencodeInteger", name := "encodedLength", desc := "()J" } : Jvm.MethodName) prog_28_method_9_code (2 : Nat) (Option.some Jvm.ClassFile.FieldType.long)).before args0 about1 = true := code_word (m := ⟨3, 4⟩) (meth := k3m4) (c := k3c4) (by decide +kernel) rfl rfl rfl (by decide +kernel)
set_option maxRecDepth 65536 in
theorem w_c11 : (Jvm.Cond.code ({ cls := "com/example/colonwise/colonwise/model/BencodeInteger", name := "textLength", desc := "(J)I" } : Jvm.MethodName) prog_28_method_10_code (7 : Nat) (Option.some Jvm.ClassFile.FieldType.int)).before args0 about1 = true := code_word (m := ⟨3, 5⟩) (meth := k3m5) (c := k3c5) (by decide +kernel) rfl rfl rfl (by decide +kernel)
set_option maxRecDepth 65536 in
theorem w_c12 : (Jvm.Cond.code ({ cls := "com/example/colonwise/colonwise/model/BencodeInteger", name := "toString", desc := "()Ljava/lang/String;" } : Jvm.MethodName) prog_28_method_13_code (1 : Nat) (Option.some (Jvm.ClassFile.FieldType.object "java/lang/String"))).before args0 about1 = true := code_word (m := ⟨3, 8⟩) (meth := k3m8) (c := k3c8) (by decide +kernel) rfl rfl rfl (by decide +kernel)
set_option maxRecDepth 65536 in
theorem w_c13 : (Jvm.Cond.code ({ cls := "com/example/colonwise/colonwise/model/BencodeInteger", name := "decimal", desc := "()Ljava/lang/String;" } : Jvm.MethodName) prog_28_method_14_code (2 : Nat) (Option.some (Jvm.ClassFile.FieldType.object "java/lang/String"))).before args0 about1 = true := code_word (m := ⟨3, 9⟩) (meth := k3m9) (c := k3c9) (by decide +kernel) rfl rfl rfl (by decide +kernel)
set_option maxRecDepth 65536 in
theorem w_c14 : (Jvm.Cond.code ({ cls := "java/lang/Long", name := "toString", desc := "(J)Ljava/lang/String;" } : Jvm.MethodName) jdk_35_method_12_code (4 : Nat) (Option.some (Jvm.ClassFile.FieldType.object "java/lang/String"))).before args0 about1 = true := code_word (m := ⟨9, 0⟩) (meth := k9m0) (c := k9c0) (by decide +kernel) rfl rfl rfl (by decide +kernel)
set_option maxRecDepth 65536 in
theorem w_c15 : (Jvm.Cond.code ({ cls := "java/lang/Long", name := "stringSize", desc := "(J)I" } : Jvm.MethodName) jdk_35_method_15_code (6 : Nat) (Option.some Jvm.ClassFile.FieldType.int)).before args0 about1 = true := code_word (m := ⟨9, 2⟩) (meth := k9m2) (c := k9c2) (by decide +kernel) rfl rfl rfl (by decide +kernel)
set_option maxRecDepth 65536 in
theorem w_c16 : (Jvm.Cond.code ({ cls := "java/lang/Long", name := "getChars", desc := "(JI[B)I" } : Jvm.MethodName) jdk_35_method_14_code (11 : Nat) (Option.some Jvm.ClassFile.FieldType.int)).before args0 about1 = true := code_word (m := ⟨9, 1⟩) (meth := k9m1) (c := k9c1) (by decide +kernel) rfl rfl rfl (by decide +kernel)
set_option maxRecDepth 65536 in
theorem w_c17 : (Jvm.Cond.code ({ cls := "java/lang/String", name := "<init>", desc := "([BB)V" } : Jvm.MethodName) jdk_42_method_151_code (3 : Nat) (Option.none : Option Jvm.ClassFile.FieldType)).before args0 about1 = true := code_word (m := ⟨11, 3⟩) (meth := k11m3) (c := k11c3) (by decide +kernel) rfl rfl rfl (by decide +kernel)
set_option maxRecDepth 65536 in
theorem w_c18 : (Jvm.Cond.code ({ cls := "java/lang/String", name := "length", desc := "()I" } : Jvm.MethodName) jdk_42_method_54_code (1 : Nat) (Option.some Jvm.ClassFile.FieldType.int)).before args0 about1 = true := code_word (m := ⟨11, 1⟩) (meth := k11m1) (c := k11c1) (by decide +kernel) rfl rfl rfl (by decide +kernel)
set_option maxRecDepth 65536 in
theorem w_c19 : (Jvm.Cond.code ({ cls := "java/lang/String", name := "coder", desc := "()B" } : Jvm.MethodName) jdk_42_method_152_code (1 : Nat) (Option.some Jvm.ClassFile.FieldType.byte)).before args0 about1 = true := code_word (m := ⟨11, 4⟩) (meth := k11m4) (c := k11c4) (by decide +kernel) rfl rfl rfl (by decide +kernel)
set_option maxRecDepth 65536 in
theorem w_c20 : (Jvm.Cond.code ({ cls := "java/lang/String", name := "charAt", desc := "(I)C" } : Jvm.MethodName) jdk_42_method_56_code (2 : Nat) (Option.some Jvm.ClassFile.FieldType.char)).before args0 about1 = true := code_word (m := ⟨11, 2⟩) (meth := k11m2) (c := k11c2) (by decide +kernel) rfl rfl rfl (by decide +kernel)
set_option maxRecDepth 65536 in
theorem w_c21 : (Jvm.Cond.code ({ cls := "java/lang/String", name := "isLatin1", desc := "()Z" } : Jvm.MethodName) jdk_42_method_154_code (1 : Nat) (Option.some Jvm.ClassFile.FieldType.boolean)).before args0 about1 = true := code_word (m := ⟨11, 5⟩) (meth := k11m5) (c := k11c5) (by decide +kernel) rfl rfl rfl (by decide +kernel)
set_option maxRecDepth 65536 in
theorem w_c22 : (Jvm.Cond.code ({ cls := "java/lang/StringLatin1", name := "charAt", desc := "([BI)C" } : Jvm.MethodName) jdk_43_method_2_code (2 : Nat) (Option.some Jvm.ClassFile.FieldType.char)).before args0 about1 = true := code_word (m := ⟨13, 1⟩) (meth := k13m1) (c := k13c1) (by decide +kernel) rfl rfl rfl (by decide +kernel)
set_option maxRecDepth 65536 in
theorem w_c23 : (Jvm.Cond.code ({ cls := "java/lang/String", name := "checkIndex", desc := "(II)V" } : Jvm.MethodName) jdk_42_method_155_code (2 : Nat) (Option.none : Option Jvm.ClassFile.FieldType)).before args0 about1 = true := code_word (m := ⟨11, 6⟩) (meth := k11m6) (c := k11c6) (by decide +kernel) rfl rfl rfl (by decide +kernel)
set_option maxRecDepth 65536 in
theorem w_c24 : (Jvm.Cond.code ({ cls := "jdk/internal/util/Preconditions", name := "checkIndex", desc := "(IILjava/util/function/BiFunction;)I" } : Jvm.MethodName) jdk_41_method_11_code (3 : Nat) (Option.some Jvm.ClassFile.FieldType.int)).before args0 about1 = true := code_word (m := ⟨14, 1⟩) (meth := k14m1) (c := k14c1) (by decide +kernel) rfl rfl rfl (by decide +kernel)
set_option maxRecDepth 65536 in
theorem w_c25 : (Jvm.Cond.code ({ cls := "java/lang/Math", name := "abs", desc := "(J)J" } : Jvm.MethodName) jdk_29_method_61_code (2 : Nat) (Option.some Jvm.ClassFile.FieldType.long)).before args0 about1 = true := code_word (m := ⟨15, 1⟩) (meth := k15m1) (c := k15c1) (by decide +kernel) rfl rfl rfl (by decide +kernel)
def codes1 : List Jvm.Cond := [Jvm.Cond.code x code maxLocals ret, Jvm.Cond.code ({ cls := "com/example/colonwise/colonwise/model/BencodeInteger", name := "of", desc := "(J)Lcom/example/colonwise/colonwise/model/BencodeInteger;" } : Jvm.MethodName) prog_28_method_2_code (2 : Nat) (Option.some (Jvm.ClassFile.FieldType.object "com/example/colonwise/colonwise/model/BencodeInteger")), Jvm.Cond.code ({ cls := "com/example/colonwise/colonwise/model/BencodeInteger", name := "<init>", desc := "(JZLjava/math/BigInteger;Ljava/lang/String;)V" } : Jvm.MethodName) prog_28_method_1_code (6 : Nat) (Option.none : Option Jvm.ClassFile.FieldType), Jvm.Cond.code ({ cls := "java/lang/Object", name := "<init>", desc := "()V" } : Jvm.MethodName) object_method_1_code (1 : Nat) (Option.none : Option Jvm.ClassFile.FieldType), Jvm.Cond.code ({ cls := "com/example/colonwise/colonwise/model/BencodeInteger", name := "fitsInLong", desc := "()Z" } : Jvm.MethodName) prog_28_method_6_code (1 : Nat) (Option.some Jvm.ClassFile.FieldType.boolean), Jvm.Cond.code ({ cls := "com/example/colonwise/colonwise/model/BencodeInteger", name := "longValue", desc := "()J" } : Jvm.MethodName) prog_28_method_7_code (1 : Nat) (Option.some Jvm.ClassFile.FieldType.long), Jvm.Cond.code ({ cls := "com/example/colonwise/colonwise/model/BencodeInteger", name := "equals", desc := "(Ljava/lang/Object;)Z" } : Jvm.MethodName) prog_28_method_11_code (4 : Nat) (Option.some Jvm.ClassFile.FieldType.boolean), Jvm.Cond.code ({ cls := "com/example/colonwise/colonwise/model/BencodeInteger", name := "hashCode", desc := "()I" } : Jvm.MethodName) prog_28_method_12_code (1 : Nat) (Option.some Jvm.ClassFile.FieldType.int), Jvm.Cond.code ({ cls := "java/lang/Long", name := "hashCode", desc := "(J)I" } : Jvm.MethodName) jdk_35_method_36_code (2 : Nat) (Option.some Jvm.ClassFile.FieldType.int), Jvm.Cond.code ({ cls := "com/example/colonwise/colonwise/model/BencodeIntegerOfPinLaw", name := "decimalLength", desc := "(J)I" } : Jvm.MethodName) method_2_code (5 : Nat) (Option.some Jvm.ClassFile.FieldType.int), Jvm.Cond.code ({ cls := "com/example/colonwise/colonwise/model/BencodeInteger", name := "encodedLength", desc := "()J" } : Jvm.MethodName) prog_28_method_9_code (2 : Nat) (Option.some Jvm.ClassFile.FieldType.long), Jvm.Cond.code ({ cls := "com/example/colonwise/colonwise/model/BencodeInteger", name := "textLength", desc := "(J)I" } : Jvm.MethodName) prog_28_method_10_code (7 : Nat) (Option.some Jvm.ClassFile.FieldType.int), Jvm.Cond.code ({ cls := "com/example/colonwise/colonwise/model/BencodeInteger", name := "toString", desc := "()Ljava/lang/String;" } : Jvm.MethodName) prog_28_method_13_code (1 : Nat) (Option.some (Jvm.ClassFile.FieldType.object "java/lang/String")), Jvm.Cond.code ({ cls := "com/example/colonwise/colonwise/model/BencodeInteger", name := "decimal", desc := "()Ljava/lang/String;" } : Jvm.MethodName) prog_28_method_14_code (2 : Nat) (Option.some (Jvm.ClassFile.FieldType.object "java/lang/String")), Jvm.Cond.code ({ cls := "java/lang/Long", name := "toString", desc := "(J)Ljava/lang/String;" } : Jvm.MethodName) jdk_35_method_12_code (4 : Nat) (Option.some (Jvm.ClassFile.FieldType.object "java/lang/String")), Jvm.Cond.code ({ cls := "java/lang/Long", name := "stringSize", desc := "(J)I" } : Jvm.MethodName) jdk_35_method_15_code (6 : Nat) (Option.some Jvm.ClassFile.FieldType.int), Jvm.Cond.code ({ cls := "java/lang/Long", name := "getChars", desc := "(JI[B)I" } : Jvm.MethodName) jdk_35_method_14_code (11 : Nat) (Option.some Jvm.ClassFile.FieldType.int), Jvm.Cond.code ({ cls := "java/lang/String", name := "<init>", desc := "([BB)V" } : Jvm.MethodName) jdk_42_method_151_code (3 : Nat) (Option.none : Option Jvm.ClassFile.FieldType), Jvm.Cond.code ({ cls := "java/lang/String", name := "length", desc := "()I" } : Jvm.MethodName) jdk_42_method_54_code (1 : Nat) (Option.some Jvm.ClassFile.FieldType.int), Jvm.Cond.code ({ cls := "java/lang/String", name := "coder", desc := "()B" } : Jvm.MethodName) jdk_42_method_152_code (1 : Nat) (Option.some Jvm.ClassFile.FieldType.byte), Jvm.Cond.code ({ cls := "java/lang/String", name := "charAt", desc := "(I)C" } : Jvm.MethodName) jdk_42_method_56_code (2 : Nat) (Option.some Jvm.ClassFile.FieldType.char), Jvm.Cond.code ({ cls := "java/lang/String", name := "isLatin1", desc := "()Z" } : Jvm.MethodName) jdk_42_method_154_code (1 : Nat) (Option.some Jvm.ClassFile.FieldType.boolean), Jvm.Cond.code ({ cls := "java/lang/StringLatin1", name := "charAt", desc := "([BI)C" } : Jvm.MethodName) jdk_43_method_2_code (2 : Nat) (Option.some Jvm.ClassFile.FieldType.char), Jvm.Cond.code ({ cls := "java/lang/String", name := "checkIndex", desc := "(II)V" } : Jvm.MethodName) jdk_42_method_155_code (2 : Nat) (Option.none : Option Jvm.ClassFile.FieldType), Jvm.Cond.code ({ cls := "jdk/internal/util/Preconditions", name := "checkIndex", desc := "(IILjava/util/function/BiFunction;)I" } : Jvm.MethodName) jdk_41_method_11_code (3 : Nat) (Option.some Jvm.ClassFile.FieldType.int), Jvm.Cond.code ({ cls := "java/lang/Math", name := "abs", desc := "(J)J" } : Jvm.MethodName) jdk_29_method_61_code (2 : Nat) (Option.some Jvm.ClassFile.FieldType.long)]
set_option maxRecDepth 65536 in
theorem codes_eq : words1.filter isCode = codes1 := rfl
theorem w_codes : ∀ c ∈ words1.filter isCode, c.before args0 about1 = true := by
  rw [codes_eq]
  intro c hc
  simp only [codes1, List.mem_cons, List.not_mem_nil, or_false] at hc
  rcases hc with rfl | rfl | rfl | rfl | rfl | rfl | rfl | rfl | rfl | rfl | rfl | rfl | rfl | rfl | rfl | rfl | rfl | rfl | rfl | rfl | rfl | rfl | rfl | rfl | rfl | rfl
  · exact w_c0
  · exact w_c1
  · exact w_c2
  · exact w_c3
  · exact w_c4
  · exact w_c5
  · exact w_c6
  · exact w_c7
  · exact w_c8
  · exact w_c9
  · exact w_c10
  · exact w_c11
  · exact w_c12
  · exact w_c13
  · exact w_c14
  · exact w_c15
  · exact w_c16
  · exact w_c17
  · exact w_c18
  · exact w_c19
  · exact w_c20
  · exact w_c21
  · exact w_c22
  · exact w_c23
  · exact w_c24
  · exact w_c25
set_option maxRecDepth 65536 in
theorem w_t1 : (words1.take 24).all (fun c => isCode c || c.before args0 about1) = true := by decide +kernel
set_option maxRecDepth 65536 in
theorem w_t2 : ((words1.drop 24).take 24).all (fun c => isCode c || c.before args0 about1) = true := by decide +kernel
set_option maxRecDepth 65536 in
theorem w_t3 : (((words1.drop 24).drop 24).take 24).all (fun c => isCode c || c.before args0 about1) = true := by decide +kernel
set_option maxRecDepth 65536 in
theorem w_t4 : ((((words1.drop 24).drop 24).drop 24).take 24).all (fun c => isCode c || c.before args0 about1) = true := by decide +kernel
set_option maxRecDepth 65536 in
theorem w_t5 : (((((words1.drop 24).drop 24).drop 24).drop 24).take 24).all (fun c => isCode c || c.before args0 about1) = true := by decide +kernel
set_option maxRecDepth 65536 in
theorem w_t6 : ((((((words1.drop 24).drop 24).drop 24).drop 24).drop 24).take 24).all (fun c => isCode c || c.before args0 about1) = true := by decide +kernel
set_option maxRecDepth 65536 in
theorem w_t7 : ((((((words1.drop 24).drop 24).drop 24).drop 24).drop 24).drop 24).all (fun c => isCode c || c.before args0 about1) = true := by decide +kernel
theorem w_tables : (allAtoms (Jvm.Cond.code x code maxLocals ret :: tables_1)).before args0 about1 = true := by
  rw [allAtoms_all]
  show words1.all (fun c => c.before args0 about1) = true
  refine all_split ?_ w_codes
  rw [← List.take_append_drop 24 words1, List.all_append, w_t1, ← List.take_append_drop 24 (words1.drop 24), List.all_append, w_t2, ← List.take_append_drop 24 ((words1.drop 24).drop 24), List.all_append, w_t3, ← List.take_append_drop 24 (((words1.drop 24).drop 24).drop 24), List.all_append, w_t4, ← List.take_append_drop 24 ((((words1.drop 24).drop 24).drop 24).drop 24), List.all_append, w_t5, ← List.take_append_drop 24 (((((words1.drop 24).drop 24).drop 24).drop 24).drop 24), List.all_append, w_t6, w_t7]
  rfl
set_option maxRecDepth 65536 in
theorem w_rest : rest_1_c.before args0 about1 = true := by decide +kernel
set_option maxRecDepth 65536 in
theorem w_case : (Jvm.Cond.and given_1 narrow_1).before args0 about1 = true := by decide +kernel
theorem w_applies : (headSpec (Jvm.Cond.code x code maxLocals ret :: tables_1) room_1).applies x e0.platform about1 = true :=
  (Spec.applies_iff w_frames).mpr ⟨w_running, w_runnable, w_alone, w_named, w_hears, w_ripe, w_room, w_tables⟩
theorem atStart : AtStart classFile x code maxLocals ret World_1 tables_1 room_1 Calls_1 rest_1 Pre_1 launch0 p0 e0 about1 theMethod args0 below0 :=
  ⟨lists_1, trivial, launch0.admits_env _ _ _, launch0.least_env, fairChoices_fair.cas, fairChoices_fair.clock, w_frames, w_args, w_heap, w_applies, trivial, w_rest, w_case⟩
end start1
theorem witness_1 : WitnessClaimed_1 := ⟨start1.p0, start1.e0, start1.about1, start1.theMethod, start1.args0, start1.below0, start1.atStart⟩
end Jvm.Pilot.@@N@@
