import JvmDerived
import JvmDerived.Pilot.@@N@@Statement
import JvmDerived.Pilot.@@N@@Code
set_option linter.unusedVariables false
set_option linter.unusedSimpArgs false
namespace Jvm.Pilot.@@N@@
open Jvm Jvm.ClassFile Sem Op Lib Jvm.Free Jvm.Stand Jvm.LawKit Jvm.RoadKit Bundle Jvm.Pilot.@@N@@.Jvm.D
section OwnKit
variable {p : Program} {l : Launch} {e : Env} {R : Room} {s : State} {m : MethodId} {args : Array Value} {below : List Frame} {meth : Method} {c : Code} {T : State} {locs : List Loc} {cells slots : Nat} {P : State → Outcome → Prop} {pc : Nat} {Ls : Array Slot} {st : List Value} {Z : State} {a0 : Array Value} {h : Heap} {own : String} {index : Nat}
/-- what is still owed from a state on -/
def Go (p : Program) (e : Env) (below : List Frame) (P : State → Outcome → Prop) (S : State) : Prop := ∃ s₂ o, Steps p.tables e below S s₂ ∧ s₂.status = .running ∧ Ended s₂ below o ∧ P s₂ o
theorem Go.by {S S' : State} (st : ∀ t, Steps p.tables e below S' t → Steps p.tables e below S t) (k : Go p e below P S') : Go p e below P S := by
  obtain ⟨a, b, h1, h2⟩ := k
  exact ⟨a, b, st _ h1, h2⟩
def Ret (s : State) (Q : Option Value → Heap → List Loc → Prop) (C N : Nat) (s₂ : State) (o : Outcome) : Prop := ∃ v L, o = .returned v ∧ Q v s₂.heap L ∧ FrameEnd s o s₂ L C N

theorem g_iloadN (X : Stand p l e R s m args below meth c T locs cells slots) (hx : p.tables.exec = Jvm.exec) {k : Fin 4} {v : Int32} (hd : decode c.code pc = .ok (.iload_n k, 1)) (hl : Ls[k.val]? = some (.val (.int v))) (q : Go p e below P (T.setTop (mkF m (pc + 1) Ls (.int v :: st)))) : Go p e below P (T.setTop (mkF m pc Ls st)) := q.by fun t r => XS.iloadN X.here hx rfl hd hl r
theorem g_iload (X : Stand p l e R s m args below meth c T locs cells slots) (hx : p.tables.exec = Jvm.exec) {k : Nat} {v : Int32} (hd : decode c.code pc = .ok (.iload k, 2)) (hl : Ls[k]? = some (.val (.int v))) (q : Go p e below P (T.setTop (mkF m (pc + 2) Ls (.int v :: st)))) : Go p e below P (T.setTop (mkF m pc Ls st)) := q.by fun t r => XS.iload X.here hx rfl hd hl r
theorem g_lloadN (X : Stand p l e R s m args below meth c T locs cells slots) (hx : p.tables.exec = Jvm.exec) {k : Fin 4} {v : Int64} (hd : decode c.code pc = .ok (.lload_n k, 1)) (hl : Ls[k.val]? = some (.val (.long v))) (q : Go p e below P (T.setTop (mkF m (pc + 1) Ls (.long v :: st)))) : Go p e below P (T.setTop (mkF m pc Ls st)) := q.by fun t r => XS.lloadN X.here hx rfl hd hl r
theorem g_lload (X : Stand p l e R s m args below meth c T locs cells slots) (hx : p.tables.exec = Jvm.exec) {k : Nat} {v : Int64} (hd : decode c.code pc = .ok (.lload k, 2)) (hl : Ls[k]? = some (.val (.long v))) (q : Go p e below P (T.setTop (mkF m (pc + 2) Ls (.long v :: st)))) : Go p e below P (T.setTop (mkF m pc Ls st)) := q.by fun t r => XS.lload X.here hx rfl hd hl r
theorem g_dloadN (X : Stand p l e R s m args below meth c T locs cells slots) (hx : p.tables.exec = Jvm.exec) {k : Fin 4} {v : UInt64} (hd : decode c.code pc = .ok (.dload_n k, 1)) (hl : Ls[k.val]? = some (.val (.double v))) (q : Go p e below P (T.setTop (mkF m (pc + 1) Ls (.double v :: st)))) : Go p e below P (T.setTop (mkF m pc Ls st)) := q.by fun t r => XS.dloadN X.here hx rfl hd hl r
theorem g_dload (X : Stand p l e R s m args below meth c T locs cells slots) (hx : p.tables.exec = Jvm.exec) {k : Nat} {v : UInt64} (hd : decode c.code pc = .ok (.dload k, 2)) (hl : Ls[k]? = some (.val (.double v))) (q : Go p e below P (T.setTop (mkF m (pc + 2) Ls (.double v :: st)))) : Go p e below P (T.setTop (mkF m pc Ls st)) := q.by fun t r => XS.dload X.here hx rfl hd hl r
theorem g_floadN (X : Stand p l e R s m args below meth c T locs cells slots) (hx : p.tables.exec = Jvm.exec) {k : Fin 4} {v : UInt32} (hd : decode c.code pc = .ok (.fload_n k, 1)) (hl : Ls[k.val]? = some (.val (.float v))) (q : Go p e below P (T.setTop (mkF m (pc + 1) Ls (.float v :: st)))) : Go p e below P (T.setTop (mkF m pc Ls st)) := q.by fun t r => XS.floadN X.here hx rfl hd hl r
theorem g_fload (X : Stand p l e R s m args below meth c T locs cells slots) (hx : p.tables.exec = Jvm.exec) {k : Nat} {v : UInt32} (hd : decode c.code pc = .ok (.fload k, 2)) (hl : Ls[k]? = some (.val (.float v))) (q : Go p e below P (T.setTop (mkF m (pc + 2) Ls (.float v :: st)))) : Go p e below P (T.setTop (mkF m pc Ls st)) := q.by fun t r => XS.fload X.here hx rfl hd hl r
theorem g_aloadN (X : Stand p l e R s m args below meth c T locs cells slots) (hx : p.tables.exec = Jvm.exec) {k : Fin 4} {v : Value} (hd : decode c.code pc = .ok (.aload_n k, 1)) (hl : Ls[k.val]? = some (.val v)) (hv : v.isRef = true) (q : Go p e below P (T.setTop (mkF m (pc + 1) Ls (v :: st)))) : Go p e below P (T.setTop (mkF m pc Ls st)) := q.by fun t r => XS.aloadN X.here hx rfl hd hl hv r
theorem g_aload (X : Stand p l e R s m args below meth c T locs cells slots) (hx : p.tables.exec = Jvm.exec) {k : Nat} {v : Value} (hd : decode c.code pc = .ok (.aload k, 2)) (hl : Ls[k]? = some (.val v)) (hv : v.isRef = true) (q : Go p e below P (T.setTop (mkF m (pc + 2) Ls (v :: st)))) : Go p e below P (T.setTop (mkF m pc Ls st)) := q.by fun t r => XS.aload X.here hx rfl hd hl hv r
theorem g_istoreN (X : Stand p l e R s m args below meth c T locs cells slots) (hx : p.tables.exec = Jvm.exec) {k : Fin 4} {v : Int32} {L' : Array Slot} (hd : decode c.code pc = .ok (.istore_n k, 1)) (hl : storeLocals Ls k.val (.int v) = some L') (q : Go p e below P (T.setTop (mkF m (pc + 1) L' st))) : Go p e below P (T.setTop (mkF m pc Ls (.int v :: st))) := q.by fun t r => XS.istoreN X.here hx rfl hd rfl hl r
theorem g_istore (X : Stand p l e R s m args below meth c T locs cells slots) (hx : p.tables.exec = Jvm.exec) {k : Nat} {v : Int32} {L' : Array Slot} (hd : decode c.code pc = .ok (.istore k, 2)) (hl : storeLocals Ls k (.int v) = some L') (q : Go p e below P (T.setTop (mkF m (pc + 2) L' st))) : Go p e below P (T.setTop (mkF m pc Ls (.int v :: st))) := q.by fun t r => XS.istore X.here hx rfl hd rfl hl r
theorem g_lstoreN (X : Stand p l e R s m args below meth c T locs cells slots) (hx : p.tables.exec = Jvm.exec) {k : Fin 4} {v : Int64} {L' : Array Slot} (hd : decode c.code pc = .ok (.lstore_n k, 1)) (hl : storeLocals Ls k.val (.long v) = some L') (q : Go p e below P (T.setTop (mkF m (pc + 1) L' st))) : Go p e below P (T.setTop (mkF m pc Ls (.long v :: st))) := q.by fun t r => XS.lstoreN X.here hx rfl hd rfl hl r
theorem g_lstore (X : Stand p l e R s m args below meth c T locs cells slots) (hx : p.tables.exec = Jvm.exec) {k : Nat} {v : Int64} {L' : Array Slot} (hd : decode c.code pc = .ok (.lstore k, 2)) (hl : storeLocals Ls k (.long v) = some L') (q : Go p e below P (T.setTop (mkF m (pc + 2) L' st))) : Go p e below P (T.setTop (mkF m pc Ls (.long v :: st))) := q.by fun t r => XS.lstore X.here hx rfl hd rfl hl r
theorem g_dstoreN (X : Stand p l e R s m args below meth c T locs cells slots) (hx : p.tables.exec = Jvm.exec) {k : Fin 4} {v : UInt64} {L' : Array Slot} (hd : decode c.code pc = .ok (.dstore_n k, 1)) (hl : storeLocals Ls k.val (.double v) = some L') (q : Go p e below P (T.setTop (mkF m (pc + 1) L' st))) : Go p e below P (T.setTop (mkF m pc Ls (.double v :: st))) := q.by fun t r => XS.dstoreN X.here hx rfl hd rfl hl r
theorem g_dstore (X : Stand p l e R s m args below meth c T locs cells slots) (hx : p.tables.exec = Jvm.exec) {k : Nat} {v : UInt64} {L' : Array Slot} (hd : decode c.code pc = .ok (.dstore k, 2)) (hl : storeLocals Ls k (.double v) = some L') (q : Go p e below P (T.setTop (mkF m (pc + 2) L' st))) : Go p e below P (T.setTop (mkF m pc Ls (.double v :: st))) := q.by fun t r => XS.dstore X.here hx rfl hd rfl hl r
theorem g_fstoreN (X : Stand p l e R s m args below meth c T locs cells slots) (hx : p.tables.exec = Jvm.exec) {k : Fin 4} {v : UInt32} {L' : Array Slot} (hd : decode c.code pc = .ok (.fstore_n k, 1)) (hl : storeLocals Ls k.val (.float v) = some L') (q : Go p e below P (T.setTop (mkF m (pc + 1) L' st))) : Go p e below P (T.setTop (mkF m pc Ls (.float v :: st))) := q.by fun t r => XS.fstoreN X.here hx rfl hd rfl hl r
theorem g_fstore (X : Stand p l e R s m args below meth c T locs cells slots) (hx : p.tables.exec = Jvm.exec) {k : Nat} {v : UInt32} {L' : Array Slot} (hd : decode c.code pc = .ok (.fstore k, 2)) (hl : storeLocals Ls k (.float v) = some L') (q : Go p e below P (T.setTop (mkF m (pc + 2) L' st))) : Go p e below P (T.setTop (mkF m pc Ls (.float v :: st))) := q.by fun t r => XS.fstore X.here hx rfl hd rfl hl r
theorem g_astoreN (X : Stand p l e R s m args below meth c T locs cells slots) (hx : p.tables.exec = Jvm.exec) {k : Fin 4} {v : Value} {L' : Array Slot} (hd : decode c.code pc = .ok (.astore_n k, 1)) (hv : v.isRef = true) (hl : storeLocals Ls k.val v = some L') (q : Go p e below P (T.setTop (mkF m (pc + 1) L' st))) : Go p e below P (T.setTop (mkF m pc Ls (v :: st))) := q.by fun t r => XS.astoreN X.here hx rfl hd rfl hv hl r
theorem g_astore (X : Stand p l e R s m args below meth c T locs cells slots) (hx : p.tables.exec = Jvm.exec) {k : Nat} {v : Value} {L' : Array Slot} (hd : decode c.code pc = .ok (.astore k, 2)) (hv : v.isRef = true) (hl : storeLocals Ls k v = some L') (q : Go p e below P (T.setTop (mkF m (pc + 2) L' st))) : Go p e below P (T.setTop (mkF m pc Ls (v :: st))) := q.by fun t r => XS.astore X.here hx rfl hd rfl hv hl r
theorem g_iconst (X : Stand p l e R s m args below meth c T locs cells slots) (hx : p.tables.exec = Jvm.exec) {i : Int} {v : Int32} (hd : decode c.code pc = .ok (.iconst i, 1)) (hv : Int32.ofInt i = v) (q : Go p e below P (T.setTop (mkF m (pc + 1) Ls (.int v :: st)))) : Go p e below P (T.setTop (mkF m pc Ls st)) := q.by fun t r => XS.iconst X.here hx rfl hd (hv ▸ r)
theorem g_bipush (X : Stand p l e R s m args below meth c T locs cells slots) (hx : p.tables.exec = Jvm.exec) {i : Int} {v : Int32} (hd : decode c.code pc = .ok (.bipush i, 2)) (hv : (Int8.ofInt i).toInt32 = v) (q : Go p e below P (T.setTop (mkF m (pc + 2) Ls (.int v :: st)))) : Go p e below P (T.setTop (mkF m pc Ls st)) := q.by fun t r => XS.bipush X.here hx rfl hd (hv ▸ r)
theorem g_sipush (X : Stand p l e R s m args below meth c T locs cells slots) (hx : p.tables.exec = Jvm.exec) {i : Int} {v : Int32} (hd : decode c.code pc = .ok (.sipush i, 3)) (hv : (Int16.ofInt i).toInt32 = v) (q : Go p e below P (T.setTop (mkF m (pc + 3) Ls (.int v :: st)))) : Go p e below P (T.setTop (mkF m pc Ls st)) := q.by fun t r => XS.sipush X.here hx rfl hd (hv ▸ r)
theorem g_lconst0 (X : Stand p l e R s m args below meth c T locs cells slots) (hx : p.tables.exec = Jvm.exec)  (hd : decode c.code pc = .ok (.lconst 0, 1))  (q : Go p e below P (T.setTop (mkF m (pc + 1) Ls (.long 0 :: st)))) : Go p e below P (T.setTop (mkF m pc Ls st)) := q.by fun t r => XS.lconst X.here hx rfl hd r
theorem g_lconst1 (X : Stand p l e R s m args below meth c T locs cells slots) (hx : p.tables.exec = Jvm.exec)  (hd : decode c.code pc = .ok (.lconst 1, 1))  (q : Go p e below P (T.setTop (mkF m (pc + 1) Ls (.long 1 :: st)))) : Go p e below P (T.setTop (mkF m pc Ls st)) := q.by fun t r => XS.lconst X.here hx rfl hd r
theorem g_aconst_null (X : Stand p l e R s m args below meth c T locs cells slots) (hx : p.tables.exec = Jvm.exec)  (hd : decode c.code pc = .ok (.aconst_null, 1))  (q : Go p e below P (T.setTop (mkF m (pc + 1) Ls (.null :: st)))) : Go p e below P (T.setTop (mkF m pc Ls st)) := q.by fun t r => XS.aconstNull X.here hx rfl hd r
theorem g_dconst0 (X : Stand p l e R s m args below meth c T locs cells slots) (hx : p.tables.exec = Jvm.exec)  (hd : decode c.code pc = .ok (.dconst 0, 1))  (q : Go p e below P (T.setTop (mkF m (pc + 1) Ls (.double 0 :: st)))) : Go p e below P (T.setTop (mkF m pc Ls st)) := q.by fun t r => XS.dconst0 X.here hx rfl hd rfl r
theorem g_dconst1 (X : Stand p l e R s m args below meth c T locs cells slots) (hx : p.tables.exec = Jvm.exec)  (hd : decode c.code pc = .ok (.dconst 1, 1))  (q : Go p e below P (T.setTop (mkF m (pc + 1) Ls (.double 4607182418800017408 :: st)))) : Go p e below P (T.setTop (mkF m pc Ls st)) := q.by fun t r => XS.dconst1 X.here hx rfl hd rfl r
theorem g_iadd (X : Stand p l e R s m args below meth c T locs cells slots) (hx : p.tables.exec = Jvm.exec) {x y v : Int32} (hd : decode c.code pc = .ok (.iadd, 1)) (hv : x + y = v) (q : Go p e below P (T.setTop (mkF m (pc + 1) Ls (.int v :: st)))) : Go p e below P (T.setTop (mkF m pc Ls (.int y :: .int x :: st))) := q.by fun t r => XS.iadd X.here hx rfl hd rfl (hv ▸ r)
theorem g_isub (X : Stand p l e R s m args below meth c T locs cells slots) (hx : p.tables.exec = Jvm.exec) {x y v : Int32} (hd : decode c.code pc = .ok (.isub, 1)) (hv : x - y = v) (q : Go p e below P (T.setTop (mkF m (pc + 1) Ls (.int v :: st)))) : Go p e below P (T.setTop (mkF m pc Ls (.int y :: .int x :: st))) := q.by fun t r => XS.isub X.here hx rfl hd rfl (hv ▸ r)
theorem g_imul (X : Stand p l e R s m args below meth c T locs cells slots) (hx : p.tables.exec = Jvm.exec) {x y v : Int32} (hd : decode c.code pc = .ok (.imul, 1)) (hv : x * y = v) (q : Go p e below P (T.setTop (mkF m (pc + 1) Ls (.int v :: st)))) : Go p e below P (T.setTop (mkF m pc Ls (.int y :: .int x :: st))) := q.by fun t r => XS.imul X.here hx rfl hd rfl (hv ▸ r)
theorem g_iand (X : Stand p l e R s m args below meth c T locs cells slots) (hx : p.tables.exec = Jvm.exec) {x y v : Int32} (hd : decode c.code pc = .ok (.iand, 1)) (hv : x &&& y = v) (q : Go p e below P (T.setTop (mkF m (pc + 1) Ls (.int v :: st)))) : Go p e below P (T.setTop (mkF m pc Ls (.int y :: .int x :: st))) := q.by fun t r => XS.iand X.here hx rfl hd rfl (hv ▸ r)
theorem g_ior (X : Stand p l e R s m args below meth c T locs cells slots) (hx : p.tables.exec = Jvm.exec) {x y v : Int32} (hd : decode c.code pc = .ok (.ior, 1)) (hv : x ||| y = v) (q : Go p e below P (T.setTop (mkF m (pc + 1) Ls (.int v :: st)))) : Go p e below P (T.setTop (mkF m pc Ls (.int y :: .int x :: st))) := q.by fun t r => XS.ior X.here hx rfl hd rfl (hv ▸ r)
theorem g_ixor (X : Stand p l e R s m args below meth c T locs cells slots) (hx : p.tables.exec = Jvm.exec) {x y v : Int32} (hd : decode c.code pc = .ok (.ixor, 1)) (hv : x ^^^ y = v) (q : Go p e below P (T.setTop (mkF m (pc + 1) Ls (.int v :: st)))) : Go p e below P (T.setTop (mkF m pc Ls (.int y :: .int x :: st))) := q.by fun t r => XS.ixor X.here hx rfl hd rfl (hv ▸ r)
theorem g_ladd (X : Stand p l e R s m args below meth c T locs cells slots) (hx : p.tables.exec = Jvm.exec) {x y v : Int64} (hd : decode c.code pc = .ok (.ladd, 1)) (hv : x + y = v) (q : Go p e below P (T.setTop (mkF m (pc + 1) Ls (.long v :: st)))) : Go p e below P (T.setTop (mkF m pc Ls (.long y :: .long x :: st))) := q.by fun t r => XS.ladd X.here hx rfl hd rfl (hv ▸ r)
theorem g_lsub (X : Stand p l e R s m args below meth c T locs cells slots) (hx : p.tables.exec = Jvm.exec) {x y v : Int64} (hd : decode c.code pc = .ok (.lsub, 1)) (hv : x - y = v) (q : Go p e below P (T.setTop (mkF m (pc + 1) Ls (.long v :: st)))) : Go p e below P (T.setTop (mkF m pc Ls (.long y :: .long x :: st))) := q.by fun t r => XS.lsub X.here hx rfl hd rfl (hv ▸ r)
theorem g_lmul (X : Stand p l e R s m args below meth c T locs cells slots) (hx : p.tables.exec = Jvm.exec) {x y v : Int64} (hd : decode c.code pc = .ok (.lmul, 1)) (hv : x * y = v) (q : Go p e below P (T.setTop (mkF m (pc + 1) Ls (.long v :: st)))) : Go p e below P (T.setTop (mkF m pc Ls (.long y :: .long x :: st))) := q.by fun t r => XS.lmul X.here hx rfl hd rfl (hv ▸ r)
theorem g_land (X : Stand p l e R s m args below meth c T locs cells slots) (hx : p.tables.exec = Jvm.exec) {x y v : Int64} (hd : decode c.code pc = .ok (.land, 1)) (hv : x &&& y = v) (q : Go p e below P (T.setTop (mkF m (pc + 1) Ls (.long v :: st)))) : Go p e below P (T.setTop (mkF m pc Ls (.long y :: .long x :: st))) := q.by fun t r => XS.land X.here hx rfl hd rfl (hv ▸ r)
theorem g_lor (X : Stand p l e R s m args below meth c T locs cells slots) (hx : p.tables.exec = Jvm.exec) {x y v : Int64} (hd : decode c.code pc = .ok (.lor, 1)) (hv : x ||| y = v) (q : Go p e below P (T.setTop (mkF m (pc + 1) Ls (.long v :: st)))) : Go p e below P (T.setTop (mkF m pc Ls (.long y :: .long x :: st))) := q.by fun t r => XS.lor X.here hx rfl hd rfl (hv ▸ r)
theorem g_ishl (X : Stand p l e R s m args below meth c T locs cells slots) (hx : p.tables.exec = Jvm.exec) {x y v : Int32} (hd : decode c.code pc = .ok (.ishl, 1)) (hv : x <<< (y &&& 31) = v) (q : Go p e below P (T.setTop (mkF m (pc + 1) Ls (.int v :: st)))) : Go p e below P (T.setTop (mkF m pc Ls (.int y :: .int x :: st))) := q.by fun t r => XS.ishl X.here hx rfl hd rfl (hv ▸ r)
theorem g_ishr (X : Stand p l e R s m args below meth c T locs cells slots) (hx : p.tables.exec = Jvm.exec) {x y v : Int32} (hd : decode c.code pc = .ok (.ishr, 1)) (hv : x >>> (y &&& 31) = v) (q : Go p e below P (T.setTop (mkF m (pc + 1) Ls (.int v :: st)))) : Go p e below P (T.setTop (mkF m pc Ls (.int y :: .int x :: st))) := q.by fun t r => XS.ishr X.here hx rfl hd rfl (hv ▸ r)
theorem g_iushr (X : Stand p l e R s m args below meth c T locs cells slots) (hx : p.tables.exec = Jvm.exec) {x y v : Int32} (hd : decode c.code pc = .ok (.iushr, 1)) (hv : (x.toUInt32 >>> (y &&& 31).toUInt32).toInt32 = v) (q : Go p e below P (T.setTop (mkF m (pc + 1) Ls (.int v :: st)))) : Go p e below P (T.setTop (mkF m pc Ls (.int y :: .int x :: st))) := q.by fun t r => XS.iushr X.here hx rfl hd rfl (hv ▸ r)
theorem g_idiv (X : Stand p l e R s m args below meth c T locs cells slots) (hx : p.tables.exec = Jvm.exec) {x y v : Int32} (hd : decode c.code pc = .ok (.idiv, 1)) (hy : y ≠ 0) (hv : x / y = v) (q : Go p e below P (T.setTop (mkF m (pc + 1) Ls (.int v :: st)))) : Go p e below P (T.setTop (mkF m pc Ls (.int y :: .int x :: st))) := q.by fun t r => XS.idiv X.here hx rfl hd rfl hy (hv ▸ r)
theorem g_irem (X : Stand p l e R s m args below meth c T locs cells slots) (hx : p.tables.exec = Jvm.exec) {x y v : Int32} (hd : decode c.code pc = .ok (.irem, 1)) (hy : y ≠ 0) (hv : x % y = v) (q : Go p e below P (T.setTop (mkF m (pc + 1) Ls (.int v :: st)))) : Go p e below P (T.setTop (mkF m pc Ls (.int y :: .int x :: st))) := q.by fun t r => XS.irem X.here hx rfl hd rfl hy (irem_eq_mod x y ▸ hv ▸ r)
theorem g_ldiv (X : Stand p l e R s m args below meth c T locs cells slots) (hx : p.tables.exec = Jvm.exec) {x y v : Int64} (hd : decode c.code pc = .ok (.ldiv, 1)) (hy : y ≠ 0) (hv : x / y = v) (q : Go p e below P (T.setTop (mkF m (pc + 1) Ls (.long v :: st)))) : Go p e below P (T.setTop (mkF m pc Ls (.long y :: .long x :: st))) := q.by fun t r => XS.ldiv X.here hx rfl hd rfl hy (hv ▸ r)
theorem g_lshl (X : Stand p l e R s m args below meth c T locs cells slots) (hx : p.tables.exec = Jvm.exec) {x v : Int64} {y : Int32} (hd : decode c.code pc = .ok (.lshl, 1)) (hv : x <<< (y &&& 0x3f).toInt64 = v) (q : Go p e below P (T.setTop (mkF m (pc + 1) Ls (.long v :: st)))) : Go p e below P (T.setTop (mkF m pc Ls (.int y :: .long x :: st))) := q.by fun t r => XS.lshl X.here hx rfl hd rfl (hv ▸ r)
theorem g_lshr (X : Stand p l e R s m args below meth c T locs cells slots) (hx : p.tables.exec = Jvm.exec) {x v : Int64} {y : Int32} (hd : decode c.code pc = .ok (.lshr, 1)) (hv : x >>> (y &&& 0x3f).toInt64 = v) (q : Go p e below P (T.setTop (mkF m (pc + 1) Ls (.long v :: st)))) : Go p e below P (T.setTop (mkF m pc Ls (.int y :: .long x :: st))) := q.by fun t r => XS.lshr X.here hx rfl hd rfl (hv ▸ r)
theorem g_lushr (X : Stand p l e R s m args below meth c T locs cells slots) (hx : p.tables.exec = Jvm.exec) {x v : Int64} {y : Int32} (hd : decode c.code pc = .ok (.lushr, 1)) (hv : (x.toUInt64 >>> (y &&& 0x3f).toInt64.toUInt64).toInt64 = v) (q : Go p e below P (T.setTop (mkF m (pc + 1) Ls (.long v :: st)))) : Go p e below P (T.setTop (mkF m pc Ls (.int y :: .long x :: st))) := q.by fun t r => XS.lushr X.here hx rfl hd rfl (hv ▸ r)
theorem g_lcmp (X : Stand p l e R s m args below meth c T locs cells slots) (hx : p.tables.exec = Jvm.exec) {x y : Int64} (hd : decode c.code pc = .ok (.lcmp, 1))  (q : Go p e below P (T.setTop (mkF m (pc + 1) Ls (.int (lcmpW x y) :: st)))) : Go p e below P (T.setTop (mkF m pc Ls (.long y :: .long x :: st))) := q.by fun t r => XS.lcmp X.here hx rfl hd rfl r
theorem g_ineg (X : Stand p l e R s m args below meth c T locs cells slots) (hx : p.tables.exec = Jvm.exec) {x : Int32} {v : Int32} (hd : decode c.code pc = .ok (.ineg, 1)) (hv : -x = v) (q : Go p e below P (T.setTop (mkF m (pc + 1) Ls (.int v :: st)))) : Go p e below P (T.setTop (mkF m pc Ls (.int x :: st))) := q.by fun t r => XS.ineg X.here hx rfl hd rfl (hv ▸ r)
theorem g_lneg (X : Stand p l e R s m args below meth c T locs cells slots) (hx : p.tables.exec = Jvm.exec) {x : Int64} {v : Int64} (hd : decode c.code pc = .ok (.lneg, 1)) (hv : -x = v) (q : Go p e below P (T.setTop (mkF m (pc + 1) Ls (.long v :: st)))) : Go p e below P (T.setTop (mkF m pc Ls (.long x :: st))) := q.by fun t r => XS.lneg X.here hx rfl hd rfl (hv ▸ r)
theorem g_i2l (X : Stand p l e R s m args below meth c T locs cells slots) (hx : p.tables.exec = Jvm.exec) {x : Int32} {v : Int64} (hd : decode c.code pc = .ok (.i2l, 1)) (hv : x.toInt64 = v) (q : Go p e below P (T.setTop (mkF m (pc + 1) Ls (.long v :: st)))) : Go p e below P (T.setTop (mkF m pc Ls (.int x :: st))) := q.by fun t r => XS.i2l X.here hx rfl hd rfl (hv ▸ r)
theorem g_l2i (X : Stand p l e R s m args below meth c T locs cells slots) (hx : p.tables.exec = Jvm.exec) {x : Int64} {v : Int32} (hd : decode c.code pc = .ok (.l2i, 1)) (hv : x.toInt32 = v) (q : Go p e below P (T.setTop (mkF m (pc + 1) Ls (.int v :: st)))) : Go p e below P (T.setTop (mkF m pc Ls (.long x :: st))) := q.by fun t r => XS.l2i X.here hx rfl hd rfl (hv ▸ r)
theorem g_i2b (X : Stand p l e R s m args below meth c T locs cells slots) (hx : p.tables.exec = Jvm.exec) {x : Int32} {v : Int32} (hd : decode c.code pc = .ok (.i2b, 1)) (hv : x.toInt8.toInt32 = v) (q : Go p e below P (T.setTop (mkF m (pc + 1) Ls (.int v :: st)))) : Go p e below P (T.setTop (mkF m pc Ls (.int x :: st))) := q.by fun t r => XS.i2b X.here hx rfl hd rfl (hv ▸ r)
theorem g_i2c (X : Stand p l e R s m args below meth c T locs cells slots) (hx : p.tables.exec = Jvm.exec) {x : Int32} {v : Int32} (hd : decode c.code pc = .ok (.i2c, 1)) (hv : x.toUInt32.toUInt16.toUInt32.toInt32 = v) (q : Go p e below P (T.setTop (mkF m (pc + 1) Ls (.int v :: st)))) : Go p e below P (T.setTop (mkF m pc Ls (.int x :: st))) := q.by fun t r => XS.i2c X.here hx rfl hd rfl (hv ▸ r)
theorem g_i2s (X : Stand p l e R s m args below meth c T locs cells slots) (hx : p.tables.exec = Jvm.exec) {x : Int32} {v : Int32} (hd : decode c.code pc = .ok (.i2s, 1)) (hv : x.toInt16.toInt32 = v) (q : Go p e below P (T.setTop (mkF m (pc + 1) Ls (.int v :: st)))) : Go p e below P (T.setTop (mkF m pc Ls (.int x :: st))) := q.by fun t r => XS.i2s X.here hx rfl hd rfl (hv ▸ r)
theorem g_i2d (X : Stand p l e R s m args below meth c T locs cells slots) (hx : p.tables.exec = Jvm.exec) {x : Int32} {v : UInt64} (hd : decode c.code pc = .ok (.i2d, 1)) (hv : FP.i2d x = v) (q : Go p e below P (T.setTop (mkF m (pc + 1) Ls (.double v :: st)))) : Go p e below P (T.setTop (mkF m pc Ls (.int x :: st))) := q.by fun t r => XS.i2dS X.here hx rfl hd rfl hv r
theorem g_l2d (X : Stand p l e R s m args below meth c T locs cells slots) (hx : p.tables.exec = Jvm.exec) {x : Int64} {v : UInt64} (hd : decode c.code pc = .ok (.l2d, 1)) (hv : FP.l2d x = v) (q : Go p e below P (T.setTop (mkF m (pc + 1) Ls (.double v :: st)))) : Go p e below P (T.setTop (mkF m pc Ls (.long x :: st))) := q.by fun t r => XS.l2dS X.here hx rfl hd rfl hv r
theorem g_d2i (X : Stand p l e R s m args below meth c T locs cells slots) (hx : p.tables.exec = Jvm.exec) {x : UInt64} {v : Int32} (hd : decode c.code pc = .ok (.d2i, 1)) (hv : FP.d2i x = v) (q : Go p e below P (T.setTop (mkF m (pc + 1) Ls (.int v :: st)))) : Go p e below P (T.setTop (mkF m pc Ls (.double x :: st))) := q.by fun t r => XS.d2iS X.here hx rfl hd rfl hv r
theorem g_d2l (X : Stand p l e R s m args below meth c T locs cells slots) (hx : p.tables.exec = Jvm.exec) {x : UInt64} {v : Int64} (hd : decode c.code pc = .ok (.d2l, 1)) (hv : FP.d2l x = v) (q : Go p e below P (T.setTop (mkF m (pc + 1) Ls (.long v :: st)))) : Go p e below P (T.setTop (mkF m pc Ls (.double x :: st))) := q.by fun t r => XS.d2lS X.here hx rfl hd rfl hv r
theorem g_dneg (X : Stand p l e R s m args below meth c T locs cells slots) (hx : p.tables.exec = Jvm.exec) {x : UInt64} {v : UInt64} (hd : decode c.code pc = .ok (.dneg, 1)) (hv : FP.dneg x = v) (q : Go p e below P (T.setTop (mkF m (pc + 1) Ls (.double v :: st)))) : Go p e below P (T.setTop (mkF m pc Ls (.double x :: st))) := q.by fun t r => XS.dnegS X.here hx rfl hd rfl hv r
theorem g_i2f (X : Stand p l e R s m args below meth c T locs cells slots) (hx : p.tables.exec = Jvm.exec) {x : Int32} {v : UInt32} (hd : decode c.code pc = .ok (.i2f, 1)) (hv : FP.i2f x = v) (q : Go p e below P (T.setTop (mkF m (pc + 1) Ls (.float v :: st)))) : Go p e below P (T.setTop (mkF m pc Ls (.int x :: st))) := q.by fun t r => XS.i2fS X.here hx rfl hd rfl hv r
theorem g_l2f (X : Stand p l e R s m args below meth c T locs cells slots) (hx : p.tables.exec = Jvm.exec) {x : Int64} {v : UInt32} (hd : decode c.code pc = .ok (.l2f, 1)) (hv : FP.l2f x = v) (q : Go p e below P (T.setTop (mkF m (pc + 1) Ls (.float v :: st)))) : Go p e below P (T.setTop (mkF m pc Ls (.long x :: st))) := q.by fun t r => XS.l2fS X.here hx rfl hd rfl hv r
theorem g_fneg (X : Stand p l e R s m args below meth c T locs cells slots) (hx : p.tables.exec = Jvm.exec) {x : UInt32} {v : UInt32} (hd : decode c.code pc = .ok (.fneg, 1)) (hv : FP.fneg x = v) (q : Go p e below P (T.setTop (mkF m (pc + 1) Ls (.float v :: st)))) : Go p e below P (T.setTop (mkF m pc Ls (.float x :: st))) := q.by fun t r => XS.fnegS X.here hx rfl hd rfl hv r
theorem g_dadd (X : Stand p l e R s m args below meth c T locs cells slots) (hx : p.tables.exec = Jvm.exec) {x y v : UInt64} (hd : decode c.code pc = .ok (.dadd, 1)) (hn : Jvm.Free.Fl.NoNaN64 (FP.dadd x y)) (hv : FP.dadd x y = v) (q : Go p e below P (T.setTop (mkF m (pc + 1) Ls (.double v :: st)))) : Go p e below P (T.setTop (mkF m pc Ls (.double y :: .double x :: st))) := q.by fun t r => XS.daddS X.here hx rfl hd rfl hn hv r
theorem g_dsub (X : Stand p l e R s m args below meth c T locs cells slots) (hx : p.tables.exec = Jvm.exec) {x y v : UInt64} (hd : decode c.code pc = .ok (.dsub, 1)) (hn : Jvm.Free.Fl.NoNaN64 (FP.dsub x y)) (hv : FP.dsub x y = v) (q : Go p e below P (T.setTop (mkF m (pc + 1) Ls (.double v :: st)))) : Go p e below P (T.setTop (mkF m pc Ls (.double y :: .double x :: st))) := q.by fun t r => XS.dsubS X.here hx rfl hd rfl hn hv r
theorem g_dmul (X : Stand p l e R s m args below meth c T locs cells slots) (hx : p.tables.exec = Jvm.exec) {x y v : UInt64} (hd : decode c.code pc = .ok (.dmul, 1)) (hn : Jvm.Free.Fl.NoNaN64 (FP.dmul x y)) (hv : FP.dmul x y = v) (q : Go p e below P (T.setTop (mkF m (pc + 1) Ls (.double v :: st)))) : Go p e below P (T.setTop (mkF m pc Ls (.double y :: .double x :: st))) := q.by fun t r => XS.dmulS X.here hx rfl hd rfl hn hv r
theorem g_ddiv (X : Stand p l e R s m args below meth c T locs cells slots) (hx : p.tables.exec = Jvm.exec) {x y v : UInt64} (hd : decode c.code pc = .ok (.ddiv, 1)) (hn : Jvm.Free.Fl.NoNaN64 (FP.ddiv x y)) (hv : FP.ddiv x y = v) (q : Go p e below P (T.setTop (mkF m (pc + 1) Ls (.double v :: st)))) : Go p e below P (T.setTop (mkF m pc Ls (.double y :: .double x :: st))) := q.by fun t r => XS.ddivS X.here hx rfl hd rfl hn hv r
theorem g_dcmp (X : Stand p l e R s m args below meth c T locs cells slots) (hx : p.tables.exec = Jvm.exec) {o : CmpOp} {x y : UInt64} (hd : decode c.code pc = .ok (.dcmp o, 1))  (q : Go p e below P (T.setTop (mkF m (pc + 1) Ls (.int (cmpValue (FP.dcmp x y) o) :: st)))) : Go p e below P (T.setTop (mkF m pc Ls (.double y :: .double x :: st))) := q.by fun t r => XS.dcmpS X.here hx rfl hd rfl rfl r
theorem g_fcmp (X : Stand p l e R s m args below meth c T locs cells slots) (hx : p.tables.exec = Jvm.exec) {o : CmpOp} {x y : UInt32} (hd : decode c.code pc = .ok (.fcmp o, 1))  (q : Go p e below P (T.setTop (mkF m (pc + 1) Ls (.int (cmpValue (FP.fcmp x y) o) :: st)))) : Go p e below P (T.setTop (mkF m pc Ls (.float y :: .float x :: st))) := q.by fun t r => XS.fcmpS X.here hx rfl hd rfl rfl r
theorem g_dup (X : Stand p l e R s m args below meth c T locs cells slots) (hx : p.tables.exec = Jvm.exec) {x : Value} (hd : decode c.code pc = .ok (.dup, 1)) (hc : x.category = 1) (q : Go p e below P (T.setTop (mkF m (pc + 1) Ls (x :: x :: st)))) : Go p e below P (T.setTop (mkF m pc Ls (x :: st))) := q.by fun t r => XS.dup X.here hx rfl hd rfl hc r
theorem g_pop (X : Stand p l e R s m args below meth c T locs cells slots) (hx : p.tables.exec = Jvm.exec) {x : Value} (hd : decode c.code pc = .ok (.pop, 1)) (hc : x.category = 1) (q : Go p e below P (T.setTop (mkF m (pc + 1) Ls st))) : Go p e below P (T.setTop (mkF m pc Ls (x :: st))) := q.by fun t r => XS.pop X.here hx rfl hd rfl hc r
theorem g_dup2 (X : Stand p l e R s m args below meth c T locs cells slots) (hx : p.tables.exec = Jvm.exec) {x y : Value} (hd : decode c.code pc = .ok (.dup2, 1)) (hc : x.category = 1) (hc' : y.category = 1) (q : Go p e below P (T.setTop (mkF m (pc + 1) Ls (x :: y :: x :: y :: st)))) : Go p e below P (T.setTop (mkF m pc Ls (x :: y :: st))) := q.by fun t r => XT.dup2 X.here hx rfl hd rfl hc hc' r
theorem g_iinc (X : Stand p l e R s m args below meth c T locs cells slots) (hx : p.tables.exec = Jvm.exec) {k : Nat} {d : Int} {x : Int32} {L' : Array Slot} (hd : decode c.code pc = .ok (.iinc k d, 3)) (hl : Ls[k]? = some (.val (.int x))) (hs : storeLocals Ls k (.int (x + Int32.ofInt d)) = some L') (q : Go p e below P (T.setTop (mkF m (pc + 3) L' st))) : Go p e below P (T.setTop (mkF m pc Ls st)) := q.by fun t r => XS.iinc X.here hx rfl hd hl hs r
theorem g_goto (X : Stand p l e R s m args below meth c T locs cells slots) (hx : p.tables.exec = Jvm.exec)  {o : Int} {pc' : Nat} (hd : decode c.code pc = .ok (.goto o, 3))  (ho : 0 ≤ (pc : Int) + o) (hp : ((pc : Int) + o).toNat = pc') (q : Go p e below P (T.setTop (mkF m pc' Ls st))) : Go p e below P (T.setTop (mkF m pc Ls st)) := q.by fun t r => XS.goto X.here hx rfl rfl hd ho hp r
theorem g_ifYes (X : Stand p l e R s m args below meth c T locs cells slots) (hx : p.tables.exec = Jvm.exec) {cd : ClassFile.Cond} {x : Int32} {o : Int} {pc' : Nat} (hd : decode c.code pc = .ok (.ifCond cd o, 3)) (hc : if_icmp.holds cd x 0 = true) (ho : 0 ≤ (pc : Int) + o) (hp : ((pc : Int) + o).toNat = pc') (q : Go p e below P (T.setTop (mkF m pc' Ls st))) : Go p e below P (T.setTop (mkF m pc Ls (.int x :: st))) := q.by fun t r => XS.ifYes X.here hx rfl rfl hd rfl ((if0 _ _).trans hc) ho hp r
theorem g_icmpYes (X : Stand p l e R s m args below meth c T locs cells slots) (hx : p.tables.exec = Jvm.exec) {cd : ClassFile.Cond} {x y : Int32} {o : Int} {pc' : Nat} (hd : decode c.code pc = .ok (.if_icmp cd o, 3)) (hc : if_icmp.holds cd x y = true) (ho : 0 ≤ (pc : Int) + o) (hp : ((pc : Int) + o).toNat = pc') (q : Go p e below P (T.setTop (mkF m pc' Ls st))) : Go p e below P (T.setTop (mkF m pc Ls (.int y :: .int x :: st))) := q.by fun t r => XS.icmpYes X.here hx rfl rfl hd rfl hc ho hp r
theorem g_ifNo (X : Stand p l e R s m args below meth c T locs cells slots) (hx : p.tables.exec = Jvm.exec) {cd : ClassFile.Cond} {o : Int} {x : Int32} (hd : decode c.code pc = .ok (.ifCond cd o, 3)) (hc : if_icmp.holds cd x 0 = false) (q : Go p e below P (T.setTop (mkF m (pc + 3) Ls st))) : Go p e below P (T.setTop (mkF m pc Ls (.int x :: st))) := q.by fun t r => XS.ifNo X.here hx rfl hd rfl ((if0 _ _).trans hc) r
theorem g_icmpNo (X : Stand p l e R s m args below meth c T locs cells slots) (hx : p.tables.exec = Jvm.exec) {cd : ClassFile.Cond} {o : Int} {x y : Int32} (hd : decode c.code pc = .ok (.if_icmp cd o, 3)) (hc : if_icmp.holds cd x y = false) (q : Go p e below P (T.setTop (mkF m (pc + 3) Ls st))) : Go p e below P (T.setTop (mkF m pc Ls (.int y :: .int x :: st))) := q.by fun t r => XS.icmpNo X.here hx rfl hd rfl hc r
theorem g_ifnonnullYes (X : Stand p l e R s m args below meth c T locs cells slots) (hx : p.tables.exec = Jvm.exec) {b : Addr} {o : Int} {pc' : Nat} (hd : decode c.code pc = .ok (.ifnonnull o, 3))  (ho : 0 ≤ (pc : Int) + o) (hp : ((pc : Int) + o).toNat = pc') (q : Go p e below P (T.setTop (mkF m pc' Ls st))) : Go p e below P (T.setTop (mkF m pc Ls (.ref b :: st))) := q.by fun t r => XS.ifnonnullYes X.here hx rfl rfl hd rfl ho hp r
theorem g_ifnonnullNo (X : Stand p l e R s m args below meth c T locs cells slots) (hx : p.tables.exec = Jvm.exec) {o : Int} (hd : decode c.code pc = .ok (.ifnonnull o, 3))  (q : Go p e below P (T.setTop (mkF m (pc + 3) Ls st))) : Go p e below P (T.setTop (mkF m pc Ls (.null :: st))) := q.by fun t r => XS.ifnonnullNo X.here hx rfl hd rfl r
theorem g_ifnullYes (X : Stand p l e R s m args below meth c T locs cells slots) (hx : p.tables.exec = Jvm.exec)  {o : Int} {pc' : Nat} (hd : decode c.code pc = .ok (.ifnull o, 3))  (ho : 0 ≤ (pc : Int) + o) (hp : ((pc : Int) + o).toNat = pc') (q : Go p e below P (T.setTop (mkF m pc' Ls st))) : Go p e below P (T.setTop (mkF m pc Ls (.null :: st))) := q.by fun t r => XS.ifnullYes X.here hx rfl rfl hd rfl ho hp r
theorem g_ifnullNo (X : Stand p l e R s m args below meth c T locs cells slots) (hx : p.tables.exec = Jvm.exec) {o : Int} {b : Addr} (hd : decode c.code pc = .ok (.ifnull o, 3))  (q : Go p e below P (T.setTop (mkF m (pc + 3) Ls st))) : Go p e below P (T.setTop (mkF m pc Ls (.ref b :: st))) := q.by fun t r => XS.ifnullNo X.here hx rfl hd rfl r
theorem g_drem (X : Stand p l e R s m args below meth c T locs cells slots) (hx : p.tables.exec = Jvm.exec) {x y v : UInt64} (hd : decode c.code pc = .ok (.drem, 1)) (hn : Jvm.Free.Fl.NoNaN64 (FP.drem x y)) (hv : FP.drem x y = v) (q : Go p e below P (T.setTop (mkF m (pc + 1) Ls (.double v :: st)))) : Go p e below P (T.setTop (mkF m pc Ls (.double y :: .double x :: st))) := q.by fun t r => by
  subst hv
  have ht := X.here
  show Steps p.tables e below (T.setTop { method := m, pc := pc, locals := Ls, stack := .double y :: .double x :: st, locked := none }) t
  jvm_step ht [ht.top, hx, hd, Op.drem.at_number ht.top hn]
  exact r
theorem g_dup_x2 (X : Stand p l e R s m args below meth c T locs cells slots) (hx : p.tables.exec = Jvm.exec) {x y z : Value} (hd : decode c.code pc = .ok (.dup_x2, 1)) (h1 : x.category = 1) (h2 : y.category = 1) (h3 : z.category = 1) (q : Go p e below P (T.setTop (mkF m (pc + 1) Ls (x :: y :: z :: x :: st)))) : Go p e below P (T.setTop (mkF m pc Ls (x :: y :: z :: st))) := q.by fun t r => by
  have ht := X.here
  show Steps p.tables e below (T.setTop { method := m, pc := pc, locals := Ls, stack := x :: y :: z :: st, locked := none }) t
  jvm_step ht [ht.top, hx, hd, h1, h2, h3]
  exact r
theorem g_ldcI (X : Stand p l e R s m args below meth c T locs cells slots) (hx : p.tables.exec = Jvm.exec) (hZ : Z.Warmed39 s.vm) (hown : s.vm.findClass own = some m.cls) {v : Int32} (w : (Cond.constant own index v).before a0 Z = true) (hd : decode c.code pc = .ok (.ldc index, 2)) (q : Go p e below P (T.setTop (mkF m (pc + 2) Ls (.int v :: st)))) : Go p e below P (T.setTop (mkF m pc Ls st)) := q.by fun t r => X.ldcI hx hown (mvT hZ w) rfl hd r
theorem g_ldc2J (X : Stand p l e R s m args below meth c T locs cells slots) (hx : p.tables.exec = Jvm.exec) (hZ : Z.Warmed39 s.vm) (hown : s.vm.findClass own = some m.cls) {v : Int64} (w : (Cond.constantLong own index v).before a0 Z = true) (hd : decode c.code pc = .ok (.ldc2_w index, 3)) (q : Go p e below P (T.setTop (mkF m (pc + 3) Ls (.long v :: st)))) : Go p e below P (T.setTop (mkF m pc Ls st)) := q.by fun t r => X.ldc2J hx hown (mvT hZ w) rfl hd r
theorem g_ldc2D (X : Stand p l e R s m args below meth c T locs cells slots) (hx : p.tables.exec = Jvm.exec) (hZ : Z.Warmed39 s.vm) (hown : s.vm.findClass own = some m.cls) {v : UInt64} (w : (Cond.constantDouble own index v).before a0 Z = true) (hd : decode c.code pc = .ok (.ldc2_w index, 3)) (q : Go p e below P (T.setTop (mkF m (pc + 3) Ls (.double v :: st)))) : Go p e below P (T.setTop (mkF m pc Ls st)) := q.by fun t r => X.ldc2DoubleC hx hown (mvT hZ w) (g := mkF m pc Ls st) rfl hd t r
theorem g_ldcF (X : Stand p l e R s m args below meth c T locs cells slots) (hx : p.tables.exec = Jvm.exec) (hZ : Z.Warmed39 s.vm) (hown : s.vm.findClass own = some m.cls) {v : UInt32} (w : (Cond.constantFloat own index v).before a0 Z = true) (hd : decode c.code pc = .ok (.ldc index, 2)) (q : Go p e below P (T.setTop (mkF m (pc + 2) Ls (.float v :: st)))) : Go p e below P (T.setTop (mkF m pc Ls st)) := q.by fun t r => X.ldcFloatC hx hown (mvT hZ w) (g := mkF m pc Ls st) rfl hd t r
theorem Ret.end {Q : Option Value → Heap → List Loc → Prop} {C N : Nat} {g : JFrame} (X : Stand p l e R s m args below meth c T locs cells slots) (hx : p.tables.exec = Jvm.exec) (hlk : meth.locks = false) {v : Option Value} (hv : meth.sig.returnType = none → v = none) (stp : ∀ fs, (∀ (f : JFrame) (acts : List Action), f.method = m → f.locked = none → f.entered = [] → (doReturn e (T.setTop f) acts v).1 = T.setFrames fs) → Steps p.tables e below (T.setTop g) (T.setFrames fs)) (hC : cells ≤ C) (hN : slots ≤ N) (hq : Q v T.heap locs) : Go p e below (Ret s Q C N) (T.setTop g) := by
  obtain ⟨fs, hr, hrun, hended, hW, hsame⟩ := X.leave hv hlk
  exact ⟨_, _, stp fs hr, hrun, hended, _, _, rfl, hq, ⟨_, rfl⟩, hW, hsame.mono hC hN⟩
theorem g_ireturn {Q : Option Value → Heap → List Loc → Prop} {C N : Nat} (X : Stand p l e R s m args below meth c T locs cells slots) (hx : p.tables.exec = Jvm.exec) (hlk : meth.locks = false) {w : Int32} {t : FieldType} (hret : meth.sig.returnType = some t) (hn : narrow t (.int w) = .int w) (hti : t = .int ∨ t = .boolean ∨ t = .byte ∨ t = .char ∨ t = .short) (hd : decode c.code pc = .ok (.ireturn, 1)) (hC : cells ≤ C) (hN : slots ≤ N) (hq : Q (some (.int w)) T.heap locs) : Go p e below (Ret s Q C N) (T.setTop (mkF m pc Ls [.int w])) :=
  Ret.end X hx hlk (fun h => by rw [hret] at h; cases h) (fun fs hr => X.ireturnOut hx hret hn hti hd hr) hC hN hq
theorem g_lreturn {Q : Option Value → Heap → List Loc → Prop} {C N : Nat} (X : Stand p l e R s m args below meth c T locs cells slots) (hx : p.tables.exec = Jvm.exec) (hlk : meth.locks = false) {w : Int64} (hret : meth.sig.returnType = some .long) (hd : decode c.code pc = .ok (.lreturn, 1)) (hC : cells ≤ C) (hN : slots ≤ N) (hq : Q (some (.long w)) T.heap locs) : Go p e below (Ret s Q C N) (T.setTop (mkF m pc Ls [.long w])) :=
  Ret.end X hx hlk (fun h => by rw [hret] at h; cases h) (fun fs hr => X.lreturnOut hx hret hd hr) hC hN hq
theorem g_return {Q : Option Value → Heap → List Loc → Prop} {C N : Nat} (X : Stand p l e R s m args below meth c T locs cells slots) (hx : p.tables.exec = Jvm.exec) (hlk : meth.locks = false) (hret : meth.sig.returnType = none) (hd : decode c.code pc = .ok (.return_, 1)) (hC : cells ≤ C) (hN : slots ≤ N) (hq : Q none T.heap locs) : Go p e below (Ret s Q C N) (T.setTop (mkF m pc Ls [])) :=
  Ret.end X hx hlk (fun _ => rfl) (fun fs hr => X.returnOut hx hret hd hr) hC hN hq
theorem g_areturn {Q : Option Value → Heap → List Loc → Prop} {C N : Nat} (X : Stand p l e R s m args below meth c T locs cells slots) (hx : p.tables.exec = Jvm.exec) (hlk : meth.locks = false) {w : Value} {t : FieldType} (hret : meth.sig.returnType = some t) (ht : t.isReference = true) (hw : w.isRef = true) (hd : decode c.code pc = .ok (.areturn, 1)) (hC : cells ≤ C) (hN : slots ≤ N) (hq : Q (some w) T.heap locs) : Go p e below (Ret s Q C N) (T.setTop (mkF m pc Ls [w])) :=
  Ret.end X hx hlk (fun h => by rw [hret] at h; cases h) (fun fs hr => X.areturnOut hx hw hret ht hd hr) hC hN hq
theorem g_dreturn {Q : Option Value → Heap → List Loc → Prop} {C N : Nat} (X : Stand p l e R s m args below meth c T locs cells slots) (hx : p.tables.exec = Jvm.exec) (hlk : meth.locks = false) {w : UInt64} (hret : meth.sig.returnType = some .double) (hd : decode c.code pc = .ok (.dreturn, 1)) (hC : cells ≤ C) (hN : slots ≤ N) (hq : Q (some (.double w)) T.heap locs) : Go p e below (Ret s Q C N) (T.setTop (mkF m pc Ls [.double w])) :=
  Ret.end X hx hlk (fun h => by rw [hret] at h; cases h) (fun fs hr => by
    have hm' : T.vm.method? m = some meth := X.method'
    show Steps p.tables e below (T.setTop { method := m, pc := pc, locals := Ls, stack := [.double w], locked := none }) _
    jvm_step X.here [X.here.top, hx, hd, hm', hret]
    first | (intro acts; rw [hr _ acts rfl rfl rfl]) | rw [hr _ _ rfl rfl rfl]
    exact Steps.refl _) hC hN hq
theorem g_freturn {Q : Option Value → Heap → List Loc → Prop} {C N : Nat} (X : Stand p l e R s m args below meth c T locs cells slots) (hx : p.tables.exec = Jvm.exec) (hlk : meth.locks = false) {w : UInt32} (hret : meth.sig.returnType = some .float) (hd : decode c.code pc = .ok (.freturn, 1)) (hC : cells ≤ C) (hN : slots ≤ N) (hq : Q (some (.float w)) T.heap locs) : Go p e below (Ret s Q C N) (T.setTop (mkF m pc Ls [.float w])) :=
  Ret.end X hx hlk (fun h => by rw [hret] at h; cases h) (fun fs hr => retF X hx hret hd hr) hC hN hq
theorem g_callS (X : Stand p l e R s m args below meth c T locs cells slots) (hx : p.tables.exec = Jvm.exec) (hZ : Z.Warmed39 s.vm) (hown : s.vm.findClass own = some m.cls) {y : MethodName} {bytes : ByteArray} {maxL : Nat} {ret : Option FieldType} (w1 : (Cond.methodLink own index y).before a0 Z = true) (w2 : (Cond.static y).before a0 Z = true) (w3 : (Cond.initialized y.cls).before a0 Z = true) (w4 : (Cond.code y bytes maxL ret).before a0 Z = true) (hy : y.cls ≠ "java/lang/invoke/MethodHandle" ∧ y.cls ≠ "java/lang/invoke/VarHandle") {rm : Room} {as' : Array Value} {Q : Option Value → Heap → List Loc → Prop} (hM : MetFree l y (head1 [Cond.code y bytes maxL ret] rm) (fun a U => a = as' ∧ Z.Warmed39 U.vm ∧ U.heap = h) (fun _ _ _ _ _ => True) (fun _ U o U' => ∃ v L, o = .returned v ∧ Q v U'.heap L ∧ FrameEnd U o U' L rm.cells rm.slots)) (eT : T.heap = h) {W : Nat} (hf : rm.frames + 1 ≤ R.frames) (hlo : W + (maxL + 11) + rm.locals ≤ R.locals) (hsize : Ls.size = c.maxLocals) (argsL rest : List Value) (hlen : ∀ sig, parseMethodDescriptor y.desc = some sig → argsL.length = sig.parameters.length) (hst : st = argsL.reverse ++ rest) (has : argsL.toArray = as') (hW : (rest.map fun v => v.category).sum ≤ W) (hd : decode c.code pc = .ok (.invokestatic index, 3)) (hc : cells + rm.cells ≤ R.cells) (hs : slots + rm.slots ≤ R.slots) (k : ∀ (v : Option Value) (T' : State) (L : List Loc), Stand p l e R s m args below meth c T' (locs ++ L) (cells + rm.cells) (slots + rm.slots) → Q v T'.heap L → Go p e below P (T'.setTop (mkF m (pc + 3) Ls (v.toList ++ rest)))) : Go p e below P (T.setTop (mkF m pc Ls st)) := by
  obtain ⟨v, vm1, ⟨T', L', k', n'⟩, -, X', ⟨L, hQ, l1, y1, z1⟩, stp⟩ := Jvm.LawKit.callS X hx hown (mvT hZ w1) (mvT hZ w2) (mvT hZ w3) (mvT hZ w4) hy (backOf (W := W) hM hZ w4 w3 hf hlo) (g := mkF m pc Ls st) rfl hsize hlen hst (by show 2 * 0 + _ ≤ _; omega) hd (fun _ _ => ⟨has, eT, hc, hs⟩)
  dsimp only [Pt.U, Pt.locs, Pt.cells, Pt.slots] at X' l1 y1 z1 stp hQ
  subst l1 y1 z1
  exact (k v T' L X' hQ).by stp
theorem g_init (X : Stand p l e R s m args below meth c T locs cells slots) (hx : p.tables.exec = Jvm.exec) (hZ : Z.Warmed39 s.vm) (hown : s.vm.findClass own = some m.cls) {y : MethodName} {bytes : ByteArray} {maxL : Nat} (hy1 : y.name = "<init>") (w1 : (Cond.methodLink own index y).before a0 Z = true) (w2 : (Cond.instanceMethod y).before a0 Z = true) (w3 : (Cond.initialized y.cls).before a0 Z = true) (w4 : (Cond.code y bytes maxL none).before a0 Z = true) (hy : y.cls ≠ "java/lang/invoke/MethodHandle" ∧ y.cls ≠ "java/lang/invoke/VarHandle") {rm : Room} {as' : Array Value} {Q : Option Value → Heap → List Loc → Prop} (hM : MetFree l y (head1 [Cond.code y bytes maxL none] rm) (fun a U => a = as' ∧ Z.Warmed39 U.vm ∧ U.heap = h) (fun _ _ _ _ _ => True) (fun _ U o U' => ∃ v L, o = .returned v ∧ Q v U'.heap L ∧ FrameEnd U o U' L rm.cells rm.slots)) (eT : T.heap = h) {W : Nat} (hf : rm.frames + 1 ≤ R.frames) (hlo : W + (maxL + 11) + rm.locals ≤ R.locals) (hsize : Ls.size = c.maxLocals) (a : Addr) (argsL rest : List Value) (hlen : ∀ sig, parseMethodDescriptor y.desc = some sig → argsL.length = sig.parameters.length) (hst : st = argsL.reverse ++ .ref a :: rest) (has : (.ref a :: argsL).toArray = as') (hW : (rest.map fun v => v.category).sum ≤ W) (hd : decode c.code pc = .ok (.invokespecial index, 3)) (hc : cells + rm.cells ≤ R.cells) (hs : slots + rm.slots ≤ R.slots) (k : ∀ (v : Option Value) (T' : State) (L : List Loc), Stand p l e R s m args below meth c T' (locs ++ L) (cells + rm.cells) (slots + rm.slots) → Q v T'.heap L → Go p e below P (T'.setTop (mkF m (pc + 3) Ls (v.toList ++ rest)))) : Go p e below P (T.setTop (mkF m pc Ls st)) := by
  obtain ⟨v, vm1, ⟨T', L', k', n'⟩, -, X', ⟨L, hQ, l1, y1, z1⟩, stp⟩ := X.specialBack hx hy1 hown (mvT hZ w1) (mvT hZ w2) (mvT hZ w4) hy (backOf (W := W) hM hZ w4 w3 hf hlo) (g := mkF m pc Ls st) rfl hsize (Steps.refl _) hlen hst (by show 2 * 0 + _ ≤ _; omega) hd (fun _ _ => ⟨has, eT, hc, hs⟩)
  dsimp only [Pt.U, Pt.locs, Pt.cells, Pt.slots] at X' l1 y1 z1 stp hQ
  subst l1 y1 z1
  exact (k v T' L X' hQ).by fun t r => stp.trans r
theorem g_callV (X : Stand p l e R s m args below meth c T locs cells slots) (hx : p.tables.exec = Jvm.exec) (hZ : Z.Warmed39 s.vm) (hown : s.vm.findClass own = some m.cls) {y : MethodName} {bytes : ByteArray} {maxL : Nat} {ret : Option FieldType} {C : String} (w1 : (Cond.methodLink own index y).before a0 Z = true) (w2 : (Cond.declares y).before a0 Z = true) (w5 : (Cond.selects C y y).before a0 Z = true) (w6 : (Cond.instanceMethod y).before a0 Z = true) (w3 : (Cond.initialized y.cls).before a0 Z = true) (w4 : (Cond.code y bytes maxL ret).before a0 Z = true) (hy : y.cls ≠ "java/lang/invoke/MethodHandle" ∧ y.cls ≠ "java/lang/invoke/VarHandle") {rm : Room} {as' : Array Value} {Q : Option Value → Heap → List Loc → Prop} (hM : MetFree l y (head1 [Cond.code y bytes maxL ret] rm) (fun a U => a = as' ∧ Z.Warmed39 U.vm ∧ U.heap = h) (fun _ _ _ _ _ => True) (fun _ U o U' => ∃ v L, o = .returned v ∧ Q v U'.heap L ∧ FrameEnd U o U' L rm.cells rm.slots)) (eT : T.heap = h) {W : Nat} (hf : rm.frames + 1 ≤ R.frames) (hlo : W + (maxL + 11) + rm.locals ≤ R.locals) (hsize : Ls.size = c.maxLocals) (a : Addr) (E : Exa Z h a C) (argsL rest : List Value) (hlen : ∀ sig, parseMethodDescriptor y.desc = some sig → argsL.length = sig.parameters.length) (hst : st = argsL.reverse ++ .ref a :: rest) (has : (.ref a :: argsL).toArray = as') (hW : (rest.map fun v => v.category).sum ≤ W) (hd : decode c.code pc = .ok (.invokevirtual index, 3)) (hc : cells + rm.cells ≤ R.cells) (hs : slots + rm.slots ≤ R.slots) (k : ∀ (v : Option Value) (T' : State) (L : List Loc), Stand p l e R s m args below meth c T' (locs ++ L) (cells + rm.cells) (slots + rm.slots) → Q v T'.heap L → Go p e below P (T'.setTop (mkF m (pc + 3) Ls (v.toList ++ rest)))) : Go p e below P (T.setTop (mkF m pc Ls st)) := by
  obtain ⟨cq, kq, qa, qb, qc⟩ := isOf hZ eT E
  obtain ⟨v, vm1, ⟨T', L', k', n'⟩, -, X', ⟨L, hQ, l1, y1, z1⟩, stp⟩ := X.virtualBack hx (y := y) (z := y) hown (mvT hZ w1) (mvT hZ w2) (notFace_of_selects (args := #[]) (mvT hZ w5)) (mvT hZ w5) (mvT hZ w6) hy (backOf (W := W) hM hZ w4 w3 hf hlo) qa qc (g := mkF m pc Ls st) rfl hsize (Steps.refl _) hlen hst (by show 2 * 0 + _ ≤ _; omega) hd (fun _ _ => ⟨has, eT, hc, hs⟩)
  dsimp only [Pt.U, Pt.locs, Pt.cells, Pt.slots] at X' l1 y1 z1 stp hQ
  subst l1 y1 z1
  exact (k v T' L X' hQ).by fun t r => stp.trans r
theorem g_absD (X : Stand p l e R s m args below meth c T locs cells slots) (hx : p.tables.exec = Jvm.exec) (hZ : Z.Warmed39 s.vm) (hown : s.vm.findClass own = some m.cls) (w1 : (Cond.methodLink own index Jvm.Free.Fl.Abs.absDN).before a0 Z = true) (w2 : (Cond.static Jvm.Free.Fl.Abs.absDN).before a0 Z = true) (w3 : (Cond.initialized "java/lang/Math").before a0 Z = true) (w4 : (Cond.code Jvm.Free.Fl.Abs.absDN Jvm.Free.Fl.Abs.absDCode 2 (some .double)).before a0 Z = true) (eT : T.heap = h) (hsize : Ls.size = c.maxLocals) {a : UInt64} (hn : Jvm.Free.Fl.NoNaN64 a) (hfr : 1 ≤ R.frames) {W : Nat} (hW : (st.map fun v => v.category).sum ≤ W) (hlo : W + 13 ≤ R.locals) (hc : cells ≤ R.cells) (hs : slots ≤ R.slots) (hd : decode c.code pc = .ok (.invokestatic index, 3))
    (k : ∀ T', Stand p l e R s m args below meth c T' locs cells slots → T'.heap = h → Go p e below P (T'.setTop (mkF m (pc + 3) Ls (.double (a &&& 0x7fffffffffffffff) :: st)))) : Go p e below P (T.setTop (mkF m pc Ls (.double a :: st))) := by
  obtain ⟨T', X', e', stp⟩ := natS X hx hZ hown w1 w2 w3 w4 (by decide) eT (W := W) (F := fun a' => a' = #[.double a] ∧ Jvm.Free.Fl.NoNaN64 a) (val := .double (a &&& 0x7fffffffffffffff)) (val' := .double (a &&& 0x7fffffffffffffff)) (fun q => Jvm.Free.Fl.Abs.absD_pays a q hfr hlo) (g := mkF m pc Ls (.double a :: st)) rfl hsize (argsL := [.double a]) (rest := st) (lenOf (ps := [.double]) (r := some .double) (by decide +kernel) rfl) rfl (by show 2 * 0 + _ ≤ _; omega) hd hc hs ⟨rfl, hn⟩ rfl
  exact (k T' X' e').by stp
theorem g_objInit (X : Stand p l e R s m args below meth c T locs cells slots) (hx : p.tables.exec = Jvm.exec) (hZ : Z.Warmed39 s.vm) (hown : s.vm.findClass own = some m.cls) (w1 : (Cond.methodLink own index Lib.objectInit).before a0 Z = true) (w2 : (Cond.instanceMethod Lib.objectInit).before a0 Z = true) (w3 : (Cond.code Lib.objectInit ⟨#[0xb1]⟩ 1 none).before a0 Z = true) (eT : T.heap = h) (hsize : Ls.size = c.maxLocals) {a : Addr} (hd : decode c.code pc = .ok (.invokespecial index, 3)) (hf : 1 ≤ R.frames) {W : Nat} (hW : (st.map fun v => v.category).sum ≤ W) (hlo : W + 12 ≤ R.locals)
    (k : ∀ T', Stand p l e R s m args below meth c T' locs cells slots → T'.heap = h → Go p e below P (T'.setTop (mkF m (pc + 3) Ls st))) : Go p e below P (T.setTop (mkF m pc Ls (.ref a :: st))) := by
  obtain ⟨T', X', e', stp⟩ := initO X hx hZ hown w1 w2 w3 eT (g := mkF m pc Ls (.ref a :: st)) rfl hsize rfl hd hf (W := W) (by show 2 * 0 + _ ≤ _; omega) hlo
  exact (k T' X' e').by stp
theorem g_new (X : Stand p l e R s m args below meth c T locs cells slots) (hx : p.tables.exec = Jvm.exec) (hZ : Z.Warmed39 s.vm) (hown : s.vm.findClass own = some m.cls) {C : String} {n : Nat} (w : (Cond.classLink own index C).before a0 Z = true) (wi : (Cond.instantiable C n).before a0 Z = true) (wz : (Cond.initialized C).before a0 Z = true) (eT : T.heap = h) (hd : decode c.code pc = .ok (.new index, 3)) (hc : cells + 1 ≤ R.cells) (hl : slots + n ≤ R.slots)
    (k : ∀ T' h' a, a = h.size → Stand p l e R s m args below meth c T' locs (cells + 1) (slots + n) → T'.heap = h' → Ext h h' → Exa Z h' a C → (∀ {O nm d : String} {ty : FieldType}, Laid Z a0 C O nm d → parseFieldDescriptor d = some ty → Fld Z h' a O nm d (defaultValue ty)) → Go p e below P (T'.setTop (mkF m (pc + 3) Ls (.ref a :: st)))) : Go p e below P (T.setTop (mkF m pc Ls st)) := by
  obtain ⟨T', h', X', e', E, A, D, -, stp⟩ := newO X hx hZ hown w wi wz eT (g := mkF m pc Ls st) rfl hd hc hl
  exact (k T' h' _ rfl X' e' E A D).by stp
theorem g_getF (X : Stand p l e R s m args below meth c T locs cells slots) (hx : p.tables.exec = Jvm.exec) (hZ : Z.Warmed39 s.vm) (hown : s.vm.findClass own = some m.cls) {O n d : String} (w : (Cond.fieldLink own index O n d).before a0 Z = true) (eT : T.heap = h) {a : Addr} {v : Value} (F : Fld Z h a O n d v) (hd : decode c.code pc = .ok (.getfield index, 3))
    (k : ∀ T', Stand p l e R s m args below meth c T' locs cells slots → T'.heap = h → Go p e below P (T'.setTop (mkF m (pc + 3) Ls (v :: st)))) : Go p e below P (T.setTop (mkF m pc Ls (.ref a :: st))) := by
  obtain ⟨T', X', e', stp⟩ := getF X hx hZ hown (host := "") (Or.inl w) Via.refl eT F (g := mkF m pc Ls (.ref a :: st)) rfl rfl hd
  exact (k T' X' e').by stp
theorem g_getS (X : Stand p l e R s m args below meth c T locs cells slots) (hx : p.tables.exec = Jvm.exec) (hZ : Z.Warmed39 s.vm) (hown : s.vm.findClass own = some m.cls) {O n d : String} (w : (Cond.fieldLink own index O n d).before a0 Z = true) (eT : T.heap = h) {v : Value} (F : Sta Z h O n d v) (hd : decode c.code pc = .ok (.getstatic index, 3))
    (k : ∀ T', Stand p l e R s m args below meth c T' locs cells slots → T'.heap = h → Go p e below P (T'.setTop (mkF m (pc + 3) Ls (v :: st)))) : Go p e below P (T.setTop (mkF m pc Ls st)) := by
  obtain ⟨T', X', e', stp⟩ := getS X hx hZ hown (host := "") w Via.refl eT F (g := mkF m pc Ls st) rfl hd
  exact (k T' X' e').by stp
theorem g_putF (X : Stand p l e R s m args below meth c T locs cells slots) (hx : p.tables.exec = Jvm.exec) (hZ : Z.Warmed39 s.vm) (hown : s.vm.findClass own = some m.cls) {O n d C : String} {kk : Nat} {ty : FieldType} (w : (Cond.fieldLink own index O n d).before a0 Z = true) (eT : T.heap = h) {a : Addr} {v old : Value} (F : Fld Z h a O n d old) (E : Exa Z h a C) (L : (Cond.lays C O n d).before a0 Z = true ∨ ((Cond.laysFinal C O n d).before a0 Z = true ∧ own = O ∧ meth.name = "<init>")) (wi : (Cond.instantiable C kk).before a0 Z = true) (hty : parseFieldDescriptor d = some ty) (hn : narrow ty v = v) (hf : fits ty v = true) (hd : decode c.code pc = .ok (.putfield index, 3))
    (k : ∀ T' h', Stand p l e R s m args below meth c T' (locs ++ [⟨a, Jvm.RoadKit.slotOf Z O n d⟩]) cells slots → T'.heap = h' → Wr h h' a (Jvm.RoadKit.slotOf Z O n d) v → Go p e below P (T'.setTop (mkF m (pc + 3) Ls st))) : Go p e below P (T.setTop (mkF m pc Ls (v :: .ref a :: st))) := by
  obtain ⟨T', h', X', e', W, stp⟩ := putF X hx hZ hown (host := "") (Or.inl w) Via.refl eT F E L wi hty hn hf (g := mkF m pc Ls (v :: .ref a :: st)) rfl rfl hd
  exact (k T' h' X' e' W).by stp
theorem g_newP (X : Stand p l e R s m args below meth c T locs cells slots) (hx : p.tables.exec = Jvm.exec) (hZ : Z.Warmed39 s.vm) {aty : ArrayType} {ty : FieldType} (hty : newarray.typeOf aty = ty) (w : (Cond.arrayClass ty).before a0 Z = true) (eT : T.heap = h) (hd : decode c.code pc = .ok (.newarray aty, 2)) {n : Int32} (hn : ¬ n < 0) {cap : Nat} (hcap : n.toNatClampNeg ≤ cap) (hb : cap * 8 ≤ 536870912) (hc : cells + 1 ≤ R.cells) (hl : slots + cap ≤ R.slots)
    (k : ∀ T' h' a cA, a = h.size → Stand p l e R s m args below meth c T' locs (cells + 1) (slots + cap) → T'.heap = h' → Ext h h' → Arr Z h' a (newA cA ty n) ty → Go p e below P (T'.setTop (mkF m (pc + 2) Ls (.ref a :: st)))) : Go p e below P (T.setTop (mkF m pc Ls (.int n :: st))) := by
  subst hty
  obtain ⟨T', h', cA, X', e', E, A, stp⟩ := newP X hx hZ w eT (g := mkF m pc Ls (.int n :: st)) rfl hd rfl hn hcap hb hc hl
  exact (k T' h' _ cA rfl X' e' E A).by stp
theorem fld_any {C O O' n n' d d' : String} {v : Value} {a : Addr} {kk : Nat} (E : Exa Z h a C) (F : Fld Z h a O n d v) (wi : (Cond.instantiable C kk).before a0 Z = true) (L : Laid Z a0 C O' n' d') : ∃ w, Fld Z h a O' n' d' w := by
  obtain ⟨cell, k, h1, h2, h3, h4, h5⟩ := E
  obtain ⟨cell', cf, k', i, f, g1, g2, g3, g4, g5, g6, g7⟩ := F
  cases h1.symm.trans g1
  obtain ⟨c1, k1, cf1, kf1, i1, f1, l1, l2, l3, l4, l5, l6, -⟩ := L.spec
  obtain ⟨c2, k2, j1, j2, j3, -⟩ := Cond.instantiable_spec wi
  cases h2.symm.trans l1
  cases h3.symm.trans l2
  cases l1.symm.trans j1
  cases h3.symm.trans j2
  have hsz := h5 j3
  obtain ⟨hlt, -⟩ := Array.getElem?_eq_some_iff.mp l6
  exact ⟨_, cell, cf1, kf1, i1, f1, g1, l3, l4, g4, g5, l5, Array.getElem?_eq_getElem (by rw [hsz]; exact hlt)⟩
/-- an array by a function of the place -/
def Av (Z : State) (h : Heap) (a : Addr) (ty : FieldType) (n : Nat) (f : Nat → Value) : Prop := ∃ cl : Cell, Arr Z h a cl ty ∧ cl.slots.size = n ∧ ∀ i, i < n → cl.slots[i]? = some (f i)
theorem Av.lt {a : Addr} {ty : FieldType} {n : Nat} {f : Nat → Value} (F : Av Z h a ty n f) : a < h.size := by obtain ⟨cl, A, -⟩ := F; exact A.lt
theorem Av.ext {h' : Heap} {a : Addr} {ty : FieldType} {n : Nat} {f : Nat → Value} (F : Av Z h a ty n f) (E : Ext h h') : Av Z h' a ty n f := by obtain ⟨cl, A, B⟩ := F; exact ⟨cl, A.ext E, B⟩
theorem Av.other {h' : Heap} {a b : Addr} {sl : Nat} {v : Value} {ty : FieldType} {n : Nat} {f : Nat → Value} (F : Av Z h b ty n f) (W : Wr h h' a sl v) (q : b ≠ a) : Av Z h' b ty n f := by obtain ⟨cl, A, B⟩ := F; exact ⟨cl, A.other W q, B⟩
theorem Av.keep {h' : Heap} {a : Addr} {ws : List Addr} {ty : FieldType} {n : Nat} {f : Nat → Value} (F : Av Z h a ty n f) (K : Keep h h' ws) (q : a ∉ ws) : Av Z h' a ty n f := by obtain ⟨cl, A, B⟩ := F; exact ⟨cl, ⟨K.2.1 a cl A.1 q, A.2⟩, B⟩
theorem Av.new {a : Addr} {cA : ClassId} {ty : FieldType} {n : Int32} (A : Arr Z h a (newA cA ty n) ty) : Av Z h a ty n.toNatClampNeg (fun _ => defaultValue ty) := ⟨_, A, sz_new _ _ _, fun i hi => by simp [newA, hi]⟩
theorem Av.newK {a : Addr} {cA : ClassId} {ty : FieldType} {n : Int32} {k : Nat} (A : Arr Z h a (newA cA ty n) ty) (hk : n.toNatClampNeg = k) : Av Z h a ty k (fun _ => defaultValue ty) := hk ▸ Av.new A
theorem Av.congr {a : Addr} {ty : FieldType} {n : Nat} {f f' : Nat → Value} (F : Av Z h a ty n f) (q : ∀ i, i < n → f i = f' i) : Av Z h a ty n f' := by obtain ⟨cl, A, B, C⟩ := F; exact ⟨cl, A, B, fun i hi => by rw [C i hi, q i hi]⟩
theorem Av.same {h' : Heap} {a : Addr} {i : Nat} {v : Value} {ty : FieldType} {n : Nat} {f : Nat → Value} (F : Av Z h a ty n f) (W : Wr h h' a i v) : Av Z h' a ty n (fun j => if j = i then v else f j) := by
  obtain ⟨cl, A, B, C⟩ := F
  refine ⟨_, A.same W, by rw [sz_set]; exact B, fun j hj => ?_⟩
  obtain ⟨cb, hb1, -, -, -, -, hb2, hb3⟩ := wr_at W A.1
  have e1 := (A.same W).1
  have e2 : cb = cl.setSlot i v := Option.some.inj (hb1.symm.trans e1)
  by_cases q : j = i
  · subst q; rw [← e2, (hb3 rfl).2.1]; simp
  · rw [← e2, hb2 j q, C j hj]; simp [q]
theorem out_idx {j : Int32} {n : Nat} (h0 : 0 ≤ j.toInt) (h1 : j.toInt < n) : ¬ (j < 0 ∨ n ≤ j.toNatClampNeg) := by
  have e : (j.toNatClampNeg : Int) = j.toInt := by rw [Int32.toNatClampNeg]; omega
  intro q
  rcases q with q | q
  · have := Int32.lt_iff_toInt_lt.mp q; simp at this; omega
  · omega
theorem g_iaload (X : Stand p l e R s m args below meth c T locs cells slots) (hx : p.tables.exec = Jvm.exec) (hZ : Z.Warmed39 s.vm) (eT : T.heap = h) {a : Addr} {n : Nat} {f : Nat → Value} (F : Av Z h a .int n f) {j : Int32} {i : Nat} {v : Value} (hj0 : 0 ≤ j.toInt) (hj1 : j.toInt < n) (hi : j.toNatClampNeg = i) (hv : f i = v) (hd : decode c.code pc = .ok (.iaload, 1)) (q : Go p e below P (T.setTop (mkF m (pc + 1) Ls (v :: st)))) : Go p e below P (T.setTop (mkF m pc Ls (.int j :: .ref a :: st))) := by
  obtain ⟨cl, A, B, C⟩ := F
  have hin := out_idx hj0 hj1
  subst hi hv
  exact q.by fun t r => X.iaload hx (by rw [eT]; exact A.1) (State.isArrayOf_alike hZ.alike A.2.1) A.2.2 (by rw [B]; exact hin) (C _ (by omega)) (g := mkF m pc Ls (.int j :: .ref a :: st)) rfl rfl hd t r
theorem g_laload (X : Stand p l e R s m args below meth c T locs cells slots) (hx : p.tables.exec = Jvm.exec) (hZ : Z.Warmed39 s.vm) (eT : T.heap = h) {a : Addr} {n : Nat} {f : Nat → Value} (F : Av Z h a .long n f) {j : Int32} {i : Nat} {v : Value} (hj0 : 0 ≤ j.toInt) (hj1 : j.toInt < n) (hi : j.toNatClampNeg = i) (hv : f i = v) (hd : decode c.code pc = .ok (.laload, 1)) (q : Go p e below P (T.setTop (mkF m (pc + 1) Ls (v :: st)))) : Go p e below P (T.setTop (mkF m pc Ls (.int j :: .ref a :: st))) := by
  obtain ⟨cl, A, B, C⟩ := F
  have hin := out_idx hj0 hj1
  subst hi hv
  exact q.by fun t r => X.laload hx (by rw [eT]; exact A.1) (State.isArrayOf_alike hZ.alike A.2.1) A.2.2 (by rw [B]; exact hin) (C _ (by omega)) (g := mkF m pc Ls (.int j :: .ref a :: st)) rfl rfl hd t r
theorem g_daload (X : Stand p l e R s m args below meth c T locs cells slots) (hx : p.tables.exec = Jvm.exec) (hZ : Z.Warmed39 s.vm) (eT : T.heap = h) {a : Addr} {n : Nat} {f : Nat → Value} (F : Av Z h a .double n f) {j : Int32} {i : Nat} {v : Value} (hj0 : 0 ≤ j.toInt) (hj1 : j.toInt < n) (hi : j.toNatClampNeg = i) (hv : f i = v) (hd : decode c.code pc = .ok (.daload, 1)) (q : Go p e below P (T.setTop (mkF m (pc + 1) Ls (v :: st)))) : Go p e below P (T.setTop (mkF m pc Ls (.int j :: .ref a :: st))) := by
  obtain ⟨cl, A, B, C⟩ := F
  have hin := out_idx hj0 hj1
  subst hi hv
  exact q.by fun t r => X.daload hx (by rw [eT]; exact A.1) (State.isArrayOf_alike hZ.alike A.2.1) A.2.2 (by rw [B]; exact hin) (C _ (by omega)) (g := mkF m pc Ls (.int j :: .ref a :: st)) rfl rfl hd t r
theorem g_caload (X : Stand p l e R s m args below meth c T locs cells slots) (hx : p.tables.exec = Jvm.exec) (hZ : Z.Warmed39 s.vm) (eT : T.heap = h) {a : Addr} {n : Nat} {f : Nat → Value} (F : Av Z h a .char n f) {j : Int32} {i : Nat} {v : Value} (hj0 : 0 ≤ j.toInt) (hj1 : j.toInt < n) (hi : j.toNatClampNeg = i) (hv : f i = v) (hd : decode c.code pc = .ok (.caload, 1)) (q : Go p e below P (T.setTop (mkF m (pc + 1) Ls (v :: st)))) : Go p e below P (T.setTop (mkF m pc Ls (.int j :: .ref a :: st))) := by
  obtain ⟨cl, A, B, C⟩ := F
  have hin := out_idx hj0 hj1
  subst hi hv
  exact q.by fun t r => X.caload hx (by rw [eT]; exact A.1) (State.isArrayOf_alike hZ.alike A.2.1) A.2.2 (by rw [B]; exact hin) (C _ (by omega)) (g := mkF m pc Ls (.int j :: .ref a :: st)) rfl rfl hd t r
theorem g_baloadB (X : Stand p l e R s m args below meth c T locs cells slots) (hx : p.tables.exec = Jvm.exec) (hZ : Z.Warmed39 s.vm) (eT : T.heap = h) {a : Addr} {n : Nat} {f : Nat → Value} (F : Av Z h a .byte n f) {j : Int32} {i : Nat} {v : Value} (hj0 : 0 ≤ j.toInt) (hj1 : j.toInt < n) (hi : j.toNatClampNeg = i) (hv : f i = v) (hd : decode c.code pc = .ok (.baload, 1)) (q : Go p e below P (T.setTop (mkF m (pc + 1) Ls (v :: st)))) : Go p e below P (T.setTop (mkF m pc Ls (.int j :: .ref a :: st))) := by
  obtain ⟨cl, A, B, C⟩ := F
  have hin := out_idx hj0 hj1
  subst hi hv
  exact q.by fun t r => X.baloadBytes hx (by rw [eT]; exact A.1) (State.isArrayOf_alike hZ.alike A.2.1) A.2.2 (by rw [B]; exact hin) (C _ (by omega)) (g := mkF m pc Ls (.int j :: .ref a :: st)) rfl rfl hd t r
theorem g_baloadZ (X : Stand p l e R s m args below meth c T locs cells slots) (hx : p.tables.exec = Jvm.exec) (hZ : Z.Warmed39 s.vm) (eT : T.heap = h) {a : Addr} {n : Nat} {f : Nat → Value} (F : Av Z h a .boolean n f) {j : Int32} {i : Nat} {v : Value} (hj0 : 0 ≤ j.toInt) (hj1 : j.toInt < n) (hi : j.toNatClampNeg = i) (hv : f i = v) (hd : decode c.code pc = .ok (.baload, 1)) (q : Go p e below P (T.setTop (mkF m (pc + 1) Ls (v :: st)))) : Go p e below P (T.setTop (mkF m pc Ls (.int j :: .ref a :: st))) := by
  obtain ⟨cl, A, B, C⟩ := F
  have hin := out_idx hj0 hj1
  subst hi hv
  exact q.by fun t r => X.baloadBooleans hx (by rw [eT]; exact A.1) (State.isArrayOf_alike hZ.alike A.2.1) A.2.2 (by rw [B]; exact hin) (C _ (by omega)) (g := mkF m pc Ls (.int j :: .ref a :: st)) rfl rfl hd t r
theorem g_iastore (X : Stand p l e R s m args below meth c T locs cells slots) (hx : p.tables.exec = Jvm.exec) (hZ : Z.Warmed39 s.vm) (eT : T.heap = h) {a : Addr} {n : Nat} {f : Nat → Value} (F : Av Z h a .int n f) {j : Int32} {i : Nat} {x : Int32} (hj0 : 0 ≤ j.toInt) (hj1 : j.toInt < n) (hi : j.toNatClampNeg = i) (hd : decode c.code pc = .ok (.iastore, 1))
    (k : ∀ T' h', Stand p l e R s m args below meth c T' (locs ++ [⟨a, i⟩]) cells slots → T'.heap = h' → Wr h h' a i (.int x) → Go p e below P (T'.setTop (mkF m (pc + 1) Ls st))) : Go p e below P (T.setTop (mkF m pc Ls (.int x :: .int j :: .ref a :: st))) := by
  obtain ⟨cl, A, B, C⟩ := F
  have hin := out_idx hj0 hj1
  subst hi
  obtain ⟨T', h', X', e', W, stp⟩ := stI X hx hZ eT A (x := x) (by rw [B]; exact hin) (g := mkF m pc Ls (.int x :: .int j :: .ref a :: st)) rfl rfl hd
  exact (k T' h' X' e' W).by stp
theorem g_lastore (X : Stand p l e R s m args below meth c T locs cells slots) (hx : p.tables.exec = Jvm.exec) (hZ : Z.Warmed39 s.vm) (eT : T.heap = h) {a : Addr} {n : Nat} {f : Nat → Value} (F : Av Z h a .long n f) {j : Int32} {i : Nat} {x : Int64} (hj0 : 0 ≤ j.toInt) (hj1 : j.toInt < n) (hi : j.toNatClampNeg = i) (hd : decode c.code pc = .ok (.lastore, 1))
    (k : ∀ T' h', Stand p l e R s m args below meth c T' (locs ++ [⟨a, i⟩]) cells slots → T'.heap = h' → Wr h h' a i (.long x) → Go p e below P (T'.setTop (mkF m (pc + 1) Ls st))) : Go p e below P (T.setTop (mkF m pc Ls (.long x :: .int j :: .ref a :: st))) := by
  obtain ⟨cl, A, B, C⟩ := F
  have hin := out_idx hj0 hj1
  subst hi
  obtain ⟨T', h', X', e', W, stp⟩ := stJ X hx hZ eT A (x := x) (by rw [B]; exact hin) (g := mkF m pc Ls (.long x :: .int j :: .ref a :: st)) rfl rfl hd
  exact (k T' h' X' e' W).by stp
theorem g_dastore (X : Stand p l e R s m args below meth c T locs cells slots) (hx : p.tables.exec = Jvm.exec) (hZ : Z.Warmed39 s.vm) (eT : T.heap = h) {a : Addr} {n : Nat} {f : Nat → Value} (F : Av Z h a .double n f) {j : Int32} {i : Nat} {x : UInt64} (hj0 : 0 ≤ j.toInt) (hj1 : j.toInt < n) (hi : j.toNatClampNeg = i) (hd : decode c.code pc = .ok (.dastore, 1))
    (k : ∀ T' h', Stand p l e R s m args below meth c T' (locs ++ [⟨a, i⟩]) cells slots → T'.heap = h' → Wr h h' a i (.double x) → Go p e below P (T'.setTop (mkF m (pc + 1) Ls st))) : Go p e below P (T.setTop (mkF m pc Ls (.double x :: .int j :: .ref a :: st))) := by
  obtain ⟨cl, A, B, C⟩ := F
  have hin := out_idx hj0 hj1
  subst hi
  obtain ⟨T', h', X', e', W, stp⟩ := stD X hx hZ eT A (x := x) (by rw [B]; exact hin) (g := mkF m pc Ls (.double x :: .int j :: .ref a :: st)) rfl rfl hd
  exact (k T' h' X' e' W).by stp
theorem g_castore (X : Stand p l e R s m args below meth c T locs cells slots) (hx : p.tables.exec = Jvm.exec) (hZ : Z.Warmed39 s.vm) (eT : T.heap = h) {a : Addr} {n : Nat} {f : Nat → Value} (F : Av Z h a .char n f) {j : Int32} {i : Nat} {x : Int32} (hj0 : 0 ≤ j.toInt) (hj1 : j.toInt < n) (hi : j.toNatClampNeg = i) (hd : decode c.code pc = .ok (.castore, 1))
    (k : ∀ T' h', Stand p l e R s m args below meth c T' (locs ++ [⟨a, i⟩]) cells slots → T'.heap = h' → Wr h h' a i (.int (nar .char x)) → Go p e below P (T'.setTop (mkF m (pc + 1) Ls st))) : Go p e below P (T.setTop (mkF m pc Ls (.int x :: .int j :: .ref a :: st))) := by
  obtain ⟨cl, A, B, C⟩ := F
  have hin := out_idx hj0 hj1
  subst hi
  obtain ⟨T', h', X', e', W, stp⟩ := stC X hx hZ eT A (x := x) (by rw [B]; exact hin) (g := mkF m pc Ls (.int x :: .int j :: .ref a :: st)) rfl rfl hd
  exact (k T' h' X' e' W).by stp
theorem g_bastoreB (X : Stand p l e R s m args below meth c T locs cells slots) (hx : p.tables.exec = Jvm.exec) (hZ : Z.Warmed39 s.vm) (eT : T.heap = h) {a : Addr} {n : Nat} {f : Nat → Value} (F : Av Z h a .byte n f) {j : Int32} {i : Nat} {x : Int32} (hj0 : 0 ≤ j.toInt) (hj1 : j.toInt < n) (hi : j.toNatClampNeg = i) (hd : decode c.code pc = .ok (.bastore, 1))
    (k : ∀ T' h', Stand p l e R s m args below meth c T' (locs ++ [⟨a, i⟩]) cells slots → T'.heap = h' → Wr h h' a i (.int (nar .byte x)) → Go p e below P (T'.setTop (mkF m (pc + 1) Ls st))) : Go p e below P (T.setTop (mkF m pc Ls (.int x :: .int j :: .ref a :: st))) := by
  obtain ⟨cl, A, B, C⟩ := F
  have hin := out_idx hj0 hj1
  subst hi
  obtain ⟨T', h', X', e', W, stp⟩ := stB X hx hZ eT A (x := x) (by rw [B]; exact hin) (g := mkF m pc Ls (.int x :: .int j :: .ref a :: st)) rfl rfl hd
  exact (k T' h' X' e' W).by stp
theorem g_bastoreZ (X : Stand p l e R s m args below meth c T locs cells slots) (hx : p.tables.exec = Jvm.exec) (hZ : Z.Warmed39 s.vm) (eT : T.heap = h) {a : Addr} {n : Nat} {f : Nat → Value} (F : Av Z h a .boolean n f) {j : Int32} {i : Nat} {x : Int32} (hj0 : 0 ≤ j.toInt) (hj1 : j.toInt < n) (hi : j.toNatClampNeg = i) (hd : decode c.code pc = .ok (.bastore, 1))
    (k : ∀ T' h', Stand p l e R s m args below meth c T' (locs ++ [⟨a, i⟩]) cells slots → T'.heap = h' → Wr h h' a i (.int (nar .boolean x)) → Go p e below P (T'.setTop (mkF m (pc + 1) Ls st))) : Go p e below P (T.setTop (mkF m pc Ls (.int x :: .int j :: .ref a :: st))) := by
  obtain ⟨cl, A, B, C⟩ := F
  have hin := out_idx hj0 hj1
  subst hi
  obtain ⟨T', h', X', e', W, stp⟩ := stZ X hx hZ eT A (x := x) (by rw [B]; exact hin) (g := mkF m pc Ls (.int x :: .int j :: .ref a :: st)) rfl rfl hd
  exact (k T' h' X' e' W).by stp
theorem g_arraylength (X : Stand p l e R s m args below meth c T locs cells slots) (hx : p.tables.exec = Jvm.exec) (hZ : Z.Warmed39 s.vm) (eT : T.heap = h) {a : Addr} {ty : FieldType} {n : Nat} {f : Nat → Value} (F : Av Z h a ty n f) {v : Int32} (hv : n.toInt32 = v) (hd : decode c.code pc = .ok (.arraylength, 1)) (q : Go p e below P (T.setTop (mkF m (pc + 1) Ls (.int v :: st)))) : Go p e below P (T.setTop (mkF m pc Ls (.ref a :: st))) := by
  obtain ⟨cl, A, B, C⟩ := F
  subst hv B
  exact q.by fun t r => X.arraylength hx (by rw [eT]; exact A.1) (State.isArrayOf_alike hZ.alike A.2.1) (g := mkF m pc Ls (.ref a :: st)) rfl rfl hd t r
theorem cv_g_lt (r : Option Ordering) : cmpValue r .g < 0 ↔ r = some .lt := by rcases r with _ | (_ | _ | _) <;> decide
theorem cv_g_gt (r : Option Ordering) : 0 < cmpValue r .g ↔ (r = some .gt ∨ r = none) := by rcases r with _ | (_ | _ | _) <;> decide
theorem cv_l_lt (r : Option Ordering) : cmpValue r .l < 0 ↔ (r = some .lt ∨ r = none) := by rcases r with _ | (_ | _ | _) <;> decide
theorem cv_l_gt (r : Option Ordering) : 0 < cmpValue r .l ↔ r = some .gt := by rcases r with _ | (_ | _ | _) <;> decide
theorem cv_g_eq (r : Option Ordering) : cmpValue r .g = 0 ↔ r = some .eq := by rcases r with _ | (_ | _ | _) <;> decide
theorem cv_l_eq (r : Option Ordering) : cmpValue r .l = 0 ↔ r = some .eq := by rcases r with _ | (_ | _ | _) <;> decide
end OwnKit

def own_maxL (a b : Int64) : Int64 := if a < b then b else a
theorem own_maxT (a b : Int64) : (own_maxL a b).toInt = max a.toInt b.toInt := by
  unfold own_maxL
  by_cases h : a < b
  · rw [if_pos h]; have := Int64.lt_iff_toInt_lt.mp h; omega
  · rw [if_neg h]; have : ¬ a.toInt < b.toInt := fun q => h (Int64.lt_iff_toInt_lt.mpr q); omega
/-- a 16-bit part -/
def own_p (w : Int64) : Prop := -32768 ≤ w.toInt ∧ w.toInt < 32768
def own_r (w : Int64) : Prop := -2147483648 ≤ w.toInt ∧ w.toInt < 2147483648
theorem own_lt {a b r : Int64} (ha : own_p a) (hb : own_p b) (hr : own_r r) : FP.dcmp (FP.dadd (FP.l2d a) (FP.l2d r)) (FP.l2d b) = some .lt ↔ a.toInt + r.toInt < b.toInt := by
  unfold own_p own_r at *
  have q : FP.dcmp (FP.dadd (FP.l2d a) (FP.l2d r)) (FP.l2d b) = some (compare (a.toInt + r.toInt) b.toInt) :=
    FP.Core.dcmp_int (FP.Core.dadd_int (FP.Core.l2d_int (by omega)) (FP.Core.l2d_int (by omega)) (by omega)) (FP.Core.l2d_int (by omega))
  rw [q]
  simp only [Option.some.injEq]
  exact FP.Core.compare_lt_iff _ _
def own_apart (a0 a1 a2 a3 b0 b1 b2 b3 r : Int64) : Prop := a2.toInt + r.toInt < b0.toInt ∨ b2.toInt + r.toInt < a0.toInt ∨ a3.toInt + r.toInt < b1.toInt ∨ b3.toInt + r.toInt < a1.toInt
def own_b (P : Prop) [Decidable P] : Int32 := if P then 1 else 0
theorem own_or (P Q : Prop) [Decidable P] [Decidable Q] : own_b P ||| own_b Q = own_b (P ∨ Q) := by
  unfold own_b
  by_cases p : P <;> by_cases q : Q <;> simp [p, q]
theorem own_b1 {P : Prop} [Decidable P] (h : P) : (1 : Int32) = own_b P := by unfold own_b; rw [if_pos h]
theorem own_b0 {P : Prop} [Decidable P] (h : ¬ P) : (0 : Int32) = own_b P := by unfold own_b; rw [if_neg h]
theorem d1_0 : decode method_2_code 0 = .ok (.lload_n 0, 1) := by decide +kernel
theorem d1_1 : decode method_2_code 1 = .ok (.bipush 16, 2) := by decide +kernel
theorem d1_3 : decode method_2_code 3 = .ok (.iload_n 2, 1) := by decide +kernel
theorem d1_4 : decode method_2_code 4 = .ok (.imul, 1) := by decide +kernel
theorem d1_5 : decode method_2_code 5 = .ok (.lshr, 1) := by decide +kernel
theorem d1_6 : decode method_2_code 6 = .ok (.l2i, 1) := by decide +kernel
theorem d1_7 : decode method_2_code 7 = .ok (.i2s, 1) := by decide +kernel
theorem d1_8 : decode method_2_code 8 = .ok (.i2l, 1) := by decide +kernel
theorem d1_9 : decode method_2_code 9 = .ok (.lreturn, 1) := by decide +kernel
theorem pn1 : plainName "com/example/ordinate/ordinate/plane/BoundsBoxesApartPinLaw" = true := by first | (simp [plainName, overriddenIn]; done) | decide +kernel
theorem ef1 (m : MethodId) (z0 : Int64) (z1 : Int32) : entryFrame m #[(.long z0), (.int z1)] 3 = mkF m 0 #[.val (.long z0), .second, .val (.int z1)] [] := by first | (simp [entryFrame, mkF, argsToLocals, Value.category]; done) | rfl
def Q1 (Z : State) (q1 : Int64) (q2 : Int32) (h0 : Heap) (n0 : Nat) (v : Option Value) (h : Heap) (L : List Loc) : Prop := ∃ w : Int64, v = some (.long w) ∧ own_p w ∧ Fr n0 L ∧ h = h0
set_option maxRecDepth 65536 in
set_option maxHeartbeats 40000000 in
theorem rm1 (l : Launch) (Z : State) (a0 : Array Value) (hw : ∀ d ∈ tables_1, d.before a0 Z = true) (ws : List Jvm.Cond) (q1 : Int64) (q2 : Int32) (h0 : Heap) (n0 : Nat) (Z0 : n0 ≤ h0.size)  :
    MetFree l (⟨"com/example/ordinate/ordinate/plane/BoundsBoxesApartPinLaw", "part", "(JI)J"⟩ : MethodName) (head1 (Jvm.Cond.code (⟨"com/example/ordinate/ordinate/plane/BoundsBoxesApartPinLaw", "part", "(JI)J"⟩ : MethodName) method_2_code 3 (Option.some Jvm.ClassFile.FieldType.long) :: ws) ({ frames := 0, cells := 0, slots := 0, locals := 0 } : Room)) (fun a U => a = #[(.long q1), (.int q2)] ∧ Z.Warmed39 U.vm ∧ U.heap = h0) (fun _ _ _ _ _ => True) (fun _ U o U' => ∃ v L, o = .returned v ∧ Q1 Z q1 q2 h0 n0 v U'.heap L ∧ FrameEnd U o U' L ({ frames := 0, cells := 0, slots := 0, locals := 0 } : Room).cells ({ frames := 0, cells := 0, slots := 0, locals := 0 } : Room).slots) := by
  refine MetFree.of_bodySF (plainFor_of_name pn1) hisR ?_
  intro p e s m args below meth c s₁ Bd hml0 hP hK
  obtain ⟨rfl, hZ, hh⟩ := hP
  have hx := Bd.exec
  have hby := Bd.bytes
  have hml : c.maxLocals = 3 := hml0
  have hown : s.vm.findClass "com/example/ordinate/ordinate/plane/BoundsBoxesApartPinLaw" = some m.cls := findClass_of_methodNamed Bd.named
  have hnm := (name_of_methodNamed Bd.named Bd.method).1
  have X0 : Stand p l e ({ frames := 0, cells := 0, slots := 0, locals := 0 } : Room) s m #[(.long q1), (.int q2)] below meth c s₁ [] 0 0 := Stand.of_body Bd
  have e0 : s₁.heap = h0 := by rw [← hh, Bd.state]; rfl
  have N0 := Fr.nil n0
  show Go p e below (Ret s (Q1 Z q1 q2 h0 n0) ({ frames := 0, cells := 0, slots := 0, locals := 0 } : Room).cells ({ frames := 0, cells := 0, slots := 0, locals := 0 } : Room).slots) (s₁.setTop (entryFrame m #[(.long q1), (.int q2)] 3))
  rw [ef1 m q1 q2]
  refine g_lloadN X0 hx (hb hby d1_0) rfl ?_
  refine g_bipush X0 hx (hb hby d1_1) (v := (16 : Int32)) (by decide) ?_
  refine g_iloadN X0 hx (hb hby d1_3) rfl ?_
  obtain ⟨i1, hi1⟩ : ∃ v : Int32, (16 : Int32) * q2 = v := ⟨_, rfl⟩
  refine g_imul X0 hx (hb hby d1_4) hi1 ?_
  obtain ⟨l2, hl2⟩ : ∃ v : Int64, q1 >>> (i1 &&& 0x3f).toInt64 = v := ⟨_, rfl⟩
  refine g_lshr X0 hx (hb hby d1_5) hl2 ?_
  obtain ⟨i3, hi3⟩ : ∃ v : Int32, l2.toInt32 = v := ⟨_, rfl⟩
  refine g_l2i X0 hx (hb hby d1_6) hi3 ?_
  obtain ⟨i4, hi4⟩ : ∃ v : Int32, i3.toInt16.toInt32 = v := ⟨_, rfl⟩
  refine g_i2s X0 hx (hb hby d1_7) hi4 ?_
  obtain ⟨l5, hl5⟩ : ∃ v : Int64, i4.toInt64 = v := ⟨_, rfl⟩
  refine g_i2l X0 hx (hb hby d1_8) hl5 ?_
  refine g_lreturn X0 hx Bd.notSynchronized Bd.returns (hb hby d1_9) (by decide) (by decide) ?_
  refine ⟨l5, rfl, ?_, N0, e0⟩
  have a := c_i2s i3
  rw [hi4] at a
  have b := c_i2l i4
  rw [hl5] at b
  unfold own_p
  omega
theorem d2_0 : decode method_3_code 0 = .ok (.aload_n 0, 1) := by decide +kernel
theorem d2_1 : decode method_3_code 1 = .ok (.iconst 0, 1) := by decide +kernel
theorem d2_2 : decode method_3_code 2 = .ok (.lload_n 1, 1) := by decide +kernel
theorem d2_3 : decode method_3_code 3 = .ok (.iconst 0, 1) := by decide +kernel
theorem d2_4 : decode method_3_code 4 = .ok (.invokestatic 7, 3) := by decide +kernel
theorem d2_7 : decode method_3_code 7 = .ok (.l2d, 1) := by decide +kernel
theorem d2_8 : decode method_3_code 8 = .ok (.dastore, 1) := by decide +kernel
theorem d2_9 : decode method_3_code 9 = .ok (.aload_n 0, 1) := by decide +kernel
theorem d2_10 : decode method_3_code 10 = .ok (.iconst 1, 1) := by decide +kernel
theorem d2_11 : decode method_3_code 11 = .ok (.lload_n 1, 1) := by decide +kernel
theorem d2_12 : decode method_3_code 12 = .ok (.iconst 1, 1) := by decide +kernel
theorem d2_13 : decode method_3_code 13 = .ok (.invokestatic 7, 3) := by decide +kernel
theorem d2_16 : decode method_3_code 16 = .ok (.l2d, 1) := by decide +kernel
theorem d2_17 : decode method_3_code 17 = .ok (.dastore, 1) := by decide +kernel
theorem d2_18 : decode method_3_code 18 = .ok (.aload_n 0, 1) := by decide +kernel
theorem d2_19 : decode method_3_code 19 = .ok (.iconst 2, 1) := by decide +kernel
theorem d2_20 : decode method_3_code 20 = .ok (.lload_n 1, 1) := by decide +kernel
theorem d2_21 : decode method_3_code 21 = .ok (.iconst 2, 1) := by decide +kernel
theorem d2_22 : decode method_3_code 22 = .ok (.invokestatic 7, 3) := by decide +kernel
theorem d2_25 : decode method_3_code 25 = .ok (.l2d, 1) := by decide +kernel
theorem d2_26 : decode method_3_code 26 = .ok (.dastore, 1) := by decide +kernel
theorem d2_27 : decode method_3_code 27 = .ok (.aload_n 0, 1) := by decide +kernel
theorem d2_28 : decode method_3_code 28 = .ok (.iconst 3, 1) := by decide +kernel
theorem d2_29 : decode method_3_code 29 = .ok (.lload_n 1, 1) := by decide +kernel
theorem d2_30 : decode method_3_code 30 = .ok (.iconst 3, 1) := by decide +kernel
theorem d2_31 : decode method_3_code 31 = .ok (.invokestatic 7, 3) := by decide +kernel
theorem d2_34 : decode method_3_code 34 = .ok (.l2d, 1) := by decide +kernel
theorem d2_35 : decode method_3_code 35 = .ok (.dastore, 1) := by decide +kernel
theorem d2_36 : decode method_3_code 36 = .ok (.aload_n 0, 1) := by decide +kernel
theorem d2_37 : decode method_3_code 37 = .ok (.iconst 4, 1) := by decide +kernel
theorem d2_38 : decode method_3_code 38 = .ok (.lload_n 1, 1) := by decide +kernel
theorem d2_39 : decode method_3_code 39 = .ok (.iconst 1, 1) := by decide +kernel
theorem d2_40 : decode method_3_code 40 = .ok (.invokestatic 7, 3) := by decide +kernel
theorem d2_43 : decode method_3_code 43 = .ok (.l2d, 1) := by decide +kernel
theorem d2_44 : decode method_3_code 44 = .ok (.dastore, 1) := by decide +kernel
theorem d2_45 : decode method_3_code 45 = .ok (.aload_n 0, 1) := by decide +kernel
theorem d2_46 : decode method_3_code 46 = .ok (.iconst 5, 1) := by decide +kernel
theorem d2_47 : decode method_3_code 47 = .ok (.lload_n 1, 1) := by decide +kernel
theorem d2_48 : decode method_3_code 48 = .ok (.iconst 3, 1) := by decide +kernel
theorem d2_49 : decode method_3_code 49 = .ok (.invokestatic 7, 3) := by decide +kernel
theorem d2_52 : decode method_3_code 52 = .ok (.l2d, 1) := by decide +kernel
theorem d2_53 : decode method_3_code 53 = .ok (.dastore, 1) := by decide +kernel
theorem d2_54 : decode method_3_code 54 = .ok (.aload_n 0, 1) := by decide +kernel
theorem d2_55 : decode method_3_code 55 = .ok (.bipush 6, 2) := by decide +kernel
theorem d2_57 : decode method_3_code 57 = .ok (.lload_n 1, 1) := by decide +kernel
theorem d2_58 : decode method_3_code 58 = .ok (.iconst 0, 1) := by decide +kernel
theorem d2_59 : decode method_3_code 59 = .ok (.invokestatic 7, 3) := by decide +kernel
theorem d2_62 : decode method_3_code 62 = .ok (.l2d, 1) := by decide +kernel
theorem d2_63 : decode method_3_code 63 = .ok (.dastore, 1) := by decide +kernel
theorem d2_64 : decode method_3_code 64 = .ok (.aload_n 0, 1) := by decide +kernel
theorem d2_65 : decode method_3_code 65 = .ok (.bipush 7, 2) := by decide +kernel
theorem d2_67 : decode method_3_code 67 = .ok (.lload_n 1, 1) := by decide +kernel
theorem d2_68 : decode method_3_code 68 = .ok (.iconst 2, 1) := by decide +kernel
theorem d2_69 : decode method_3_code 69 = .ok (.invokestatic 7, 3) := by decide +kernel
theorem d2_72 : decode method_3_code 72 = .ok (.l2d, 1) := by decide +kernel
theorem d2_73 : decode method_3_code 73 = .ok (.dastore, 1) := by decide +kernel
theorem d2_74 : decode method_3_code 74 = .ok (.return_, 1) := by decide +kernel
theorem pn2 : plainName "com/example/ordinate/ordinate/plane/BoundsBoxesApartPinLaw" = true := by first | (simp [plainName, overriddenIn]; done) | decide +kernel
theorem pd2_0 : parseMethodDescriptor "(JI)J" = some ⟨[.long, .int], some .long⟩ := by decide +kernel
theorem ef2 (m : MethodId) (z0 : Addr) (z1 : Int64) : entryFrame m #[(.ref z0), (.long z1)] 3 = mkF m 0 #[.val (.ref z0), .val (.long z1), .second] [] := by first | (simp [entryFrame, mkF, argsToLocals, Value.category]; done) | rfl
def Q2 (Z : State) (q1 : Addr) (q2 : Int64) (h0 : Heap) (n0 : Nat) (v : Option Value) (h : Heap) (L : List Loc) : Prop := v = none ∧ Fr n0 L ∧ Keep h0 h [q1] ∧ ∃ g, Av Z h q1 .double 8 g
set_option maxRecDepth 65536 in
set_option maxHeartbeats 40000000 in
theorem rm2 (l : Launch) (Z : State) (a0 : Array Value) (hw : ∀ d ∈ tables_1, d.before a0 Z = true) (ws : List Jvm.Cond) (q1 : Addr) (q2 : Int64) (h0 : Heap) (n0 : Nat) (Z0 : n0 ≤ h0.size) {f : Nat → Value} (F0 : Av Z h0 q1 .double 8 f) (g1 : n0 ≤ q1) :
    MetFree l (⟨"com/example/ordinate/ordinate/plane/BoundsBoxesApartPinLaw", "fill", "([DJ)V"⟩ : MethodName) (head1 (Jvm.Cond.code (⟨"com/example/ordinate/ordinate/plane/BoundsBoxesApartPinLaw", "fill", "([DJ)V"⟩ : MethodName) method_3_code 3 (Option.none : Option Jvm.ClassFile.FieldType) :: ws) ({ frames := 1, cells := 0, slots := 0, locals := 20 } : Room)) (fun a U => a = #[(.ref q1), (.long q2)] ∧ Z.Warmed39 U.vm ∧ U.heap = h0) (fun _ _ _ _ _ => True) (fun _ U o U' => ∃ v L, o = .returned v ∧ Q2 Z q1 q2 h0 n0 v U'.heap L ∧ FrameEnd U o U' L ({ frames := 1, cells := 0, slots := 0, locals := 20 } : Room).cells ({ frames := 1, cells := 0, slots := 0, locals := 20 } : Room).slots) := by
  refine MetFree.of_bodySF (plainFor_of_name pn2) hisR ?_
  intro p e s m args below meth c s₁ Bd hml0 hP hK
  obtain ⟨rfl, hZ, hh⟩ := hP
  have hx := Bd.exec
  have hby := Bd.bytes
  have hml : c.maxLocals = 3 := hml0
  have hown : s.vm.findClass "com/example/ordinate/ordinate/plane/BoundsBoxesApartPinLaw" = some m.cls := findClass_of_methodNamed Bd.named
  have hnm := (name_of_methodNamed Bd.named Bd.method).1
  have X0 : Stand p l e ({ frames := 1, cells := 0, slots := 0, locals := 20 } : Room) s m #[(.ref q1), (.long q2)] below meth c s₁ [] 0 0 := Stand.of_body Bd
  have e0 : s₁.heap = h0 := by rw [← hh, Bd.state]; rfl
  have N0 := Fr.nil n0
  show Go p e below (Ret s (Q2 Z q1 q2 h0 n0) ({ frames := 1, cells := 0, slots := 0, locals := 20 } : Room).cells ({ frames := 1, cells := 0, slots := 0, locals := 20 } : Room).slots) (s₁.setTop (entryFrame m #[(.ref q1), (.long q2)] 3))
  rw [ef2 m q1 q2]
  have K0 : Keep h0 h0 [q1] := Keep.refl _ _
  refine g_aloadN X0 hx (hb hby d2_0) rfl rfl ?_
  refine g_iconst X0 hx (hb hby d2_1) (v := (0 : Int32)) (by decide) ?_
  refine g_lloadN X0 hx (hb hby d2_2) rfl ?_
  refine g_iconst X0 hx (hb hby d2_3) (v := (0 : Int32)) (by decide) ?_
  refine g_callS X0 hx hZ hown (hw _ (List.mem_of_getElem? (i := 0) rfl)) (hw _ (List.mem_of_getElem? (i := 1) rfl)) (hw _ (List.mem_of_getElem? (i := 2) rfl)) (hw _ (List.mem_of_getElem? (i := 3) rfl)) (by decide) (rm1 l Z a0 hw [] q2 (0 : Int32) h0 n0 Z0) e0 (W := 2) (by decide) (by decide) (by rw [hml]; rfl) [(.long q2), (.int (0 : Int32))] [(.int (0 : Int32)), (.ref q1)] (lenOf pd2_0 rfl) rfl rfl (Nat.le_of_eq rfl) (hb hby d2_4) (by decide) (by decide) ?_
  intro v6 T2 L5 X3 hQ4
  obtain ⟨pw1, rfl, hp_pw1, N7, e8⟩ := hQ4
  have N9 := Fr.app N0 N7
  show Go p e below (Ret s (Q2 Z q1 q2 h0 n0) ({ frames := 1, cells := 0, slots := 0, locals := 20 } : Room).cells ({ frames := 1, cells := 0, slots := 0, locals := 20 } : Room).slots) (T2.setTop (mkF m 7 #[.val (.ref q1), .val (.long q2), .second] [(.long pw1), (.int (0 : Int32)), (.ref q1)]))
  obtain ⟨d10, hd10⟩ : ∃ v : UInt64, FP.l2d pw1 = v := ⟨_, rfl⟩
  have fin_d10 : Jvm.Free.Fl.Fin64 d10 := by rw [← hd10]; exact Jvm.Free.Fl.l2d_fin _
  refine g_l2d X3 hx (hb hby d2_7) hd10 ?_
  refine g_dastore X3 hx hZ e8 F0 (i := 0) (by decide) (by decide) (by decide) (hb hby d2_8) ?_
  intro T11 h14 X12 e13 W15
  have F16 := F0.same W15
  have Z17 : n0 ≤ h14.size := by rw [W15.size]; exact Z0
  have K18 := Keep.wr K0 W15 (Or.inl (List.mem_of_getElem? (i := 0) rfl))
  have N19 := Fr.snoc X12 N9 g1
  refine g_aloadN X12 hx (hb hby d2_9) rfl rfl ?_
  refine g_iconst X12 hx (hb hby d2_10) (v := (1 : Int32)) (by decide) ?_
  refine g_lloadN X12 hx (hb hby d2_11) rfl ?_
  refine g_iconst X12 hx (hb hby d2_12) (v := (1 : Int32)) (by decide) ?_
  refine g_callS X12 hx hZ hown (hw _ (List.mem_of_getElem? (i := 0) rfl)) (hw _ (List.mem_of_getElem? (i := 1) rfl)) (hw _ (List.mem_of_getElem? (i := 2) rfl)) (hw _ (List.mem_of_getElem? (i := 3) rfl)) (by decide) (rm1 l Z a0 hw [] q2 (1 : Int32) h14 n0 Z17) e13 (W := 2) (by decide) (by decide) (by rw [hml]; rfl) [(.long q2), (.int (1 : Int32))] [(.int (1 : Int32)), (.ref q1)] (lenOf pd2_0 rfl) rfl rfl (Nat.le_of_eq rfl) (hb hby d2_13) (by decide) (by decide) ?_
  intro v25 T21 L24 X22 hQ23
  obtain ⟨pw20, rfl, hp_pw20, N26, e27⟩ := hQ23
  have N28 := Fr.app N19 N26
  show Go p e below (Ret s (Q2 Z q1 q2 h0 n0) ({ frames := 1, cells := 0, slots := 0, locals := 20 } : Room).cells ({ frames := 1, cells := 0, slots := 0, locals := 20 } : Room).slots) (T21.setTop (mkF m 16 #[.val (.ref q1), .val (.long q2), .second] [(.long pw20), (.int (1 : Int32)), (.ref q1)]))
  obtain ⟨d29, hd29⟩ : ∃ v : UInt64, FP.l2d pw20 = v := ⟨_, rfl⟩
  have fin_d29 : Jvm.Free.Fl.Fin64 d29 := by rw [← hd29]; exact Jvm.Free.Fl.l2d_fin _
  refine g_l2d X22 hx (hb hby d2_16) hd29 ?_
  refine g_dastore X22 hx hZ e27 F16 (i := 1) (by decide) (by decide) (by decide) (hb hby d2_17) ?_
  intro T30 h33 X31 e32 W34
  have F35 := F16.same W34
  have Z36 : n0 ≤ h33.size := by rw [W34.size]; exact Z17
  have K37 := Keep.wr K18 W34 (Or.inl (List.mem_of_getElem? (i := 0) rfl))
  have N38 := Fr.snoc X31 N28 g1
  refine g_aloadN X31 hx (hb hby d2_18) rfl rfl ?_
  refine g_iconst X31 hx (hb hby d2_19) (v := (2 : Int32)) (by decide) ?_
  refine g_lloadN X31 hx (hb hby d2_20) rfl ?_
  refine g_iconst X31 hx (hb hby d2_21) (v := (2 : Int32)) (by decide) ?_
  refine g_callS X31 hx hZ hown (hw _ (List.mem_of_getElem? (i := 0) rfl)) (hw _ (List.mem_of_getElem? (i := 1) rfl)) (hw _ (List.mem_of_getElem? (i := 2) rfl)) (hw _ (List.mem_of_getElem? (i := 3) rfl)) (by decide) (rm1 l Z a0 hw [] q2 (2 : Int32) h33 n0 Z36) e32 (W := 2) (by decide) (by decide) (by rw [hml]; rfl) [(.long q2), (.int (2 : Int32))] [(.int (2 : Int32)), (.ref q1)] (lenOf pd2_0 rfl) rfl rfl (Nat.le_of_eq rfl) (hb hby d2_22) (by decide) (by decide) ?_
  intro v44 T40 L43 X41 hQ42
  obtain ⟨pw39, rfl, hp_pw39, N45, e46⟩ := hQ42
  have N47 := Fr.app N38 N45
  show Go p e below (Ret s (Q2 Z q1 q2 h0 n0) ({ frames := 1, cells := 0, slots := 0, locals := 20 } : Room).cells ({ frames := 1, cells := 0, slots := 0, locals := 20 } : Room).slots) (T40.setTop (mkF m 25 #[.val (.ref q1), .val (.long q2), .second] [(.long pw39), (.int (2 : Int32)), (.ref q1)]))
  obtain ⟨d48, hd48⟩ : ∃ v : UInt64, FP.l2d pw39 = v := ⟨_, rfl⟩
  have fin_d48 : Jvm.Free.Fl.Fin64 d48 := by rw [← hd48]; exact Jvm.Free.Fl.l2d_fin _
  refine g_l2d X41 hx (hb hby d2_25) hd48 ?_
  refine g_dastore X41 hx hZ e46 F35 (i := 2) (by decide) (by decide) (by decide) (hb hby d2_26) ?_
  intro T49 h52 X50 e51 W53
  have F54 := F35.same W53
  have Z55 : n0 ≤ h52.size := by rw [W53.size]; exact Z36
  have K56 := Keep.wr K37 W53 (Or.inl (List.mem_of_getElem? (i := 0) rfl))
  have N57 := Fr.snoc X50 N47 g1
  refine g_aloadN X50 hx (hb hby d2_27) rfl rfl ?_
  refine g_iconst X50 hx (hb hby d2_28) (v := (3 : Int32)) (by decide) ?_
  refine g_lloadN X50 hx (hb hby d2_29) rfl ?_
  refine g_iconst X50 hx (hb hby d2_30) (v := (3 : Int32)) (by decide) ?_
  refine g_callS X50 hx hZ hown (hw _ (List.mem_of_getElem? (i := 0) rfl)) (hw _ (List.mem_of_getElem? (i := 1) rfl)) (hw _ (List.mem_of_getElem? (i := 2) rfl)) (hw _ (List.mem_of_getElem? (i := 3) rfl)) (by decide) (rm1 l Z a0 hw [] q2 (3 : Int32) h52 n0 Z55) e51 (W := 2) (by decide) (by decide) (by rw [hml]; rfl) [(.long q2), (.int (3 : Int32))] [(.int (3 : Int32)), (.ref q1)] (lenOf pd2_0 rfl) rfl rfl (Nat.le_of_eq rfl) (hb hby d2_31) (by decide) (by decide) ?_
  intro v63 T59 L62 X60 hQ61
  obtain ⟨pw58, rfl, hp_pw58, N64, e65⟩ := hQ61
  have N66 := Fr.app N57 N64
  show Go p e below (Ret s (Q2 Z q1 q2 h0 n0) ({ frames := 1, cells := 0, slots := 0, locals := 20 } : Room).cells ({ frames := 1, cells := 0, slots := 0, locals := 20 } : Room).slots) (T59.setTop (mkF m 34 #[.val (.ref q1), .val (.long q2), .second] [(.long pw58), (.int (3 : Int32)), (.ref q1)]))
  obtain ⟨d67, hd67⟩ : ∃ v : UInt64, FP.l2d pw58 = v := ⟨_, rfl⟩
  have fin_d67 : Jvm.Free.Fl.Fin64 d67 := by rw [← hd67]; exact Jvm.Free.Fl.l2d_fin _
  refine g_l2d X60 hx (hb hby d2_34) hd67 ?_
  refine g_dastore X60 hx hZ e65 F54 (i := 3) (by decide) (by decide) (by decide) (hb hby d2_35) ?_
  intro T68 h71 X69 e70 W72
  have F73 := F54.same W72
  have Z74 : n0 ≤ h71.size := by rw [W72.size]; exact Z55
  have K75 := Keep.wr K56 W72 (Or.inl (List.mem_of_getElem? (i := 0) rfl))
  have N76 := Fr.snoc X69 N66 g1
  refine g_aloadN X69 hx (hb hby d2_36) rfl rfl ?_
  refine g_iconst X69 hx (hb hby d2_37) (v := (4 : Int32)) (by decide) ?_
  refine g_lloadN X69 hx (hb hby d2_38) rfl ?_
  refine g_iconst X69 hx (hb hby d2_39) (v := (1 : Int32)) (by decide) ?_
  refine g_callS X69 hx hZ hown (hw _ (List.mem_of_getElem? (i := 0) rfl)) (hw _ (List.mem_of_getElem? (i := 1) rfl)) (hw _ (List.mem_of_getElem? (i := 2) rfl)) (hw _ (List.mem_of_getElem? (i := 3) rfl)) (by decide) (rm1 l Z a0 hw [] q2 (1 : Int32) h71 n0 Z74) e70 (W := 2) (by decide) (by decide) (by rw [hml]; rfl) [(.long q2), (.int (1 : Int32))] [(.int (4 : Int32)), (.ref q1)] (lenOf pd2_0 rfl) rfl rfl (Nat.le_of_eq rfl) (hb hby d2_40) (by decide) (by decide) ?_
  intro v82 T78 L81 X79 hQ80
  obtain ⟨pw77, rfl, hp_pw77, N83, e84⟩ := hQ80
  have N85 := Fr.app N76 N83
  show Go p e below (Ret s (Q2 Z q1 q2 h0 n0) ({ frames := 1, cells := 0, slots := 0, locals := 20 } : Room).cells ({ frames := 1, cells := 0, slots := 0, locals := 20 } : Room).slots) (T78.setTop (mkF m 43 #[.val (.ref q1), .val (.long q2), .second] [(.long pw77), (.int (4 : Int32)), (.ref q1)]))
  obtain ⟨d86, hd86⟩ : ∃ v : UInt64, FP.l2d pw77 = v := ⟨_, rfl⟩
  have fin_d86 : Jvm.Free.Fl.Fin64 d86 := by rw [← hd86]; exact Jvm.Free.Fl.l2d_fin _
  refine g_l2d X79 hx (hb hby d2_43) hd86 ?_
  refine g_dastore X79 hx hZ e84 F73 (i := 4) (by decide) (by decide) (by decide) (hb hby d2_44) ?_
  intro T87 h90 X88 e89 W91
  have F92 := F73.same W91
  have Z93 : n0 ≤ h90.size := by rw [W91.size]; exact Z74
  have K94 := Keep.wr K75 W91 (Or.inl (List.mem_of_getElem? (i := 0) rfl))
  have N95 := Fr.snoc X88 N85 g1
  refine g_aloadN X88 hx (hb hby d2_45) rfl rfl ?_
  refine g_iconst X88 hx (hb hby d2_46) (v := (5 : Int32)) (by decide) ?_
  refine g_lloadN X88 hx (hb hby d2_47) rfl ?_
  refine g_iconst X88 hx (hb hby d2_48) (v := (3 : Int32)) (by decide) ?_
  refine g_callS X88 hx hZ hown (hw _ (List.mem_of_getElem? (i := 0) rfl)) (hw _ (List.mem_of_getElem? (i := 1) rfl)) (hw _ (List.mem_of_getElem? (i := 2) rfl)) (hw _ (List.mem_of_getElem? (i := 3) rfl)) (by decide) (rm1 l Z a0 hw [] q2 (3 : Int32) h90 n0 Z93) e89 (W := 2) (by decide) (by decide) (by rw [hml]; rfl) [(.long q2), (.int (3 : Int32))] [(.int (5 : Int32)), (.ref q1)] (lenOf pd2_0 rfl) rfl rfl (Nat.le_of_eq rfl) (hb hby d2_49) (by decide) (by decide) ?_
  intro v101 T97 L100 X98 hQ99
  obtain ⟨pw96, rfl, hp_pw96, N102, e103⟩ := hQ99
  have N104 := Fr.app N95 N102
  show Go p e below (Ret s (Q2 Z q1 q2 h0 n0) ({ frames := 1, cells := 0, slots := 0, locals := 20 } : Room).cells ({ frames := 1, cells := 0, slots := 0, locals := 20 } : Room).slots) (T97.setTop (mkF m 52 #[.val (.ref q1), .val (.long q2), .second] [(.long pw96), (.int (5 : Int32)), (.ref q1)]))
  obtain ⟨d105, hd105⟩ : ∃ v : UInt64, FP.l2d pw96 = v := ⟨_, rfl⟩
  have fin_d105 : Jvm.Free.Fl.Fin64 d105 := by rw [← hd105]; exact Jvm.Free.Fl.l2d_fin _
  refine g_l2d X98 hx (hb hby d2_52) hd105 ?_
  refine g_dastore X98 hx hZ e103 F92 (i := 5) (by decide) (by decide) (by decide) (hb hby d2_53) ?_
  intro T106 h109 X107 e108 W110
  have F111 := F92.same W110
  have Z112 : n0 ≤ h109.size := by rw [W110.size]; exact Z93
  have K113 := Keep.wr K94 W110 (Or.inl (List.mem_of_getElem? (i := 0) rfl))
  have N114 := Fr.snoc X107 N104 g1
  refine g_aloadN X107 hx (hb hby d2_54) rfl rfl ?_
  refine g_bipush X107 hx (hb hby d2_55) (v := (6 : Int32)) (by decide) ?_
  refine g_lloadN X107 hx (hb hby d2_57) rfl ?_
  refine g_iconst X107 hx (hb hby d2_58) (v := (0 : Int32)) (by decide) ?_
  refine g_callS X107 hx hZ hown (hw _ (List.mem_of_getElem? (i := 0) rfl)) (hw _ (List.mem_of_getElem? (i := 1) rfl)) (hw _ (List.mem_of_getElem? (i := 2) rfl)) (hw _ (List.mem_of_getElem? (i := 3) rfl)) (by decide) (rm1 l Z a0 hw [] q2 (0 : Int32) h109 n0 Z112) e108 (W := 2) (by decide) (by decide) (by rw [hml]; rfl) [(.long q2), (.int (0 : Int32))] [(.int (6 : Int32)), (.ref q1)] (lenOf pd2_0 rfl) rfl rfl (Nat.le_of_eq rfl) (hb hby d2_59) (by decide) (by decide) ?_
  intro v120 T116 L119 X117 hQ118
  obtain ⟨pw115, rfl, hp_pw115, N121, e122⟩ := hQ118
  have N123 := Fr.app N114 N121
  show Go p e below (Ret s (Q2 Z q1 q2 h0 n0) ({ frames := 1, cells := 0, slots := 0, locals := 20 } : Room).cells ({ frames := 1, cells := 0, slots := 0, locals := 20 } : Room).slots) (T116.setTop (mkF m 62 #[.val (.ref q1), .val (.long q2), .second] [(.long pw115), (.int (6 : Int32)), (.ref q1)]))
  obtain ⟨d124, hd124⟩ : ∃ v : UInt64, FP.l2d pw115 = v := ⟨_, rfl⟩
  have fin_d124 : Jvm.Free.Fl.Fin64 d124 := by rw [← hd124]; exact Jvm.Free.Fl.l2d_fin _
  refine g_l2d X117 hx (hb hby d2_62) hd124 ?_
  refine g_dastore X117 hx hZ e122 F111 (i := 6) (by decide) (by decide) (by decide) (hb hby d2_63) ?_
  intro T125 h128 X126 e127 W129
  have F130 := F111.same W129
  have Z131 : n0 ≤ h128.size := by rw [W129.size]; exact Z112
  have K132 := Keep.wr K113 W129 (Or.inl (List.mem_of_getElem? (i := 0) rfl))
  have N133 := Fr.snoc X126 N123 g1
  refine g_aloadN X126 hx (hb hby d2_64) rfl rfl ?_
  refine g_bipush X126 hx (hb hby d2_65) (v := (7 : Int32)) (by decide) ?_
  refine g_lloadN X126 hx (hb hby d2_67) rfl ?_
  refine g_iconst X126 hx (hb hby d2_68) (v := (2 : Int32)) (by decide) ?_
  refine g_callS X126 hx hZ hown (hw _ (List.mem_of_getElem? (i := 0) rfl)) (hw _ (List.mem_of_getElem? (i := 1) rfl)) (hw _ (List.mem_of_getElem? (i := 2) rfl)) (hw _ (List.mem_of_getElem? (i := 3) rfl)) (by decide) (rm1 l Z a0 hw [] q2 (2 : Int32) h128 n0 Z131) e127 (W := 2) (by decide) (by decide) (by rw [hml]; rfl) [(.long q2), (.int (2 : Int32))] [(.int (7 : Int32)), (.ref q1)] (lenOf pd2_0 rfl) rfl rfl (Nat.le_of_eq rfl) (hb hby d2_69) (by decide) (by decide) ?_
  intro v139 T135 L138 X136 hQ137
  obtain ⟨pw134, rfl, hp_pw134, N140, e141⟩ := hQ137
  have N142 := Fr.app N133 N140
  show Go p e below (Ret s (Q2 Z q1 q2 h0 n0) ({ frames := 1, cells := 0, slots := 0, locals := 20 } : Room).cells ({ frames := 1, cells := 0, slots := 0, locals := 20 } : Room).slots) (T135.setTop (mkF m 72 #[.val (.ref q1), .val (.long q2), .second] [(.long pw134), (.int (7 : Int32)), (.ref q1)]))
  obtain ⟨d143, hd143⟩ : ∃ v : UInt64, FP.l2d pw134 = v := ⟨_, rfl⟩
  have fin_d143 : Jvm.Free.Fl.Fin64 d143 := by rw [← hd143]; exact Jvm.Free.Fl.l2d_fin _
  refine g_l2d X136 hx (hb hby d2_72) hd143 ?_
  refine g_dastore X136 hx hZ e141 F130 (i := 7) (by decide) (by decide) (by decide) (hb hby d2_73) ?_
  intro T144 h147 X145 e146 W148
  have F149 := F130.same W148
  have Z150 : n0 ≤ h147.size := by rw [W148.size]; exact Z131
  have K151 := Keep.wr K132 W148 (Or.inl (List.mem_of_getElem? (i := 0) rfl))
  have N152 := Fr.snoc X145 N142 g1
  refine g_return X145 hx Bd.notSynchronized Bd.returns (hb hby d2_74) (by decide) (by decide) ?_
  rw [e146]
  exact ⟨rfl, N152, K151, _, F149⟩
theorem d3_0 : decode prog_48_method_22_code 0 = .ok (.aload_n 0, 1) := by decide +kernel
theorem d3_1 : decode prog_48_method_22_code 1 = .ok (.iload_n 1, 1) := by decide +kernel
theorem d3_2 : decode prog_48_method_22_code 2 = .ok (.iconst 2, 1) := by decide +kernel
theorem d3_3 : decode prog_48_method_22_code 3 = .ok (.iadd, 1) := by decide +kernel
theorem d3_4 : decode prog_48_method_22_code 4 = .ok (.daload, 1) := by decide +kernel
theorem d3_5 : decode prog_48_method_22_code 5 = .ok (.dload 4, 2) := by decide +kernel
theorem d3_7 : decode prog_48_method_22_code 7 = .ok (.dadd, 1) := by decide +kernel
theorem d3_8 : decode prog_48_method_22_code 8 = .ok (.aload_n 2, 1) := by decide +kernel
theorem d3_9 : decode prog_48_method_22_code 9 = .ok (.iload_n 3, 1) := by decide +kernel
theorem d3_10 : decode prog_48_method_22_code 10 = .ok (.iconst 0, 1) := by decide +kernel
theorem d3_11 : decode prog_48_method_22_code 11 = .ok (.iadd, 1) := by decide +kernel
theorem d3_12 : decode prog_48_method_22_code 12 = .ok (.daload, 1) := by decide +kernel
theorem d3_13 : decode prog_48_method_22_code 13 = .ok (.dcmp .g, 1) := by decide +kernel
theorem d3_14 : decode prog_48_method_22_code 14 = .ok (.ifCond .ge 7, 3) := by decide +kernel
theorem d3_17 : decode prog_48_method_22_code 17 = .ok (.iconst 1, 1) := by decide +kernel
theorem d3_18 : decode prog_48_method_22_code 18 = .ok (.goto 4, 3) := by decide +kernel
theorem d3_21 : decode prog_48_method_22_code 21 = .ok (.iconst 0, 1) := by decide +kernel
theorem d3_22 : decode prog_48_method_22_code 22 = .ok (.aload_n 2, 1) := by decide +kernel
theorem d3_23 : decode prog_48_method_22_code 23 = .ok (.iload_n 3, 1) := by decide +kernel
theorem d3_24 : decode prog_48_method_22_code 24 = .ok (.iconst 2, 1) := by decide +kernel
theorem d3_25 : decode prog_48_method_22_code 25 = .ok (.iadd, 1) := by decide +kernel
theorem d3_26 : decode prog_48_method_22_code 26 = .ok (.daload, 1) := by decide +kernel
theorem d3_27 : decode prog_48_method_22_code 27 = .ok (.dload 4, 2) := by decide +kernel
theorem d3_29 : decode prog_48_method_22_code 29 = .ok (.dadd, 1) := by decide +kernel
theorem d3_30 : decode prog_48_method_22_code 30 = .ok (.aload_n 0, 1) := by decide +kernel
theorem d3_31 : decode prog_48_method_22_code 31 = .ok (.iload_n 1, 1) := by decide +kernel
theorem d3_32 : decode prog_48_method_22_code 32 = .ok (.iconst 0, 1) := by decide +kernel
theorem d3_33 : decode prog_48_method_22_code 33 = .ok (.iadd, 1) := by decide +kernel
theorem d3_34 : decode prog_48_method_22_code 34 = .ok (.daload, 1) := by decide +kernel
theorem d3_35 : decode prog_48_method_22_code 35 = .ok (.dcmp .g, 1) := by decide +kernel
theorem d3_36 : decode prog_48_method_22_code 36 = .ok (.ifCond .ge 7, 3) := by decide +kernel
theorem d3_39 : decode prog_48_method_22_code 39 = .ok (.iconst 1, 1) := by decide +kernel
theorem d3_40 : decode prog_48_method_22_code 40 = .ok (.goto 4, 3) := by decide +kernel
theorem d3_43 : decode prog_48_method_22_code 43 = .ok (.iconst 0, 1) := by decide +kernel
theorem d3_44 : decode prog_48_method_22_code 44 = .ok (.ior, 1) := by decide +kernel
theorem d3_45 : decode prog_48_method_22_code 45 = .ok (.aload_n 0, 1) := by decide +kernel
theorem d3_46 : decode prog_48_method_22_code 46 = .ok (.iload_n 1, 1) := by decide +kernel
theorem d3_47 : decode prog_48_method_22_code 47 = .ok (.iconst 3, 1) := by decide +kernel
theorem d3_48 : decode prog_48_method_22_code 48 = .ok (.iadd, 1) := by decide +kernel
theorem d3_49 : decode prog_48_method_22_code 49 = .ok (.daload, 1) := by decide +kernel
theorem d3_50 : decode prog_48_method_22_code 50 = .ok (.dload 4, 2) := by decide +kernel
theorem d3_52 : decode prog_48_method_22_code 52 = .ok (.dadd, 1) := by decide +kernel
theorem d3_53 : decode prog_48_method_22_code 53 = .ok (.aload_n 2, 1) := by decide +kernel
theorem d3_54 : decode prog_48_method_22_code 54 = .ok (.iload_n 3, 1) := by decide +kernel
theorem d3_55 : decode prog_48_method_22_code 55 = .ok (.iconst 1, 1) := by decide +kernel
theorem d3_56 : decode prog_48_method_22_code 56 = .ok (.iadd, 1) := by decide +kernel
theorem d3_57 : decode prog_48_method_22_code 57 = .ok (.daload, 1) := by decide +kernel
theorem d3_58 : decode prog_48_method_22_code 58 = .ok (.dcmp .g, 1) := by decide +kernel
theorem d3_59 : decode prog_48_method_22_code 59 = .ok (.ifCond .ge 7, 3) := by decide +kernel
theorem d3_62 : decode prog_48_method_22_code 62 = .ok (.iconst 1, 1) := by decide +kernel
theorem d3_63 : decode prog_48_method_22_code 63 = .ok (.goto 4, 3) := by decide +kernel
theorem d3_66 : decode prog_48_method_22_code 66 = .ok (.iconst 0, 1) := by decide +kernel
theorem d3_67 : decode prog_48_method_22_code 67 = .ok (.ior, 1) := by decide +kernel
theorem d3_68 : decode prog_48_method_22_code 68 = .ok (.aload_n 2, 1) := by decide +kernel
theorem d3_69 : decode prog_48_method_22_code 69 = .ok (.iload_n 3, 1) := by decide +kernel
theorem d3_70 : decode prog_48_method_22_code 70 = .ok (.iconst 3, 1) := by decide +kernel
theorem d3_71 : decode prog_48_method_22_code 71 = .ok (.iadd, 1) := by decide +kernel
theorem d3_72 : decode prog_48_method_22_code 72 = .ok (.daload, 1) := by decide +kernel
theorem d3_73 : decode prog_48_method_22_code 73 = .ok (.dload 4, 2) := by decide +kernel
theorem d3_75 : decode prog_48_method_22_code 75 = .ok (.dadd, 1) := by decide +kernel
theorem d3_76 : decode prog_48_method_22_code 76 = .ok (.aload_n 0, 1) := by decide +kernel
theorem d3_77 : decode prog_48_method_22_code 77 = .ok (.iload_n 1, 1) := by decide +kernel
theorem d3_78 : decode prog_48_method_22_code 78 = .ok (.iconst 1, 1) := by decide +kernel
theorem d3_79 : decode prog_48_method_22_code 79 = .ok (.iadd, 1) := by decide +kernel
theorem d3_80 : decode prog_48_method_22_code 80 = .ok (.daload, 1) := by decide +kernel
theorem d3_81 : decode prog_48_method_22_code 81 = .ok (.dcmp .g, 1) := by decide +kernel
theorem d3_82 : decode prog_48_method_22_code 82 = .ok (.ifCond .ge 7, 3) := by decide +kernel
theorem d3_85 : decode prog_48_method_22_code 85 = .ok (.iconst 1, 1) := by decide +kernel
theorem d3_86 : decode prog_48_method_22_code 86 = .ok (.goto 4, 3) := by decide +kernel
theorem d3_89 : decode prog_48_method_22_code 89 = .ok (.iconst 0, 1) := by decide +kernel
theorem d3_90 : decode prog_48_method_22_code 90 = .ok (.ior, 1) := by decide +kernel
theorem d3_91 : decode prog_48_method_22_code 91 = .ok (.ireturn, 1) := by decide +kernel
theorem pn3 : plainName "com/example/ordinate/ordinate/plane/Bounds" = true := by first | (simp [plainName, overriddenIn]; done) | decide +kernel
theorem ef3 (m : MethodId) (z0 : Addr) (z1 : Int32) (z2 : Addr) (z3 : Int32) (z4 : UInt64) : entryFrame m #[(.ref z0), (.int z1), (.ref z2), (.int z3), (.double z4)] 6 = mkF m 0 #[.val (.ref z0), .val (.int z1), .val (.ref z2), .val (.int z3), .val (.double z4), .second] [] := by first | (simp [entryFrame, mkF, argsToLocals, Value.category]; done) | rfl
def Q3 (Z : State) (q1 : Addr) (q2 : Int32) (q3 : Addr) (q4 : Int32) (va0 : Int64) (va1 : Int64) (va2 : Int64) (va3 : Int64) (vb0 : Int64) (vb1 : Int64) (vb2 : Int64) (vb3 : Int64) (rc : Int64) (h0 : Heap) (n0 : Nat) (v : Option Value) (h : Heap) (L : List Loc) : Prop := (∃ w : Int32, v = some (.int w) ∧ (own_apart va0 va1 va2 va3 vb0 vb1 vb2 vb3 rc → w = 1) ∧ (¬ own_apart va0 va1 va2 va3 vb0 vb1 vb2 vb3 rc → w = 0)) ∧ Fr n0 L ∧ h = h0
set_option maxRecDepth 65536 in
set_option maxHeartbeats 40000000 in
theorem rm3 (l : Launch) (Z : State) (a0 : Array Value) (hw : ∀ d ∈ tables_1, d.before a0 Z = true) (ws : List Jvm.Cond) (q1 : Addr) (q2 : Int32) (q3 : Addr) (q4 : Int32) (va0 : Int64) (va1 : Int64) (va2 : Int64) (va3 : Int64) (vb0 : Int64) (vb1 : Int64) (vb2 : Int64) (vb3 : Int64) (rc : Int64) (h0 : Heap) (n0 : Nat) (Z0 : n0 ≤ h0.size) {f g : Nat → Value} (FA : Av Z h0 q1 .double 8 f) (FB : Av Z h0 q3 .double 8 g) (hi : 0 ≤ q2.toInt ∧ q2.toInt ≤ 3) (hj : 0 ≤ q4.toInt ∧ q4.toInt ≤ 3) (hA0 : f (q2.toInt.toNat + 0) = .double (FP.l2d va0)) (hB0 : g (q4.toInt.toNat + 0) = .double (FP.l2d vb0)) (hpa0 : own_p va0) (hpb0 : own_p vb0) (hA1 : f (q2.toInt.toNat + 1) = .double (FP.l2d va1)) (hB1 : g (q4.toInt.toNat + 1) = .double (FP.l2d vb1)) (hpa1 : own_p va1) (hpb1 : own_p vb1) (hA2 : f (q2.toInt.toNat + 2) = .double (FP.l2d va2)) (hB2 : g (q4.toInt.toNat + 2) = .double (FP.l2d vb2)) (hpa2 : own_p va2) (hpb2 : own_p vb2) (hA3 : f (q2.toInt.toNat + 3) = .double (FP.l2d va3)) (hB3 : g (q4.toInt.toNat + 3) = .double (FP.l2d vb3)) (hpa3 : own_p va3) (hpb3 : own_p vb3) (hrc : own_r rc) :
    MetFree l (⟨"com/example/ordinate/ordinate/plane/Bounds", "boxesApart", "([DI[DID)Z"⟩ : MethodName) (head1 (Jvm.Cond.code (⟨"com/example/ordinate/ordinate/plane/Bounds", "boxesApart", "([DI[DID)Z"⟩ : MethodName) prog_48_method_22_code 6 (Option.some Jvm.ClassFile.FieldType.boolean) :: ws) ({ frames := 0, cells := 0, slots := 0, locals := 0 } : Room)) (fun a U => a = #[(.ref q1), (.int q2), (.ref q3), (.int q4), (.double (FP.l2d rc))] ∧ Z.Warmed39 U.vm ∧ U.heap = h0) (fun _ _ _ _ _ => True) (fun _ U o U' => ∃ v L, o = .returned v ∧ Q3 Z q1 q2 q3 q4 va0 va1 va2 va3 vb0 vb1 vb2 vb3 rc h0 n0 v U'.heap L ∧ FrameEnd U o U' L ({ frames := 0, cells := 0, slots := 0, locals := 0 } : Room).cells ({ frames := 0, cells := 0, slots := 0, locals := 0 } : Room).slots) := by
  refine MetFree.of_bodySF (plainFor_of_name pn3) hisR ?_
  intro p e s m args below meth c s₁ Bd hml0 hP hK
  obtain ⟨rfl, hZ, hh⟩ := hP
  have hx := Bd.exec
  have hby := Bd.bytes
  have hml : c.maxLocals = 6 := hml0
  have hown : s.vm.findClass "com/example/ordinate/ordinate/plane/Bounds" = some m.cls := findClass_of_methodNamed Bd.named
  have hnm := (name_of_methodNamed Bd.named Bd.method).1
  have X0 : Stand p l e ({ frames := 0, cells := 0, slots := 0, locals := 0 } : Room) s m #[(.ref q1), (.int q2), (.ref q3), (.int q4), (.double (FP.l2d rc))] below meth c s₁ [] 0 0 := Stand.of_body Bd
  have e0 : s₁.heap = h0 := by rw [← hh, Bd.state]; rfl
  have N0 := Fr.nil n0
  show Go p e below (Ret s (Q3 Z q1 q2 q3 q4 va0 va1 va2 va3 vb0 vb1 vb2 vb3 rc h0 n0) ({ frames := 0, cells := 0, slots := 0, locals := 0 } : Room).cells ({ frames := 0, cells := 0, slots := 0, locals := 0 } : Room).slots) (s₁.setTop (entryFrame m #[(.ref q1), (.int q2), (.ref q3), (.int q4), (.double (FP.l2d rc))] 6))
  rw [ef3 m q1 q2 q3 q4 (FP.l2d rc)]
  refine g_aloadN X0 hx (hb hby d3_0) rfl rfl ?_
  refine g_iloadN X0 hx (hb hby d3_1) rfl ?_
  refine g_iconst X0 hx (hb hby d3_2) (v := (2 : Int32)) (by decide) ?_
  obtain ⟨i1, hi1⟩ : ∃ v : Int32, q2 + (2 : Int32) = v := ⟨_, rfl⟩
  refine g_iadd X0 hx (hb hby d3_3) hi1 ?_
  have t_i1 : i1.toInt = q2.toInt + 2 := by
    have := c_iadd q2 2
    rw [hi1] at this
    have h2 : (2 : Int32).toInt = 2 := rfl
    have := rng32 i1
    omega
  refine g_daload X0 hx hZ e0 FA (by omega) (by omega) (i := q2.toInt.toNat + 2) (by show i1.toInt.toNat = _; omega) hA2 (hb hby d3_4) ?_
  refine g_dload X0 hx (hb hby d3_5) rfl ?_
  have n2 : Jvm.Free.Fl.NoNaN64 (FP.dadd (FP.l2d va2) (FP.l2d rc)) := Jvm.Free.Fl.dadd_out (Jvm.Free.Fl.l2d_fin _).noNaN (Jvm.Free.Fl.l2d_fin _)
  obtain ⟨d3, hd3⟩ : ∃ v : UInt64, FP.dadd (FP.l2d va2) (FP.l2d rc) = v := ⟨_, rfl⟩
  have nn_d3 : Jvm.Free.Fl.NoNaN64 d3 := by rw [← hd3]; exact n2
  refine g_dadd X0 hx (hb hby d3_7) n2 hd3 ?_
  refine g_aloadN X0 hx (hb hby d3_8) rfl rfl ?_
  refine g_iloadN X0 hx (hb hby d3_9) rfl ?_
  refine g_iconst X0 hx (hb hby d3_10) (v := (0 : Int32)) (by decide) ?_
  obtain ⟨i4, hi4⟩ : ∃ v : Int32, q4 + (0 : Int32) = v := ⟨_, rfl⟩
  refine g_iadd X0 hx (hb hby d3_11) hi4 ?_
  have t_i4 : i4.toInt = q4.toInt + 0 := by
    have := c_iadd q4 0
    rw [hi4] at this
    have h2 : (0 : Int32).toInt = 0 := rfl
    have := rng32 i4
    omega
  refine g_daload X0 hx hZ e0 FB (by omega) (by omega) (i := q4.toInt.toNat + 0) (by show i4.toInt.toNat = _; omega) hB0 (hb hby d3_12) ?_
  refine g_dcmp X0 hx (hb hby d3_13) ?_
  have J22 : ∀ (u0 : Int32), u0 = own_b (va2.toInt + rc.toInt < vb0.toInt) → Go p e below (Ret s (Q3 Z q1 q2 q3 q4 va0 va1 va2 va3 vb0 vb1 vb2 vb3 rc h0 n0) ({ frames := 0, cells := 0, slots := 0, locals := 0 } : Room).cells ({ frames := 0, cells := 0, slots := 0, locals := 0 } : Room).slots) (s₁.setTop (mkF m 22 #[.val (.ref q1), .val (.int q2), .val (.ref q3), .val (.int q4), .val (.double (FP.l2d rc)), .second] [(.int u0)])) := by
    intro u0 hu0
    refine g_aloadN X0 hx (hb hby d3_22) rfl rfl ?_
    refine g_iloadN X0 hx (hb hby d3_23) rfl ?_
    refine g_iconst X0 hx (hb hby d3_24) (v := (2 : Int32)) (by decide) ?_
    obtain ⟨i5, hi5⟩ : ∃ v : Int32, q4 + (2 : Int32) = v := ⟨_, rfl⟩
    refine g_iadd X0 hx (hb hby d3_25) hi5 ?_
    have t_i5 : i5.toInt = q4.toInt + 2 := by
      have := c_iadd q4 2
      rw [hi5] at this
      have h2 : (2 : Int32).toInt = 2 := rfl
      have := rng32 i5
      omega
    refine g_daload X0 hx hZ e0 FB (by omega) (by omega) (i := q4.toInt.toNat + 2) (by show i5.toInt.toNat = _; omega) hB2 (hb hby d3_26) ?_
    refine g_dload X0 hx (hb hby d3_27) rfl ?_
    have n6 : Jvm.Free.Fl.NoNaN64 (FP.dadd (FP.l2d vb2) (FP.l2d rc)) := Jvm.Free.Fl.dadd_out (Jvm.Free.Fl.l2d_fin _).noNaN (Jvm.Free.Fl.l2d_fin _)
    obtain ⟨d7, hd7⟩ : ∃ v : UInt64, FP.dadd (FP.l2d vb2) (FP.l2d rc) = v := ⟨_, rfl⟩
    have nn_d7 : Jvm.Free.Fl.NoNaN64 d7 := by rw [← hd7]; exact n6
    refine g_dadd X0 hx (hb hby d3_29) n6 hd7 ?_
    refine g_aloadN X0 hx (hb hby d3_30) rfl rfl ?_
    refine g_iloadN X0 hx (hb hby d3_31) rfl ?_
    refine g_iconst X0 hx (hb hby d3_32) (v := (0 : Int32)) (by decide) ?_
    obtain ⟨i8, hi8⟩ : ∃ v : Int32, q2 + (0 : Int32) = v := ⟨_, rfl⟩
    refine g_iadd X0 hx (hb hby d3_33) hi8 ?_
    have t_i8 : i8.toInt = q2.toInt + 0 := by
      have := c_iadd q2 0
      rw [hi8] at this
      have h2 : (0 : Int32).toInt = 0 := rfl
      have := rng32 i8
      omega
    refine g_daload X0 hx hZ e0 FA (by omega) (by omega) (i := q2.toInt.toNat + 0) (by show i8.toInt.toNat = _; omega) hA0 (hb hby d3_34) ?_
    refine g_dcmp X0 hx (hb hby d3_35) ?_
    have J44 : ∀ (u1 : Int32), u1 = own_b (vb2.toInt + rc.toInt < va0.toInt) → Go p e below (Ret s (Q3 Z q1 q2 q3 q4 va0 va1 va2 va3 vb0 vb1 vb2 vb3 rc h0 n0) ({ frames := 0, cells := 0, slots := 0, locals := 0 } : Room).cells ({ frames := 0, cells := 0, slots := 0, locals := 0 } : Room).slots) (s₁.setTop (mkF m 44 #[.val (.ref q1), .val (.int q2), .val (.ref q3), .val (.int q4), .val (.double (FP.l2d rc)), .second] [(.int u1), (.int u0)])) := by
      intro u1 hu1
      obtain ⟨i9, hi9⟩ : ∃ v : Int32, u0 ||| u1 = v := ⟨_, rfl⟩
      refine g_ior X0 hx (hb hby d3_44) hi9 ?_
      refine g_aloadN X0 hx (hb hby d3_45) rfl rfl ?_
      refine g_iloadN X0 hx (hb hby d3_46) rfl ?_
      refine g_iconst X0 hx (hb hby d3_47) (v := (3 : Int32)) (by decide) ?_
      obtain ⟨i10, hi10⟩ : ∃ v : Int32, q2 + (3 : Int32) = v := ⟨_, rfl⟩
      refine g_iadd X0 hx (hb hby d3_48) hi10 ?_
      have t_i10 : i10.toInt = q2.toInt + 3 := by
        have := c_iadd q2 3
        rw [hi10] at this
        have h2 : (3 : Int32).toInt = 3 := rfl
        have := rng32 i10
        omega
      refine g_daload X0 hx hZ e0 FA (by omega) (by omega) (i := q2.toInt.toNat + 3) (by show i10.toInt.toNat = _; omega) hA3 (hb hby d3_49) ?_
      refine g_dload X0 hx (hb hby d3_50) rfl ?_
      have n11 : Jvm.Free.Fl.NoNaN64 (FP.dadd (FP.l2d va3) (FP.l2d rc)) := Jvm.Free.Fl.dadd_out (Jvm.Free.Fl.l2d_fin _).noNaN (Jvm.Free.Fl.l2d_fin _)
      obtain ⟨d12, hd12⟩ : ∃ v : UInt64, FP.dadd (FP.l2d va3) (FP.l2d rc) = v := ⟨_, rfl⟩
      have nn_d12 : Jvm.Free.Fl.NoNaN64 d12 := by rw [← hd12]; exact n11
      refine g_dadd X0 hx (hb hby d3_52) n11 hd12 ?_
      refine g_aloadN X0 hx (hb hby d3_53) rfl rfl ?_
      refine g_iloadN X0 hx (hb hby d3_54) rfl ?_
      refine g_iconst X0 hx (hb hby d3_55) (v := (1 : Int32)) (by decide) ?_
      obtain ⟨i13, hi13⟩ : ∃ v : Int32, q4 + (1 : Int32) = v := ⟨_, rfl⟩
      refine g_iadd X0 hx (hb hby d3_56) hi13 ?_
      have t_i13 : i13.toInt = q4.toInt + 1 := by
        have := c_iadd q4 1
        rw [hi13] at this
        have h2 : (1 : Int32).toInt = 1 := rfl
        have := rng32 i13
        omega
      refine g_daload X0 hx hZ e0 FB (by omega) (by omega) (i := q4.toInt.toNat + 1) (by show i13.toInt.toNat = _; omega) hB1 (hb hby d3_57) ?_
      refine g_dcmp X0 hx (hb hby d3_58) ?_
      have J67 : ∀ (u2 : Int32), u2 = own_b (va3.toInt + rc.toInt < vb1.toInt) → Go p e below (Ret s (Q3 Z q1 q2 q3 q4 va0 va1 va2 va3 vb0 vb1 vb2 vb3 rc h0 n0) ({ frames := 0, cells := 0, slots := 0, locals := 0 } : Room).cells ({ frames := 0, cells := 0, slots := 0, locals := 0 } : Room).slots) (s₁.setTop (mkF m 67 #[.val (.ref q1), .val (.int q2), .val (.ref q3), .val (.int q4), .val (.double (FP.l2d rc)), .second] [(.int u2), (.int i9)])) := by
        intro u2 hu2
        obtain ⟨i14, hi14⟩ : ∃ v : Int32, i9 ||| u2 = v := ⟨_, rfl⟩
        refine g_ior X0 hx (hb hby d3_67) hi14 ?_
        refine g_aloadN X0 hx (hb hby d3_68) rfl rfl ?_
        refine g_iloadN X0 hx (hb hby d3_69) rfl ?_
        refine g_iconst X0 hx (hb hby d3_70) (v := (3 : Int32)) (by decide) ?_
        obtain ⟨i15, hi15⟩ : ∃ v : Int32, q4 + (3 : Int32) = v := ⟨_, rfl⟩
        refine g_iadd X0 hx (hb hby d3_71) hi15 ?_
        have t_i15 : i15.toInt = q4.toInt + 3 := by
          have := c_iadd q4 3
          rw [hi15] at this
          have h2 : (3 : Int32).toInt = 3 := rfl
          have := rng32 i15
          omega
        refine g_daload X0 hx hZ e0 FB (by omega) (by omega) (i := q4.toInt.toNat + 3) (by show i15.toInt.toNat = _; omega) hB3 (hb hby d3_72) ?_
        refine g_dload X0 hx (hb hby d3_73) rfl ?_
        have n16 : Jvm.Free.Fl.NoNaN64 (FP.dadd (FP.l2d vb3) (FP.l2d rc)) := Jvm.Free.Fl.dadd_out (Jvm.Free.Fl.l2d_fin _).noNaN (Jvm.Free.Fl.l2d_fin _)
        obtain ⟨d17, hd17⟩ : ∃ v : UInt64, FP.dadd (FP.l2d vb3) (FP.l2d rc) = v := ⟨_, rfl⟩
        have nn_d17 : Jvm.Free.Fl.NoNaN64 d17 := by rw [← hd17]; exact n16
        refine g_dadd X0 hx (hb hby d3_75) n16 hd17 ?_
        refine g_aloadN X0 hx (hb hby d3_76) rfl rfl ?_
        refine g_iloadN X0 hx (hb hby d3_77) rfl ?_
        refine g_iconst X0 hx (hb hby d3_78) (v := (1 : Int32)) (by decide) ?_
        obtain ⟨i18, hi18⟩ : ∃ v : Int32, q2 + (1 : Int32) = v := ⟨_, rfl⟩
        refine g_iadd X0 hx (hb hby d3_79) hi18 ?_
        have t_i18 : i18.toInt = q2.toInt + 1 := by
          have := c_iadd q2 1
          rw [hi18] at this
          have h2 : (1 : Int32).toInt = 1 := rfl
          have := rng32 i18
          omega
        refine g_daload X0 hx hZ e0 FA (by omega) (by omega) (i := q2.toInt.toNat + 1) (by show i18.toInt.toNat = _; omega) hA1 (hb hby d3_80) ?_
        refine g_dcmp X0 hx (hb hby d3_81) ?_
        have J90 : ∀ (u3 : Int32), u3 = own_b (vb3.toInt + rc.toInt < va1.toInt) → Go p e below (Ret s (Q3 Z q1 q2 q3 q4 va0 va1 va2 va3 vb0 vb1 vb2 vb3 rc h0 n0) ({ frames := 0, cells := 0, slots := 0, locals := 0 } : Room).cells ({ frames := 0, cells := 0, slots := 0, locals := 0 } : Room).slots) (s₁.setTop (mkF m 90 #[.val (.ref q1), .val (.int q2), .val (.ref q3), .val (.int q4), .val (.double (FP.l2d rc)), .second] [(.int u3), (.int i14)])) := by
          intro u3 hu3
          obtain ⟨i19, hi19⟩ : ∃ v : Int32, i14 ||| u3 = v := ⟨_, rfl⟩
          refine g_ior X0 hx (hb hby d3_90) hi19 ?_
          refine g_ireturn X0 hx Bd.notSynchronized Bd.returns (by subst hi9 hi14 hi19; subst hu0 hu1 hu2 hu3; rw [own_or, own_or, own_or]; unfold own_b; split <;> rfl) (by simp) (hb hby d3_91) (by decide) (by decide) ?_
          refine ⟨⟨_, rfl, ?_⟩, N0, e0⟩
          subst hi9 hi14 hi19
          subst hu0 hu1 hu2 hu3
          rw [own_or, own_or, own_or]
          unfold own_apart own_b
          refine ⟨fun q => if_pos (by omega), fun q => if_neg (by omega)⟩
        by_cases hc82_20 : FP.dcmp d17 (FP.l2d va1) = some .lt
        ·
          refine g_ifNo X0 hx (hb hby d3_82) (tlt ((cv_g_lt _).mpr hc82_20)).2.1 ?_
          refine g_iconst X0 hx (hb hby d3_85) (v := (1 : Int32)) (by decide) ?_
          refine g_goto X0 hx (hb hby d3_86) (by decide) (pc' := 90) (by decide) ?_
          rw [← hd17] at hc82_20
          exact J90 _ (own_b1 ((own_lt hpb3 hpa1 hrc).mp hc82_20))
        ·
          refine g_ifYes X0 hx (hb hby d3_82) (flt (fun q => hc82_20 ((cv_g_lt _).mp q))).2.1 (by decide) (pc' := 89) (by decide) ?_
          refine g_iconst X0 hx (hb hby d3_89) (v := (0 : Int32)) (by decide) ?_
          rw [← hd17] at hc82_20
          exact J90 _ (own_b0 (fun q => hc82_20 ((own_lt hpb3 hpa1 hrc).mpr q)))
      by_cases hc59_21 : FP.dcmp d12 (FP.l2d vb1) = some .lt
      ·
        refine g_ifNo X0 hx (hb hby d3_59) (tlt ((cv_g_lt _).mpr hc59_21)).2.1 ?_
        refine g_iconst X0 hx (hb hby d3_62) (v := (1 : Int32)) (by decide) ?_
        refine g_goto X0 hx (hb hby d3_63) (by decide) (pc' := 67) (by decide) ?_
        rw [← hd12] at hc59_21
        exact J67 _ (own_b1 ((own_lt hpa3 hpb1 hrc).mp hc59_21))
      ·
        refine g_ifYes X0 hx (hb hby d3_59) (flt (fun q => hc59_21 ((cv_g_lt _).mp q))).2.1 (by decide) (pc' := 66) (by decide) ?_
        refine g_iconst X0 hx (hb hby d3_66) (v := (0 : Int32)) (by decide) ?_
        rw [← hd12] at hc59_21
        exact J67 _ (own_b0 (fun q => hc59_21 ((own_lt hpa3 hpb1 hrc).mpr q)))
    by_cases hc36_22 : FP.dcmp d7 (FP.l2d va0) = some .lt
    ·
      refine g_ifNo X0 hx (hb hby d3_36) (tlt ((cv_g_lt _).mpr hc36_22)).2.1 ?_
      refine g_iconst X0 hx (hb hby d3_39) (v := (1 : Int32)) (by decide) ?_
      refine g_goto X0 hx (hb hby d3_40) (by decide) (pc' := 44) (by decide) ?_
      rw [← hd7] at hc36_22
      exact J44 _ (own_b1 ((own_lt hpb2 hpa0 hrc).mp hc36_22))
    ·
      refine g_ifYes X0 hx (hb hby d3_36) (flt (fun q => hc36_22 ((cv_g_lt _).mp q))).2.1 (by decide) (pc' := 43) (by decide) ?_
      refine g_iconst X0 hx (hb hby d3_43) (v := (0 : Int32)) (by decide) ?_
      rw [← hd7] at hc36_22
      exact J44 _ (own_b0 (fun q => hc36_22 ((own_lt hpb2 hpa0 hrc).mpr q)))
  by_cases hc14_23 : FP.dcmp d3 (FP.l2d vb0) = some .lt
  ·
    refine g_ifNo X0 hx (hb hby d3_14) (tlt ((cv_g_lt _).mpr hc14_23)).2.1 ?_
    refine g_iconst X0 hx (hb hby d3_17) (v := (1 : Int32)) (by decide) ?_
    refine g_goto X0 hx (hb hby d3_18) (by decide) (pc' := 22) (by decide) ?_
    rw [← hd3] at hc14_23
    exact J22 _ (own_b1 ((own_lt hpa2 hpb0 hrc).mp hc14_23))
  ·
    refine g_ifYes X0 hx (hb hby d3_14) (flt (fun q => hc14_23 ((cv_g_lt _).mp q))).2.1 (by decide) (pc' := 21) (by decide) ?_
    refine g_iconst X0 hx (hb hby d3_21) (v := (0 : Int32)) (by decide) ?_
    rw [← hd3] at hc14_23
    exact J22 _ (own_b0 (fun q => hc14_23 ((own_lt hpa2 hpb0 hrc).mpr q)))
theorem d4_0 : decode jdk_29_method_66_code 0 = .ok (.lload_n 0, 1) := by decide +kernel
theorem d4_1 : decode jdk_29_method_66_code 1 = .ok (.lload_n 2, 1) := by decide +kernel
theorem d4_2 : decode jdk_29_method_66_code 2 = .ok (.lcmp, 1) := by decide +kernel
theorem d4_3 : decode jdk_29_method_66_code 3 = .ok (.ifCond .lt 7, 3) := by decide +kernel
theorem d4_6 : decode jdk_29_method_66_code 6 = .ok (.lload_n 0, 1) := by decide +kernel
theorem d4_7 : decode jdk_29_method_66_code 7 = .ok (.goto 4, 3) := by decide +kernel
theorem d4_10 : decode jdk_29_method_66_code 10 = .ok (.lload_n 2, 1) := by decide +kernel
theorem d4_11 : decode jdk_29_method_66_code 11 = .ok (.lreturn, 1) := by decide +kernel
theorem ef4 (m : MethodId) (z0 : Int64) (z1 : Int64) : entryFrame m #[(.long z0), (.long z1)] 4 = mkF m 0 #[.val (.long z0), .second, .val (.long z1), .second] [] := by first | (simp [entryFrame, mkF, argsToLocals, Value.category]; done) | rfl
def Q4 (Z : State) (q1 : Int64) (q2 : Int64) (h0 : Heap) (n0 : Nat) (v : Option Value) (h : Heap) (L : List Loc) : Prop := v = some (.long (own_maxL q1 q2)) ∧ Fr n0 L ∧ h = h0
set_option maxRecDepth 65536 in
set_option maxHeartbeats 40000000 in
theorem rm4 (l : Launch) (Z : State) (a0 : Array Value) (hw : ∀ d ∈ tables_1, d.before a0 Z = true) (ws : List Jvm.Cond) (q1 : Int64) (q2 : Int64) (h0 : Heap) (n0 : Nat) (Z0 : n0 ≤ h0.size)  :
    MetFree l (⟨"java/lang/Math", "max", "(JJ)J"⟩ : MethodName) (head1 (Jvm.Cond.code (⟨"java/lang/Math", "max", "(JJ)J"⟩ : MethodName) jdk_29_method_66_code 4 (Option.some Jvm.ClassFile.FieldType.long) :: ws) ({ frames := 0, cells := 0, slots := 0, locals := 0 } : Room)) (fun a U => a = #[(.long q1), (.long q2)] ∧ Z.Warmed39 U.vm ∧ U.heap = h0) (fun _ _ _ _ _ => True) (fun _ U o U' => ∃ v L, o = .returned v ∧ Q4 Z q1 q2 h0 n0 v U'.heap L ∧ FrameEnd U o U' L ({ frames := 0, cells := 0, slots := 0, locals := 0 } : Room).cells ({ frames := 0, cells := 0, slots := 0, locals := 0 } : Room).slots) := by
  refine MetFree.of_bodySF (by decide +kernel) hisR ?_
  intro p e s m args below meth c s₁ Bd hml0 hP hK
  obtain ⟨rfl, hZ, hh⟩ := hP
  have hx := Bd.exec
  have hby := Bd.bytes
  have hml : c.maxLocals = 4 := hml0
  have hown : s.vm.findClass "java/lang/Math" = some m.cls := findClass_of_methodNamed Bd.named
  have hnm := (name_of_methodNamed Bd.named Bd.method).1
  have X0 : Stand p l e ({ frames := 0, cells := 0, slots := 0, locals := 0 } : Room) s m #[(.long q1), (.long q2)] below meth c s₁ [] 0 0 := Stand.of_body Bd
  have e0 : s₁.heap = h0 := by rw [← hh, Bd.state]; rfl
  have N0 := Fr.nil n0
  show Go p e below (Ret s (Q4 Z q1 q2 h0 n0) ({ frames := 0, cells := 0, slots := 0, locals := 0 } : Room).cells ({ frames := 0, cells := 0, slots := 0, locals := 0 } : Room).slots) (s₁.setTop (entryFrame m #[(.long q1), (.long q2)] 4))
  rw [ef4 m q1 q2]
  refine g_lloadN X0 hx (hb hby d4_0) rfl ?_
  refine g_lloadN X0 hx (hb hby d4_1) rfl ?_
  refine g_lcmp X0 hx (hb hby d4_2) ?_
  by_cases hc3_1 : q1 < q2
  ·
    refine g_ifYes X0 hx (hb hby d4_3) (tlt ((lw_lt _ _).mpr hc3_1)).1 (by decide) (pc' := 10) (by decide) ?_
    refine g_lloadN X0 hx (hb hby d4_10) rfl ?_
    refine g_lreturn X0 hx Bd.notSynchronized Bd.returns (hb hby d4_11) (by decide) (by decide) ?_
    exact ⟨by simp only [own_maxL, hc3_1, if_true, if_false], N0, e0⟩
  ·
    refine g_ifNo X0 hx (hb hby d4_3) (flt (fun q => hc3_1 ((lw_lt _ _).mp q))).1 ?_
    refine g_lloadN X0 hx (hb hby d4_6) rfl ?_
    refine g_goto X0 hx (hb hby d4_7) (by decide) (pc' := 11) (by decide) ?_
    refine g_lreturn X0 hx Bd.notSynchronized Bd.returns (hb hby d4_11) (by decide) (by decide) ?_
    exact ⟨by simp only [own_maxL, hc3_1, if_true, if_false], N0, e0⟩
theorem pn0 : plainName "com/example/ordinate/ordinate/plane/BoundsBoxesApartPinLaw" = true := by first | (simp [plainName, overriddenIn]; done) | decide +kernel
theorem pd0_0 : parseMethodDescriptor "(JI)J" = some ⟨[.long, .int], some .long⟩ := by decide +kernel
theorem pd0_1 : parseMethodDescriptor "([DJ)V" = some ⟨[(.array .double), .long], none⟩ := by decide +kernel
theorem pd0_2 : parseMethodDescriptor "([DI[DID)Z" = some ⟨[(.array .double), .int, (.array .double), .int, .double], some .boolean⟩ := by decide +kernel
theorem pd0_3 : parseMethodDescriptor "(JJ)J" = some ⟨[.long, .long], some .long⟩ := by decide +kernel
theorem ef0 (m : MethodId) (z0 : Int64) (z1 : Int64) (z2 : Int32) (z3 : Int32) (z4 : Int64) (z5 : Int64) : entryFrame m #[(.long z0), (.long z1), (.int z2), (.int z3), (.long z4), (.long z5)] maxLocals = mkF m 0 #[.val (.long z0), .second, .val (.long z1), .second, .val (.int z2), .val (.int z3), .val (.long z4), .second, .val (.long z5), .second, .unset, .unset, .unset, .unset, .unset, .unset, .unset, .unset, .unset, .unset, .unset, .unset, .unset, .unset, .unset, .unset, .unset, .unset, .unset, .unset, .unset, .unset, .unset, .unset, .unset, .unset, .unset, .unset, .unset] [] := by first | (simp [entryFrame, mkF, argsToLocals, Value.category, maxLocals]; done) | rfl
def Q0 (Z : State) (q0 : Int64) (q1 : Int64) (q2 : Int32) (q3 : Int32) (q4 : Int64) (q5 : Int64) (h0 : Heap) (n0 : Nat) (v : Option Value) (h : Heap) (L : List Loc) : Prop := v = some (.int 1) ∧ Fr n0 L
set_option maxRecDepth 65536 in
set_option maxHeartbeats 40000000 in
theorem rm0 (l : Launch) (Z : State) (a0 : Array Value) (hw : ∀ d ∈ tables_1, d.before a0 Z = true) (ws : List Jvm.Cond) (q0 : Int64) (q1 : Int64) (q2 : Int32) (q3 : Int32) (q4 : Int64) (q5 : Int64) (h0 : Heap) (n0 : Nat) (Z0 : n0 ≤ h0.size)  :
    MetFree l x (head1 (Jvm.Cond.code x code maxLocals ret :: ws) room_1) (fun a U => a = #[(.long q0), (.long q1), (.int q2), (.int q3), (.long q4), (.long q5)] ∧ Z.Warmed39 U.vm ∧ U.heap = h0) (fun _ _ _ _ _ => True) (fun _ U o U' => ∃ v L, o = .returned v ∧ Q0 Z q0 q1 q2 q3 q4 q5 h0 n0 v U'.heap L ∧ FrameEnd U o U' L 16 128) := by
  refine MetFree.of_bodySF (plainFor_of_name pn0) hisR ?_
  intro p e s m args below meth c s₁ Bd hml0 hP hK
  obtain ⟨rfl, hZ, hh⟩ := hP
  have hx := Bd.exec
  have hby := Bd.bytes
  have hml : c.maxLocals = 39 := hml0
  have hown : s.vm.findClass "com/example/ordinate/ordinate/plane/BoundsBoxesApartPinLaw" = some m.cls := findClass_of_methodNamed Bd.named
  have hnm := (name_of_methodNamed Bd.named Bd.method).1
  have X0 : Stand p l e room_1 s m #[(.long q0), (.long q1), (.int q2), (.int q3), (.long q4), (.long q5)] below meth c s₁ [] 0 0 := Stand.of_body Bd
  have e0 : s₁.heap = h0 := by rw [← hh, Bd.state]; rfl
  have N0 := Fr.nil n0
  show Go p e below (Ret s (Q0 Z q0 q1 q2 q3 q4 q5 h0 n0) 16 128) (s₁.setTop (entryFrame m #[(.long q0), (.long q1), (.int q2), (.int q3), (.long q4), (.long q5)] maxLocals))
  rw [ef0 m q0 q1 q2 q3 q4 q5]
  refine g_iload X0 hx (hb hby at_0) rfl ?_
  refine g_iconst X0 hx (hb hby at_2) (v := (3 : Int32)) (by decide) ?_
  obtain ⟨ii, hii⟩ : ∃ v : Int32, q3 &&& (3 : Int32) = v := ⟨_, rfl⟩
  refine g_iand X0 hx (hb hby at_3) hii ?_
  have hii2 : 0 ≤ ii.toInt ∧ ii.toInt ≤ 3 := by
    have a := c_mask q3 (3 : Int32) 2 (by decide) (by decide)
    rw [hii] at a
    omega
  refine g_istore X0 hx (hb hby at_4) (L' := #[.val (.long q0), .second, .val (.long q1), .second, .val (.int q2), .val (.int q3), .val (.long q4), .second, .val (.long q5), .second, .val (.int ii), .unset, .unset, .unset, .unset, .unset, .unset, .unset, .unset, .unset, .unset, .unset, .unset, .unset, .unset, .unset, .unset, .unset, .unset, .unset, .unset, .unset, .unset, .unset, .unset, .unset, .unset, .unset, .unset]) rfl ?_
  refine g_iload X0 hx (hb hby at_6) rfl ?_
  refine g_iconst X0 hx (hb hby at_8) (v := (2 : Int32)) (by decide) ?_
  obtain ⟨i1, hi1⟩ : ∃ v : Int32, (q3.toUInt32 >>> ((2 : Int32) &&& 31).toUInt32).toInt32 = v := ⟨_, rfl⟩
  refine g_iushr X0 hx (hb hby at_9) hi1 ?_
  refine g_iconst X0 hx (hb hby at_10) (v := (3 : Int32)) (by decide) ?_
  obtain ⟨jj, hjj⟩ : ∃ v : Int32, i1 &&& (3 : Int32) = v := ⟨_, rfl⟩
  refine g_iand X0 hx (hb hby at_11) hjj ?_
  have hjj2 : 0 ≤ jj.toInt ∧ jj.toInt ≤ 3 := by
    have a := c_mask i1 (3 : Int32) 2 (by decide) (by decide)
    rw [hjj] at a
    omega
  refine g_istore X0 hx (hb hby at_12) (L' := #[.val (.long q0), .second, .val (.long q1), .second, .val (.int q2), .val (.int q3), .val (.long q4), .second, .val (.long q5), .second, .val (.int ii), .val (.int jj), .unset, .unset, .unset, .unset, .unset, .unset, .unset, .unset, .unset, .unset, .unset, .unset, .unset, .unset, .unset, .unset, .unset, .unset, .unset, .unset, .unset, .unset, .unset, .unset, .unset, .unset, .unset]) rfl ?_
  refine g_lloadN X0 hx (hb hby at_14) rfl ?_
  refine g_iconst X0 hx (hb hby at_15) (v := (0 : Int32)) (by decide) ?_
  refine g_callS X0 hx hZ hown (hw _ (List.mem_of_getElem? (i := 0) rfl)) (hw _ (List.mem_of_getElem? (i := 1) rfl)) (hw _ (List.mem_of_getElem? (i := 2) rfl)) (hw _ (List.mem_of_getElem? (i := 3) rfl)) (by decide) (rm1 l Z a0 hw [] q0 (0 : Int32) h0 n0 Z0) e0 (W := 0) (by decide) (by decide) (by rw [hml]; rfl) [(.long q0), (.int (0 : Int32))] [] (lenOf pd0_0 rfl) rfl rfl (Nat.le_of_eq rfl) (hb hby at_16) (by decide) (by decide) ?_
  intro v6 T2 L5 X3 hQ4
  obtain ⟨a0_, rfl, hp_a0_, N7, e8⟩ := hQ4
  have N9 := Fr.app N0 N7
  show Go p e below (Ret s (Q0 Z q0 q1 q2 q3 q4 q5 h0 n0) 16 128) (T2.setTop (mkF m 19 #[.val (.long q0), .second, .val (.long q1), .second, .val (.int q2), .val (.int q3), .val (.long q4), .second, .val (.long q5), .second, .val (.int ii), .val (.int jj), .unset, .unset, .unset, .unset, .unset, .unset, .unset, .unset, .unset, .unset, .unset, .unset, .unset, .unset, .unset, .unset, .unset, .unset, .unset, .unset, .unset, .unset, .unset, .unset, .unset, .unset, .unset] [(.long a0_)]))
  refine g_lstore X3 hx (hb hby at_19) (L' := #[.val (.long q0), .second, .val (.long q1), .second, .val (.int q2), .val (.int q3), .val (.long q4), .second, .val (.long q5), .second, .val (.int ii), .val (.int jj), .val (.long a0_), .second, .unset, .unset, .unset, .unset, .unset, .unset, .unset, .unset, .unset, .unset, .unset, .unset, .unset, .unset, .unset, .unset, .unset, .unset, .unset, .unset, .unset, .unset, .unset, .unset, .unset]) rfl ?_
  refine g_lloadN X3 hx (hb hby at_21) rfl ?_
  refine g_iconst X3 hx (hb hby at_22) (v := (1 : Int32)) (by decide) ?_
  refine g_callS X3 hx hZ hown (hw _ (List.mem_of_getElem? (i := 0) rfl)) (hw _ (List.mem_of_getElem? (i := 1) rfl)) (hw _ (List.mem_of_getElem? (i := 2) rfl)) (hw _ (List.mem_of_getElem? (i := 3) rfl)) (by decide) (rm1 l Z a0 hw [] q0 (1 : Int32) h0 n0 Z0) e8 (W := 0) (by decide) (by decide) (by rw [hml]; rfl) [(.long q0), (.int (1 : Int32))] [] (lenOf pd0_0 rfl) rfl rfl (Nat.le_of_eq rfl) (hb hby at_23) (by decide) (by decide) ?_
  intro v14 T10 L13 X11 hQ12
  obtain ⟨a1_, rfl, hp_a1_, N15, e16⟩ := hQ12
  have N17 := Fr.app N9 N15
  show Go p e below (Ret s (Q0 Z q0 q1 q2 q3 q4 q5 h0 n0) 16 128) (T10.setTop (mkF m 26 #[.val (.long q0), .second, .val (.long q1), .second, .val (.int q2), .val (.int q3), .val (.long q4), .second, .val (.long q5), .second, .val (.int ii), .val (.int jj), .val (.long a0_), .second, .unset, .unset, .unset, .unset, .unset, .unset, .unset, .unset, .unset, .unset, .unset, .unset, .unset, .unset, .unset, .unset, .unset, .unset, .unset, .unset, .unset, .unset, .unset, .unset, .unset] [(.long a1_)]))
  refine g_lstore X11 hx (hb hby at_26) (L' := #[.val (.long q0), .second, .val (.long q1), .second, .val (.int q2), .val (.int q3), .val (.long q4), .second, .val (.long q5), .second, .val (.int ii), .val (.int jj), .val (.long a0_), .second, .val (.long a1_), .second, .unset, .unset, .unset, .unset, .unset, .unset, .unset, .unset, .unset, .unset, .unset, .unset, .unset, .unset, .unset, .unset, .unset, .unset, .unset, .unset, .unset, .unset, .unset]) rfl ?_
  refine g_lloadN X11 hx (hb hby at_28) rfl ?_
  refine g_iconst X11 hx (hb hby at_29) (v := (2 : Int32)) (by decide) ?_
  refine g_callS X11 hx hZ hown (hw _ (List.mem_of_getElem? (i := 0) rfl)) (hw _ (List.mem_of_getElem? (i := 1) rfl)) (hw _ (List.mem_of_getElem? (i := 2) rfl)) (hw _ (List.mem_of_getElem? (i := 3) rfl)) (by decide) (rm1 l Z a0 hw [] q0 (2 : Int32) h0 n0 Z0) e16 (W := 0) (by decide) (by decide) (by rw [hml]; rfl) [(.long q0), (.int (2 : Int32))] [] (lenOf pd0_0 rfl) rfl rfl (Nat.le_of_eq rfl) (hb hby at_30) (by decide) (by decide) ?_
  intro v22 T18 L21 X19 hQ20
  obtain ⟨a2_, rfl, hp_a2_, N23, e24⟩ := hQ20
  have N25 := Fr.app N17 N23
  show Go p e below (Ret s (Q0 Z q0 q1 q2 q3 q4 q5 h0 n0) 16 128) (T18.setTop (mkF m 33 #[.val (.long q0), .second, .val (.long q1), .second, .val (.int q2), .val (.int q3), .val (.long q4), .second, .val (.long q5), .second, .val (.int ii), .val (.int jj), .val (.long a0_), .second, .val (.long a1_), .second, .unset, .unset, .unset, .unset, .unset, .unset, .unset, .unset, .unset, .unset, .unset, .unset, .unset, .unset, .unset, .unset, .unset, .unset, .unset, .unset, .unset, .unset, .unset] [(.long a2_)]))
  refine g_lstore X19 hx (hb hby at_33) (L' := #[.val (.long q0), .second, .val (.long q1), .second, .val (.int q2), .val (.int q3), .val (.long q4), .second, .val (.long q5), .second, .val (.int ii), .val (.int jj), .val (.long a0_), .second, .val (.long a1_), .second, .val (.long a2_), .second, .unset, .unset, .unset, .unset, .unset, .unset, .unset, .unset, .unset, .unset, .unset, .unset, .unset, .unset, .unset, .unset, .unset, .unset, .unset, .unset, .unset]) rfl ?_
  refine g_lloadN X19 hx (hb hby at_35) rfl ?_
  refine g_iconst X19 hx (hb hby at_36) (v := (3 : Int32)) (by decide) ?_
  refine g_callS X19 hx hZ hown (hw _ (List.mem_of_getElem? (i := 0) rfl)) (hw _ (List.mem_of_getElem? (i := 1) rfl)) (hw _ (List.mem_of_getElem? (i := 2) rfl)) (hw _ (List.mem_of_getElem? (i := 3) rfl)) (by decide) (rm1 l Z a0 hw [] q0 (3 : Int32) h0 n0 Z0) e24 (W := 0) (by decide) (by decide) (by rw [hml]; rfl) [(.long q0), (.int (3 : Int32))] [] (lenOf pd0_0 rfl) rfl rfl (Nat.le_of_eq rfl) (hb hby at_37) (by decide) (by decide) ?_
  intro v30 T26 L29 X27 hQ28
  obtain ⟨a3_, rfl, hp_a3_, N31, e32⟩ := hQ28
  have N33 := Fr.app N25 N31
  show Go p e below (Ret s (Q0 Z q0 q1 q2 q3 q4 q5 h0 n0) 16 128) (T26.setTop (mkF m 40 #[.val (.long q0), .second, .val (.long q1), .second, .val (.int q2), .val (.int q3), .val (.long q4), .second, .val (.long q5), .second, .val (.int ii), .val (.int jj), .val (.long a0_), .second, .val (.long a1_), .second, .val (.long a2_), .second, .unset, .unset, .unset, .unset, .unset, .unset, .unset, .unset, .unset, .unset, .unset, .unset, .unset, .unset, .unset, .unset, .unset, .unset, .unset, .unset, .unset] [(.long a3_)]))
  refine g_lstore X27 hx (hb hby at_40) (L' := #[.val (.long q0), .second, .val (.long q1), .second, .val (.int q2), .val (.int q3), .val (.long q4), .second, .val (.long q5), .second, .val (.int ii), .val (.int jj), .val (.long a0_), .second, .val (.long a1_), .second, .val (.long a2_), .second, .val (.long a3_), .second, .unset, .unset, .unset, .unset, .unset, .unset, .unset, .unset, .unset, .unset, .unset, .unset, .unset, .unset, .unset, .unset, .unset, .unset, .unset]) rfl ?_
  refine g_lloadN X27 hx (hb hby at_42) rfl ?_
  refine g_iconst X27 hx (hb hby at_43) (v := (0 : Int32)) (by decide) ?_
  refine g_callS X27 hx hZ hown (hw _ (List.mem_of_getElem? (i := 0) rfl)) (hw _ (List.mem_of_getElem? (i := 1) rfl)) (hw _ (List.mem_of_getElem? (i := 2) rfl)) (hw _ (List.mem_of_getElem? (i := 3) rfl)) (by decide) (rm1 l Z a0 hw [] q1 (0 : Int32) h0 n0 Z0) e32 (W := 0) (by decide) (by decide) (by rw [hml]; rfl) [(.long q1), (.int (0 : Int32))] [] (lenOf pd0_0 rfl) rfl rfl (Nat.le_of_eq rfl) (hb hby at_44) (by decide) (by decide) ?_
  intro v38 T34 L37 X35 hQ36
  obtain ⟨b0_, rfl, hp_b0_, N39, e40⟩ := hQ36
  have N41 := Fr.app N33 N39
  show Go p e below (Ret s (Q0 Z q0 q1 q2 q3 q4 q5 h0 n0) 16 128) (T34.setTop (mkF m 47 #[.val (.long q0), .second, .val (.long q1), .second, .val (.int q2), .val (.int q3), .val (.long q4), .second, .val (.long q5), .second, .val (.int ii), .val (.int jj), .val (.long a0_), .second, .val (.long a1_), .second, .val (.long a2_), .second, .val (.long a3_), .second, .unset, .unset, .unset, .unset, .unset, .unset, .unset, .unset, .unset, .unset, .unset, .unset, .unset, .unset, .unset, .unset, .unset, .unset, .unset] [(.long b0_)]))
  refine g_lstore X35 hx (hb hby at_47) (L' := #[.val (.long q0), .second, .val (.long q1), .second, .val (.int q2), .val (.int q3), .val (.long q4), .second, .val (.long q5), .second, .val (.int ii), .val (.int jj), .val (.long a0_), .second, .val (.long a1_), .second, .val (.long a2_), .second, .val (.long a3_), .second, .val (.long b0_), .second, .unset, .unset, .unset, .unset, .unset, .unset, .unset, .unset, .unset, .unset, .unset, .unset, .unset, .unset, .unset, .unset, .unset]) rfl ?_
  refine g_lloadN X35 hx (hb hby at_49) rfl ?_
  refine g_iconst X35 hx (hb hby at_50) (v := (1 : Int32)) (by decide) ?_
  refine g_callS X35 hx hZ hown (hw _ (List.mem_of_getElem? (i := 0) rfl)) (hw _ (List.mem_of_getElem? (i := 1) rfl)) (hw _ (List.mem_of_getElem? (i := 2) rfl)) (hw _ (List.mem_of_getElem? (i := 3) rfl)) (by decide) (rm1 l Z a0 hw [] q1 (1 : Int32) h0 n0 Z0) e40 (W := 0) (by decide) (by decide) (by rw [hml]; rfl) [(.long q1), (.int (1 : Int32))] [] (lenOf pd0_0 rfl) rfl rfl (Nat.le_of_eq rfl) (hb hby at_51) (by decide) (by decide) ?_
  intro v46 T42 L45 X43 hQ44
  obtain ⟨b1_, rfl, hp_b1_, N47, e48⟩ := hQ44
  have N49 := Fr.app N41 N47
  show Go p e below (Ret s (Q0 Z q0 q1 q2 q3 q4 q5 h0 n0) 16 128) (T42.setTop (mkF m 54 #[.val (.long q0), .second, .val (.long q1), .second, .val (.int q2), .val (.int q3), .val (.long q4), .second, .val (.long q5), .second, .val (.int ii), .val (.int jj), .val (.long a0_), .second, .val (.long a1_), .second, .val (.long a2_), .second, .val (.long a3_), .second, .val (.long b0_), .second, .unset, .unset, .unset, .unset, .unset, .unset, .unset, .unset, .unset, .unset, .unset, .unset, .unset, .unset, .unset, .unset, .unset] [(.long b1_)]))
  refine g_lstore X43 hx (hb hby at_54) (L' := #[.val (.long q0), .second, .val (.long q1), .second, .val (.int q2), .val (.int q3), .val (.long q4), .second, .val (.long q5), .second, .val (.int ii), .val (.int jj), .val (.long a0_), .second, .val (.long a1_), .second, .val (.long a2_), .second, .val (.long a3_), .second, .val (.long b0_), .second, .val (.long b1_), .second, .unset, .unset, .unset, .unset, .unset, .unset, .unset, .unset, .unset, .unset, .unset, .unset, .unset, .unset, .unset]) rfl ?_
  refine g_lloadN X43 hx (hb hby at_56) rfl ?_
  refine g_iconst X43 hx (hb hby at_57) (v := (2 : Int32)) (by decide) ?_
  refine g_callS X43 hx hZ hown (hw _ (List.mem_of_getElem? (i := 0) rfl)) (hw _ (List.mem_of_getElem? (i := 1) rfl)) (hw _ (List.mem_of_getElem? (i := 2) rfl)) (hw _ (List.mem_of_getElem? (i := 3) rfl)) (by decide) (rm1 l Z a0 hw [] q1 (2 : Int32) h0 n0 Z0) e48 (W := 0) (by decide) (by decide) (by rw [hml]; rfl) [(.long q1), (.int (2 : Int32))] [] (lenOf pd0_0 rfl) rfl rfl (Nat.le_of_eq rfl) (hb hby at_58) (by decide) (by decide) ?_
  intro v54 T50 L53 X51 hQ52
  obtain ⟨b2_, rfl, hp_b2_, N55, e56⟩ := hQ52
  have N57 := Fr.app N49 N55
  show Go p e below (Ret s (Q0 Z q0 q1 q2 q3 q4 q5 h0 n0) 16 128) (T50.setTop (mkF m 61 #[.val (.long q0), .second, .val (.long q1), .second, .val (.int q2), .val (.int q3), .val (.long q4), .second, .val (.long q5), .second, .val (.int ii), .val (.int jj), .val (.long a0_), .second, .val (.long a1_), .second, .val (.long a2_), .second, .val (.long a3_), .second, .val (.long b0_), .second, .val (.long b1_), .second, .unset, .unset, .unset, .unset, .unset, .unset, .unset, .unset, .unset, .unset, .unset, .unset, .unset, .unset, .unset] [(.long b2_)]))
  refine g_lstore X51 hx (hb hby at_61) (L' := #[.val (.long q0), .second, .val (.long q1), .second, .val (.int q2), .val (.int q3), .val (.long q4), .second, .val (.long q5), .second, .val (.int ii), .val (.int jj), .val (.long a0_), .second, .val (.long a1_), .second, .val (.long a2_), .second, .val (.long a3_), .second, .val (.long b0_), .second, .val (.long b1_), .second, .val (.long b2_), .second, .unset, .unset, .unset, .unset, .unset, .unset, .unset, .unset, .unset, .unset, .unset, .unset, .unset]) rfl ?_
  refine g_lloadN X51 hx (hb hby at_63) rfl ?_
  refine g_iconst X51 hx (hb hby at_64) (v := (3 : Int32)) (by decide) ?_
  refine g_callS X51 hx hZ hown (hw _ (List.mem_of_getElem? (i := 0) rfl)) (hw _ (List.mem_of_getElem? (i := 1) rfl)) (hw _ (List.mem_of_getElem? (i := 2) rfl)) (hw _ (List.mem_of_getElem? (i := 3) rfl)) (by decide) (rm1 l Z a0 hw [] q1 (3 : Int32) h0 n0 Z0) e56 (W := 0) (by decide) (by decide) (by rw [hml]; rfl) [(.long q1), (.int (3 : Int32))] [] (lenOf pd0_0 rfl) rfl rfl (Nat.le_of_eq rfl) (hb hby at_65) (by decide) (by decide) ?_
  intro v62 T58 L61 X59 hQ60
  obtain ⟨b3_, rfl, hp_b3_, N63, e64⟩ := hQ60
  have N65 := Fr.app N57 N63
  show Go p e below (Ret s (Q0 Z q0 q1 q2 q3 q4 q5 h0 n0) 16 128) (T58.setTop (mkF m 68 #[.val (.long q0), .second, .val (.long q1), .second, .val (.int q2), .val (.int q3), .val (.long q4), .second, .val (.long q5), .second, .val (.int ii), .val (.int jj), .val (.long a0_), .second, .val (.long a1_), .second, .val (.long a2_), .second, .val (.long a3_), .second, .val (.long b0_), .second, .val (.long b1_), .second, .val (.long b2_), .second, .unset, .unset, .unset, .unset, .unset, .unset, .unset, .unset, .unset, .unset, .unset, .unset, .unset] [(.long b3_)]))
  refine g_lstore X59 hx (hb hby at_68) (L' := #[.val (.long q0), .second, .val (.long q1), .second, .val (.int q2), .val (.int q3), .val (.long q4), .second, .val (.long q5), .second, .val (.int ii), .val (.int jj), .val (.long a0_), .second, .val (.long a1_), .second, .val (.long a2_), .second, .val (.long a3_), .second, .val (.long b0_), .second, .val (.long b1_), .second, .val (.long b2_), .second, .val (.long b3_), .second, .unset, .unset, .unset, .unset, .unset, .unset, .unset, .unset, .unset, .unset, .unset]) rfl ?_
  refine g_iload X59 hx (hb hby at_70) rfl ?_
  obtain ⟨rc, hrc⟩ : ∃ v : Int64, q2.toInt64 = v := ⟨_, rfl⟩
  refine g_i2l X59 hx (hb hby at_72) hrc ?_
  have hrc2 : own_r rc := by
    have a := c_i2l q2
    rw [hrc] at a
    have b := rng32 q2
    unfold own_r
    omega
  refine g_lstore X59 hx (hb hby at_73) (L' := #[.val (.long q0), .second, .val (.long q1), .second, .val (.int q2), .val (.int q3), .val (.long q4), .second, .val (.long q5), .second, .val (.int ii), .val (.int jj), .val (.long a0_), .second, .val (.long a1_), .second, .val (.long a2_), .second, .val (.long a3_), .second, .val (.long b0_), .second, .val (.long b1_), .second, .val (.long b2_), .second, .val (.long b3_), .second, .val (.long rc), .second, .unset, .unset, .unset, .unset, .unset, .unset, .unset, .unset, .unset]) rfl ?_
  refine g_bipush X59 hx (hb hby at_75) (v := (8 : Int32)) (by decide) ?_
  refine g_newP X59 hx hZ (ty := .double) rfl (hw _ (List.mem_of_getElem? (i := 4) rfl)) e64 (hb hby at_77) (by decide) (cap := 8) (by decide) (by decide) (by decide) (by decide) ?_
  intro T66 h69 aa cA73 gaa X67 e68 E70 F71
  have ge_aa : n0 ≤ aa := by rw [gaa]; exact Z0
  have Z75 : n0 ≤ h69.size := Nat.le_trans Z0 E70.1
  have F74 : Av Z h69 aa .double 8 (fun _ => .double 0) := Av.newK F71 (by decide)
  refine g_astore X67 hx (hb hby at_79) rfl (L' := #[.val (.long q0), .second, .val (.long q1), .second, .val (.int q2), .val (.int q3), .val (.long q4), .second, .val (.long q5), .second, .val (.int ii), .val (.int jj), .val (.long a0_), .second, .val (.long a1_), .second, .val (.long a2_), .second, .val (.long a3_), .second, .val (.long b0_), .second, .val (.long b1_), .second, .val (.long b2_), .second, .val (.long b3_), .second, .val (.long rc), .second, .val (.ref aa), .unset, .unset, .unset, .unset, .unset, .unset, .unset, .unset]) rfl ?_
  refine g_bipush X67 hx (hb hby at_81) (v := (8 : Int32)) (by decide) ?_
  refine g_newP X67 hx hZ (ty := .double) rfl (hw _ (List.mem_of_getElem? (i := 4) rfl)) e68 (hb hby at_83) (by decide) (cap := 8) (by decide) (by decide) (by decide) (by decide) ?_
  intro T77 h80 bb cA84 gbb X78 e79 E81 F82
  have ne_aa_bb : aa ≠ bb := fun q => absurd F74.lt (by rw [q, gbb]; exact Nat.lt_irrefl _)
  have ge_bb : n0 ≤ bb := by rw [gbb]; exact Z75
  have F86 := F74.ext E81
  have Z87 : n0 ≤ h80.size := Nat.le_trans Z75 E81.1
  have F85 : Av Z h80 bb .double 8 (fun _ => .double 0) := Av.newK F82 (by decide)
  refine g_astore X78 hx (hb hby at_85) rfl (L' := #[.val (.long q0), .second, .val (.long q1), .second, .val (.int q2), .val (.int q3), .val (.long q4), .second, .val (.long q5), .second, .val (.int ii), .val (.int jj), .val (.long a0_), .second, .val (.long a1_), .second, .val (.long a2_), .second, .val (.long a3_), .second, .val (.long b0_), .second, .val (.long b1_), .second, .val (.long b2_), .second, .val (.long b3_), .second, .val (.long rc), .second, .val (.ref aa), .val (.ref bb), .unset, .unset, .unset, .unset, .unset, .unset, .unset]) rfl ?_
  refine g_aload X78 hx (hb hby at_87) rfl rfl ?_
  refine g_lload X78 hx (hb hby at_89) rfl ?_
  refine g_callS X78 hx hZ hown (hw _ (List.mem_of_getElem? (i := 5) rfl)) (hw _ (List.mem_of_getElem? (i := 6) rfl)) (hw _ (List.mem_of_getElem? (i := 2) rfl)) (hw _ (List.mem_of_getElem? (i := 7) rfl)) (by decide) (rm2 l Z a0 hw [] aa q4 h80 n0 Z87 F86 ge_aa) e79 (W := 0) (by decide) (by decide) (by rw [hml]; rfl) [(.ref aa), (.long q4)] [] (lenOf pd0_1 rfl) rfl rfl (Nat.le_of_eq rfl) (hb hby at_91) (by decide) (by decide) ?_
  intro v93 T89 L92 X90 hQ91
  obtain ⟨rfl, N94, K95, g96, F97⟩ := hQ91
  have N98 := Fr.app N65 N94
  have F100 := F85.keep K95 (ninS ne_aa_bb.symm nin0)
  have Z101 : n0 ≤ T89.heap.size := Nat.le_trans Z87 K95.1
  show Go p e below (Ret s (Q0 Z q0 q1 q2 q3 q4 q5 h0 n0) 16 128) (T89.setTop (mkF m 94 #[.val (.long q0), .second, .val (.long q1), .second, .val (.int q2), .val (.int q3), .val (.long q4), .second, .val (.long q5), .second, .val (.int ii), .val (.int jj), .val (.long a0_), .second, .val (.long a1_), .second, .val (.long a2_), .second, .val (.long a3_), .second, .val (.long b0_), .second, .val (.long b1_), .second, .val (.long b2_), .second, .val (.long b3_), .second, .val (.long rc), .second, .val (.ref aa), .val (.ref bb), .unset, .unset, .unset, .unset, .unset, .unset, .unset] []))
  refine g_aload X90 hx (hb hby at_94) rfl rfl ?_
  refine g_lload X90 hx (hb hby at_96) rfl ?_
  refine g_callS X90 hx hZ hown (hw _ (List.mem_of_getElem? (i := 5) rfl)) (hw _ (List.mem_of_getElem? (i := 6) rfl)) (hw _ (List.mem_of_getElem? (i := 2) rfl)) (hw _ (List.mem_of_getElem? (i := 7) rfl)) (by decide) (rm2 l Z a0 hw [] bb q5 T89.heap n0 Z101 F100 ge_bb) rfl (W := 0) (by decide) (by decide) (by rw [hml]; rfl) [(.ref bb), (.long q5)] [] (lenOf pd0_1 rfl) rfl rfl (Nat.le_of_eq rfl) (hb hby at_98) (by decide) (by decide) ?_
  intro v107 T103 L106 X104 hQ105
  obtain ⟨rfl, N108, K109, g110, F111⟩ := hQ105
  have N112 := Fr.app N98 N108
  have F114 := F97.keep K109 (ninS ne_aa_bb nin0)
  have Z115 : n0 ≤ T103.heap.size := Nat.le_trans Z101 K109.1
  show Go p e below (Ret s (Q0 Z q0 q1 q2 q3 q4 q5 h0 n0) 16 128) (T103.setTop (mkF m 101 #[.val (.long q0), .second, .val (.long q1), .second, .val (.int q2), .val (.int q3), .val (.long q4), .second, .val (.long q5), .second, .val (.int ii), .val (.int jj), .val (.long a0_), .second, .val (.long a1_), .second, .val (.long a2_), .second, .val (.long a3_), .second, .val (.long b0_), .second, .val (.long b1_), .second, .val (.long b2_), .second, .val (.long b3_), .second, .val (.long rc), .second, .val (.ref aa), .val (.ref bb), .unset, .unset, .unset, .unset, .unset, .unset, .unset] []))
  refine g_aload X104 hx (hb hby at_101) rfl rfl ?_
  refine g_iload X104 hx (hb hby at_103) rfl ?_
  refine g_lload X104 hx (hb hby at_105) rfl ?_
  obtain ⟨d117, hd117⟩ : ∃ v : UInt64, FP.l2d a0_ = v := ⟨_, rfl⟩
  have fin_d117 : Jvm.Free.Fl.Fin64 d117 := by rw [← hd117]; exact Jvm.Free.Fl.l2d_fin _
  refine g_l2d X104 hx (hb hby at_107) hd117 ?_
  refine g_dastore X104 hx hZ rfl F114 (i := (ii.toInt.toNat + 0)) (by omega) (by omega) (by show ii.toInt.toNat = _; omega) (hb hby at_108) ?_
  intro T118 h121 X119 e120 W122
  have F123 := F114.same W122
  have F124 := F111.other W122 ne_aa_bb.symm
  have Z125 : n0 ≤ h121.size := by rw [W122.size]; exact Z115
  have N126 := Fr.snoc X119 N112 ge_aa
  refine g_aload X119 hx (hb hby at_109) rfl rfl ?_
  refine g_iload X119 hx (hb hby at_111) rfl ?_
  refine g_iconst X119 hx (hb hby at_113) (v := (1 : Int32)) (by decide) ?_
  obtain ⟨i127, hi127⟩ : ∃ v : Int32, ii + (1 : Int32) = v := ⟨_, rfl⟩
  refine g_iadd X119 hx (hb hby at_114) hi127 ?_
  have t_i127 : i127.toInt = ii.toInt + 1 := by
    have := c_iadd ii 1
    rw [hi127] at this
    have h2 : (1 : Int32).toInt = 1 := rfl
    have := rng32 i127
    omega
  refine g_lload X119 hx (hb hby at_115) rfl ?_
  obtain ⟨d128, hd128⟩ : ∃ v : UInt64, FP.l2d a1_ = v := ⟨_, rfl⟩
  have fin_d128 : Jvm.Free.Fl.Fin64 d128 := by rw [← hd128]; exact Jvm.Free.Fl.l2d_fin _
  refine g_l2d X119 hx (hb hby at_117) hd128 ?_
  refine g_dastore X119 hx hZ e120 F123 (i := (ii.toInt.toNat + 1)) (by omega) (by omega) (by show i127.toInt.toNat = _; omega) (hb hby at_118) ?_
  intro T129 h132 X130 e131 W133
  have F134 := F123.same W133
  have F135 := F124.other W133 ne_aa_bb.symm
  have Z136 : n0 ≤ h132.size := by rw [W133.size]; exact Z125
  have N137 := Fr.snoc X130 N126 ge_aa
  refine g_aload X130 hx (hb hby at_119) rfl rfl ?_
  refine g_iload X130 hx (hb hby at_121) rfl ?_
  refine g_iconst X130 hx (hb hby at_123) (v := (2 : Int32)) (by decide) ?_
  obtain ⟨i138, hi138⟩ : ∃ v : Int32, ii + (2 : Int32) = v := ⟨_, rfl⟩
  refine g_iadd X130 hx (hb hby at_124) hi138 ?_
  have t_i138 : i138.toInt = ii.toInt + 2 := by
    have := c_iadd ii 2
    rw [hi138] at this
    have h2 : (2 : Int32).toInt = 2 := rfl
    have := rng32 i138
    omega
  refine g_lload X130 hx (hb hby at_125) rfl ?_
  obtain ⟨d139, hd139⟩ : ∃ v : UInt64, FP.l2d a2_ = v := ⟨_, rfl⟩
  have fin_d139 : Jvm.Free.Fl.Fin64 d139 := by rw [← hd139]; exact Jvm.Free.Fl.l2d_fin _
  refine g_l2d X130 hx (hb hby at_127) hd139 ?_
  refine g_dastore X130 hx hZ e131 F134 (i := (ii.toInt.toNat + 2)) (by omega) (by omega) (by show i138.toInt.toNat = _; omega) (hb hby at_128) ?_
  intro T140 h143 X141 e142 W144
  have F145 := F134.same W144
  have F146 := F135.other W144 ne_aa_bb.symm
  have Z147 : n0 ≤ h143.size := by rw [W144.size]; exact Z136
  have N148 := Fr.snoc X141 N137 ge_aa
  refine g_aload X141 hx (hb hby at_129) rfl rfl ?_
  refine g_iload X141 hx (hb hby at_131) rfl ?_
  refine g_iconst X141 hx (hb hby at_133) (v := (3 : Int32)) (by decide) ?_
  obtain ⟨i149, hi149⟩ : ∃ v : Int32, ii + (3 : Int32) = v := ⟨_, rfl⟩
  refine g_iadd X141 hx (hb hby at_134) hi149 ?_
  have t_i149 : i149.toInt = ii.toInt + 3 := by
    have := c_iadd ii 3
    rw [hi149] at this
    have h2 : (3 : Int32).toInt = 3 := rfl
    have := rng32 i149
    omega
  refine g_lload X141 hx (hb hby at_135) rfl ?_
  obtain ⟨d150, hd150⟩ : ∃ v : UInt64, FP.l2d a3_ = v := ⟨_, rfl⟩
  have fin_d150 : Jvm.Free.Fl.Fin64 d150 := by rw [← hd150]; exact Jvm.Free.Fl.l2d_fin _
  refine g_l2d X141 hx (hb hby at_137) hd150 ?_
  refine g_dastore X141 hx hZ e142 F145 (i := (ii.toInt.toNat + 3)) (by omega) (by omega) (by show i149.toInt.toNat = _; omega) (hb hby at_138) ?_
  intro T151 h154 X152 e153 W155
  have F156 := F145.same W155
  have F157 := F146.other W155 ne_aa_bb.symm
  have Z158 : n0 ≤ h154.size := by rw [W155.size]; exact Z147
  have N159 := Fr.snoc X152 N148 ge_aa
  refine g_aload X152 hx (hb hby at_139) rfl rfl ?_
  refine g_iload X152 hx (hb hby at_141) rfl ?_
  refine g_lload X152 hx (hb hby at_143) rfl ?_
  obtain ⟨d160, hd160⟩ : ∃ v : UInt64, FP.l2d b0_ = v := ⟨_, rfl⟩
  have fin_d160 : Jvm.Free.Fl.Fin64 d160 := by rw [← hd160]; exact Jvm.Free.Fl.l2d_fin _
  refine g_l2d X152 hx (hb hby at_145) hd160 ?_
  refine g_dastore X152 hx hZ e153 F157 (i := (jj.toInt.toNat + 0)) (by omega) (by omega) (by show jj.toInt.toNat = _; omega) (hb hby at_146) ?_
  intro T161 h164 X162 e163 W165
  have F166 := F156.other W165 ne_aa_bb
  have F167 := F157.same W165
  have Z168 : n0 ≤ h164.size := by rw [W165.size]; exact Z158
  have N169 := Fr.snoc X162 N159 ge_bb
  refine g_aload X162 hx (hb hby at_147) rfl rfl ?_
  refine g_iload X162 hx (hb hby at_149) rfl ?_
  refine g_iconst X162 hx (hb hby at_151) (v := (1 : Int32)) (by decide) ?_
  obtain ⟨i170, hi170⟩ : ∃ v : Int32, jj + (1 : Int32) = v := ⟨_, rfl⟩
  refine g_iadd X162 hx (hb hby at_152) hi170 ?_
  have t_i170 : i170.toInt = jj.toInt + 1 := by
    have := c_iadd jj 1
    rw [hi170] at this
    have h2 : (1 : Int32).toInt = 1 := rfl
    have := rng32 i170
    omega
  refine g_lload X162 hx (hb hby at_153) rfl ?_
  obtain ⟨d171, hd171⟩ : ∃ v : UInt64, FP.l2d b1_ = v := ⟨_, rfl⟩
  have fin_d171 : Jvm.Free.Fl.Fin64 d171 := by rw [← hd171]; exact Jvm.Free.Fl.l2d_fin _
  refine g_l2d X162 hx (hb hby at_155) hd171 ?_
  refine g_dastore X162 hx hZ e163 F167 (i := (jj.toInt.toNat + 1)) (by omega) (by omega) (by show i170.toInt.toNat = _; omega) (hb hby at_156) ?_
  intro T172 h175 X173 e174 W176
  have F177 := F166.other W176 ne_aa_bb
  have F178 := F167.same W176
  have Z179 : n0 ≤ h175.size := by rw [W176.size]; exact Z168
  have N180 := Fr.snoc X173 N169 ge_bb
  refine g_aload X173 hx (hb hby at_157) rfl rfl ?_
  refine g_iload X173 hx (hb hby at_159) rfl ?_
  refine g_iconst X173 hx (hb hby at_161) (v := (2 : Int32)) (by decide) ?_
  obtain ⟨i181, hi181⟩ : ∃ v : Int32, jj + (2 : Int32) = v := ⟨_, rfl⟩
  refine g_iadd X173 hx (hb hby at_162) hi181 ?_
  have t_i181 : i181.toInt = jj.toInt + 2 := by
    have := c_iadd jj 2
    rw [hi181] at this
    have h2 : (2 : Int32).toInt = 2 := rfl
    have := rng32 i181
    omega
  refine g_lload X173 hx (hb hby at_163) rfl ?_
  obtain ⟨d182, hd182⟩ : ∃ v : UInt64, FP.l2d b2_ = v := ⟨_, rfl⟩
  have fin_d182 : Jvm.Free.Fl.Fin64 d182 := by rw [← hd182]; exact Jvm.Free.Fl.l2d_fin _
  refine g_l2d X173 hx (hb hby at_165) hd182 ?_
  refine g_dastore X173 hx hZ e174 F178 (i := (jj.toInt.toNat + 2)) (by omega) (by omega) (by show i181.toInt.toNat = _; omega) (hb hby at_166) ?_
  intro T183 h186 X184 e185 W187
  have F188 := F177.other W187 ne_aa_bb
  have F189 := F178.same W187
  have Z190 : n0 ≤ h186.size := by rw [W187.size]; exact Z179
  have N191 := Fr.snoc X184 N180 ge_bb
  refine g_aload X184 hx (hb hby at_167) rfl rfl ?_
  refine g_iload X184 hx (hb hby at_169) rfl ?_
  refine g_iconst X184 hx (hb hby at_171) (v := (3 : Int32)) (by decide) ?_
  obtain ⟨i192, hi192⟩ : ∃ v : Int32, jj + (3 : Int32) = v := ⟨_, rfl⟩
  refine g_iadd X184 hx (hb hby at_172) hi192 ?_
  have t_i192 : i192.toInt = jj.toInt + 3 := by
    have := c_iadd jj 3
    rw [hi192] at this
    have h2 : (3 : Int32).toInt = 3 := rfl
    have := rng32 i192
    omega
  refine g_lload X184 hx (hb hby at_173) rfl ?_
  obtain ⟨d193, hd193⟩ : ∃ v : UInt64, FP.l2d b3_ = v := ⟨_, rfl⟩
  have fin_d193 : Jvm.Free.Fl.Fin64 d193 := by rw [← hd193]; exact Jvm.Free.Fl.l2d_fin _
  refine g_l2d X184 hx (hb hby at_175) hd193 ?_
  refine g_dastore X184 hx hZ e185 F189 (i := (jj.toInt.toNat + 3)) (by omega) (by omega) (by show i192.toInt.toNat = _; omega) (hb hby at_176) ?_
  intro T194 h197 X195 e196 W198
  have F199 := F188.other W198 ne_aa_bb
  have F200 := F189.same W198
  have Z201 : n0 ≤ h197.size := by rw [W198.size]; exact Z190
  have N202 := Fr.snoc X195 N191 ge_bb
  refine g_aload X195 hx (hb hby at_177) rfl rfl ?_
  refine g_iload X195 hx (hb hby at_179) rfl ?_
  refine g_aload X195 hx (hb hby at_181) rfl rfl ?_
  refine g_iload X195 hx (hb hby at_183) rfl ?_
  refine g_lload X195 hx (hb hby at_185) rfl ?_
  obtain ⟨d203, hd203⟩ : ∃ v : UInt64, FP.l2d rc = v := ⟨_, rfl⟩
  have fin_d203 : Jvm.Free.Fl.Fin64 d203 := by rw [← hd203]; exact Jvm.Free.Fl.l2d_fin _
  refine g_l2d X195 hx (hb hby at_187) hd203 ?_
  subst hd203
  refine g_callS X195 hx hZ hown (hw _ (List.mem_of_getElem? (i := 8) rfl)) (hw _ (List.mem_of_getElem? (i := 9) rfl)) (hw _ (List.mem_of_getElem? (i := 10) rfl)) (hw _ (List.mem_of_getElem? (i := 11) rfl)) (by decide) (rm3 l Z a0 hw [] aa ii bb jj a0_ a1_ a2_ a3_ b0_ b1_ b2_ b3_ rc h197 n0 Z201 F199 F200 hii2 hjj2 (by simp [hd117]) (by simp [hd160]) hp_a0_ hp_b0_ (by simp [hd128]) (by simp [hd171]) hp_a1_ hp_b1_ (by simp [hd139]) (by simp [hd182]) hp_a2_ hp_b2_ (by simp [hd150]) (by simp [hd193]) hp_a3_ hp_b3_ hrc2) e196 (W := 0) (by decide) (by decide) (by rw [hml]; rfl) [(.ref aa), (.int ii), (.ref bb), (.int jj), (.double (FP.l2d rc))] [] (lenOf pd0_2 rfl) rfl rfl (Nat.le_of_eq rfl) (hb hby at_188) (by decide) (by decide) ?_
  intro v208 T204 L207 X205 hQ206
  obtain ⟨⟨got, rfl, hgotT, hgotF⟩, N209, e210⟩ := hQ206
  have N211 := Fr.app N202 N209
  show Go p e below (Ret s (Q0 Z q0 q1 q2 q3 q4 q5 h0 n0) 16 128) (T204.setTop (mkF m 191 #[.val (.long q0), .second, .val (.long q1), .second, .val (.int q2), .val (.int q3), .val (.long q4), .second, .val (.long q5), .second, .val (.int ii), .val (.int jj), .val (.long a0_), .second, .val (.long a1_), .second, .val (.long a2_), .second, .val (.long a3_), .second, .val (.long b0_), .second, .val (.long b1_), .second, .val (.long b2_), .second, .val (.long b3_), .second, .val (.long rc), .second, .val (.ref aa), .val (.ref bb), .unset, .unset, .unset, .unset, .unset, .unset, .unset] [(.int got)]))
  refine g_istore X205 hx (hb hby at_191) (L' := #[.val (.long q0), .second, .val (.long q1), .second, .val (.int q2), .val (.int q3), .val (.long q4), .second, .val (.long q5), .second, .val (.int ii), .val (.int jj), .val (.long a0_), .second, .val (.long a1_), .second, .val (.long a2_), .second, .val (.long a3_), .second, .val (.long b0_), .second, .val (.long b1_), .second, .val (.long b2_), .second, .val (.long b3_), .second, .val (.long rc), .second, .val (.ref aa), .val (.ref bb), .val (.int got), .unset, .unset, .unset, .unset, .unset, .unset]) rfl ?_
  refine g_aload X205 hx (hb hby at_193) rfl rfl ?_
  refine g_iload X205 hx (hb hby at_195) rfl ?_
  refine g_aload X205 hx (hb hby at_197) rfl rfl ?_
  refine g_iload X205 hx (hb hby at_199) rfl ?_
  refine g_lload X205 hx (hb hby at_201) rfl ?_
  obtain ⟨d212, hd212⟩ : ∃ v : UInt64, FP.l2d rc = v := ⟨_, rfl⟩
  have fin_d212 : Jvm.Free.Fl.Fin64 d212 := by rw [← hd212]; exact Jvm.Free.Fl.l2d_fin _
  refine g_l2d X205 hx (hb hby at_203) hd212 ?_
  subst hd212
  refine g_callS X205 hx hZ hown (hw _ (List.mem_of_getElem? (i := 8) rfl)) (hw _ (List.mem_of_getElem? (i := 9) rfl)) (hw _ (List.mem_of_getElem? (i := 10) rfl)) (hw _ (List.mem_of_getElem? (i := 11) rfl)) (by decide) (rm3 l Z a0 hw [] bb jj aa ii b0_ b1_ b2_ b3_ a0_ a1_ a2_ a3_ rc h197 n0 Z201 F200 F199 hjj2 hii2 (by simp [hd160]) (by simp [hd117]) hp_b0_ hp_a0_ (by simp [hd171]) (by simp [hd128]) hp_b1_ hp_a1_ (by simp [hd182]) (by simp [hd139]) hp_b2_ hp_a2_ (by simp [hd193]) (by simp [hd150]) hp_b3_ hp_a3_ hrc2) e210 (W := 0) (by decide) (by decide) (by rw [hml]; rfl) [(.ref bb), (.int jj), (.ref aa), (.int ii), (.double (FP.l2d rc))] [] (lenOf pd0_2 rfl) rfl rfl (Nat.le_of_eq rfl) (hb hby at_204) (by decide) (by decide) ?_
  intro v217 T213 L216 X214 hQ215
  obtain ⟨⟨swp, rfl, hswpT, hswpF⟩, N218, e219⟩ := hQ215
  have N220 := Fr.app N211 N218
  show Go p e below (Ret s (Q0 Z q0 q1 q2 q3 q4 q5 h0 n0) 16 128) (T213.setTop (mkF m 207 #[.val (.long q0), .second, .val (.long q1), .second, .val (.int q2), .val (.int q3), .val (.long q4), .second, .val (.long q5), .second, .val (.int ii), .val (.int jj), .val (.long a0_), .second, .val (.long a1_), .second, .val (.long a2_), .second, .val (.long a3_), .second, .val (.long b0_), .second, .val (.long b1_), .second, .val (.long b2_), .second, .val (.long b3_), .second, .val (.long rc), .second, .val (.ref aa), .val (.ref bb), .val (.int got), .unset, .unset, .unset, .unset, .unset, .unset] [(.int swp)]))
  refine g_istore X214 hx (hb hby at_207) (L' := #[.val (.long q0), .second, .val (.long q1), .second, .val (.int q2), .val (.int q3), .val (.long q4), .second, .val (.long q5), .second, .val (.int ii), .val (.int jj), .val (.long a0_), .second, .val (.long a1_), .second, .val (.long a2_), .second, .val (.long a3_), .second, .val (.long b0_), .second, .val (.long b1_), .second, .val (.long b2_), .second, .val (.long b3_), .second, .val (.long rc), .second, .val (.ref aa), .val (.ref bb), .val (.int got), .val (.int swp), .unset, .unset, .unset, .unset, .unset]) rfl ?_
  refine g_lload X214 hx (hb hby at_209) rfl ?_
  refine g_lload X214 hx (hb hby at_211) rfl ?_
  obtain ⟨l221, hl221⟩ : ∃ v : Int64, b0_ - a2_ = v := ⟨_, rfl⟩
  refine g_lsub X214 hx (hb hby at_213) hl221 ?_
  refine g_lload X214 hx (hb hby at_214) rfl ?_
  refine g_lload X214 hx (hb hby at_216) rfl ?_
  obtain ⟨l222, hl222⟩ : ∃ v : Int64, a0_ - b2_ = v := ⟨_, rfl⟩
  refine g_lsub X214 hx (hb hby at_218) hl222 ?_
  refine g_callS X214 hx hZ hown (hw _ (List.mem_of_getElem? (i := 12) rfl)) (hw _ (List.mem_of_getElem? (i := 13) rfl)) (hw _ (List.mem_of_getElem? (i := 14) rfl)) (hw _ (List.mem_of_getElem? (i := 15) rfl)) (by decide) (rm4 l Z a0 hw [] l221 l222 h197 n0 Z201) e219 (W := 0) (by decide) (by decide) (by rw [hml]; rfl) [(.long l221), (.long l222)] [] (lenOf pd0_3 rfl) rfl rfl (Nat.le_of_eq rfl) (hb hby at_219) (by decide) (by decide) ?_
  intro v227 T223 L226 X224 hQ225
  obtain ⟨rfl, N228, e229⟩ := hQ225
  have N230 := Fr.app N220 N228
  show Go p e below (Ret s (Q0 Z q0 q1 q2 q3 q4 q5 h0 n0) 16 128) (T223.setTop (mkF m 222 #[.val (.long q0), .second, .val (.long q1), .second, .val (.int q2), .val (.int q3), .val (.long q4), .second, .val (.long q5), .second, .val (.int ii), .val (.int jj), .val (.long a0_), .second, .val (.long a1_), .second, .val (.long a2_), .second, .val (.long a3_), .second, .val (.long b0_), .second, .val (.long b1_), .second, .val (.long b2_), .second, .val (.long b3_), .second, .val (.long rc), .second, .val (.ref aa), .val (.ref bb), .val (.int got), .val (.int swp), .unset, .unset, .unset, .unset, .unset] [(.long (own_maxL l221 l222))]))
  generalize hgx : (own_maxL l221 l222) = gx
  refine g_lstore X224 hx (hb hby at_222) (L' := #[.val (.long q0), .second, .val (.long q1), .second, .val (.int q2), .val (.int q3), .val (.long q4), .second, .val (.long q5), .second, .val (.int ii), .val (.int jj), .val (.long a0_), .second, .val (.long a1_), .second, .val (.long a2_), .second, .val (.long a3_), .second, .val (.long b0_), .second, .val (.long b1_), .second, .val (.long b2_), .second, .val (.long b3_), .second, .val (.long rc), .second, .val (.ref aa), .val (.ref bb), .val (.int got), .val (.int swp), .val (.long gx), .second, .unset, .unset, .unset]) rfl ?_
  refine g_lload X224 hx (hb hby at_224) rfl ?_
  refine g_lload X224 hx (hb hby at_226) rfl ?_
  obtain ⟨l231, hl231⟩ : ∃ v : Int64, b1_ - a3_ = v := ⟨_, rfl⟩
  refine g_lsub X224 hx (hb hby at_228) hl231 ?_
  refine g_lload X224 hx (hb hby at_229) rfl ?_
  refine g_lload X224 hx (hb hby at_231) rfl ?_
  obtain ⟨l232, hl232⟩ : ∃ v : Int64, a1_ - b3_ = v := ⟨_, rfl⟩
  refine g_lsub X224 hx (hb hby at_233) hl232 ?_
  refine g_callS X224 hx hZ hown (hw _ (List.mem_of_getElem? (i := 12) rfl)) (hw _ (List.mem_of_getElem? (i := 13) rfl)) (hw _ (List.mem_of_getElem? (i := 14) rfl)) (hw _ (List.mem_of_getElem? (i := 15) rfl)) (by decide) (rm4 l Z a0 hw [] l231 l232 h197 n0 Z201) e229 (W := 0) (by decide) (by decide) (by rw [hml]; rfl) [(.long l231), (.long l232)] [] (lenOf pd0_3 rfl) rfl rfl (Nat.le_of_eq rfl) (hb hby at_234) (by decide) (by decide) ?_
  intro v237 T233 L236 X234 hQ235
  obtain ⟨rfl, N238, e239⟩ := hQ235
  have N240 := Fr.app N230 N238
  show Go p e below (Ret s (Q0 Z q0 q1 q2 q3 q4 q5 h0 n0) 16 128) (T233.setTop (mkF m 237 #[.val (.long q0), .second, .val (.long q1), .second, .val (.int q2), .val (.int q3), .val (.long q4), .second, .val (.long q5), .second, .val (.int ii), .val (.int jj), .val (.long a0_), .second, .val (.long a1_), .second, .val (.long a2_), .second, .val (.long a3_), .second, .val (.long b0_), .second, .val (.long b1_), .second, .val (.long b2_), .second, .val (.long b3_), .second, .val (.long rc), .second, .val (.ref aa), .val (.ref bb), .val (.int got), .val (.int swp), .val (.long gx), .second, .unset, .unset, .unset] [(.long (own_maxL l231 l232))]))
  generalize hgy : (own_maxL l231 l232) = gy
  refine g_lstore X234 hx (hb hby at_237) (L' := #[.val (.long q0), .second, .val (.long q1), .second, .val (.int q2), .val (.int q3), .val (.long q4), .second, .val (.long q5), .second, .val (.int ii), .val (.int jj), .val (.long a0_), .second, .val (.long a1_), .second, .val (.long a2_), .second, .val (.long a3_), .second, .val (.long b0_), .second, .val (.long b1_), .second, .val (.long b2_), .second, .val (.long b3_), .second, .val (.long rc), .second, .val (.ref aa), .val (.ref bb), .val (.int got), .val (.int swp), .val (.long gx), .second, .val (.long gy), .second, .unset]) rfl ?_
  have t_l221 : l221.toInt = b0_.toInt - a2_.toInt := by
    have k := c_lsub b0_ a2_
    rw [hl221] at k
    have r := rng64 l221
    unfold own_p at *
    omega
  have t_l222 : l222.toInt = a0_.toInt - b2_.toInt := by
    have k := c_lsub a0_ b2_
    rw [hl222] at k
    have r := rng64 l222
    unfold own_p at *
    omega
  have t_gx := own_maxT l221 l222
  rw [hgx] at t_gx
  have t_l231 : l231.toInt = b1_.toInt - a3_.toInt := by
    have k := c_lsub b1_ a3_
    rw [hl231] at k
    have r := rng64 l231
    unfold own_p at *
    omega
  have t_l232 : l232.toInt = a1_.toInt - b3_.toInt := by
    have k := c_lsub a1_ b3_
    rw [hl232] at k
    have r := rng64 l232
    unfold own_p at *
    omega
  have t_gy := own_maxT l231 l232
  rw [hgy] at t_gy
  have hP1 : own_apart a0_ a1_ a2_ a3_ b0_ b1_ b2_ b3_ rc ↔ (rc.toInt < gx.toInt ∨ rc.toInt < gy.toInt) := by
    unfold own_apart
    omega
  have hP2 : own_apart b0_ b1_ b2_ b3_ a0_ a1_ a2_ a3_ rc ↔ (rc.toInt < gx.toInt ∨ rc.toInt < gy.toInt) := by
    unfold own_apart
    omega
  refine g_lload X234 hx (hb hby at_239) rfl ?_
  refine g_lload X234 hx (hb hby at_241) rfl ?_
  refine g_lcmp X234 hx (hb hby at_243) ?_
  by_cases hc244_241 : rc < gx
  ·
    refine g_ifYes X234 hx (hb hby at_244) (tlt ((lw_gt _ _).mpr hc244_241)).2.2.1 (by decide) (pc' := 255) (by decide) ?_
    refine g_iconst X234 hx (hb hby at_255) (v := (1 : Int32)) (by decide) ?_
    refine g_goto X234 hx (hb hby at_256) (by decide) (pc' := 260) (by decide) ?_
    refine g_istore X234 hx (hb hby at_260) (L' := #[.val (.long q0), .second, .val (.long q1), .second, .val (.int q2), .val (.int q3), .val (.long q4), .second, .val (.long q5), .second, .val (.int ii), .val (.int jj), .val (.long a0_), .second, .val (.long a1_), .second, .val (.long a2_), .second, .val (.long a3_), .second, .val (.long b0_), .second, .val (.long b1_), .second, .val (.long b2_), .second, .val (.long b3_), .second, .val (.long rc), .second, .val (.ref aa), .val (.ref bb), .val (.int got), .val (.int swp), .val (.long gx), .second, .val (.long gy), .second, .val (.int (1 : Int32))]) rfl ?_
    refine g_iload X234 hx (hb hby at_262) rfl ?_
    refine g_iload X234 hx (hb hby at_264) rfl ?_
    have hc266_242 : got = (1 : Int32) := hgotT (hP1.mpr (Or.inl (Int64.lt_iff_toInt_lt.mp hc244_241)))
    refine g_icmpNo X234 hx (hb hby at_266) (teq hc266_242).2 ?_
    refine g_iload X234 hx (hb hby at_269) rfl ?_
    refine g_iload X234 hx (hb hby at_271) rfl ?_
    have hc273_243 : swp = (1 : Int32) := hswpT (hP2.mpr (Or.inl (Int64.lt_iff_toInt_lt.mp hc244_241)))
    refine g_icmpNo X234 hx (hb hby at_273) (teq hc273_243).2 ?_
    refine g_iconst X234 hx (hb hby at_276) (v := (1 : Int32)) (by decide) ?_
    refine g_goto X234 hx (hb hby at_277) (by decide) (pc' := 281) (by decide) ?_
    refine g_ireturn X234 hx Bd.notSynchronized Bd.returns rfl (by simp) (hb hby at_281) (by decide) (by decide) ?_
    exact ⟨rfl, N240⟩
  ·
    refine g_ifNo X234 hx (hb hby at_244) (flt (fun q => hc244_241 ((lw_gt _ _).mp q))).2.2.1 ?_
    refine g_lload X234 hx (hb hby at_247) rfl ?_
    refine g_lload X234 hx (hb hby at_249) rfl ?_
    refine g_lcmp X234 hx (hb hby at_251) ?_
    by_cases hc252_244 : rc < gy
    ·
      refine g_ifNo X234 hx (hb hby at_252) (tlt ((lw_gt _ _).mpr hc252_244)).2.2.2 ?_
      refine g_iconst X234 hx (hb hby at_255) (v := (1 : Int32)) (by decide) ?_
      refine g_goto X234 hx (hb hby at_256) (by decide) (pc' := 260) (by decide) ?_
      refine g_istore X234 hx (hb hby at_260) (L' := #[.val (.long q0), .second, .val (.long q1), .second, .val (.int q2), .val (.int q3), .val (.long q4), .second, .val (.long q5), .second, .val (.int ii), .val (.int jj), .val (.long a0_), .second, .val (.long a1_), .second, .val (.long a2_), .second, .val (.long a3_), .second, .val (.long b0_), .second, .val (.long b1_), .second, .val (.long b2_), .second, .val (.long b3_), .second, .val (.long rc), .second, .val (.ref aa), .val (.ref bb), .val (.int got), .val (.int swp), .val (.long gx), .second, .val (.long gy), .second, .val (.int (1 : Int32))]) rfl ?_
      refine g_iload X234 hx (hb hby at_262) rfl ?_
      refine g_iload X234 hx (hb hby at_264) rfl ?_
      have hc266_245 : got = (1 : Int32) := hgotT (hP1.mpr (Or.inr (Int64.lt_iff_toInt_lt.mp hc252_244)))
      refine g_icmpNo X234 hx (hb hby at_266) (teq hc266_245).2 ?_
      refine g_iload X234 hx (hb hby at_269) rfl ?_
      refine g_iload X234 hx (hb hby at_271) rfl ?_
      have hc273_246 : swp = (1 : Int32) := hswpT (hP2.mpr (Or.inr (Int64.lt_iff_toInt_lt.mp hc252_244)))
      refine g_icmpNo X234 hx (hb hby at_273) (teq hc273_246).2 ?_
      refine g_iconst X234 hx (hb hby at_276) (v := (1 : Int32)) (by decide) ?_
      refine g_goto X234 hx (hb hby at_277) (by decide) (pc' := 281) (by decide) ?_
      refine g_ireturn X234 hx Bd.notSynchronized Bd.returns rfl (by simp) (hb hby at_281) (by decide) (by decide) ?_
      exact ⟨rfl, N240⟩
    ·
      refine g_ifYes X234 hx (hb hby at_252) (flt (fun q => hc252_244 ((lw_gt _ _).mp q))).2.2.2 (by decide) (pc' := 259) (by decide) ?_
      refine g_iconst X234 hx (hb hby at_259) (v := (0 : Int32)) (by decide) ?_
      refine g_istore X234 hx (hb hby at_260) (L' := #[.val (.long q0), .second, .val (.long q1), .second, .val (.int q2), .val (.int q3), .val (.long q4), .second, .val (.long q5), .second, .val (.int ii), .val (.int jj), .val (.long a0_), .second, .val (.long a1_), .second, .val (.long a2_), .second, .val (.long a3_), .second, .val (.long b0_), .second, .val (.long b1_), .second, .val (.long b2_), .second, .val (.long b3_), .second, .val (.long rc), .second, .val (.ref aa), .val (.ref bb), .val (.int got), .val (.int swp), .val (.long gx), .second, .val (.long gy), .second, .val (.int (0 : Int32))]) rfl ?_
      refine g_iload X234 hx (hb hby at_262) rfl ?_
      refine g_iload X234 hx (hb hby at_264) rfl ?_
      have hc266_247 : got = (0 : Int32) := hgotF (fun q => by
        rcases hP1.mp q with q | q
        · exact hc244_241 (Int64.lt_iff_toInt_lt.mpr q)
        · exact hc252_244 (Int64.lt_iff_toInt_lt.mpr q))
      refine g_icmpNo X234 hx (hb hby at_266) (teq hc266_247).2 ?_
      refine g_iload X234 hx (hb hby at_269) rfl ?_
      refine g_iload X234 hx (hb hby at_271) rfl ?_
      have hc273_248 : swp = (0 : Int32) := hswpF (fun q => by
        rcases hP2.mp q with q | q
        · exact hc244_241 (Int64.lt_iff_toInt_lt.mpr q)
        · exact hc252_244 (Int64.lt_iff_toInt_lt.mpr q))
      refine g_icmpNo X234 hx (hb hby at_273) (teq hc273_248).2 ?_
      refine g_iconst X234 hx (hb hby at_276) (v := (1 : Int32)) (by decide) ?_
      refine g_goto X234 hx (hb hby at_277) (by decide) (pc' := 281) (by decide) ?_
      refine g_ireturn X234 hx Bd.notSynchronized Bd.returns rfl (by simp) (hb hby at_281) (by decide) (by decide) ?_
      exact ⟨rfl, N240⟩
set_option maxRecDepth 65536 in
set_option maxHeartbeats 40000000 in
theorem comes_1 {Post : Tables → Env → Array Value → State → Outcome → State → Prop} (hpost : ∀ tb e args s v u, (limb_1_1.after args s (.returned v) u = true ∧ limb_1_2.after args s (.returned v) u = true ∧ True) → FrameEnd s (.returned v) u (Jvm.fieldLocs frame_1_writes args s ++ Jvm.arrayLocs frame_1_arrays args s ++ Jvm.staticLocs frame_1_statics s) 16 128 → Post tb e args s (.returned v) u) :
    ArmFor flags0 classFile x code maxLocals ret World_1 tables_1 room_1 Calls_1 rest_1 Pre_1 Post := by
  intro l hfl _ _ p e ha hc hk s m args below hf hA hF happ hP
  obtain ⟨hcalls, hrest, hpre⟩ := hP
  obtain ⟨-, -, -, hnamed, -, -, -, hat⟩ := (Spec.applies_iff hf).mp happ
  obtain ⟨hg, hn⟩ := and_e (Cond.before_iff.mp (show (Jvm.Cond.and given_1 narrow_1).before args s = true from hpre))
  obtain ⟨h1, g0⟩ := and_e hg
  obtain ⟨k0, g1⟩ := and_e g0
  obtain ⟨k1, g2⟩ := and_e g1
  obtain ⟨k2, g3⟩ := and_e g2
  obtain ⟨k3, g4⟩ := and_e g3
  obtain ⟨k4, g5⟩ := and_e g4
  obtain ⟨w0, w1, w2, w3, w4, w5, rfl⟩ : ∃ w0 w1 w2 w3 w4 w5 : Value, args = #[w0, w1, w2, w3, w4, w5] := by
    have hs : args.size = 6 := by simpa [Cond.value, given_1] using h1
    obtain ⟨L⟩ := args
    match L, hs with
    | [w0, w1, w2, w3, w4, w5], _ => exact ⟨w0, w1, w2, w3, w4, w5, rfl⟩
  have hw := fun d (hd : d ∈ tables_1) => atoms_spec (ws := Jvm.Cond.code x code maxLocals ret :: tables_1) hat d (List.mem_cons_of_mem _ hd)
  have hfit : Fit s := fun {y c} hc i hi => by
    obtain ⟨ha, rfl⟩ := Array.getElem?_eq_some_iff.mp hc
    have q := List.all_eq_true.mp ((Array.all_eq_true_iff_forall_mem.mp hF) _ (Array.getElem_mem ha)) i (List.mem_range.mpr hi)
    simpa [Array.getElem?_eq_getElem hi] using q
  obtain ⟨i0, e0⟩ := isL_v k0
  obtain rfl : w0 = (.long i0) := Option.some.inj e0
  obtain ⟨i1, e1⟩ := isL_v k1
  obtain rfl : w1 = (.long i1) := Option.some.inj e1
  obtain ⟨i2, e2⟩ := is_v k2
  obtain rfl : w2 = (.int i2) := Option.some.inj e2
  obtain ⟨i3, e3⟩ := is_v k3
  obtain rfl : w3 = (.int i3) := Option.some.inj e3
  obtain ⟨i4, e4⟩ := isL_v k4
  obtain rfl : w4 = (.long i4) := Option.some.inj e4
  obtain ⟨i5, e5⟩ := isL_v g5
  obtain rfl : w5 = (.long i5) := Option.some.inj e5
  obtain ⟨n, o, h1, h2, h3, _, L, rfl, ⟨rfl, N⟩, hq⟩ := rm0 l s _ hw tables_1 i0 i1 i2 i3 i4 i5 s.heap s.heap.size (Nat.le_refl _)  p e ha hc hk s m _ below hf ((Spec.applies_iff_loose hf).mp happ).1 ⟨rfl, State.Warmed39.refl s, rfl⟩ trivial
  refine ⟨n, _, h1, h2, h3, hpost _ _ _ _ _ _ ⟨Cond.after_iff.mpr rfl, Cond.after_iff.mpr (eq_i res_at (Term.int_eval (1)) rfl), trivial⟩ ⟨hq.1, hq.2.1, (hq.2.2.sift fun y hy => Or.inr (N y hy)).mono (by decide) (by decide)⟩⟩
theorem main_1_1 : Claimed_1_1 := comes_1 fun _ _ _ _ _ _ h hF => ⟨h.1, hF⟩
theorem main_1_2 : Claimed_1_2 := comes_1 fun _ _ _ _ _ _ h hF => ⟨h.2.1, hF⟩
end Jvm.Pilot.@@N@@
namespace Jvm.Pilot.@@N@@
open Jvm Jvm.ClassFile Sem Op Lib Jvm.Free Jvm.Stand Jvm.Pilot.@@N@@.Jvm.D
/-! MADE BY PROGRAM (witnessworld.py) out of the Statement's table words and the real class files: 12 classes; the members and pool entries that the words name. The judged class is class 1, her method 3. -/
namespace start1
open Jvm.ClassFile
def u (s : String) : CpInfo := .utf8 (stringToUtf16 s)
/-- a pool by its gaps: so many unusable entries, then the entry; so many at the end -/
def gap : Nat → List CpInfo → List CpInfo
  | 0, r => r
  | n + 1, r => .unusable :: gap n r
def poolList (es : List (Nat × CpInfo)) (last : Nat) : List CpInfo := es.foldr (fun e r => gap e.1 (e.2 :: r)) (gap last [])
def pool (es : List (Nat × CpInfo)) (last : Nat) : Array CpInfo := ⟨poolList es last⟩
def fileOf (pool : Array CpInfo) (this : Nat) (attrs : Array Attribute := #[]) (ms : Array MethodInfo := #[]) (fl : Nat := 33) (sup : Nat := 0) (ifs : Array Nat := #[]) (fds : Array FieldInfo := #[]) : ClassFile where
  minorVersion := 0
  majorVersion := 65
  constantPool := pool
  accessFlags := fl
  thisClass := this
  superClass := sup
  interfaces := ifs
  fields := fds
  methods := ms
  attributes := attrs
def plain (name : String) (sup : Option ClassId) : Class where
  name := name
  kind := .ordinary
  loader := none
  accessFlags := 33
  super := sup
  interfaces := #[]
  cf := none
  fields := #[]
  methods := #[]
  instanceTypes := #[]
  staticTypes := #[]
  resolved := #[]
  callSites := []
  init := .initialized
  statics := none
  mirror := none

def pool0 : Array CpInfo := pool [(5, u "<init>"), (0, u "()V"), (1, .class_ 10), (1, u "java/lang/Object")] 113

def k0m0 : Method := { name := "<init>", desc := "()V", sig := { parameters := [], returnType := none }, accessFlags := 1, code := none }
/-- java/lang/Object -/
def k0 : Class := { plain "java/lang/Object" none with
  accessFlags := 33
  interfaces := #[]
  cf := some (fileOf pool0 8 #[] #[{ accessFlags := 1, nameIndex := 5, descriptorIndex := 6, attributes := #[] }] 33 0 #[] #[])
  fields := #[]
  methods := #[k0m0]
  instanceTypes := #[]
  staticTypes := #[]
  resolved := Array.replicate 124 none
  statics := none }

def pool1 : Array CpInfo := pool [(2, .class_ 4), (1, u "java/lang/Object"), (0, u "<init>"), (0, u "()V"), (0, .methodref 8 9), (0, .class_ 10), (0, .nameAndType 11 12), (0, u "com/example/ordinate/ordinate/plane/BoundsBoxesApartPinLaw"), (0, u "part"), (0, u "(JI)J"), (0, .methodref 8 14), (0, .nameAndType 15 16), (0, u "fill"), (0, u "([DJ)V"), (0, .methodref 18 19), (0, .class_ 20), (0, .nameAndType 21 22), (0, u "com/example/ordinate/ordinate/plane/Bounds"), (0, u "boxesApart"), (0, u "([DI[DID)Z"), (0, .methodref 24 25), (0, .class_ 26), (0, .nameAndType 27 28), (0, u "java/lang/Math"), (0, u "max"), (0, u "(JJ)J"), (2, u "law"), (0, u "(JJIIJJ)Z")] 5

def k1m0 : Method := { name := "<init>", desc := "()V", sig := { parameters := [], returnType := none }, accessFlags := 2, code := none }
def k1c1 : Code := { maxStack := 4, maxLocals := 3, code := method_2_code, exceptionTable := #[], attributes := #[] }
def k1m1 : Method := { name := "part", desc := "(JI)J", sig := { parameters := [.long, .int], returnType := some .long }, accessFlags := 10, code := some k1c1 }
def k1c2 : Code := { maxStack := 5, maxLocals := 3, code := method_3_code, exceptionTable := #[], attributes := #[] }
def k1m2 : Method := { name := "fill", desc := "([DJ)V", sig := { parameters := [(.array .double), .long], returnType := none }, accessFlags := 10, code := some k1c2 }
def k1c3 : Code := { maxStack := 6, maxLocals := 39, code := code, exceptionTable := #[], attributes := #[] }
def k1m3 : Method := { name := "law", desc := "(JJIIJJ)Z", sig := { parameters := [.long, .long, .int, .int, .long, .long], returnType := some .boolean }, accessFlags := 9, code := some k1c3 }
/-- com/example/ordinate/ordinate/plane/BoundsBoxesApartPinLaw -/
def k1 : Class := { plain "com/example/ordinate/ordinate/plane/BoundsBoxesApartPinLaw" (some 0) with
  accessFlags := 49
  interfaces := #[]
  cf := some (fileOf pool1 8 #[] #[{ accessFlags := 2, nameIndex := 5, descriptorIndex := 6, attributes := #[] }, { accessFlags := 10, nameIndex := 11, descriptorIndex := 12, attributes := #[] }, { accessFlags := 10, nameIndex := 15, descriptorIndex := 16, attributes := #[] }, { accessFlags := 9, nameIndex := 31, descriptorIndex := 32, attributes := #[] }] 49 2 #[] #[])
  fields := #[]
  methods := #[k1m0, k1m1, k1m2, k1m3]
  instanceTypes := #[]
  staticTypes := #[]
  resolved := Array.replicate 38 none
  statics := none }

def pool2 : Array CpInfo := pool [(2, .class_ 4), (1, u "java/lang/Object"), (0, u "<init>"), (0, u "()V"), (27, u "D"), (32, .class_ 68), (0, u "com/example/ordinate/ordinate/plane/Bounds"), (48, u "LONG_SIDES"), (0, u "[I"), (21, u "boxesApart"), (0, u "([DI[DID)Z"), (20, u "MIN_X"), (0, u "I"), (2, u "MIN_Y"), (1, u "MAX_X"), (1, u "MAX_Y"), (1, u "BOX"), (1, u "UPRIGHT"), (0, u "CORNERS"), (1, u "SIDES"), (1, u "REACH"), (0, u "SIDE"), (0, u "MEASURES"), (1, u "FAR_END"), (0, u "TOP"), (0, u "NEAR_END"), (0, u "BOTTOM"), (0, u "ROUNDING"), (0, u "TRAPEZOID_RANGE")] 24

def k2m0 : Method := { name := "<init>", desc := "()V", sig := { parameters := [], returnType := none }, accessFlags := 2, code := none }
def k2c1 : Code := { maxStack := 6, maxLocals := 6, code := prog_48_method_22_code, exceptionTable := #[], attributes := #[] }
def k2m1 : Method := { name := "boxesApart", desc := "([DI[DID)Z", sig := { parameters := [(.array .double), .int, (.array .double), .int, .double], returnType := some .boolean }, accessFlags := 8, code := some k2c1 }
/-- com/example/ordinate/ordinate/plane/Bounds -/
def k2 : Class := { plain "com/example/ordinate/ordinate/plane/Bounds" (some 0) with
  accessFlags := 48
  interfaces := #[]
  cf := some (fileOf pool2 67 #[] #[{ accessFlags := 2, nameIndex := 5, descriptorIndex := 6, attributes := #[] }, { accessFlags := 8, nameIndex := 140, descriptorIndex := 141, attributes := #[] }] 48 2 #[] #[{ accessFlags := 24, nameIndex := 162, descriptorIndex := 163, attributes := #[] }, { accessFlags := 24, nameIndex := 166, descriptorIndex := 163, attributes := #[] }, { accessFlags := 24, nameIndex := 168, descriptorIndex := 163, attributes := #[] }, { accessFlags := 24, nameIndex := 170, descriptorIndex := 163, attributes := #[] }, { accessFlags := 24, nameIndex := 172, descriptorIndex := 163, attributes := #[] }, { accessFlags := 24, nameIndex := 174, descriptorIndex := 163, attributes := #[] }, { accessFlags := 24, nameIndex := 175, descriptorIndex := 163, attributes := #[] }, { accessFlags := 24, nameIndex := 177, descriptorIndex := 163, attributes := #[] }, { accessFlags := 24, nameIndex := 179, descriptorIndex := 163, attributes := #[] }, { accessFlags := 24, nameIndex := 180, descriptorIndex := 163, attributes := #[] }, { accessFlags := 24, nameIndex := 181, descriptorIndex := 163, attributes := #[] }, { accessFlags := 24, nameIndex := 183, descriptorIndex := 163, attributes := #[] }, { accessFlags := 24, nameIndex := 184, descriptorIndex := 163, attributes := #[] }, { accessFlags := 24, nameIndex := 185, descriptorIndex := 163, attributes := #[] }, { accessFlags := 24, nameIndex := 186, descriptorIndex := 163, attributes := #[] }, { accessFlags := 26, nameIndex := 117, descriptorIndex := 118, attributes := #[] }, { accessFlags := 24, nameIndex := 187, descriptorIndex := 34, attributes := #[] }, { accessFlags := 26, nameIndex := 188, descriptorIndex := 34, attributes := #[] }])
  fields := #[{ name := "MIN_X", type := .int, accessFlags := 24, slot := 0, constantValue := 0 }, { name := "MIN_Y", type := .int, accessFlags := 24, slot := 1, constantValue := 0 }, { name := "MAX_X", type := .int, accessFlags := 24, slot := 2, constantValue := 0 }, { name := "MAX_Y", type := .int, accessFlags := 24, slot := 3, constantValue := 0 }, { name := "BOX", type := .int, accessFlags := 24, slot := 4, constantValue := 0 }, { name := "UPRIGHT", type := .int, accessFlags := 24, slot := 5, constantValue := 0 }, { name := "CORNERS", type := .int, accessFlags := 24, slot := 6, constantValue := 0 }, { name := "SIDES", type := .int, accessFlags := 24, slot := 7, constantValue := 0 }, { name := "REACH", type := .int, accessFlags := 24, slot := 8, constantValue := 0 }, { name := "SIDE", type := .int, accessFlags := 24, slot := 9, constantValue := 0 }, { name := "MEASURES", type := .int, accessFlags := 24, slot := 10, constantValue := 0 }, { name := "FAR_END", type := .int, accessFlags := 24, slot := 11, constantValue := 0 }, { name := "TOP", type := .int, accessFlags := 24, slot := 12, constantValue := 0 }, { name := "NEAR_END", type := .int, accessFlags := 24, slot := 13, constantValue := 0 }, { name := "BOTTOM", type := .int, accessFlags := 24, slot := 14, constantValue := 0 }, { name := "LONG_SIDES", type := (.array .int), accessFlags := 26, slot := 15, constantValue := 0 }, { name := "ROUNDING", type := .double, accessFlags := 24, slot := 16, constantValue := 0 }, { name := "TRAPEZOID_RANGE", type := .double, accessFlags := 26, slot := 17, constantValue := 0 }]
  methods := #[k2m0, k2m1]
  instanceTypes := #[]
  staticTypes := #[.int, .int, .int, .int, .int, .int, .int, .int, .int, .int, .int, .int, .int, .int, .int, (.array .int), .double, .double]
  resolved := Array.replicate 213 none
  statics := none }

def pool3 : Array CpInfo := pool [(1, .class_ 2), (0, u "java/lang/Math"), (1, .class_ 6), (1, u "java/lang/Object"), (0, u "<init>"), (0, u "()V"), (89, .class_ 100), (1, u "java/lang/Math$RandomNumberGeneratorHolder"), (20, u "(JJ)J"), (50, u "negativeZeroFloatBits"), (0, u "J"), (2, u "negativeZeroDoubleBits"), (21, u "max"), (46, u "$assertionsDisabled"), (0, u "Z"), (91, u "twoToTheDoubleScaleDown"), (0, u "D"), (4, u "twoToTheDoubleScaleUp"), (9, u "E"), (3, u "PI"), (2, u "TAU"), (2, u "DEGREES_TO_RADIANS"), (0, u "RADIANS_TO_DEGREES")] 94

def k3m0 : Method := { name := "<init>", desc := "()V", sig := { parameters := [], returnType := none }, accessFlags := 2, code := none }
def k3c1 : Code := { maxStack := 4, maxLocals := 4, code := jdk_29_method_66_code, exceptionTable := #[], attributes := #[] }
def k3m1 : Method := { name := "max", desc := "(JJ)J", sig := { parameters := [.long, .long], returnType := some .long }, accessFlags := 9, code := some k3c1 }
/-- java/lang/Math -/
def k3 : Class := { plain "java/lang/Math" (some 0) with
  accessFlags := 49
  interfaces := #[]
  cf := some (fileOf pool3 1 #[.nestMembers #[98]] #[{ accessFlags := 2, nameIndex := 7, descriptorIndex := 8, attributes := #[] }, { accessFlags := 9, nameIndex := 198, descriptorIndex := 121, attributes := #[] }] 49 4 #[] #[{ accessFlags := 25, nameIndex := 354, descriptorIndex := 339, attributes := #[] }, { accessFlags := 25, nameIndex := 358, descriptorIndex := 339, attributes := #[] }, { accessFlags := 25, nameIndex := 361, descriptorIndex := 339, attributes := #[] }, { accessFlags := 26, nameIndex := 364, descriptorIndex := 339, attributes := #[] }, { accessFlags := 26, nameIndex := 365, descriptorIndex := 339, attributes := #[] }, { accessFlags := 26, nameIndex := 172, descriptorIndex := 173, attributes := #[] }, { accessFlags := 26, nameIndex := 176, descriptorIndex := 173, attributes := #[] }, { accessFlags := 8, nameIndex := 344, descriptorIndex := 339, attributes := #[] }, { accessFlags := 8, nameIndex := 338, descriptorIndex := 339, attributes := #[] }, { accessFlags := 4120, nameIndex := 245, descriptorIndex := 246, attributes := #[] }])
  fields := #[{ name := "E", type := .double, accessFlags := 25, slot := 0, constantValue := 0 }, { name := "PI", type := .double, accessFlags := 25, slot := 1, constantValue := 0 }, { name := "TAU", type := .double, accessFlags := 25, slot := 2, constantValue := 0 }, { name := "DEGREES_TO_RADIANS", type := .double, accessFlags := 26, slot := 3, constantValue := 0 }, { name := "RADIANS_TO_DEGREES", type := .double, accessFlags := 26, slot := 4, constantValue := 0 }, { name := "negativeZeroFloatBits", type := .long, accessFlags := 26, slot := 5, constantValue := 0 }, { name := "negativeZeroDoubleBits", type := .long, accessFlags := 26, slot := 6, constantValue := 0 }, { name := "twoToTheDoubleScaleUp", type := .double, accessFlags := 8, slot := 7, constantValue := 0 }, { name := "twoToTheDoubleScaleDown", type := .double, accessFlags := 8, slot := 8, constantValue := 0 }, { name := "$assertionsDisabled", type := .boolean, accessFlags := 4120, slot := 9, constantValue := 0 }]
  methods := #[k3m0, k3m1]
  instanceTypes := #[]
  staticTypes := #[.double, .double, .double, .double, .double, .long, .long, .double, .double, .boolean]
  resolved := Array.replicate 460 none
  statics := none }

def pool4 : Array CpInfo := pool [(1, u "java/lang/Cloneable"), (0, .class_ 1), (0, u "java/lang/Object"), (0, .class_ 3)] 3

/-- java/lang/Cloneable -/
def k4 : Class := { plain "java/lang/Cloneable" (some 0) with
  accessFlags := 1537
  interfaces := #[]
  cf := some (fileOf pool4 2 #[] #[] 1537 4 #[] #[])
  fields := #[]
  methods := #[]
  instanceTypes := #[]
  staticTypes := #[]
  resolved := Array.replicate 8 none
  statics := none }

def pool5 : Array CpInfo := pool [(1, u "java/io/Serializable"), (0, .class_ 1), (0, u "java/lang/Object"), (0, .class_ 3)] 3

/-- java/io/Serializable -/
def k5 : Class := { plain "java/io/Serializable" (some 0) with
  accessFlags := 1537
  interfaces := #[]
  cf := some (fileOf pool5 2 #[] #[] 1537 4 #[] #[])
  fields := #[]
  methods := #[]
  instanceTypes := #[]
  staticTypes := #[]
  resolved := Array.replicate 8 none
  statics := none }

/-- the primitive byte -/
def k6 : Class := { plain "byte" none with kind := .primitive 'B', accessFlags := 0x411 }
/-- [B -/
def k7 : Class := { plain "[B" (some 0) with kind := .array 6 .byte, interfaces := #[4, 5], accessFlags := 1041 }

/-- the primitive double -/
def k8 : Class := { plain "double" none with kind := .primitive 'D', accessFlags := 0x411 }
/-- [D -/
def k9 : Class := { plain "[D" (some 0) with kind := .array 8 .double, interfaces := #[4, 5], accessFlags := 1041 }

/-- the primitive int -/
def k10 : Class := { plain "int" none with kind := .primitive 'I', accessFlags := 0x411 }
/-- [I -/
def k11 : Class := { plain "[I" (some 0) with kind := .array 10 .int, interfaces := #[4, 5], accessFlags := 1041 }

def heap : Heap := #[]
def classes : Array Class := #[k0, k1, k2, k3, k4, k5, k6, k7, k8, k9, k10, k11]
def interned : List (Array UInt16 × Addr) := []
def slotsUsed : Nat := 0
def theMethod : MethodId := ⟨1, 3⟩
def args0 : Array Value := #[.long 5, .long 7, .int 0, .int 1, .long 2, .long 3]
def aboutOver (below : List Frame) : State where
  vm := { classes := classes, interned := interned.toArray }
  heap := heap
  slotsUsed := slotsUsed
  threads := #[{ frames := .invoking theMethod args0 :: below }]
def below0 : List Frame := [.native { method := ⟨0, 0⟩, args := #[] }]
def about1 : State := aboutOver below0
def p0 : Program := .bare "" "" ""
def e0 : Env := launch0.env 0 0 0
theorem w_frames : about1.frames = Frame.invoking theMethod args0 :: below0 := rfl
set_option maxRecDepth 65536 in
theorem w_args : argsFit about1.vm theMethod args0 = true := by decide +kernel
set_option maxRecDepth 65536 in
theorem w_heap : heapFits about1 = true := by decide +kernel
set_option maxRecDepth 65536 in
theorem w_runnable : about1.curStatus? = some .runnable := by decide +kernel
set_option maxRecDepth 65536 in
theorem w_alone : about1.alone = true := by decide +kernel
set_option maxRecDepth 65536 in
theorem w_named : about1.methodNamed? x = some theMethod := by decide +kernel
set_option maxRecDepth 65536 in
theorem w_hears : about1.hears theMethod below0 = true := by decide +kernel
set_option maxRecDepth 65536 in
theorem w_ripe : about1.ripe theMethod args0 below0 = true := by decide +kernel
theorem w_running : about1.status = .running := rfl
set_option maxRecDepth 65536 in
theorem w_room : about1.hasRoom e0.platform room_1 = true :=
  launch0.hasRoom_least _ room_1 (by decide +kernel) (by decide +kernel) (by decide +kernel) (by decide +kernel) (by decide +kernel) (by decide +kernel)
theorem allAtoms_all (ts : List Jvm.Cond) (a : Array Jvm.Value) (st : Jvm.State) : (allAtoms ts).before a st = ts.all (fun c => c.before a st) := by
  induction ts with
  | nil => rfl
  | cons c t ih =>
    show (Jvm.Cond.and c (allAtoms t)).before a st = _
    rw [Jvm.Cond.before_and, ih, List.all_cons]
def words1 : List Jvm.Cond := Jvm.Cond.code x code maxLocals ret :: tables_1
/-- a 'code' word, met by the world's own term for the bytes: nothing is compared byte by byte -/
theorem code_word {y : MethodName} {bytes : ByteArray} {mx : Nat} {rt : Option FieldType} {a : Array Value} {s : State} {m : MethodId} {meth : Method} {c : Code} (h1 : s.methodNamed? y = some m) (h2 : s.vm.method? m = some meth) (h3 : meth.code = some c) (h4 : c.code = bytes)
    (h5 : (c.maxLocals == mx && c.exceptionTable.isEmpty && decide (c.maxStack ≤ mostOperands) && decide (meth.sig.returnType = rt) && !meth.locks && decide (parseMethodDescriptor y.desc = some meth.sig)) = true) : (Jvm.Cond.code y bytes mx rt).before a s = true := by
  simp only [Bool.and_eq_true, beq_iff_eq, Bool.not_eq_true', decide_eq_true_eq] at h5
  obtain ⟨⟨⟨⟨⟨g1, g2⟩, g3⟩, g4⟩, g5⟩, g6⟩ := h5
  simp [Cond.before, Cond.holds, Cond.value, h1, h2, h3, h4, g1, g2, g3, g4, g5, g6]
def isCode : Jvm.Cond → Bool
  | .code _ _ _ _ => true
  | _ => false
theorem all_split {L : List Jvm.Cond} {P : Jvm.Cond → Bool} (h1 : L.all (fun c => isCode c || P c) = true) (h2 : ∀ c ∈ L.filter isCode, P c = true) : L.all P = true := by
  refine List.all_eq_true.mpr fun c hc => ?_
  have h := List.all_eq_true.mp h1 c hc
  rcases Bool.eq_false_or_eq_true (isCode c) with hi | hi
  · exact h2 c (List.mem_filter.mpr ⟨hc, hi⟩)
  · simpa [hi] using h
set_option maxRecDepth 65536 in
theorem w_c0 : (Jvm.Cond.code x code maxLocals ret).before args0 about1 = true := code_word (m := ⟨1, 3⟩) (meth := k1m3) (c := k1c3) (by decide +kernel) rfl rfl rfl (by decide +kernel)
set_option maxRecDepth 65536 in
theorem w_c1 : (Jvm.Cond.code ({ cls := "com/example/ordinate/ordinate/plane/BoundsBoxesApartPinLaw", name := "part", desc := "(JI)J" } : Jvm.MethodName) method_2_code (3 : Nat) (Option.some Jvm.ClassFile.FieldType.long)).before args0 about1 = true := code_word (m := ⟨1, 1⟩) (meth := k1m1) (c := k1c1) (by decide +kernel) rfl rfl rfl (by decide +kernel)
set_option maxRecDepth 65536 in
theorem w_c2 : (Jvm.Cond.code ({ cls := "com/example/ordinate/ordinate/plane/BoundsBoxesApartPinLaw", name := "fill", desc := "([DJ)V" } : Jvm.MethodName) method_3_code (3 : Nat) (Option.none : Option Jvm.ClassFile.FieldType)).before args0 about1 = true := code_word (m := ⟨1, 2⟩) (meth := k1m2) (c := k1c2) (by decide +kernel) rfl rfl rfl (by decide +kernel)
set_option maxRecDepth 65536 in
theorem w_c3 : (Jvm.Cond.code ({ cls := "com/example/ordinate/ordinate/plane/Bounds", name := "boxesApart", desc := "([DI[DID)Z" } : Jvm.MethodName) prog_48_method_22_code (6 : Nat) (Option.some Jvm.ClassFile.FieldType.boolean)).before args0 about1 = true := code_word (m := ⟨2, 1⟩) (meth := k2m1) (c := k2c1) (by decide +kernel) rfl rfl rfl (by decide +kernel)
set_option maxRecDepth 65536 in
theorem w_c4 : (Jvm.Cond.code ({ cls := "java/lang/Math", name := "max", desc := "(JJ)J" } : Jvm.MethodName) jdk_29_method_66_code (4 : Nat) (Option.some Jvm.ClassFile.FieldType.long)).before args0 about1 = true := code_word (m := ⟨3, 1⟩) (meth := k3m1) (c := k3c1) (by decide +kernel) rfl rfl rfl (by decide +kernel)
def codes1 : List Jvm.Cond := [Jvm.Cond.code x code maxLocals ret, Jvm.Cond.code ({ cls := "com/example/ordinate/ordinate/plane/BoundsBoxesApartPinLaw", name := "part", desc := "(JI)J" } : Jvm.MethodName) method_2_code (3 : Nat) (Option.some Jvm.ClassFile.FieldType.long), Jvm.Cond.code ({ cls := "com/example/ordinate/ordinate/plane/BoundsBoxesApartPinLaw", name := "fill", desc := "([DJ)V" } : Jvm.MethodName) method_3_code (3 : Nat) (Option.none : Option Jvm.ClassFile.FieldType), Jvm.Cond.code ({ cls := "com/example/ordinate/ordinate/plane/Bounds", name := "boxesApart", desc := "([DI[DID)Z" } : Jvm.MethodName) prog_48_method_22_code (6 : Nat) (Option.some Jvm.ClassFile.FieldType.boolean), Jvm.Cond.code ({ cls := "java/lang/Math", name := "max", desc := "(JJ)J" } : Jvm.MethodName) jdk_29_method_66_code (4 : Nat) (Option.some Jvm.ClassFile.FieldType.long)]
set_option maxRecDepth 65536 in
theorem codes_eq : words1.filter isCode = codes1 := rfl
theorem w_codes : ∀ c ∈ words1.filter isCode, c.before args0 about1 = true := by
  rw [codes_eq]
  intro c hc
  simp only [codes1, List.mem_cons, List.not_mem_nil, or_false] at hc
  rcases hc with rfl | rfl | rfl | rfl | rfl
  · exact w_c0
  · exact w_c1
  · exact w_c2
  · exact w_c3
  · exact w_c4
set_option maxRecDepth 65536 in
theorem w_t1 : words1.all (fun c => isCode c || c.before args0 about1) = true := by decide +kernel
theorem w_tables : (allAtoms (Jvm.Cond.code x code maxLocals ret :: tables_1)).before args0 about1 = true := by
  rw [allAtoms_all]
  show words1.all (fun c => c.before args0 about1) = true
  refine all_split ?_ w_codes
  rw [w_t1]
set_option maxRecDepth 65536 in
theorem w_case : (Jvm.Cond.and given_1 narrow_1).before args0 about1 = true := by decide +kernel
theorem w_applies : (headSpec (Jvm.Cond.code x code maxLocals ret :: tables_1) room_1).applies x e0.platform about1 = true :=
  (Spec.applies_iff w_frames).mpr ⟨w_running, w_runnable, w_alone, w_named, w_hears, w_ripe, w_room, w_tables⟩
theorem atStart : AtStart classFile x code maxLocals ret World_1 tables_1 room_1 Calls_1 rest_1 Pre_1 launch0 p0 e0 about1 theMethod args0 below0 :=
  ⟨lists_1, trivial, launch0.admits_env _ _ _, launch0.least_env, fairChoices_fair.cas, fairChoices_fair.clock, w_frames, w_args, w_heap, w_applies, trivial, trivial, w_case⟩
end start1
theorem witness_1 : WitnessClaimed_1 := ⟨start1.p0, start1.e0, start1.about1, start1.theMethod, start1.args0, start1.below0, start1.atStart⟩
end Jvm.Pilot.@@N@@
