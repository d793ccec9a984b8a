import JvmDerived
import JvmDerived.Pilot.@@N@@Statement
import JvmDerived.Pilot.@@N@@Code
set_option linter.unusedVariables false
set_option linter.unusedSimpArgs false
namespace Jvm.Pilot.@@N@@
open Jvm Jvm.ClassFile Sem Op Lib Jvm.Free Jvm.Stand Jvm.LawKit Jvm.RoadKit Bundle Jvm.Pilot.@@N@@.Jvm.D
section OwnKit
variable {p : Program} {l : Launch} {e : Env} {R : Room} {s : State} {m : MethodId} {args : Array Value} {below : List Frame} {meth : Method} {c : Code} {T : State} {locs : List Loc} {cells slots : Nat} {P : State → Outcome → Prop} {pc : Nat} {Ls : Array Slot} {st : List Value} {Z : State} {a0 : Array Value} {h : Heap} {own : String} {index : Nat}
/-- what is still owed from a state on -/
def Go (p : Program) (e : Env) (below : List Frame) (P : State → Outcome → Prop) (S : State) : Prop := ∃ s₂ o, Steps p.tables e below S s₂ ∧ s₂.status = .running ∧ Ended s₂ below o ∧ P s₂ o
theorem Go.by {S S' : State} (st : ∀ t, Steps p.tables e below S' t → Steps p.tables e below S t) (k : Go p e below P S') : Go p e below P S := by
  obtain ⟨a, b, h1, h2⟩ := k
  exact ⟨a, b, st _ h1, h2⟩
def Ret (s : State) (Q : Option Value → Heap → List Loc → Prop) (C N : Nat) (s₂ : State) (o : Outcome) : Prop := ∃ v L, o = .returned v ∧ Q v s₂.heap L ∧ FrameEnd s o s₂ L C N

theorem g_iloadN (X : Stand p l e R s m args below meth c T locs cells slots) (hx : p.tables.exec = Jvm.exec) {k : Fin 4} {v : Int32} (hd : decode c.code pc = .ok (.iload_n k, 1)) (hl : Ls[k.val]? = some (.val (.int v))) (q : Go p e below P (T.setTop (mkF m (pc + 1) Ls (.int v :: st)))) : Go p e below P (T.setTop (mkF m pc Ls st)) := q.by fun t r => XS.iloadN X.here hx rfl hd hl r
theorem g_iload (X : Stand p l e R s m args below meth c T locs cells slots) (hx : p.tables.exec = Jvm.exec) {k : Nat} {v : Int32} (hd : decode c.code pc = .ok (.iload k, 2)) (hl : Ls[k]? = some (.val (.int v))) (q : Go p e below P (T.setTop (mkF m (pc + 2) Ls (.int v :: st)))) : Go p e below P (T.setTop (mkF m pc Ls st)) := q.by fun t r => XS.iload X.here hx rfl hd hl r
theorem g_lloadN (X : Stand p l e R s m args below meth c T locs cells slots) (hx : p.tables.exec = Jvm.exec) {k : Fin 4} {v : Int64} (hd : decode c.code pc = .ok (.lload_n k, 1)) (hl : Ls[k.val]? = some (.val (.long v))) (q : Go p e below P (T.setTop (mkF m (pc + 1) Ls (.long v :: st)))) : Go p e below P (T.setTop (mkF m pc Ls st)) := q.by fun t r => XS.lloadN X.here hx rfl hd hl r
theorem g_lload (X : Stand p l e R s m args below meth c T locs cells slots) (hx : p.tables.exec = Jvm.exec) {k : Nat} {v : Int64} (hd : decode c.code pc = .ok (.lload k, 2)) (hl : Ls[k]? = some (.val (.long v))) (q : Go p e below P (T.setTop (mkF m (pc + 2) Ls (.long v :: st)))) : Go p e below P (T.setTop (mkF m pc Ls st)) := q.by fun t r => XS.lload X.here hx rfl hd hl r
theorem g_dloadN (X : Stand p l e R s m args below meth c T locs cells slots) (hx : p.tables.exec = Jvm.exec) {k : Fin 4} {v : UInt64} (hd : decode c.code pc = .ok (.dload_n k, 1)) (hl : Ls[k.val]? = some (.val (.double v))) (q : Go p e below P (T.setTop (mkF m (pc + 1) Ls (.double v :: st)))) : Go p e below P (T.setTop (mkF m pc Ls st)) := q.by fun t r => XS.dloadN X.here hx rfl hd hl r
theorem g_dload (X : Stand p l e R s m args below meth c T locs cells slots) (hx : p.tables.exec = Jvm.exec) {k : Nat} {v : UInt64} (hd : decode c.code pc = .ok (.dload k, 2)) (hl : Ls[k]? = some (.val (.double v))) (q : Go p e below P (T.setTop (mkF m (pc + 2) Ls (.double v :: st)))) : Go p e below P (T.setTop (mkF m pc Ls st)) := q.by fun t r => XS.dload X.here hx rfl hd hl r
theorem g_floadN (X : Stand p l e R s m args below meth c T locs cells slots) (hx : p.tables.exec = Jvm.exec) {k : Fin 4} {v : UInt32} (hd : decode c.code pc = .ok (.fload_n k, 1)) (hl : Ls[k.val]? = some (.val (.float v))) (q : Go p e below P (T.setTop (mkF m (pc + 1) Ls (.float v :: st)))) : Go p e below P (T.setTop (mkF m pc Ls st)) := q.by fun t r => XS.floadN X.here hx rfl hd hl r
theorem g_fload (X : Stand p l e R s m args below meth c T locs cells slots) (hx : p.tables.exec = Jvm.exec) {k : Nat} {v : UInt32} (hd : decode c.code pc = .ok (.fload k, 2)) (hl : Ls[k]? = some (.val (.float v))) (q : Go p e below P (T.setTop (mkF m (pc + 2) Ls (.float v :: st)))) : Go p e below P (T.setTop (mkF m pc Ls st)) := q.by fun t r => XS.fload X.here hx rfl hd hl r
theorem g_aloadN (X : Stand p l e R s m args below meth c T locs cells slots) (hx : p.tables.exec = Jvm.exec) {k : Fin 4} {v : Value} (hd : decode c.code pc = .ok (.aload_n k, 1)) (hl : Ls[k.val]? = some (.val v)) (hv : v.isRef = true) (q : Go p e below P (T.setTop (mkF m (pc + 1) Ls (v :: st)))) : Go p e below P (T.setTop (mkF m pc Ls st)) := q.by fun t r => XS.aloadN X.here hx rfl hd hl hv r
theorem g_aload (X : Stand p l e R s m args below meth c T locs cells slots) (hx : p.tables.exec = Jvm.exec) {k : Nat} {v : Value} (hd : decode c.code pc = .ok (.aload k, 2)) (hl : Ls[k]? = some (.val v)) (hv : v.isRef = true) (q : Go p e below P (T.setTop (mkF m (pc + 2) Ls (v :: st)))) : Go p e below P (T.setTop (mkF m pc Ls st)) := q.by fun t r => XS.aload X.here hx rfl hd hl hv r
theorem g_istoreN (X : Stand p l e R s m args below meth c T locs cells slots) (hx : p.tables.exec = Jvm.exec) {k : Fin 4} {v : Int32} {L' : Array Slot} (hd : decode c.code pc = .ok (.istore_n k, 1)) (hl : storeLocals Ls k.val (.int v) = some L') (q : Go p e below P (T.setTop (mkF m (pc + 1) L' st))) : Go p e below P (T.setTop (mkF m pc Ls (.int v :: st))) := q.by fun t r => XS.istoreN X.here hx rfl hd rfl hl r
theorem g_istore (X : Stand p l e R s m args below meth c T locs cells slots) (hx : p.tables.exec = Jvm.exec) {k : Nat} {v : Int32} {L' : Array Slot} (hd : decode c.code pc = .ok (.istore k, 2)) (hl : storeLocals Ls k (.int v) = some L') (q : Go p e below P (T.setTop (mkF m (pc + 2) L' st))) : Go p e below P (T.setTop (mkF m pc Ls (.int v :: st))) := q.by fun t r => XS.istore X.here hx rfl hd rfl hl r
theorem g_lstoreN (X : Stand p l e R s m args below meth c T locs cells slots) (hx : p.tables.exec = Jvm.exec) {k : Fin 4} {v : Int64} {L' : Array Slot} (hd : decode c.code pc = .ok (.lstore_n k, 1)) (hl : storeLocals Ls k.val (.long v) = some L') (q : Go p e below P (T.setTop (mkF m (pc + 1) L' st))) : Go p e below P (T.setTop (mkF m pc Ls (.long v :: st))) := q.by fun t r => XS.lstoreN X.here hx rfl hd rfl hl r
theorem g_lstore (X : Stand p l e R s m args below meth c T locs cells slots) (hx : p.tables.exec = Jvm.exec) {k : Nat} {v : Int64} {L' : Array Slot} (hd : decode c.code pc = .ok (.lstore k, 2)) (hl : storeLocals Ls k (.long v) = some L') (q : Go p e below P (T.setTop (mkF m (pc + 2) L' st))) : Go p e below P (T.setTop (mkF m pc Ls (.long v :: st))) := q.by fun t r => XS.lstore X.here hx rfl hd rfl hl r
theorem g_dstoreN (X : Stand p l e R s m args below meth c T locs cells slots) (hx : p.tables.exec = Jvm.exec) {k : Fin 4} {v : UInt64} {L' : Array Slot} (hd : decode c.code pc = .ok (.dstore_n k, 1)) (hl : storeLocals Ls k.val (.double v) = some L') (q : Go p e below P (T.setTop (mkF m (pc + 1) L' st))) : Go p e below P (T.setTop (mkF m pc Ls (.double v :: st))) := q.by fun t r => XS.dstoreN X.here hx rfl hd rfl hl r
theorem g_dstore (X : Stand p l e R s m args below meth c T locs cells slots) (hx : p.tables.exec = Jvm.exec) {k : Nat} {v : UInt64} {L' : Array Slot} (hd : decode c.code pc = .ok (.dstore k, 2)) (hl : storeLocals Ls k (.double v) = some L') (q : Go p e below P (T.setTop (mkF m (pc + 2) L' st))) : Go p e below P (T.setTop (mkF m pc Ls (.double v :: st))) := q.by fun t r => XS.dstore X.here hx rfl hd rfl hl r
theorem g_fstoreN (X : Stand p l e R s m args below meth c T locs cells slots) (hx : p.tables.exec = Jvm.exec) {k : Fin 4} {v : UInt32} {L' : Array Slot} (hd : decode c.code pc = .ok (.fstore_n k, 1)) (hl : storeLocals Ls k.val (.float v) = some L') (q : Go p e below P (T.setTop (mkF m (pc + 1) L' st))) : Go p e below P (T.setTop (mkF m pc Ls (.float v :: st))) := q.by fun t r => XS.fstoreN X.here hx rfl hd rfl hl r
theorem g_fstore (X : Stand p l e R s m args below meth c T locs cells slots) (hx : p.tables.exec = Jvm.exec) {k : Nat} {v : UInt32} {L' : Array Slot} (hd : decode c.code pc = .ok (.fstore k, 2)) (hl : storeLocals Ls k (.float v) = some L') (q : Go p e below P (T.setTop (mkF m (pc + 2) L' st))) : Go p e below P (T.setTop (mkF m pc Ls (.float v :: st))) := q.by fun t r => XS.fstore X.here hx rfl hd rfl hl r
theorem g_astoreN (X : Stand p l e R s m args below meth c T locs cells slots) (hx : p.tables.exec = Jvm.exec) {k : Fin 4} {v : Value} {L' : Array Slot} (hd : decode c.code pc = .ok (.astore_n k, 1)) (hv : v.isRef = true) (hl : storeLocals Ls k.val v = some L') (q : Go p e below P (T.setTop (mkF m (pc + 1) L' st))) : Go p e below P (T.setTop (mkF m pc Ls (v :: st))) := q.by fun t r => XS.astoreN X.here hx rfl hd rfl hv hl r
theorem g_astore (X : Stand p l e R s m args below meth c T locs cells slots) (hx : p.tables.exec = Jvm.exec) {k : Nat} {v : Value} {L' : Array Slot} (hd : decode c.code pc = .ok (.astore k, 2)) (hv : v.isRef = true) (hl : storeLocals Ls k v = some L') (q : Go p e below P (T.setTop (mkF m (pc + 2) L' st))) : Go p e below P (T.setTop (mkF m pc Ls (v :: st))) := q.by fun t r => XS.astore X.here hx rfl hd rfl hv hl r
theorem g_iconst (X : Stand p l e R s m args below meth c T locs cells slots) (hx : p.tables.exec = Jvm.exec) {i : Int} {v : Int32} (hd : decode c.code pc = .ok (.iconst i, 1)) (hv : Int32.ofInt i = v) (q : Go p e below P (T.setTop (mkF m (pc + 1) Ls (.int v :: st)))) : Go p e below P (T.setTop (mkF m pc Ls st)) := q.by fun t r => XS.iconst X.here hx rfl hd (hv ▸ r)
theorem g_bipush (X : Stand p l e R s m args below meth c T locs cells slots) (hx : p.tables.exec = Jvm.exec) {i : Int} {v : Int32} (hd : decode c.code pc = .ok (.bipush i, 2)) (hv : (Int8.ofInt i).toInt32 = v) (q : Go p e below P (T.setTop (mkF m (pc + 2) Ls (.int v :: st)))) : Go p e below P (T.setTop (mkF m pc Ls st)) := q.by fun t r => XS.bipush X.here hx rfl hd (hv ▸ r)
theorem g_sipush (X : Stand p l e R s m args below meth c T locs cells slots) (hx : p.tables.exec = Jvm.exec) {i : Int} {v : Int32} (hd : decode c.code pc = .ok (.sipush i, 3)) (hv : (Int16.ofInt i).toInt32 = v) (q : Go p e below P (T.setTop (mkF m (pc + 3) Ls (.int v :: st)))) : Go p e below P (T.setTop (mkF m pc Ls st)) := q.by fun t r => XS.sipush X.here hx rfl hd (hv ▸ r)
theorem g_lconst0 (X : Stand p l e R s m args below meth c T locs cells slots) (hx : p.tables.exec = Jvm.exec)  (hd : decode c.code pc = .ok (.lconst 0, 1))  (q : Go p e below P (T.setTop (mkF m (pc + 1) Ls (.long 0 :: st)))) : Go p e below P (T.setTop (mkF m pc Ls st)) := q.by fun t r => XS.lconst X.here hx rfl hd r
theorem g_lconst1 (X : Stand p l e R s m args below meth c T locs cells slots) (hx : p.tables.exec = Jvm.exec)  (hd : decode c.code pc = .ok (.lconst 1, 1))  (q : Go p e below P (T.setTop (mkF m (pc + 1) Ls (.long 1 :: st)))) : Go p e below P (T.setTop (mkF m pc Ls st)) := q.by fun t r => XS.lconst X.here hx rfl hd r
theorem g_aconst_null (X : Stand p l e R s m args below meth c T locs cells slots) (hx : p.tables.exec = Jvm.exec)  (hd : decode c.code pc = .ok (.aconst_null, 1))  (q : Go p e below P (T.setTop (mkF m (pc + 1) Ls (.null :: st)))) : Go p e below P (T.setTop (mkF m pc Ls st)) := q.by fun t r => XS.aconstNull X.here hx rfl hd r
theorem g_dconst0 (X : Stand p l e R s m args below meth c T locs cells slots) (hx : p.tables.exec = Jvm.exec)  (hd : decode c.code pc = .ok (.dconst 0, 1))  (q : Go p e below P (T.setTop (mkF m (pc + 1) Ls (.double 0 :: st)))) : Go p e below P (T.setTop (mkF m pc Ls st)) := q.by fun t r => XS.dconst0 X.here hx rfl hd rfl r
theorem g_dconst1 (X : Stand p l e R s m args below meth c T locs cells slots) (hx : p.tables.exec = Jvm.exec)  (hd : decode c.code pc = .ok (.dconst 1, 1))  (q : Go p e below P (T.setTop (mkF m (pc + 1) Ls (.double 4607182418800017408 :: st)))) : Go p e below P (T.setTop (mkF m pc Ls st)) := q.by fun t r => XS.dconst1 X.here hx rfl hd rfl r
theorem g_iadd (X : Stand p l e R s m args below meth c T locs cells slots) (hx : p.tables.exec = Jvm.exec) {x y v : Int32} (hd : decode c.code pc = .ok (.iadd, 1)) (hv : x + y = v) (q : Go p e below P (T.setTop (mkF m (pc + 1) Ls (.int v :: st)))) : Go p e below P (T.setTop (mkF m pc Ls (.int y :: .int x :: st))) := q.by fun t r => XS.iadd X.here hx rfl hd rfl (hv ▸ r)
theorem g_isub (X : Stand p l e R s m args below meth c T locs cells slots) (hx : p.tables.exec = Jvm.exec) {x y v : Int32} (hd : decode c.code pc = .ok (.isub, 1)) (hv : x - y = v) (q : Go p e below P (T.setTop (mkF m (pc + 1) Ls (.int v :: st)))) : Go p e below P (T.setTop (mkF m pc Ls (.int y :: .int x :: st))) := q.by fun t r => XS.isub X.here hx rfl hd rfl (hv ▸ r)
theorem g_imul (X : Stand p l e R s m args below meth c T locs cells slots) (hx : p.tables.exec = Jvm.exec) {x y v : Int32} (hd : decode c.code pc = .ok (.imul, 1)) (hv : x * y = v) (q : Go p e below P (T.setTop (mkF m (pc + 1) Ls (.int v :: st)))) : Go p e below P (T.setTop (mkF m pc Ls (.int y :: .int x :: st))) := q.by fun t r => XS.imul X.here hx rfl hd rfl (hv ▸ r)
theorem g_iand (X : Stand p l e R s m args below meth c T locs cells slots) (hx : p.tables.exec = Jvm.exec) {x y v : Int32} (hd : decode c.code pc = .ok (.iand, 1)) (hv : x &&& y = v) (q : Go p e below P (T.setTop (mkF m (pc + 1) Ls (.int v :: st)))) : Go p e below P (T.setTop (mkF m pc Ls (.int y :: .int x :: st))) := q.by fun t r => XS.iand X.here hx rfl hd rfl (hv ▸ r)
theorem g_ior (X : Stand p l e R s m args below meth c T locs cells slots) (hx : p.tables.exec = Jvm.exec) {x y v : Int32} (hd : decode c.code pc = .ok (.ior, 1)) (hv : x ||| y = v) (q : Go p e below P (T.setTop (mkF m (pc + 1) Ls (.int v :: st)))) : Go p e below P (T.setTop (mkF m pc Ls (.int y :: .int x :: st))) := q.by fun t r => XS.ior X.here hx rfl hd rfl (hv ▸ r)
theorem g_ixor (X : Stand p l e R s m args below meth c T locs cells slots) (hx : p.tables.exec = Jvm.exec) {x y v : Int32} (hd : decode c.code pc = .ok (.ixor, 1)) (hv : x ^^^ y = v) (q : Go p e below P (T.setTop (mkF m (pc + 1) Ls (.int v :: st)))) : Go p e below P (T.setTop (mkF m pc Ls (.int y :: .int x :: st))) := q.by fun t r => XS.ixor X.here hx rfl hd rfl (hv ▸ r)
theorem g_ladd (X : Stand p l e R s m args below meth c T locs cells slots) (hx : p.tables.exec = Jvm.exec) {x y v : Int64} (hd : decode c.code pc = .ok (.ladd, 1)) (hv : x + y = v) (q : Go p e below P (T.setTop (mkF m (pc + 1) Ls (.long v :: st)))) : Go p e below P (T.setTop (mkF m pc Ls (.long y :: .long x :: st))) := q.by fun t r => XS.ladd X.here hx rfl hd rfl (hv ▸ r)
theorem g_lsub (X : Stand p l e R s m args below meth c T locs cells slots) (hx : p.tables.exec = Jvm.exec) {x y v : Int64} (hd : decode c.code pc = .ok (.lsub, 1)) (hv : x - y = v) (q : Go p e below P (T.setTop (mkF m (pc + 1) Ls (.long v :: st)))) : Go p e below P (T.setTop (mkF m pc Ls (.long y :: .long x :: st))) := q.by fun t r => XS.lsub X.here hx rfl hd rfl (hv ▸ r)
theorem g_lmul (X : Stand p l e R s m args below meth c T locs cells slots) (hx : p.tables.exec = Jvm.exec) {x y v : Int64} (hd : decode c.code pc = .ok (.lmul, 1)) (hv : x * y = v) (q : Go p e below P (T.setTop (mkF m (pc + 1) Ls (.long v :: st)))) : Go p e below P (T.setTop (mkF m pc Ls (.long y :: .long x :: st))) := q.by fun t r => XS.lmul X.here hx rfl hd rfl (hv ▸ r)
theorem g_land (X : Stand p l e R s m args below meth c T locs cells slots) (hx : p.tables.exec = Jvm.exec) {x y v : Int64} (hd : decode c.code pc = .ok (.land, 1)) (hv : x &&& y = v) (q : Go p e below P (T.setTop (mkF m (pc + 1) Ls (.long v :: st)))) : Go p e below P (T.setTop (mkF m pc Ls (.long y :: .long x :: st))) := q.by fun t r => XS.land X.here hx rfl hd rfl (hv ▸ r)
theorem g_lor (X : Stand p l e R s m args below meth c T locs cells slots) (hx : p.tables.exec = Jvm.exec) {x y v : Int64} (hd : decode c.code pc = .ok (.lor, 1)) (hv : x ||| y = v) (q : Go p e below P (T.setTop (mkF m (pc + 1) Ls (.long v :: st)))) : Go p e below P (T.setTop (mkF m pc Ls (.long y :: .long x :: st))) := q.by fun t r => XS.lor X.here hx rfl hd rfl (hv ▸ r)
theorem g_ishl (X : Stand p l e R s m args below meth c T locs cells slots) (hx : p.tables.exec = Jvm.exec) {x y v : Int32} (hd : decode c.code pc = .ok (.ishl, 1)) (hv : x <<< (y &&& 31) = v) (q : Go p e below P (T.setTop (mkF m (pc + 1) Ls (.int v :: st)))) : Go p e below P (T.setTop (mkF m pc Ls (.int y :: .int x :: st))) := q.by fun t r => XS.ishl X.here hx rfl hd rfl (hv ▸ r)
theorem g_ishr (X : Stand p l e R s m args below meth c T locs cells slots) (hx : p.tables.exec = Jvm.exec) {x y v : Int32} (hd : decode c.code pc = .ok (.ishr, 1)) (hv : x >>> (y &&& 31) = v) (q : Go p e below P (T.setTop (mkF m (pc + 1) Ls (.int v :: st)))) : Go p e below P (T.setTop (mkF m pc Ls (.int y :: .int x :: st))) := q.by fun t r => XS.ishr X.here hx rfl hd rfl (hv ▸ r)
theorem g_iushr (X : Stand p l e R s m args below meth c T locs cells slots) (hx : p.tables.exec = Jvm.exec) {x y v : Int32} (hd : decode c.code pc = .ok (.iushr, 1)) (hv : (x.toUInt32 >>> (y &&& 31).toUInt32).toInt32 = v) (q : Go p e below P (T.setTop (mkF m (pc + 1) Ls (.int v :: st)))) : Go p e below P (T.setTop (mkF m pc Ls (.int y :: .int x :: st))) := q.by fun t r => XS.iushr X.here hx rfl hd rfl (hv ▸ r)
theorem g_idiv (X : Stand p l e R s m args below meth c T locs cells slots) (hx : p.tables.exec = Jvm.exec) {x y v : Int32} (hd : decode c.code pc = .ok (.idiv, 1)) (hy : y ≠ 0) (hv : x / y = v) (q : Go p e below P (T.setTop (mkF m (pc + 1) Ls (.int v :: st)))) : Go p e below P (T.setTop (mkF m pc Ls (.int y :: .int x :: st))) := q.by fun t r => XS.idiv X.here hx rfl hd rfl hy (hv ▸ r)
theorem g_irem (X : Stand p l e R s m args below meth c T locs cells slots) (hx : p.tables.exec = Jvm.exec) {x y v : Int32} (hd : decode c.code pc = .ok (.irem, 1)) (hy : y ≠ 0) (hv : x % y = v) (q : Go p e below P (T.setTop (mkF m (pc + 1) Ls (.int v :: st)))) : Go p e below P (T.setTop (mkF m pc Ls (.int y :: .int x :: st))) := q.by fun t r => XS.irem X.here hx rfl hd rfl hy (irem_eq_mod x y ▸ hv ▸ r)
theorem g_ldiv (X : Stand p l e R s m args below meth c T locs cells slots) (hx : p.tables.exec = Jvm.exec) {x y v : Int64} (hd : decode c.code pc = .ok (.ldiv, 1)) (hy : y ≠ 0) (hv : x / y = v) (q : Go p e below P (T.setTop (mkF m (pc + 1) Ls (.long v :: st)))) : Go p e below P (T.setTop (mkF m pc Ls (.long y :: .long x :: st))) := q.by fun t r => XS.ldiv X.here hx rfl hd rfl hy (hv ▸ r)
theorem g_lshl (X : Stand p l e R s m args below meth c T locs cells slots) (hx : p.tables.exec = Jvm.exec) {x v : Int64} {y : Int32} (hd : decode c.code pc = .ok (.lshl, 1)) (hv : x <<< (y &&& 0x3f).toInt64 = v) (q : Go p e below P (T.setTop (mkF m (pc + 1) Ls (.long v :: st)))) : Go p e below P (T.setTop (mkF m pc Ls (.int y :: .long x :: st))) := q.by fun t r => XS.lshl X.here hx rfl hd rfl (hv ▸ r)
theorem g_lshr (X : Stand p l e R s m args below meth c T locs cells slots) (hx : p.tables.exec = Jvm.exec) {x v : Int64} {y : Int32} (hd : decode c.code pc = .ok (.lshr, 1)) (hv : x >>> (y &&& 0x3f).toInt64 = v) (q : Go p e below P (T.setTop (mkF m (pc + 1) Ls (.long v :: st)))) : Go p e below P (T.setTop (mkF m pc Ls (.int y :: .long x :: st))) := q.by fun t r => XS.lshr X.here hx rfl hd rfl (hv ▸ r)
theorem g_lushr (X : Stand p l e R s m args below meth c T locs cells slots) (hx : p.tables.exec = Jvm.exec) {x v : Int64} {y : Int32} (hd : decode c.code pc = .ok (.lushr, 1)) (hv : (x.toUInt64 >>> (y &&& 0x3f).toInt64.toUInt64).toInt64 = v) (q : Go p e below P (T.setTop (mkF m (pc + 1) Ls (.long v :: st)))) : Go p e below P (T.setTop (mkF m pc Ls (.int y :: .long x :: st))) := q.by fun t r => XS.lushr X.here hx rfl hd rfl (hv ▸ r)
theorem g_lcmp (X : Stand p l e R s m args below meth c T locs cells slots) (hx : p.tables.exec = Jvm.exec) {x y : Int64} (hd : decode c.code pc = .ok (.lcmp, 1))  (q : Go p e below P (T.setTop (mkF m (pc + 1) Ls (.int (lcmpW x y) :: st)))) : Go p e below P (T.setTop (mkF m pc Ls (.long y :: .long x :: st))) := q.by fun t r => XS.lcmp X.here hx rfl hd rfl r
theorem g_ineg (X : Stand p l e R s m args below meth c T locs cells slots) (hx : p.tables.exec = Jvm.exec) {x : Int32} {v : Int32} (hd : decode c.code pc = .ok (.ineg, 1)) (hv : -x = v) (q : Go p e below P (T.setTop (mkF m (pc + 1) Ls (.int v :: st)))) : Go p e below P (T.setTop (mkF m pc Ls (.int x :: st))) := q.by fun t r => XS.ineg X.here hx rfl hd rfl (hv ▸ r)
theorem g_lneg (X : Stand p l e R s m args below meth c T locs cells slots) (hx : p.tables.exec = Jvm.exec) {x : Int64} {v : Int64} (hd : decode c.code pc = .ok (.lneg, 1)) (hv : -x = v) (q : Go p e below P (T.setTop (mkF m (pc + 1) Ls (.long v :: st)))) : Go p e below P (T.setTop (mkF m pc Ls (.long x :: st))) := q.by fun t r => XS.lneg X.here hx rfl hd rfl (hv ▸ r)
theorem g_i2l (X : Stand p l e R s m args below meth c T locs cells slots) (hx : p.tables.exec = Jvm.exec) {x : Int32} {v : Int64} (hd : decode c.code pc = .ok (.i2l, 1)) (hv : x.toInt64 = v) (q : Go p e below P (T.setTop (mkF m (pc + 1) Ls (.long v :: st)))) : Go p e below P (T.setTop (mkF m pc Ls (.int x :: st))) := q.by fun t r => XS.i2l X.here hx rfl hd rfl (hv ▸ r)
theorem g_l2i (X : Stand p l e R s m args below meth c T locs cells slots) (hx : p.tables.exec = Jvm.exec) {x : Int64} {v : Int32} (hd : decode c.code pc = .ok (.l2i, 1)) (hv : x.toInt32 = v) (q : Go p e below P (T.setTop (mkF m (pc + 1) Ls (.int v :: st)))) : Go p e below P (T.setTop (mkF m pc Ls (.long x :: st))) := q.by fun t r => XS.l2i X.here hx rfl hd rfl (hv ▸ r)
theorem g_i2b (X : Stand p l e R s m args below meth c T locs cells slots) (hx : p.tables.exec = Jvm.exec) {x : Int32} {v : Int32} (hd : decode c.code pc = .ok (.i2b, 1)) (hv : x.toInt8.toInt32 = v) (q : Go p e below P (T.setTop (mkF m (pc + 1) Ls (.int v :: st)))) : Go p e below P (T.setTop (mkF m pc Ls (.int x :: st))) := q.by fun t r => XS.i2b X.here hx rfl hd rfl (hv ▸ r)
theorem g_i2c (X : Stand p l e R s m args below meth c T locs cells slots) (hx : p.tables.exec = Jvm.exec) {x : Int32} {v : Int32} (hd : decode c.code pc = .ok (.i2c, 1)) (hv : x.toUInt32.toUInt16.toUInt32.toInt32 = v) (q : Go p e below P (T.setTop (mkF m (pc + 1) Ls (.int v :: st)))) : Go p e below P (T.setTop (mkF m pc Ls (.int x :: st))) := q.by fun t r => XS.i2c X.here hx rfl hd rfl (hv ▸ r)
theorem g_i2s (X : Stand p l e R s m args below meth c T locs cells slots) (hx : p.tables.exec = Jvm.exec) {x : Int32} {v : Int32} (hd : decode c.code pc = .ok (.i2s, 1)) (hv : x.toInt16.toInt32 = v) (q : Go p e below P (T.setTop (mkF m (pc + 1) Ls (.int v :: st)))) : Go p e below P (T.setTop (mkF m pc Ls (.int x :: st))) := q.by fun t r => XS.i2s X.here hx rfl hd rfl (hv ▸ r)
theorem g_i2d (X : Stand p l e R s m args below meth c T locs cells slots) (hx : p.tables.exec = Jvm.exec) {x : Int32} {v : UInt64} (hd : decode c.code pc = .ok (.i2d, 1)) (hv : FP.i2d x = v) (q : Go p e below P (T.setTop (mkF m (pc + 1) Ls (.double v :: st)))) : Go p e below P (T.setTop (mkF m pc Ls (.int x :: st))) := q.by fun t r => XS.i2dS X.here hx rfl hd rfl hv r
theorem g_l2d (X : Stand p l e R s m args below meth c T locs cells slots) (hx : p.tables.exec = Jvm.exec) {x : Int64} {v : UInt64} (hd : decode c.code pc = .ok (.l2d, 1)) (hv : FP.l2d x = v) (q : Go p e below P (T.setTop (mkF m (pc + 1) Ls (.double v :: st)))) : Go p e below P (T.setTop (mkF m pc Ls (.long x :: st))) := q.by fun t r => XS.l2dS X.here hx rfl hd rfl hv r
theorem g_d2i (X : Stand p l e R s m args below meth c T locs cells slots) (hx : p.tables.exec = Jvm.exec) {x : UInt64} {v : Int32} (hd : decode c.code pc = .ok (.d2i, 1)) (hv : FP.d2i x = v) (q : Go p e below P (T.setTop (mkF m (pc + 1) Ls (.int v :: st)))) : Go p e below P (T.setTop (mkF m pc Ls (.double x :: st))) := q.by fun t r => XS.d2iS X.here hx rfl hd rfl hv r
theorem g_d2l (X : Stand p l e R s m args below meth c T locs cells slots) (hx : p.tables.exec = Jvm.exec) {x : UInt64} {v : Int64} (hd : decode c.code pc = .ok (.d2l, 1)) (hv : FP.d2l x = v) (q : Go p e below P (T.setTop (mkF m (pc + 1) Ls (.long v :: st)))) : Go p e below P (T.setTop (mkF m pc Ls (.double x :: st))) := q.by fun t r => XS.d2lS X.here hx rfl hd rfl hv r
theorem g_dneg (X : Stand p l e R s m args below meth c T locs cells slots) (hx : p.tables.exec = Jvm.exec) {x : UInt64} {v : UInt64} (hd : decode c.code pc = .ok (.dneg, 1)) (hv : FP.dneg x = v) (q : Go p e below P (T.setTop (mkF m (pc + 1) Ls (.double v :: st)))) : Go p e below P (T.setTop (mkF m pc Ls (.double x :: st))) := q.by fun t r => XS.dnegS X.here hx rfl hd rfl hv r
theorem g_i2f (X : Stand p l e R s m args below meth c T locs cells slots) (hx : p.tables.exec = Jvm.exec) {x : Int32} {v : UInt32} (hd : decode c.code pc = .ok (.i2f, 1)) (hv : FP.i2f x = v) (q : Go p e below P (T.setTop (mkF m (pc + 1) Ls (.float v :: st)))) : Go p e below P (T.setTop (mkF m pc Ls (.int x :: st))) := q.by fun t r => XS.i2fS X.here hx rfl hd rfl hv r
theorem g_l2f (X : Stand p l e R s m args below meth c T locs cells slots) (hx : p.tables.exec = Jvm.exec) {x : Int64} {v : UInt32} (hd : decode c.code pc = .ok (.l2f, 1)) (hv : FP.l2f x = v) (q : Go p e below P (T.setTop (mkF m (pc + 1) Ls (.float v :: st)))) : Go p e below P (T.setTop (mkF m pc Ls (.long x :: st))) := q.by fun t r => XS.l2fS X.here hx rfl hd rfl hv r
theorem g_fneg (X : Stand p l e R s m args below meth c T locs cells slots) (hx : p.tables.exec = Jvm.exec) {x : UInt32} {v : UInt32} (hd : decode c.code pc = .ok (.fneg, 1)) (hv : FP.fneg x = v) (q : Go p e below P (T.setTop (mkF m (pc + 1) Ls (.float v :: st)))) : Go p e below P (T.setTop (mkF m pc Ls (.float x :: st))) := q.by fun t r => XS.fnegS X.here hx rfl hd rfl hv r
theorem g_dadd (X : Stand p l e R s m args below meth c T locs cells slots) (hx : p.tables.exec = Jvm.exec) {x y v : UInt64} (hd : decode c.code pc = .ok (.dadd, 1)) (hn : Jvm.Free.Fl.NoNaN64 (FP.dadd x y)) (hv : FP.dadd x y = v) (q : Go p e below P (T.setTop (mkF m (pc + 1) Ls (.double v :: st)))) : Go p e below P (T.setTop (mkF m pc Ls (.double y :: .double x :: st))) := q.by fun t r => XS.daddS X.here hx rfl hd rfl hn hv r
theorem g_dsub (X : Stand p l e R s m args below meth c T locs cells slots) (hx : p.tables.exec = Jvm.exec) {x y v : UInt64} (hd : decode c.code pc = .ok (.dsub, 1)) (hn : Jvm.Free.Fl.NoNaN64 (FP.dsub x y)) (hv : FP.dsub x y = v) (q : Go p e below P (T.setTop (mkF m (pc + 1) Ls (.double v :: st)))) : Go p e below P (T.setTop (mkF m pc Ls (.double y :: .double x :: st))) := q.by fun t r => XS.dsubS X.here hx rfl hd rfl hn hv r
theorem g_dmul (X : Stand p l e R s m args below meth c T locs cells slots) (hx : p.tables.exec = Jvm.exec) {x y v : UInt64} (hd : decode c.code pc = .ok (.dmul, 1)) (hn : Jvm.Free.Fl.NoNaN64 (FP.dmul x y)) (hv : FP.dmul x y = v) (q : Go p e below P (T.setTop (mkF m (pc + 1) Ls (.double v :: st)))) : Go p e below P (T.setTop (mkF m pc Ls (.double y :: .double x :: st))) := q.by fun t r => XS.dmulS X.here hx rfl hd rfl hn hv r
theorem g_ddiv (X : Stand p l e R s m args below meth c T locs cells slots) (hx : p.tables.exec = Jvm.exec) {x y v : UInt64} (hd : decode c.code pc = .ok (.ddiv, 1)) (hn : Jvm.Free.Fl.NoNaN64 (FP.ddiv x y)) (hv : FP.ddiv x y = v) (q : Go p e below P (T.setTop (mkF m (pc + 1) Ls (.double v :: st)))) : Go p e below P (T.setTop (mkF m pc Ls (.double y :: .double x :: st))) := q.by fun t r => XS.ddivS X.here hx rfl hd rfl hn hv r
theorem g_dcmp (X : Stand p l e R s m args below meth c T locs cells slots) (hx : p.tables.exec = Jvm.exec) {o : CmpOp} {x y : UInt64} (hd : decode c.code pc = .ok (.dcmp o, 1))  (q : Go p e below P (T.setTop (mkF m (pc + 1) Ls (.int (cmpValue (FP.dcmp x y) o) :: st)))) : Go p e below P (T.setTop (mkF m pc Ls (.double y :: .double x :: st))) := q.by fun t r => XS.dcmpS X.here hx rfl hd rfl rfl r
theorem g_fcmp (X : Stand p l e R s m args below meth c T locs cells slots) (hx : p.tables.exec = Jvm.exec) {o : CmpOp} {x y : UInt32} (hd : decode c.code pc = .ok (.fcmp o, 1))  (q : Go p e below P (T.setTop (mkF m (pc + 1) Ls (.int (cmpValue (FP.fcmp x y) o) :: st)))) : Go p e below P (T.setTop (mkF m pc Ls (.float y :: .float x :: st))) := q.by fun t r => XS.fcmpS X.here hx rfl hd rfl rfl r
theorem g_dup (X : Stand p l e R s m args below meth c T locs cells slots) (hx : p.tables.exec = Jvm.exec) {x : Value} (hd : decode c.code pc = .ok (.dup, 1)) (hc : x.category = 1) (q : Go p e below P (T.setTop (mkF m (pc + 1) Ls (x :: x :: st)))) : Go p e below P (T.setTop (mkF m pc Ls (x :: st))) := q.by fun t r => XS.dup X.here hx rfl hd rfl hc r
theorem g_pop (X : Stand p l e R s m args below meth c T locs cells slots) (hx : p.tables.exec = Jvm.exec) {x : Value} (hd : decode c.code pc = .ok (.pop, 1)) (hc : x.category = 1) (q : Go p e below P (T.setTop (mkF m (pc + 1) Ls st))) : Go p e below P (T.setTop (mkF m pc Ls (x :: st))) := q.by fun t r => XS.pop X.here hx rfl hd rfl hc r
theorem g_dup2 (X : Stand p l e R s m args below meth c T locs cells slots) (hx : p.tables.exec = Jvm.exec) {x y : Value} (hd : decode c.code pc = .ok (.dup2, 1)) (hc : x.category = 1) (hc' : y.category = 1) (q : Go p e below P (T.setTop (mkF m (pc + 1) Ls (x :: y :: x :: y :: st)))) : Go p e below P (T.setTop (mkF m pc Ls (x :: y :: st))) := q.by fun t r => XT.dup2 X.here hx rfl hd rfl hc hc' r
theorem g_iinc (X : Stand p l e R s m args below meth c T locs cells slots) (hx : p.tables.exec = Jvm.exec) {k : Nat} {d : Int} {x : Int32} {L' : Array Slot} (hd : decode c.code pc = .ok (.iinc k d, 3)) (hl : Ls[k]? = some (.val (.int x))) (hs : storeLocals Ls k (.int (x + Int32.ofInt d)) = some L') (q : Go p e below P (T.setTop (mkF m (pc + 3) L' st))) : Go p e below P (T.setTop (mkF m pc Ls st)) := q.by fun t r => XS.iinc X.here hx rfl hd hl hs r
theorem g_goto (X : Stand p l e R s m args below meth c T locs cells slots) (hx : p.tables.exec = Jvm.exec)  {o : Int} {pc' : Nat} (hd : decode c.code pc = .ok (.goto o, 3))  (ho : 0 ≤ (pc : Int) + o) (hp : ((pc : Int) + o).toNat = pc') (q : Go p e below P (T.setTop (mkF m pc' Ls st))) : Go p e below P (T.setTop (mkF m pc Ls st)) := q.by fun t r => XS.goto X.here hx rfl rfl hd ho hp r
theorem g_ifYes (X : Stand p l e R s m args below meth c T locs cells slots) (hx : p.tables.exec = Jvm.exec) {cd : ClassFile.Cond} {x : Int32} {o : Int} {pc' : Nat} (hd : decode c.code pc = .ok (.ifCond cd o, 3)) (hc : if_icmp.holds cd x 0 = true) (ho : 0 ≤ (pc : Int) + o) (hp : ((pc : Int) + o).toNat = pc') (q : Go p e below P (T.setTop (mkF m pc' Ls st))) : Go p e below P (T.setTop (mkF m pc Ls (.int x :: st))) := q.by fun t r => XS.ifYes X.here hx rfl rfl hd rfl ((if0 _ _).trans hc) ho hp r
theorem g_icmpYes (X : Stand p l e R s m args below meth c T locs cells slots) (hx : p.tables.exec = Jvm.exec) {cd : ClassFile.Cond} {x y : Int32} {o : Int} {pc' : Nat} (hd : decode c.code pc = .ok (.if_icmp cd o, 3)) (hc : if_icmp.holds cd x y = true) (ho : 0 ≤ (pc : Int) + o) (hp : ((pc : Int) + o).toNat = pc') (q : Go p e below P (T.setTop (mkF m pc' Ls st))) : Go p e below P (T.setTop (mkF m pc Ls (.int y :: .int x :: st))) := q.by fun t r => XS.icmpYes X.here hx rfl rfl hd rfl hc ho hp r
theorem g_ifNo (X : Stand p l e R s m args below meth c T locs cells slots) (hx : p.tables.exec = Jvm.exec) {cd : ClassFile.Cond} {o : Int} {x : Int32} (hd : decode c.code pc = .ok (.ifCond cd o, 3)) (hc : if_icmp.holds cd x 0 = false) (q : Go p e below P (T.setTop (mkF m (pc + 3) Ls st))) : Go p e below P (T.setTop (mkF m pc Ls (.int x :: st))) := q.by fun t r => XS.ifNo X.here hx rfl hd rfl ((if0 _ _).trans hc) r
theorem g_icmpNo (X : Stand p l e R s m args below meth c T locs cells slots) (hx : p.tables.exec = Jvm.exec) {cd : ClassFile.Cond} {o : Int} {x y : Int32} (hd : decode c.code pc = .ok (.if_icmp cd o, 3)) (hc : if_icmp.holds cd x y = false) (q : Go p e below P (T.setTop (mkF m (pc + 3) Ls st))) : Go p e below P (T.setTop (mkF m pc Ls (.int y :: .int x :: st))) := q.by fun t r => XS.icmpNo X.here hx rfl hd rfl hc r
theorem g_ifnonnullYes (X : Stand p l e R s m args below meth c T locs cells slots) (hx : p.tables.exec = Jvm.exec) {b : Addr} {o : Int} {pc' : Nat} (hd : decode c.code pc = .ok (.ifnonnull o, 3))  (ho : 0 ≤ (pc : Int) + o) (hp : ((pc : Int) + o).toNat = pc') (q : Go p e below P (T.setTop (mkF m pc' Ls st))) : Go p e below P (T.setTop (mkF m pc Ls (.ref b :: st))) := q.by fun t r => XS.ifnonnullYes X.here hx rfl rfl hd rfl ho hp r
theorem g_ifnonnullNo (X : Stand p l e R s m args below meth c T locs cells slots) (hx : p.tables.exec = Jvm.exec) {o : Int} (hd : decode c.code pc = .ok (.ifnonnull o, 3))  (q : Go p e below P (T.setTop (mkF m (pc + 3) Ls st))) : Go p e below P (T.setTop (mkF m pc Ls (.null :: st))) := q.by fun t r => XS.ifnonnullNo X.here hx rfl hd rfl r
theorem g_ifnullYes (X : Stand p l e R s m args below meth c T locs cells slots) (hx : p.tables.exec = Jvm.exec)  {o : Int} {pc' : Nat} (hd : decode c.code pc = .ok (.ifnull o, 3))  (ho : 0 ≤ (pc : Int) + o) (hp : ((pc : Int) + o).toNat = pc') (q : Go p e below P (T.setTop (mkF m pc' Ls st))) : Go p e below P (T.setTop (mkF m pc Ls (.null :: st))) := q.by fun t r => XS.ifnullYes X.here hx rfl rfl hd rfl ho hp r
theorem g_ifnullNo (X : Stand p l e R s m args below meth c T locs cells slots) (hx : p.tables.exec = Jvm.exec) {o : Int} {b : Addr} (hd : decode c.code pc = .ok (.ifnull o, 3))  (q : Go p e below P (T.setTop (mkF m (pc + 3) Ls st))) : Go p e below P (T.setTop (mkF m pc Ls (.ref b :: st))) := q.by fun t r => XS.ifnullNo X.here hx rfl hd rfl r
theorem g_drem (X : Stand p l e R s m args below meth c T locs cells slots) (hx : p.tables.exec = Jvm.exec) {x y v : UInt64} (hd : decode c.code pc = .ok (.drem, 1)) (hn : Jvm.Free.Fl.NoNaN64 (FP.drem x y)) (hv : FP.drem x y = v) (q : Go p e below P (T.setTop (mkF m (pc + 1) Ls (.double v :: st)))) : Go p e below P (T.setTop (mkF m pc Ls (.double y :: .double x :: st))) := q.by fun t r => by
  subst hv
  have ht := X.here
  show Steps p.tables e below (T.setTop { method := m, pc := pc, locals := Ls, stack := .double y :: .double x :: st, locked := none }) t
  jvm_step ht [ht.top, hx, hd, Op.drem.at_number ht.top hn]
  exact r
theorem g_dup_x2 (X : Stand p l e R s m args below meth c T locs cells slots) (hx : p.tables.exec = Jvm.exec) {x y z : Value} (hd : decode c.code pc = .ok (.dup_x2, 1)) (h1 : x.category = 1) (h2 : y.category = 1) (h3 : z.category = 1) (q : Go p e below P (T.setTop (mkF m (pc + 1) Ls (x :: y :: z :: x :: st)))) : Go p e below P (T.setTop (mkF m pc Ls (x :: y :: z :: st))) := q.by fun t r => by
  have ht := X.here
  show Steps p.tables e below (T.setTop { method := m, pc := pc, locals := Ls, stack := x :: y :: z :: st, locked := none }) t
  jvm_step ht [ht.top, hx, hd, h1, h2, h3]
  exact r
theorem g_ldcI (X : Stand p l e R s m args below meth c T locs cells slots) (hx : p.tables.exec = Jvm.exec) (hZ : Z.Warmed39 s.vm) (hown : s.vm.findClass own = some m.cls) {v : Int32} (w : (Cond.constant own index v).before a0 Z = true) (hd : decode c.code pc = .ok (.ldc index, 2)) (q : Go p e below P (T.setTop (mkF m (pc + 2) Ls (.int v :: st)))) : Go p e below P (T.setTop (mkF m pc Ls st)) := q.by fun t r => X.ldcI hx hown (mvT hZ w) rfl hd r
theorem g_ldc2J (X : Stand p l e R s m args below meth c T locs cells slots) (hx : p.tables.exec = Jvm.exec) (hZ : Z.Warmed39 s.vm) (hown : s.vm.findClass own = some m.cls) {v : Int64} (w : (Cond.constantLong own index v).before a0 Z = true) (hd : decode c.code pc = .ok (.ldc2_w index, 3)) (q : Go p e below P (T.setTop (mkF m (pc + 3) Ls (.long v :: st)))) : Go p e below P (T.setTop (mkF m pc Ls st)) := q.by fun t r => X.ldc2J hx hown (mvT hZ w) rfl hd r
theorem g_ldc2D (X : Stand p l e R s m args below meth c T locs cells slots) (hx : p.tables.exec = Jvm.exec) (hZ : Z.Warmed39 s.vm) (hown : s.vm.findClass own = some m.cls) {v : UInt64} (w : (Cond.constantDouble own index v).before a0 Z = true) (hd : decode c.code pc = .ok (.ldc2_w index, 3)) (q : Go p e below P (T.setTop (mkF m (pc + 3) Ls (.double v :: st)))) : Go p e below P (T.setTop (mkF m pc Ls st)) := q.by fun t r => X.ldc2DoubleC hx hown (mvT hZ w) (g := mkF m pc Ls st) rfl hd t r
theorem g_ldcF (X : Stand p l e R s m args below meth c T locs cells slots) (hx : p.tables.exec = Jvm.exec) (hZ : Z.Warmed39 s.vm) (hown : s.vm.findClass own = some m.cls) {v : UInt32} (w : (Cond.constantFloat own index v).before a0 Z = true) (hd : decode c.code pc = .ok (.ldc index, 2)) (q : Go p e below P (T.setTop (mkF m (pc + 2) Ls (.float v :: st)))) : Go p e below P (T.setTop (mkF m pc Ls st)) := q.by fun t r => X.ldcFloatC hx hown (mvT hZ w) (g := mkF m pc Ls st) rfl hd t r
theorem Ret.end {Q : Option Value → Heap → List Loc → Prop} {C N : Nat} {g : JFrame} (X : Stand p l e R s m args below meth c T locs cells slots) (hx : p.tables.exec = Jvm.exec) (hlk : meth.locks = false) {v : Option Value} (hv : meth.sig.returnType = none → v = none) (stp : ∀ fs, (∀ (f : JFrame) (acts : List Action), f.method = m → f.locked = none → f.entered = [] → (doReturn e (T.setTop f) acts v).1 = T.setFrames fs) → Steps p.tables e below (T.setTop g) (T.setFrames fs)) (hC : cells ≤ C) (hN : slots ≤ N) (hq : Q v T.heap locs) : Go p e below (Ret s Q C N) (T.setTop g) := by
  obtain ⟨fs, hr, hrun, hended, hW, hsame⟩ := X.leave hv hlk
  exact ⟨_, _, stp fs hr, hrun, hended, _, _, rfl, hq, ⟨_, rfl⟩, hW, hsame.mono hC hN⟩
theorem g_ireturn {Q : Option Value → Heap → List Loc → Prop} {C N : Nat} (X : Stand p l e R s m args below meth c T locs cells slots) (hx : p.tables.exec = Jvm.exec) (hlk : meth.locks = false) {w : Int32} {t : FieldType} (hret : meth.sig.returnType = some t) (hn : narrow t (.int w) = .int w) (hti : t = .int ∨ t = .boolean ∨ t = .byte ∨ t = .char ∨ t = .short) (hd : decode c.code pc = .ok (.ireturn, 1)) (hC : cells ≤ C) (hN : slots ≤ N) (hq : Q (some (.int w)) T.heap locs) : Go p e below (Ret s Q C N) (T.setTop (mkF m pc Ls [.int w])) :=
  Ret.end X hx hlk (fun h => by rw [hret] at h; cases h) (fun fs hr => X.ireturnOut hx hret hn hti hd hr) hC hN hq
theorem g_lreturn {Q : Option Value → Heap → List Loc → Prop} {C N : Nat} (X : Stand p l e R s m args below meth c T locs cells slots) (hx : p.tables.exec = Jvm.exec) (hlk : meth.locks = false) {w : Int64} (hret : meth.sig.returnType = some .long) (hd : decode c.code pc = .ok (.lreturn, 1)) (hC : cells ≤ C) (hN : slots ≤ N) (hq : Q (some (.long w)) T.heap locs) : Go p e below (Ret s Q C N) (T.setTop (mkF m pc Ls [.long w])) :=
  Ret.end X hx hlk (fun h => by rw [hret] at h; cases h) (fun fs hr => X.lreturnOut hx hret hd hr) hC hN hq
theorem g_return {Q : Option Value → Heap → List Loc → Prop} {C N : Nat} (X : Stand p l e R s m args below meth c T locs cells slots) (hx : p.tables.exec = Jvm.exec) (hlk : meth.locks = false) (hret : meth.sig.returnType = none) (hd : decode c.code pc = .ok (.return_, 1)) (hC : cells ≤ C) (hN : slots ≤ N) (hq : Q none T.heap locs) : Go p e below (Ret s Q C N) (T.setTop (mkF m pc Ls [])) :=
  Ret.end X hx hlk (fun _ => rfl) (fun fs hr => X.returnOut hx hret hd hr) hC hN hq
theorem g_areturn {Q : Option Value → Heap → List Loc → Prop} {C N : Nat} (X : Stand p l e R s m args below meth c T locs cells slots) (hx : p.tables.exec = Jvm.exec) (hlk : meth.locks = false) {w : Value} {t : FieldType} (hret : meth.sig.returnType = some t) (ht : t.isReference = true) (hw : w.isRef = true) (hd : decode c.code pc = .ok (.areturn, 1)) (hC : cells ≤ C) (hN : slots ≤ N) (hq : Q (some w) T.heap locs) : Go p e below (Ret s Q C N) (T.setTop (mkF m pc Ls [w])) :=
  Ret.end X hx hlk (fun h => by rw [hret] at h; cases h) (fun fs hr => X.areturnOut hx hw hret ht hd hr) hC hN hq
theorem g_dreturn {Q : Option Value → Heap → List Loc → Prop} {C N : Nat} (X : Stand p l e R s m args below meth c T locs cells slots) (hx : p.tables.exec = Jvm.exec) (hlk : meth.locks = false) {w : UInt64} (hret : meth.sig.returnType = some .double) (hd : decode c.code pc = .ok (.dreturn, 1)) (hC : cells ≤ C) (hN : slots ≤ N) (hq : Q (some (.double w)) T.heap locs) : Go p e below (Ret s Q C N) (T.setTop (mkF m pc Ls [.double w])) :=
  Ret.end X hx hlk (fun h => by rw [hret] at h; cases h) (fun fs hr => by
    have hm' : T.vm.method? m = some meth := X.method'
    show Steps p.tables e below (T.setTop { method := m, pc := pc, locals := Ls, stack := [.double w], locked := none }) _
    jvm_step X.here [X.here.top, hx, hd, hm', hret]
    first | (intro acts; rw [hr _ acts rfl rfl rfl]) | rw [hr _ _ rfl rfl rfl]
    exact Steps.refl _) hC hN hq
theorem g_freturn {Q : Option Value → Heap → List Loc → Prop} {C N : Nat} (X : Stand p l e R s m args below meth c T locs cells slots) (hx : p.tables.exec = Jvm.exec) (hlk : meth.locks = false) {w : UInt32} (hret : meth.sig.returnType = some .float) (hd : decode c.code pc = .ok (.freturn, 1)) (hC : cells ≤ C) (hN : slots ≤ N) (hq : Q (some (.float w)) T.heap locs) : Go p e below (Ret s Q C N) (T.setTop (mkF m pc Ls [.float w])) :=
  Ret.end X hx hlk (fun h => by rw [hret] at h; cases h) (fun fs hr => retF X hx hret hd hr) hC hN hq
theorem g_callS (X : Stand p l e R s m args below meth c T locs cells slots) (hx : p.tables.exec = Jvm.exec) (hZ : Z.Warmed39 s.vm) (hown : s.vm.findClass own = some m.cls) {y : MethodName} {bytes : ByteArray} {maxL : Nat} {ret : Option FieldType} (w1 : (Cond.methodLink own index y).before a0 Z = true) (w2 : (Cond.static y).before a0 Z = true) (w3 : (Cond.initialized y.cls).before a0 Z = true) (w4 : (Cond.code y bytes maxL ret).before a0 Z = true) (hy : y.cls ≠ "java/lang/invoke/MethodHandle" ∧ y.cls ≠ "java/lang/invoke/VarHandle") {rm : Room} {as' : Array Value} {Q : Option Value → Heap → List Loc → Prop} (hM : MetFree l y (head1 [Cond.code y bytes maxL ret] rm) (fun a U => a = as' ∧ Z.Warmed39 U.vm ∧ U.heap = h) (fun _ _ _ _ _ => True) (fun _ U o U' => ∃ v L, o = .returned v ∧ Q v U'.heap L ∧ FrameEnd U o U' L rm.cells rm.slots)) (eT : T.heap = h) {W : Nat} (hf : rm.frames + 1 ≤ R.frames) (hlo : W + (maxL + 11) + rm.locals ≤ R.locals) (hsize : Ls.size = c.maxLocals) (argsL rest : List Value) (hlen : ∀ sig, parseMethodDescriptor y.desc = some sig → argsL.length = sig.parameters.length) (hst : st = argsL.reverse ++ rest) (has : argsL.toArray = as') (hW : (rest.map fun v => v.category).sum ≤ W) (hd : decode c.code pc = .ok (.invokestatic index, 3)) (hc : cells + rm.cells ≤ R.cells) (hs : slots + rm.slots ≤ R.slots) (k : ∀ (v : Option Value) (T' : State) (L : List Loc), Stand p l e R s m args below meth c T' (locs ++ L) (cells + rm.cells) (slots + rm.slots) → Q v T'.heap L → Go p e below P (T'.setTop (mkF m (pc + 3) Ls (v.toList ++ rest)))) : Go p e below P (T.setTop (mkF m pc Ls st)) := by
  obtain ⟨v, vm1, ⟨T', L', k', n'⟩, -, X', ⟨L, hQ, l1, y1, z1⟩, stp⟩ := Jvm.LawKit.callS X hx hown (mvT hZ w1) (mvT hZ w2) (mvT hZ w3) (mvT hZ w4) hy (backOf (W := W) hM hZ w4 w3 hf hlo) (g := mkF m pc Ls st) rfl hsize hlen hst (by show 2 * 0 + _ ≤ _; omega) hd (fun _ _ => ⟨has, eT, hc, hs⟩)
  dsimp only [Pt.U, Pt.locs, Pt.cells, Pt.slots] at X' l1 y1 z1 stp hQ
  subst l1 y1 z1
  exact (k v T' L X' hQ).by stp
theorem g_init (X : Stand p l e R s m args below meth c T locs cells slots) (hx : p.tables.exec = Jvm.exec) (hZ : Z.Warmed39 s.vm) (hown : s.vm.findClass own = some m.cls) {y : MethodName} {bytes : ByteArray} {maxL : Nat} (hy1 : y.name = "<init>") (w1 : (Cond.methodLink own index y).before a0 Z = true) (w2 : (Cond.instanceMethod y).before a0 Z = true) (w3 : (Cond.initialized y.cls).before a0 Z = true) (w4 : (Cond.code y bytes maxL none).before a0 Z = true) (hy : y.cls ≠ "java/lang/invoke/MethodHandle" ∧ y.cls ≠ "java/lang/invoke/VarHandle") {rm : Room} {as' : Array Value} {Q : Option Value → Heap → List Loc → Prop} (hM : MetFree l y (head1 [Cond.code y bytes maxL none] rm) (fun a U => a = as' ∧ Z.Warmed39 U.vm ∧ U.heap = h) (fun _ _ _ _ _ => True) (fun _ U o U' => ∃ v L, o = .returned v ∧ Q v U'.heap L ∧ FrameEnd U o U' L rm.cells rm.slots)) (eT : T.heap = h) {W : Nat} (hf : rm.frames + 1 ≤ R.frames) (hlo : W + (maxL + 11) + rm.locals ≤ R.locals) (hsize : Ls.size = c.maxLocals) (a : Addr) (argsL rest : List Value) (hlen : ∀ sig, parseMethodDescriptor y.desc = some sig → argsL.length = sig.parameters.length) (hst : st = argsL.reverse ++ .ref a :: rest) (has : (.ref a :: argsL).toArray = as') (hW : (rest.map fun v => v.category).sum ≤ W) (hd : decode c.code pc = .ok (.invokespecial index, 3)) (hc : cells + rm.cells ≤ R.cells) (hs : slots + rm.slots ≤ R.slots) (k : ∀ (v : Option Value) (T' : State) (L : List Loc), Stand p l e R s m args below meth c T' (locs ++ L) (cells + rm.cells) (slots + rm.slots) → Q v T'.heap L → Go p e below P (T'.setTop (mkF m (pc + 3) Ls (v.toList ++ rest)))) : Go p e below P (T.setTop (mkF m pc Ls st)) := by
  obtain ⟨v, vm1, ⟨T', L', k', n'⟩, -, X', ⟨L, hQ, l1, y1, z1⟩, stp⟩ := X.specialBack hx hy1 hown (mvT hZ w1) (mvT hZ w2) (mvT hZ w4) hy (backOf (W := W) hM hZ w4 w3 hf hlo) (g := mkF m pc Ls st) rfl hsize (Steps.refl _) hlen hst (by show 2 * 0 + _ ≤ _; omega) hd (fun _ _ => ⟨has, eT, hc, hs⟩)
  dsimp only [Pt.U, Pt.locs, Pt.cells, Pt.slots] at X' l1 y1 z1 stp hQ
  subst l1 y1 z1
  exact (k v T' L X' hQ).by fun t r => stp.trans r
theorem g_callV (X : Stand p l e R s m args below meth c T locs cells slots) (hx : p.tables.exec = Jvm.exec) (hZ : Z.Warmed39 s.vm) (hown : s.vm.findClass own = some m.cls) {y : MethodName} {bytes : ByteArray} {maxL : Nat} {ret : Option FieldType} {C : String} (w1 : (Cond.methodLink own index y).before a0 Z = true) (w2 : (Cond.declares y).before a0 Z = true) (w5 : (Cond.selects C y y).before a0 Z = true) (w6 : (Cond.instanceMethod y).before a0 Z = true) (w3 : (Cond.initialized y.cls).before a0 Z = true) (w4 : (Cond.code y bytes maxL ret).before a0 Z = true) (hy : y.cls ≠ "java/lang/invoke/MethodHandle" ∧ y.cls ≠ "java/lang/invoke/VarHandle") {rm : Room} {as' : Array Value} {Q : Option Value → Heap → List Loc → Prop} (hM : MetFree l y (head1 [Cond.code y bytes maxL ret] rm) (fun a U => a = as' ∧ Z.Warmed39 U.vm ∧ U.heap = h) (fun _ _ _ _ _ => True) (fun _ U o U' => ∃ v L, o = .returned v ∧ Q v U'.heap L ∧ FrameEnd U o U' L rm.cells rm.slots)) (eT : T.heap = h) {W : Nat} (hf : rm.frames + 1 ≤ R.frames) (hlo : W + (maxL + 11) + rm.locals ≤ R.locals) (hsize : Ls.size = c.maxLocals) (a : Addr) (E : Exa Z h a C) (argsL rest : List Value) (hlen : ∀ sig, parseMethodDescriptor y.desc = some sig → argsL.length = sig.parameters.length) (hst : st = argsL.reverse ++ .ref a :: rest) (has : (.ref a :: argsL).toArray = as') (hW : (rest.map fun v => v.category).sum ≤ W) (hd : decode c.code pc = .ok (.invokevirtual index, 3)) (hc : cells + rm.cells ≤ R.cells) (hs : slots + rm.slots ≤ R.slots) (k : ∀ (v : Option Value) (T' : State) (L : List Loc), Stand p l e R s m args below meth c T' (locs ++ L) (cells + rm.cells) (slots + rm.slots) → Q v T'.heap L → Go p e below P (T'.setTop (mkF m (pc + 3) Ls (v.toList ++ rest)))) : Go p e below P (T.setTop (mkF m pc Ls st)) := by
  obtain ⟨cq, kq, qa, qb, qc⟩ := isOf hZ eT E
  obtain ⟨v, vm1, ⟨T', L', k', n'⟩, -, X', ⟨L, hQ, l1, y1, z1⟩, stp⟩ := X.virtualBack hx (y := y) (z := y) hown (mvT hZ w1) (mvT hZ w2) (notFace_of_selects (args := #[]) (mvT hZ w5)) (mvT hZ w5) (mvT hZ w6) hy (backOf (W := W) hM hZ w4 w3 hf hlo) qa qc (g := mkF m pc Ls st) rfl hsize (Steps.refl _) hlen hst (by show 2 * 0 + _ ≤ _; omega) hd (fun _ _ => ⟨has, eT, hc, hs⟩)
  dsimp only [Pt.U, Pt.locs, Pt.cells, Pt.slots] at X' l1 y1 z1 stp hQ
  subst l1 y1 z1
  exact (k v T' L X' hQ).by fun t r => stp.trans r
theorem g_absD (X : Stand p l e R s m args below meth c T locs cells slots) (hx : p.tables.exec = Jvm.exec) (hZ : Z.Warmed39 s.vm) (hown : s.vm.findClass own = some m.cls) (w1 : (Cond.methodLink own index Jvm.Free.Fl.Abs.absDN).before a0 Z = true) (w2 : (Cond.static Jvm.Free.Fl.Abs.absDN).before a0 Z = true) (w3 : (Cond.initialized "java/lang/Math").before a0 Z = true) (w4 : (Cond.code Jvm.Free.Fl.Abs.absDN Jvm.Free.Fl.Abs.absDCode 2 (some .double)).before a0 Z = true) (eT : T.heap = h) (hsize : Ls.size = c.maxLocals) {a : UInt64} (hn : Jvm.Free.Fl.NoNaN64 a) (hfr : 1 ≤ R.frames) {W : Nat} (hW : (st.map fun v => v.category).sum ≤ W) (hlo : W + 13 ≤ R.locals) (hc : cells ≤ R.cells) (hs : slots ≤ R.slots) (hd : decode c.code pc = .ok (.invokestatic index, 3))
    (k : ∀ T', Stand p l e R s m args below meth c T' locs cells slots → T'.heap = h → Go p e below P (T'.setTop (mkF m (pc + 3) Ls (.double (a &&& 0x7fffffffffffffff) :: st)))) : Go p e below P (T.setTop (mkF m pc Ls (.double a :: st))) := by
  obtain ⟨T', X', e', stp⟩ := natS X hx hZ hown w1 w2 w3 w4 (by decide) eT (W := W) (F := fun a' => a' = #[.double a] ∧ Jvm.Free.Fl.NoNaN64 a) (val := .double (a &&& 0x7fffffffffffffff)) (val' := .double (a &&& 0x7fffffffffffffff)) (fun q => Jvm.Free.Fl.Abs.absD_pays a q hfr hlo) (g := mkF m pc Ls (.double a :: st)) rfl hsize (argsL := [.double a]) (rest := st) (lenOf (ps := [.double]) (r := some .double) (by decide +kernel) rfl) rfl (by show 2 * 0 + _ ≤ _; omega) hd hc hs ⟨rfl, hn⟩ rfl
  exact (k T' X' e').by stp
theorem g_objInit (X : Stand p l e R s m args below meth c T locs cells slots) (hx : p.tables.exec = Jvm.exec) (hZ : Z.Warmed39 s.vm) (hown : s.vm.findClass own = some m.cls) (w1 : (Cond.methodLink own index Lib.objectInit).before a0 Z = true) (w2 : (Cond.instanceMethod Lib.objectInit).before a0 Z = true) (w3 : (Cond.code Lib.objectInit ⟨#[0xb1]⟩ 1 none).before a0 Z = true) (eT : T.heap = h) (hsize : Ls.size = c.maxLocals) {a : Addr} (hd : decode c.code pc = .ok (.invokespecial index, 3)) (hf : 1 ≤ R.frames) {W : Nat} (hW : (st.map fun v => v.category).sum ≤ W) (hlo : W + 12 ≤ R.locals)
    (k : ∀ T', Stand p l e R s m args below meth c T' locs cells slots → T'.heap = h → Go p e below P (T'.setTop (mkF m (pc + 3) Ls st))) : Go p e below P (T.setTop (mkF m pc Ls (.ref a :: st))) := by
  obtain ⟨T', X', e', stp⟩ := initO X hx hZ hown w1 w2 w3 eT (g := mkF m pc Ls (.ref a :: st)) rfl hsize rfl hd hf (W := W) (by show 2 * 0 + _ ≤ _; omega) hlo
  exact (k T' X' e').by stp
theorem g_new (X : Stand p l e R s m args below meth c T locs cells slots) (hx : p.tables.exec = Jvm.exec) (hZ : Z.Warmed39 s.vm) (hown : s.vm.findClass own = some m.cls) {C : String} {n : Nat} (w : (Cond.classLink own index C).before a0 Z = true) (wi : (Cond.instantiable C n).before a0 Z = true) (wz : (Cond.initialized C).before a0 Z = true) (eT : T.heap = h) (hd : decode c.code pc = .ok (.new index, 3)) (hc : cells + 1 ≤ R.cells) (hl : slots + n ≤ R.slots)
    (k : ∀ T' h' a, a = h.size → Stand p l e R s m args below meth c T' locs (cells + 1) (slots + n) → T'.heap = h' → Ext h h' → Exa Z h' a C → (∀ {O nm d : String} {ty : FieldType}, Laid Z a0 C O nm d → parseFieldDescriptor d = some ty → Fld Z h' a O nm d (defaultValue ty)) → Go p e below P (T'.setTop (mkF m (pc + 3) Ls (.ref a :: st)))) : Go p e below P (T.setTop (mkF m pc Ls st)) := by
  obtain ⟨T', h', X', e', E, A, D, -, stp⟩ := newO X hx hZ hown w wi wz eT (g := mkF m pc Ls st) rfl hd hc hl
  exact (k T' h' _ rfl X' e' E A D).by stp
theorem g_getF (X : Stand p l e R s m args below meth c T locs cells slots) (hx : p.tables.exec = Jvm.exec) (hZ : Z.Warmed39 s.vm) (hown : s.vm.findClass own = some m.cls) {O n d : String} (w : (Cond.fieldLink own index O n d).before a0 Z = true) (eT : T.heap = h) {a : Addr} {v : Value} (F : Fld Z h a O n d v) (hd : decode c.code pc = .ok (.getfield index, 3))
    (k : ∀ T', Stand p l e R s m args below meth c T' locs cells slots → T'.heap = h → Go p e below P (T'.setTop (mkF m (pc + 3) Ls (v :: st)))) : Go p e below P (T.setTop (mkF m pc Ls (.ref a :: st))) := by
  obtain ⟨T', X', e', stp⟩ := getF X hx hZ hown (host := "") (Or.inl w) Via.refl eT F (g := mkF m pc Ls (.ref a :: st)) rfl rfl hd
  exact (k T' X' e').by stp
theorem g_getS (X : Stand p l e R s m args below meth c T locs cells slots) (hx : p.tables.exec = Jvm.exec) (hZ : Z.Warmed39 s.vm) (hown : s.vm.findClass own = some m.cls) {O n d : String} (w : (Cond.fieldLink own index O n d).before a0 Z = true) (eT : T.heap = h) {v : Value} (F : Sta Z h O n d v) (hd : decode c.code pc = .ok (.getstatic index, 3))
    (k : ∀ T', Stand p l e R s m args below meth c T' locs cells slots → T'.heap = h → Go p e below P (T'.setTop (mkF m (pc + 3) Ls (v :: st)))) : Go p e below P (T.setTop (mkF m pc Ls st)) := by
  obtain ⟨T', X', e', stp⟩ := getS X hx hZ hown (host := "") w Via.refl eT F (g := mkF m pc Ls st) rfl hd
  exact (k T' X' e').by stp
theorem g_putF (X : Stand p l e R s m args below meth c T locs cells slots) (hx : p.tables.exec = Jvm.exec) (hZ : Z.Warmed39 s.vm) (hown : s.vm.findClass own = some m.cls) {O n d C : String} {kk : Nat} {ty : FieldType} (w : (Cond.fieldLink own index O n d).before a0 Z = true) (eT : T.heap = h) {a : Addr} {v old : Value} (F : Fld Z h a O n d old) (E : Exa Z h a C) (L : (Cond.lays C O n d).before a0 Z = true ∨ ((Cond.laysFinal C O n d).before a0 Z = true ∧ own = O ∧ meth.name = "<init>")) (wi : (Cond.instantiable C kk).before a0 Z = true) (hty : parseFieldDescriptor d = some ty) (hn : narrow ty v = v) (hf : fits ty v = true) (hd : decode c.code pc = .ok (.putfield index, 3))
    (k : ∀ T' h', Stand p l e R s m args below meth c T' (locs ++ [⟨a, Jvm.RoadKit.slotOf Z O n d⟩]) cells slots → T'.heap = h' → Wr h h' a (Jvm.RoadKit.slotOf Z O n d) v → Go p e below P (T'.setTop (mkF m (pc + 3) Ls st))) : Go p e below P (T.setTop (mkF m pc Ls (v :: .ref a :: st))) := by
  obtain ⟨T', h', X', e', W, stp⟩ := putF X hx hZ hown (host := "") (Or.inl w) Via.refl eT F E L wi hty hn hf (g := mkF m pc Ls (v :: .ref a :: st)) rfl rfl hd
  exact (k T' h' X' e' W).by stp
theorem g_newP (X : Stand p l e R s m args below meth c T locs cells slots) (hx : p.tables.exec = Jvm.exec) (hZ : Z.Warmed39 s.vm) {aty : ArrayType} {ty : FieldType} (hty : newarray.typeOf aty = ty) (w : (Cond.arrayClass ty).before a0 Z = true) (eT : T.heap = h) (hd : decode c.code pc = .ok (.newarray aty, 2)) {n : Int32} (hn : ¬ n < 0) {cap : Nat} (hcap : n.toNatClampNeg ≤ cap) (hb : cap * 8 ≤ 536870912) (hc : cells + 1 ≤ R.cells) (hl : slots + cap ≤ R.slots)
    (k : ∀ T' h' a cA, a = h.size → Stand p l e R s m args below meth c T' locs (cells + 1) (slots + cap) → T'.heap = h' → Ext h h' → Arr Z h' a (newA cA ty n) ty → Go p e below P (T'.setTop (mkF m (pc + 2) Ls (.ref a :: st)))) : Go p e below P (T.setTop (mkF m pc Ls (.int n :: st))) := by
  subst hty
  obtain ⟨T', h', cA, X', e', E, A, stp⟩ := newP X hx hZ w eT (g := mkF m pc Ls (.int n :: st)) rfl hd rfl hn hcap hb hc hl
  exact (k T' h' _ cA rfl X' e' E A).by stp
theorem fld_any {C O O' n n' d d' : String} {v : Value} {a : Addr} {kk : Nat} (E : Exa Z h a C) (F : Fld Z h a O n d v) (wi : (Cond.instantiable C kk).before a0 Z = true) (L : Laid Z a0 C O' n' d') : ∃ w, Fld Z h a O' n' d' w := by
  obtain ⟨cell, k, h1, h2, h3, h4, h5⟩ := E
  obtain ⟨cell', cf, k', i, f, g1, g2, g3, g4, g5, g6, g7⟩ := F
  cases h1.symm.trans g1
  obtain ⟨c1, k1, cf1, kf1, i1, f1, l1, l2, l3, l4, l5, l6, -⟩ := L.spec
  obtain ⟨c2, k2, j1, j2, j3, -⟩ := Cond.instantiable_spec wi
  cases h2.symm.trans l1
  cases h3.symm.trans l2
  cases l1.symm.trans j1
  cases h3.symm.trans j2
  have hsz := h5 j3
  obtain ⟨hlt, -⟩ := Array.getElem?_eq_some_iff.mp l6
  exact ⟨_, cell, cf1, kf1, i1, f1, g1, l3, l4, g4, g5, l5, Array.getElem?_eq_getElem (by rw [hsz]; exact hlt)⟩
/-- an array by a function of the place -/
def Av (Z : State) (h : Heap) (a : Addr) (ty : FieldType) (n : Nat) (f : Nat → Value) : Prop := ∃ cl : Cell, Arr Z h a cl ty ∧ cl.slots.size = n ∧ ∀ i, i < n → cl.slots[i]? = some (f i)
theorem Av.lt {a : Addr} {ty : FieldType} {n : Nat} {f : Nat → Value} (F : Av Z h a ty n f) : a < h.size := by obtain ⟨cl, A, -⟩ := F; exact A.lt
theorem Av.ext {h' : Heap} {a : Addr} {ty : FieldType} {n : Nat} {f : Nat → Value} (F : Av Z h a ty n f) (E : Ext h h') : Av Z h' a ty n f := by obtain ⟨cl, A, B⟩ := F; exact ⟨cl, A.ext E, B⟩
theorem Av.other {h' : Heap} {a b : Addr} {sl : Nat} {v : Value} {ty : FieldType} {n : Nat} {f : Nat → Value} (F : Av Z h b ty n f) (W : Wr h h' a sl v) (q : b ≠ a) : Av Z h' b ty n f := by obtain ⟨cl, A, B⟩ := F; exact ⟨cl, A.other W q, B⟩
theorem Av.keep {h' : Heap} {a : Addr} {ws : List Addr} {ty : FieldType} {n : Nat} {f : Nat → Value} (F : Av Z h a ty n f) (K : Keep h h' ws) (q : a ∉ ws) : Av Z h' a ty n f := by obtain ⟨cl, A, B⟩ := F; exact ⟨cl, ⟨K.2.1 a cl A.1 q, A.2⟩, B⟩
theorem Av.new {a : Addr} {cA : ClassId} {ty : FieldType} {n : Int32} (A : Arr Z h a (newA cA ty n) ty) : Av Z h a ty n.toNatClampNeg (fun _ => defaultValue ty) := ⟨_, A, sz_new _ _ _, fun i hi => by simp [newA, hi]⟩
theorem Av.newK {a : Addr} {cA : ClassId} {ty : FieldType} {n : Int32} {k : Nat} (A : Arr Z h a (newA cA ty n) ty) (hk : n.toNatClampNeg = k) : Av Z h a ty k (fun _ => defaultValue ty) := hk ▸ Av.new A
theorem Av.congr {a : Addr} {ty : FieldType} {n : Nat} {f f' : Nat → Value} (F : Av Z h a ty n f) (q : ∀ i, i < n → f i = f' i) : Av Z h a ty n f' := by obtain ⟨cl, A, B, C⟩ := F; exact ⟨cl, A, B, fun i hi => by rw [C i hi, q i hi]⟩
theorem Av.same {h' : Heap} {a : Addr} {i : Nat} {v : Value} {ty : FieldType} {n : Nat} {f : Nat → Value} (F : Av Z h a ty n f) (W : Wr h h' a i v) : Av Z h' a ty n (fun j => if j = i then v else f j) := by
  obtain ⟨cl, A, B, C⟩ := F
  refine ⟨_, A.same W, by rw [sz_set]; exact B, fun j hj => ?_⟩
  obtain ⟨cb, hb1, -, -, -, -, hb2, hb3⟩ := wr_at W A.1
  have e1 := (A.same W).1
  have e2 : cb = cl.setSlot i v := Option.some.inj (hb1.symm.trans e1)
  by_cases q : j = i
  · subst q; rw [← e2, (hb3 rfl).2.1]; simp
  · rw [← e2, hb2 j q, C j hj]; simp [q]
theorem out_idx {j : Int32} {n : Nat} (h0 : 0 ≤ j.toInt) (h1 : j.toInt < n) : ¬ (j < 0 ∨ n ≤ j.toNatClampNeg) := by
  have e : (j.toNatClampNeg : Int) = j.toInt := by rw [Int32.toNatClampNeg]; omega
  intro q
  rcases q with q | q
  · have := Int32.lt_iff_toInt_lt.mp q; simp at this; omega
  · omega
theorem g_iaload (X : Stand p l e R s m args below meth c T locs cells slots) (hx : p.tables.exec = Jvm.exec) (hZ : Z.Warmed39 s.vm) (eT : T.heap = h) {a : Addr} {n : Nat} {f : Nat → Value} (F : Av Z h a .int n f) {j : Int32} {i : Nat} {v : Value} (hj0 : 0 ≤ j.toInt) (hj1 : j.toInt < n) (hi : j.toNatClampNeg = i) (hv : f i = v) (hd : decode c.code pc = .ok (.iaload, 1)) (q : Go p e below P (T.setTop (mkF m (pc + 1) Ls (v :: st)))) : Go p e below P (T.setTop (mkF m pc Ls (.int j :: .ref a :: st))) := by
  obtain ⟨cl, A, B, C⟩ := F
  have hin := out_idx hj0 hj1
  subst hi hv
  exact q.by fun t r => X.iaload hx (by rw [eT]; exact A.1) (State.isArrayOf_alike hZ.alike A.2.1) A.2.2 (by rw [B]; exact hin) (C _ (by omega)) (g := mkF m pc Ls (.int j :: .ref a :: st)) rfl rfl hd t r
theorem g_laload (X : Stand p l e R s m args below meth c T locs cells slots) (hx : p.tables.exec = Jvm.exec) (hZ : Z.Warmed39 s.vm) (eT : T.heap = h) {a : Addr} {n : Nat} {f : Nat → Value} (F : Av Z h a .long n f) {j : Int32} {i : Nat} {v : Value} (hj0 : 0 ≤ j.toInt) (hj1 : j.toInt < n) (hi : j.toNatClampNeg = i) (hv : f i = v) (hd : decode c.code pc = .ok (.laload, 1)) (q : Go p e below P (T.setTop (mkF m (pc + 1) Ls (v :: st)))) : Go p e below P (T.setTop (mkF m pc Ls (.int j :: .ref a :: st))) := by
  obtain ⟨cl, A, B, C⟩ := F
  have hin := out_idx hj0 hj1
  subst hi hv
  exact q.by fun t r => X.laload hx (by rw [eT]; exact A.1) (State.isArrayOf_alike hZ.alike A.2.1) A.2.2 (by rw [B]; exact hin) (C _ (by omega)) (g := mkF m pc Ls (.int j :: .ref a :: st)) rfl rfl hd t r
theorem g_daload (X : Stand p l e R s m args below meth c T locs cells slots) (hx : p.tables.exec = Jvm.exec) (hZ : Z.Warmed39 s.vm) (eT : T.heap = h) {a : Addr} {n : Nat} {f : Nat → Value} (F : Av Z h a .double n f) {j : Int32} {i : Nat} {v : Value} (hj0 : 0 ≤ j.toInt) (hj1 : j.toInt < n) (hi : j.toNatClampNeg = i) (hv : f i = v) (hd : decode c.code pc = .ok (.daload, 1)) (q : Go p e below P (T.setTop (mkF m (pc + 1) Ls (v :: st)))) : Go p e below P (T.setTop (mkF m pc Ls (.int j :: .ref a :: st))) := by
  obtain ⟨cl, A, B, C⟩ := F
  have hin := out_idx hj0 hj1
  subst hi hv
  exact q.by fun t r => X.daload hx (by rw [eT]; exact A.1) (State.isArrayOf_alike hZ.alike A.2.1) A.2.2 (by rw [B]; exact hin) (C _ (by omega)) (g := mkF m pc Ls (.int j :: .ref a :: st)) rfl rfl hd t r
theorem g_caload (X : Stand p l e R s m args below meth c T locs cells slots) (hx : p.tables.exec = Jvm.exec) (hZ : Z.Warmed39 s.vm) (eT : T.heap = h) {a : Addr} {n : Nat} {f : Nat → Value} (F : Av Z h a .char n f) {j : Int32} {i : Nat} {v : Value} (hj0 : 0 ≤ j.toInt) (hj1 : j.toInt < n) (hi : j.toNatClampNeg = i) (hv : f i = v) (hd : decode c.code pc = .ok (.caload, 1)) (q : Go p e below P (T.setTop (mkF m (pc + 1) Ls (v :: st)))) : Go p e below P (T.setTop (mkF m pc Ls (.int j :: .ref a :: st))) := by
  obtain ⟨cl, A, B, C⟩ := F
  have hin := out_idx hj0 hj1
  subst hi hv
  exact q.by fun t r => X.caload hx (by rw [eT]; exact A.1) (State.isArrayOf_alike hZ.alike A.2.1) A.2.2 (by rw [B]; exact hin) (C _ (by omega)) (g := mkF m pc Ls (.int j :: .ref a :: st)) rfl rfl hd t r
theorem g_baloadB (X : Stand p l e R s m args below meth c T locs cells slots) (hx : p.tables.exec = Jvm.exec) (hZ : Z.Warmed39 s.vm) (eT : T.heap = h) {a : Addr} {n : Nat} {f : Nat → Value} (F : Av Z h a .byte n f) {j : Int32} {i : Nat} {v : Value} (hj0 : 0 ≤ j.toInt) (hj1 : j.toInt < n) (hi : j.toNatClampNeg = i) (hv : f i = v) (hd : decode c.code pc = .ok (.baload, 1)) (q : Go p e below P (T.setTop (mkF m (pc + 1) Ls (v :: st)))) : Go p e below P (T.setTop (mkF m pc Ls (.int j :: .ref a :: st))) := by
  obtain ⟨cl, A, B, C⟩ := F
  have hin := out_idx hj0 hj1
  subst hi hv
  exact q.by fun t r => X.baloadBytes hx (by rw [eT]; exact A.1) (State.isArrayOf_alike hZ.alike A.2.1) A.2.2 (by rw [B]; exact hin) (C _ (by omega)) (g := mkF m pc Ls (.int j :: .ref a :: st)) rfl rfl hd t r
theorem g_baloadZ (X : Stand p l e R s m args below meth c T locs cells slots) (hx : p.tables.exec = Jvm.exec) (hZ : Z.Warmed39 s.vm) (eT : T.heap = h) {a : Addr} {n : Nat} {f : Nat → Value} (F : Av Z h a .boolean n f) {j : Int32} {i : Nat} {v : Value} (hj0 : 0 ≤ j.toInt) (hj1 : j.toInt < n) (hi : j.toNatClampNeg = i) (hv : f i = v) (hd : decode c.code pc = .ok (.baload, 1)) (q : Go p e below P (T.setTop (mkF m (pc + 1) Ls (v :: st)))) : Go p e below P (T.setTop (mkF m pc Ls (.int j :: .ref a :: st))) := by
  obtain ⟨cl, A, B, C⟩ := F
  have hin := out_idx hj0 hj1
  subst hi hv
  exact q.by fun t r => X.baloadBooleans hx (by rw [eT]; exact A.1) (State.isArrayOf_alike hZ.alike A.2.1) A.2.2 (by rw [B]; exact hin) (C _ (by omega)) (g := mkF m pc Ls (.int j :: .ref a :: st)) rfl rfl hd t r
theorem g_iastore (X : Stand p l e R s m args below meth c T locs cells slots) (hx : p.tables.exec = Jvm.exec) (hZ : Z.Warmed39 s.vm) (eT : T.heap = h) {a : Addr} {n : Nat} {f : Nat → Value} (F : Av Z h a .int n f) {j : Int32} {i : Nat} {x : Int32} (hj0 : 0 ≤ j.toInt) (hj1 : j.toInt < n) (hi : j.toNatClampNeg = i) (hd : decode c.code pc = .ok (.iastore, 1))
    (k : ∀ T' h', Stand p l e R s m args below meth c T' (locs ++ [⟨a, i⟩]) cells slots → T'.heap = h' → Wr h h' a i (.int x) → Go p e below P (T'.setTop (mkF m (pc + 1) Ls st))) : Go p e below P (T.setTop (mkF m pc Ls (.int x :: .int j :: .ref a :: st))) := by
  obtain ⟨cl, A, B, C⟩ := F
  have hin := out_idx hj0 hj1
  subst hi
  obtain ⟨T', h', X', e', W, stp⟩ := stI X hx hZ eT A (x := x) (by rw [B]; exact hin) (g := mkF m pc Ls (.int x :: .int j :: .ref a :: st)) rfl rfl hd
  exact (k T' h' X' e' W).by stp
theorem g_lastore (X : Stand p l e R s m args below meth c T locs cells slots) (hx : p.tables.exec = Jvm.exec) (hZ : Z.Warmed39 s.vm) (eT : T.heap = h) {a : Addr} {n : Nat} {f : Nat → Value} (F : Av Z h a .long n f) {j : Int32} {i : Nat} {x : Int64} (hj0 : 0 ≤ j.toInt) (hj1 : j.toInt < n) (hi : j.toNatClampNeg = i) (hd : decode c.code pc = .ok (.lastore, 1))
    (k : ∀ T' h', Stand p l e R s m args below meth c T' (locs ++ [⟨a, i⟩]) cells slots → T'.heap = h' → Wr h h' a i (.long x) → Go p e below P (T'.setTop (mkF m (pc + 1) Ls st))) : Go p e below P (T.setTop (mkF m pc Ls (.long x :: .int j :: .ref a :: st))) := by
  obtain ⟨cl, A, B, C⟩ := F
  have hin := out_idx hj0 hj1
  subst hi
  obtain ⟨T', h', X', e', W, stp⟩ := stJ X hx hZ eT A (x := x) (by rw [B]; exact hin) (g := mkF m pc Ls (.long x :: .int j :: .ref a :: st)) rfl rfl hd
  exact (k T' h' X' e' W).by stp
theorem g_dastore (X : Stand p l e R s m args below meth c T locs cells slots) (hx : p.tables.exec = Jvm.exec) (hZ : Z.Warmed39 s.vm) (eT : T.heap = h) {a : Addr} {n : Nat} {f : Nat → Value} (F : Av Z h a .double n f) {j : Int32} {i : Nat} {x : UInt64} (hj0 : 0 ≤ j.toInt) (hj1 : j.toInt < n) (hi : j.toNatClampNeg = i) (hd : decode c.code pc = .ok (.dastore, 1))
    (k : ∀ T' h', Stand p l e R s m args below meth c T' (locs ++ [⟨a, i⟩]) cells slots → T'.heap = h' → Wr h h' a i (.double x) → Go p e below P (T'.setTop (mkF m (pc + 1) Ls st))) : Go p e below P (T.setTop (mkF m pc Ls (.double x :: .int j :: .ref a :: st))) := by
  obtain ⟨cl, A, B, C⟩ := F
  have hin := out_idx hj0 hj1
  subst hi
  obtain ⟨T', h', X', e', W, stp⟩ := stD X hx hZ eT A (x := x) (by rw [B]; exact hin) (g := mkF m pc Ls (.double x :: .int j :: .ref a :: st)) rfl rfl hd
  exact (k T' h' X' e' W).by stp
theorem g_castore (X : Stand p l e R s m args below meth c T locs cells slots) (hx : p.tables.exec = Jvm.exec) (hZ : Z.Warmed39 s.vm) (eT : T.heap = h) {a : Addr} {n : Nat} {f : Nat → Value} (F : Av Z h a .char n f) {j : Int32} {i : Nat} {x : Int32} (hj0 : 0 ≤ j.toInt) (hj1 : j.toInt < n) (hi : j.toNatClampNeg = i) (hd : decode c.code pc = .ok (.castore, 1))
    (k : ∀ T' h', Stand p l e R s m args below meth c T' (locs ++ [⟨a, i⟩]) cells slots → T'.heap = h' → Wr h h' a i (.int (nar .char x)) → Go p e below P (T'.setTop (mkF m (pc + 1) Ls st))) : Go p e below P (T.setTop (mkF m pc Ls (.int x :: .int j :: .ref a :: st))) := by
  obtain ⟨cl, A, B, C⟩ := F
  have hin := out_idx hj0 hj1
  subst hi
  obtain ⟨T', h', X', e', W, stp⟩ := stC X hx hZ eT A (x := x) (by rw [B]; exact hin) (g := mkF m pc Ls (.int x :: .int j :: .ref a :: st)) rfl rfl hd
  exact (k T' h' X' e' W).by stp
theorem g_bastoreB (X : Stand p l e R s m args below meth c T locs cells slots) (hx : p.tables.exec = Jvm.exec) (hZ : Z.Warmed39 s.vm) (eT : T.heap = h) {a : Addr} {n : Nat} {f : Nat → Value} (F : Av Z h a .byte n f) {j : Int32} {i : Nat} {x : Int32} (hj0 : 0 ≤ j.toInt) (hj1 : j.toInt < n) (hi : j.toNatClampNeg = i) (hd : decode c.code pc = .ok (.bastore, 1))
    (k : ∀ T' h', Stand p l e R s m args below meth c T' (locs ++ [⟨a, i⟩]) cells slots → T'.heap = h' → Wr h h' a i (.int (nar .byte x)) → Go p e below P (T'.setTop (mkF m (pc + 1) Ls st))) : Go p e below P (T.setTop (mkF m pc Ls (.int x :: .int j :: .ref a :: st))) := by
  obtain ⟨cl, A, B, C⟩ := F
  have hin := out_idx hj0 hj1
  subst hi
  obtain ⟨T', h', X', e', W, stp⟩ := stB X hx hZ eT A (x := x) (by rw [B]; exact hin) (g := mkF m pc Ls (.int x :: .int j :: .ref a :: st)) rfl rfl hd
  exact (k T' h' X' e' W).by stp
theorem g_bastoreZ (X : Stand p l e R s m args below meth c T locs cells slots) (hx : p.tables.exec = Jvm.exec) (hZ : Z.Warmed39 s.vm) (eT : T.heap = h) {a : Addr} {n : Nat} {f : Nat → Value} (F : Av Z h a .boolean n f) {j : Int32} {i : Nat} {x : Int32} (hj0 : 0 ≤ j.toInt) (hj1 : j.toInt < n) (hi : j.toNatClampNeg = i) (hd : decode c.code pc = .ok (.bastore, 1))
    (k : ∀ T' h', Stand p l e R s m args below meth c T' (locs ++ [⟨a, i⟩]) cells slots → T'.heap = h' → Wr h h' a i (.int (nar .boolean x)) → Go p e below P (T'.setTop (mkF m (pc + 1) Ls st))) : Go p e below P (T.setTop (mkF m pc Ls (.int x :: .int j :: .ref a :: st))) := by
  obtain ⟨cl, A, B, C⟩ := F
  have hin := out_idx hj0 hj1
  subst hi
  obtain ⟨T', h', X', e', W, stp⟩ := stZ X hx hZ eT A (x := x) (by rw [B]; exact hin) (g := mkF m pc Ls (.int x :: .int j :: .ref a :: st)) rfl rfl hd
  exact (k T' h' X' e' W).by stp
theorem g_arraylength (X : Stand p l e R s m args below meth c T locs cells slots) (hx : p.tables.exec = Jvm.exec) (hZ : Z.Warmed39 s.vm) (eT : T.heap = h) {a : Addr} {ty : FieldType} {n : Nat} {f : Nat → Value} (F : Av Z h a ty n f) {v : Int32} (hv : n.toInt32 = v) (hd : decode c.code pc = .ok (.arraylength, 1)) (q : Go p e below P (T.setTop (mkF m (pc + 1) Ls (.int v :: st)))) : Go p e below P (T.setTop (mkF m pc Ls (.ref a :: st))) := by
  obtain ⟨cl, A, B, C⟩ := F
  subst hv B
  exact q.by fun t r => X.arraylength hx (by rw [eT]; exact A.1) (State.isArrayOf_alike hZ.alike A.2.1) (g := mkF m pc Ls (.ref a :: st)) rfl rfl hd t r
theorem cv_g_lt (r : Option Ordering) : cmpValue r .g < 0 ↔ r = some .lt := by rcases r with _ | (_ | _ | _) <;> decide
theorem cv_g_gt (r : Option Ordering) : 0 < cmpValue r .g ↔ (r = some .gt ∨ r = none) := by rcases r with _ | (_ | _ | _) <;> decide
theorem cv_l_lt (r : Option Ordering) : cmpValue r .l < 0 ↔ (r = some .lt ∨ r = none) := by rcases r with _ | (_ | _ | _) <;> decide
theorem cv_l_gt (r : Option Ordering) : 0 < cmpValue r .l ↔ r = some .gt := by rcases r with _ | (_ | _ | _) <;> decide
theorem cv_g_eq (r : Option Ordering) : cmpValue r .g = 0 ↔ r = some .eq := by rcases r with _ | (_ | _ | _) <;> decide
theorem cv_l_eq (r : Option Ordering) : cmpValue r .l = 0 ↔ r = some .eq := by rcases r with _ | (_ | _ | _) <;> decide
end OwnKit

def own_abs (x : Int64) : Int64 := if x < 0 then -x else x
def own_turn (a : UInt64) : UInt64 := if FP.dcmp (FP.drem a 4618760256179416344) 0 = some .lt then FP.dadd (FP.drem a 4618760256179416344) 4618760256179416344 else FP.drem a 4618760256179416344
def own_exp (v : Int32) (c tp : UInt64) : UInt64 :=
  if v < 19 then if v < 13 then if v < 7 then if v < 0 then if v < -6 then if v < -12 then if v < -18 then FP.dadd c (FP.dmul 4616189618054758400 tp)
    else FP.dadd (FP.dadd c (FP.dmul 4611686018427387904 tp)) tp else FP.dadd c (FP.dmul 4611686018427387904 tp) else FP.dadd c tp else c else FP.dsub c tp else FP.dsub c (FP.dmul 4611686018427387904 tp)
    else FP.dsub (FP.dsub c (FP.dmul 4611686018427387904 tp)) tp
theorem own_finTP : Jvm.Free.Fl.Fin64 4618760256179416344 := by unfold Jvm.Free.Fl.Fin64; decide
theorem own_nzTP : Jvm.Free.Fl.Nz64 4618760256179416344 := by unfold Jvm.Free.Fl.Nz64; decide
theorem own_fin2 : Jvm.Free.Fl.Fin64 4611686018427387904 := by unfold Jvm.Free.Fl.Fin64; decide
theorem own_fin4 : Jvm.Free.Fl.Fin64 4616189618054758400 := by unfold Jvm.Free.Fl.Fin64; decide
theorem own_fin2TP : Jvm.Free.Fl.Fin64 (FP.dmul 4611686018427387904 4618760256179416344) := by unfold Jvm.Free.Fl.Fin64; decide +kernel
theorem own_fin4TP : Jvm.Free.Fl.Fin64 (FP.dmul 4616189618054758400 4618760256179416344) := by unfold Jvm.Free.Fl.Fin64; decide +kernel
section OwnTurn
open Jvm.FP.Core
theorem own_rem_neg (x y : Datum) : exactRemainder (negate x) y = negate (exactRemainder x y) := by
  cases x <;> cases y <;> simp only [exactRemainder, negate]
  split <;> rfl
theorem own_drem_neg (a b : UInt64) : drem (dneg a) b = dneg (drem a b) := by
  have h1 : drem (dneg a) b = of64 (round b64 (exactRemainder (val64 (dneg a)) (val64 b))) := rfl
  have h2 : dneg (drem a b) = of64 (negate (val64 (drem a b))) := rfl
  rw [h1, h2, val64_drem, val64_dneg, own_rem_neg, negate_round]
theorem own_zTP : zmag b64 (val64 4618760256179416344) = 884279719003555 * 2 ^ 1027 := by decide +kernel
theorem own_zTPv' : zval b64 (val64 4618760256179416344) = ((884279719003555 * 2 ^ 1027 : Nat) : Int) := by decide +kernel
theorem own_cop : Nat.gcd 884279719003555 (2 ^ 47) = 1 := by decide +kernel
theorem own_mod' {K M p : Nat} (hg : Nat.gcd K M = 1) (h0 : 0 < p) (h1 : p < K) : 0 < p * M % K := by
  rcases Nat.eq_zero_or_pos (p * M % K) with h | h
  · exfalso
    have d : K ∣ p * M := Nat.dvd_of_mod_eq_zero h
    have d2 : K ∣ p := Nat.Coprime.dvd_of_dvd_mul_right hg d
    have := Nat.le_of_dvd h0 d2
    omega
  · exact h
theorem own_mod {p : Nat} (h0 : 0 < p) (h1 : p ≤ 2147483648) : 0 < p * 2 ^ 47 % 884279719003555 := own_mod' own_cop h0 (Nat.lt_of_le_of_lt h1 (by decide))
theorem own_pos {p : Int64} (h0 : 0 < p.toInt) (h1 : p.toInt ≤ 2147483648) :
    dcmp (drem (l2d p) 4618760256179416344) 0 = some .gt ∧ dcmp (drem (l2d p) 4618760256179416344) 4618760256179416344 = some .lt ∧ dcmp 0 (drem (l2d p) 4618760256179416344) = some .lt := by
  have dp := l2d_int (a := p) (by omega)
  have hv := DInt_zval dp
  have fin := l2d_fin p
  have hz : ¬ DZero (4618760256179416344 : UInt64) := by rw [zero_bits2]; decide
  obtain ⟨r1, r2, r3⟩ := drem_zval (a := l2d p) (b := 4618760256179416344) fin (by rw [ne_nan]; decide) hz
  have hs : sgn (val64 (l2d p)) = false := by
    obtain ⟨c, q, h⟩ := l2d_shape p
    rw [h]
    show decide (p.toInt < 0) = false
    simp; omega
  have hm : zmag b64 (val64 (l2d p)) = p.toInt.toNat * 2 ^ 1074 := by
    have q : zval b64 (val64 (l2d p)) = signed (sgn (val64 (l2d p))) (zmag b64 (val64 (l2d p))) := rfl
    rw [hs] at q
    have q' : zval b64 (val64 (l2d p)) = (zmag b64 (val64 (l2d p)) : Int) := q
    rw [hv] at q'
    have e : ((p.toInt.toNat * 2 ^ 1074 : Nat) : Int) = p.toInt * (one64 : Int) := by
      rw [Int.natCast_mul, Int.toNat_of_nonneg (by omega)]; rfl
    omega
  have hr : zmag b64 (val64 (drem (l2d p) 4618760256179416344)) = (p.toInt.toNat * 2 ^ 47 % 884279719003555) * 2 ^ 1027 := by
    rw [r3, hm, own_zTP, ← Nat.mul_mod_mul_right, Nat.mul_assoc, ← Nat.pow_add]
  have hzv : zval b64 (val64 (drem (l2d p) 4618760256179416344)) = ((p.toInt.toNat * 2 ^ 47 % 884279719003555) * 2 ^ 1027 : Nat) := by
    have q : zval b64 (val64 (drem (l2d p) 4618760256179416344)) = signed (sgn (val64 (drem (l2d p) 4618760256179416344))) (zmag b64 (val64 (drem (l2d p) 4618760256179416344))) := rfl
    rw [q, r2, hs, hr]; rfl
  have hpos : 0 < (p.toInt.toNat * 2 ^ 47 % 884279719003555) * 2 ^ 1027 := Nat.mul_pos (own_mod (by omega) (by omega)) (Nat.two_pow_pos _)
  have hlt : (p.toInt.toNat * 2 ^ 47 % 884279719003555) * 2 ^ 1027 < 884279719003555 * 2 ^ 1027 := Nat.mul_lt_mul_of_pos_right (Nat.mod_lt _ (by decide)) (Nat.two_pow_pos _)
  have n0 : val64 0 ≠ .nan := by rw [ne_nan]; decide
  have nT : val64 4618760256179416344 ≠ .nan := by rw [ne_nan]; decide
  refine ⟨dcmp_gt.mpr ⟨r1, n0, ?_⟩, dcmp_lt.mpr ⟨r1, nT, ?_⟩, dcmp_lt.mpr ⟨n0, r1, ?_⟩⟩
  · rw [zval64_zero, hzv]; exact Int.ofNat_lt.mpr hpos
  · rw [hzv, own_zTPv']; exact Int.ofNat_lt.mpr hlt
  · rw [zval64_zero, hzv]; exact Int.ofNat_lt.mpr hpos
end OwnTurn
/-- for a positive whole angle -/
theorem own_turnP {p : Int64} (h0 : 0 < p.toInt) (h1 : p.toInt ≤ 2147483648) :
    FP.dcmp 0 (own_turn (FP.l2d p)) = some .lt ∧ FP.dcmp (own_turn (FP.l2d p)) 4618760256179416344 = some .lt ∧ own_turn (FP.l2d (-p)) = FP.dsub 4618760256179416344 (own_turn (FP.l2d p)) ∧ Jvm.Free.Fl.NoNaN64 (own_turn (FP.l2d p)) := by
  obtain ⟨a1, a2, a3⟩ := own_pos h0 h1
  have e1 : own_turn (FP.l2d p) = FP.drem (FP.l2d p) 4618760256179416344 := by
    unfold own_turn
    rw [if_neg]
    intro q
    have : FP.dcmp (FP.drem (FP.l2d p) 4618760256179416344) 0 = some .gt := a1
    rw [this] at q; cases q
  have e2 : FP.l2d (-p) = FP.Core.dneg (FP.l2d p) := by
    have z : p ≠ 0 := by intro q; rw [q] at h0; simp at h0
    exact FP.Core.l2d_neg z (by omega)
  have e3 : FP.drem (FP.l2d (-p)) 4618760256179416344 = FP.Core.dneg (FP.drem (FP.l2d p) 4618760256179416344) := by
    rw [e2]; exact own_drem_neg (FP.l2d p) 4618760256179416344
  have nn := (FP.Core.dcmp_some a1).1
  have e4 : FP.dcmp (FP.Core.dneg (FP.drem (FP.l2d p) 4618760256179416344)) 0 = some .lt := by
    refine FP.Core.dcmp_lt.mpr ⟨?_, by rw [FP.Core.ne_nan]; decide, ?_⟩
    · have := FP.Core.val64_dneg (FP.Core.drem (FP.Core.l2d p) 4618760256179416344)
      show FP.Core.val64 (FP.Core.dneg (FP.Core.drem (FP.Core.l2d p) 4618760256179416344)) ≠ .nan
      rw [this]; exact FP.Core.negate_ne_nan nn
    · have := FP.Core.val64_dneg (FP.Core.drem (FP.Core.l2d p) 4618760256179416344)
      show FP.Core.zval _ (FP.Core.val64 (FP.Core.dneg (FP.Core.drem (FP.Core.l2d p) 4618760256179416344))) < _
      rw [this, FP.Core.zval_negate]
      have q := (FP.Core.dcmp_gt.mp a1).2.2
      rw [FP.Core.zval64_zero] at q ⊢
      omega
  refine ⟨by rw [e1]; exact a3, by rw [e1]; exact a2, ?_, by rw [e1]; exact Jvm.Free.Fl.val64_no.mpr nn⟩
  rw [e1]
  unfold own_turn
  rw [e3, if_pos e4]
  show FP.Core.dadd _ _ = FP.Core.dsub _ _
  rw [FP.Core.dsub_eq, FP.Core.dadd_comm]
theorem own_abs_rng (x : Int32) : 0 ≤ (own_abs x.toInt64).toInt ∧ (own_abs x.toInt64).toInt ≤ 2147483648 := by
  have h1 := rng32 x
  have h2 := c_i2l x
  unfold own_abs
  by_cases h : x.toInt64 < 0
  · rw [if_pos h]
    have h3 := Int64.lt_iff_toInt_lt.mp h
    have h4 : (-x.toInt64).toInt = -x.toInt64.toInt := FP.Core.int64_neg (by omega)
    rw [h4, h2]
    have : (0 : Int64).toInt = 0 := rfl
    omega
  · rw [if_neg h, h2]
    have h3 : ¬ x.toInt64.toInt < (0 : Int64).toInt := fun q => h (Int64.lt_iff_toInt_lt.mpr q)
    have : (0 : Int64).toInt = 0 := rfl
    omega
theorem own_small : ∀ i : Fin 51, FP.dcmp (own_turn (FP.i2d (Int32.ofInt ((i.1 : Int) - 25)))) (own_exp (Int32.ofInt ((i.1 : Int) - 25)) (FP.i2d (Int32.ofInt ((i.1 : Int) - 25))) 4618760256179416344) = some .eq := by decide +kernel
theorem own_smallV (y : Int32) : FP.dcmp (own_turn (FP.i2d (y % 26))) (own_exp (y % 26) (FP.i2d (y % 26)) 4618760256179416344) = some .eq := by
  have h := c_irem y 26 26 rfl
  have hr : -25 ≤ (y % 26).toInt ∧ (y % 26).toInt ≤ 25 := by
    have := rng32 y
    by_cases q : 0 ≤ y.toInt
    · have := h.1 q; omega
    · have := h.2 (by omega); omega
  have e : y % 26 = Int32.ofInt ((((y % 26).toInt + 25).toNat : Int) - 25) := by
    apply Int32.toInt_inj.mp
    rw [Int32.toInt_ofInt_of_le (by omega) (by omega)]
    omega
  have k := own_small ⟨((y % 26).toInt + 25).toNat, by omega⟩
  simp only at k
  rw [← e] at k
  exact k
theorem own_zero : FP.dcmp (own_turn (FP.l2d 0)) 0 = some .eq ∧ FP.dcmp (own_turn (FP.l2d (-0))) 0 = some .eq := by decide +kernel
theorem d1_0 : decode jdk_29_method_61_code 0 = .ok (.lload_n 0, 1) := by decide +kernel
theorem d1_1 : decode jdk_29_method_61_code 1 = .ok (.lconst 0, 1) := by decide +kernel
theorem d1_2 : decode jdk_29_method_61_code 2 = .ok (.lcmp, 1) := by decide +kernel
theorem d1_3 : decode jdk_29_method_61_code 3 = .ok (.ifCond .ge 8, 3) := by decide +kernel
theorem d1_6 : decode jdk_29_method_61_code 6 = .ok (.lload_n 0, 1) := by decide +kernel
theorem d1_7 : decode jdk_29_method_61_code 7 = .ok (.lneg, 1) := by decide +kernel
theorem d1_8 : decode jdk_29_method_61_code 8 = .ok (.goto 4, 3) := by decide +kernel
theorem d1_11 : decode jdk_29_method_61_code 11 = .ok (.lload_n 0, 1) := by decide +kernel
theorem d1_12 : decode jdk_29_method_61_code 12 = .ok (.lreturn, 1) := by decide +kernel
theorem ef1 (m : MethodId) (z0 : Int64) : entryFrame m #[(.long z0)] 2 = mkF m 0 #[.val (.long z0), .second] [] := by first | (simp [entryFrame, mkF, argsToLocals, Value.category]; done) | rfl
def Q1 (Z : State) (q1 : Int64) (h0 : Heap) (n0 : Nat) (v : Option Value) (h : Heap) (L : List Loc) : Prop := v = some (.long (own_abs q1)) ∧ Fr n0 L ∧ h = h0
set_option maxRecDepth 65536 in
set_option maxHeartbeats 40000000 in
theorem rm1 (l : Launch) (Z : State) (a0 : Array Value) (hw : ∀ d ∈ tables_1, d.before a0 Z = true) (ws : List Jvm.Cond) (q1 : Int64) (h0 : Heap) (n0 : Nat) (Z0 : n0 ≤ h0.size)  :
    MetFree l (⟨"java/lang/Math", "abs", "(J)J"⟩ : MethodName) (head1 (Jvm.Cond.code (⟨"java/lang/Math", "abs", "(J)J"⟩ : MethodName) jdk_29_method_61_code 2 (Option.some Jvm.ClassFile.FieldType.long) :: ws) ({ frames := 0, cells := 0, slots := 0, locals := 0 } : Room)) (fun a U => a = #[(.long q1)] ∧ Z.Warmed39 U.vm ∧ U.heap = h0) (fun _ _ _ _ _ => True) (fun _ U o U' => ∃ v L, o = .returned v ∧ Q1 Z q1 h0 n0 v U'.heap L ∧ FrameEnd U o U' L ({ frames := 0, cells := 0, slots := 0, locals := 0 } : Room).cells ({ frames := 0, cells := 0, slots := 0, locals := 0 } : Room).slots) := by
  refine MetFree.of_bodySF (by decide +kernel) hisR ?_
  intro p e s m args below meth c s₁ Bd hml0 hP hK
  obtain ⟨rfl, hZ, hh⟩ := hP
  have hx := Bd.exec
  have hby := Bd.bytes
  have hml : c.maxLocals = 2 := hml0
  have hown : s.vm.findClass "java/lang/Math" = some m.cls := findClass_of_methodNamed Bd.named
  have hnm := (name_of_methodNamed Bd.named Bd.method).1
  have X0 : Stand p l e ({ frames := 0, cells := 0, slots := 0, locals := 0 } : Room) s m #[(.long q1)] below meth c s₁ [] 0 0 := Stand.of_body Bd
  have e0 : s₁.heap = h0 := by rw [← hh, Bd.state]; rfl
  have N0 := Fr.nil n0
  show Go p e below (Ret s (Q1 Z q1 h0 n0) ({ frames := 0, cells := 0, slots := 0, locals := 0 } : Room).cells ({ frames := 0, cells := 0, slots := 0, locals := 0 } : Room).slots) (s₁.setTop (entryFrame m #[(.long q1)] 2))
  rw [ef1 m q1]
  refine g_lloadN X0 hx (hb hby d1_0) rfl ?_
  refine g_lconst0 X0 hx (hb hby d1_1) ?_
  refine g_lcmp X0 hx (hb hby d1_2) ?_
  by_cases hc3_1 : q1 < (0 : Int64)
  ·
    refine g_ifNo X0 hx (hb hby d1_3) (tlt ((lw_lt _ _).mpr hc3_1)).2.1 ?_
    refine g_lloadN X0 hx (hb hby d1_6) rfl ?_
    obtain ⟨l2, hl2⟩ : ∃ v : Int64, -q1 = v := ⟨_, rfl⟩
    refine g_lneg X0 hx (hb hby d1_7) hl2 ?_
    refine g_goto X0 hx (hb hby d1_8) (by decide) (pc' := 12) (by decide) ?_
    refine g_lreturn X0 hx Bd.notSynchronized Bd.returns (hb hby d1_12) (by decide) (by decide) ?_
    subst hl2
    exact ⟨by simp only [own_abs, hc3_1, if_true, if_false], N0, e0⟩
  ·
    refine g_ifYes X0 hx (hb hby d1_3) (flt (fun q => hc3_1 ((lw_lt _ _).mp q))).2.1 (by decide) (pc' := 11) (by decide) ?_
    refine g_lloadN X0 hx (hb hby d1_11) rfl ?_
    refine g_lreturn X0 hx Bd.notSynchronized Bd.returns (hb hby d1_12) (by decide) (by decide) ?_
    exact ⟨by simp only [own_abs, hc3_1, if_true, if_false], N0, e0⟩
theorem d2_0 : decode prog_51_method_22_code 0 = .ok (.dload_n 0, 1) := by decide +kernel
theorem d2_1 : decode prog_51_method_22_code 1 = .ok (.ldc2_w 103, 3) := by decide +kernel
theorem d2_4 : decode prog_51_method_22_code 4 = .ok (.drem, 1) := by decide +kernel
theorem d2_5 : decode prog_51_method_22_code 5 = .ok (.dstore_n 2, 1) := by decide +kernel
theorem d2_6 : decode prog_51_method_22_code 6 = .ok (.dload_n 2, 1) := by decide +kernel
theorem d2_7 : decode prog_51_method_22_code 7 = .ok (.dconst 0, 1) := by decide +kernel
theorem d2_8 : decode prog_51_method_22_code 8 = .ok (.dcmp .g, 1) := by decide +kernel
theorem d2_9 : decode prog_51_method_22_code 9 = .ok (.ifCond .ge 11, 3) := by decide +kernel
theorem d2_12 : decode prog_51_method_22_code 12 = .ok (.dload_n 2, 1) := by decide +kernel
theorem d2_13 : decode prog_51_method_22_code 13 = .ok (.ldc2_w 103, 3) := by decide +kernel
theorem d2_16 : decode prog_51_method_22_code 16 = .ok (.dadd, 1) := by decide +kernel
theorem d2_17 : decode prog_51_method_22_code 17 = .ok (.goto 4, 3) := by decide +kernel
theorem d2_20 : decode prog_51_method_22_code 20 = .ok (.dload_n 2, 1) := by decide +kernel
theorem d2_21 : decode prog_51_method_22_code 21 = .ok (.dreturn, 1) := by decide +kernel
theorem pn2 : plainName "com/example/ordinate/ordinate/plane/Edge" = true := by first | (simp [plainName, overriddenIn]; done) | decide +kernel
theorem ef2 (m : MethodId) (z0 : UInt64) : entryFrame m #[(.double z0)] 4 = mkF m 0 #[.val (.double z0), .second, .unset, .unset] [] := by first | (simp [entryFrame, mkF, argsToLocals, Value.category]; done) | rfl
def Q2 (Z : State) (q1 : UInt64) (h0 : Heap) (n0 : Nat) (v : Option Value) (h : Heap) (L : List Loc) : Prop := v = some (.double (own_turn q1)) ∧ Fr n0 L ∧ h = h0
set_option maxRecDepth 65536 in
set_option maxHeartbeats 40000000 in
theorem rm2 (l : Launch) (Z : State) (a0 : Array Value) (hw : ∀ d ∈ tables_1, d.before a0 Z = true) (ws : List Jvm.Cond) (q1 : UInt64) (h0 : Heap) (n0 : Nat) (Z0 : n0 ≤ h0.size) (hF : Jvm.Free.Fl.Fin64 q1) :
    MetFree l (⟨"com/example/ordinate/ordinate/plane/Edge", "turn", "(D)D"⟩ : MethodName) (head1 (Jvm.Cond.code (⟨"com/example/ordinate/ordinate/plane/Edge", "turn", "(D)D"⟩ : MethodName) prog_51_method_22_code 4 (Option.some Jvm.ClassFile.FieldType.double) :: ws) ({ frames := 0, cells := 0, slots := 0, locals := 0 } : Room)) (fun a U => a = #[(.double q1)] ∧ Z.Warmed39 U.vm ∧ U.heap = h0) (fun _ _ _ _ _ => True) (fun _ U o U' => ∃ v L, o = .returned v ∧ Q2 Z q1 h0 n0 v U'.heap L ∧ FrameEnd U o U' L ({ frames := 0, cells := 0, slots := 0, locals := 0 } : Room).cells ({ frames := 0, cells := 0, slots := 0, locals := 0 } : Room).slots) := by
  refine MetFree.of_bodySF (plainFor_of_name pn2) hisR ?_
  intro p e s m args below meth c s₁ Bd hml0 hP hK
  obtain ⟨rfl, hZ, hh⟩ := hP
  have hx := Bd.exec
  have hby := Bd.bytes
  have hml : c.maxLocals = 4 := hml0
  have hown : s.vm.findClass "com/example/ordinate/ordinate/plane/Edge" = some m.cls := findClass_of_methodNamed Bd.named
  have hnm := (name_of_methodNamed Bd.named Bd.method).1
  have X0 : Stand p l e ({ frames := 0, cells := 0, slots := 0, locals := 0 } : Room) s m #[(.double q1)] below meth c s₁ [] 0 0 := Stand.of_body Bd
  have e0 : s₁.heap = h0 := by rw [← hh, Bd.state]; rfl
  have N0 := Fr.nil n0
  show Go p e below (Ret s (Q2 Z q1 h0 n0) ({ frames := 0, cells := 0, slots := 0, locals := 0 } : Room).cells ({ frames := 0, cells := 0, slots := 0, locals := 0 } : Room).slots) (s₁.setTop (entryFrame m #[(.double q1)] 4))
  rw [ef2 m q1]
  refine g_dloadN X0 hx (hb hby d2_0) rfl ?_
  refine g_ldc2D X0 hx hZ hown (hw _ (List.mem_of_getElem? (i := 9) rfl)) (hb hby d2_1) ?_
  have n1 : Jvm.Free.Fl.NoNaN64 (FP.drem q1 (4618760256179416344 : UInt64)) := Jvm.Free.Fl.drem_out hF own_finTP.noNaN own_nzTP
  obtain ⟨d2, hd2⟩ : ∃ v : UInt64, FP.drem q1 (4618760256179416344 : UInt64) = v := ⟨_, rfl⟩
  have nn_d2 : Jvm.Free.Fl.NoNaN64 d2 := by rw [← hd2]; exact n1
  refine g_drem X0 hx (hb hby d2_4) n1 hd2 ?_
  refine g_dstoreN X0 hx (hb hby d2_5) (L' := #[.val (.double q1), .second, .val (.double d2), .second]) rfl ?_
  refine g_dloadN X0 hx (hb hby d2_6) rfl ?_
  refine g_dconst0 X0 hx (hb hby d2_7) ?_
  refine g_dcmp X0 hx (hb hby d2_8) ?_
  by_cases hc9_3 : FP.dcmp d2 (0 : UInt64) = some .lt
  ·
    refine g_ifNo X0 hx (hb hby d2_9) (tlt ((cv_g_lt _).mpr hc9_3)).2.1 ?_
    refine g_dloadN X0 hx (hb hby d2_12) rfl ?_
    refine g_ldc2D X0 hx hZ hown (hw _ (List.mem_of_getElem? (i := 9) rfl)) (hb hby d2_13) ?_
    have n4 : Jvm.Free.Fl.NoNaN64 (FP.dadd d2 (4618760256179416344 : UInt64)) := Jvm.Free.Fl.dadd_out nn_d2 own_finTP
    obtain ⟨d5, hd5⟩ : ∃ v : UInt64, FP.dadd d2 (4618760256179416344 : UInt64) = v := ⟨_, rfl⟩
    have nn_d5 : Jvm.Free.Fl.NoNaN64 d5 := by rw [← hd5]; exact n4
    refine g_dadd X0 hx (hb hby d2_16) n4 hd5 ?_
    refine g_goto X0 hx (hb hby d2_17) (by decide) (pc' := 21) (by decide) ?_
    refine g_dreturn X0 hx Bd.notSynchronized Bd.returns (hb hby d2_21) (by decide) (by decide) ?_
    subst hd2 hd5
    exact ⟨by simp only [own_turn, hc9_3, if_true, if_false], N0, e0⟩
  ·
    refine g_ifYes X0 hx (hb hby d2_9) (flt (fun q => hc9_3 ((cv_g_lt _).mp q))).2.1 (by decide) (pc' := 20) (by decide) ?_
    refine g_dloadN X0 hx (hb hby d2_20) rfl ?_
    refine g_dreturn X0 hx Bd.notSynchronized Bd.returns (hb hby d2_21) (by decide) (by decide) ?_
    subst hd2
    exact ⟨by simp only [own_turn, hc9_3, if_true, if_false], N0, e0⟩
theorem d3_0 : decode method_3_code 0 = .ok (.iload_n 0, 1) := by decide +kernel
theorem d3_1 : decode method_3_code 1 = .ok (.bipush 19, 2) := by decide +kernel
theorem d3_3 : decode method_3_code 3 = .ok (.if_icmp .lt 13, 3) := by decide +kernel
theorem d3_6 : decode method_3_code 6 = .ok (.dload_n 1, 1) := by decide +kernel
theorem d3_7 : decode method_3_code 7 = .ok (.ldc2_w 27, 3) := by decide +kernel
theorem d3_10 : decode method_3_code 10 = .ok (.dload_n 3, 1) := by decide +kernel
theorem d3_11 : decode method_3_code 11 = .ok (.dmul, 1) := by decide +kernel
theorem d3_12 : decode method_3_code 12 = .ok (.dsub, 1) := by decide +kernel
theorem d3_13 : decode method_3_code 13 = .ok (.dload_n 3, 1) := by decide +kernel
theorem d3_14 : decode method_3_code 14 = .ok (.dsub, 1) := by decide +kernel
theorem d3_15 : decode method_3_code 15 = .ok (.dreturn, 1) := by decide +kernel
theorem d3_16 : decode method_3_code 16 = .ok (.iload_n 0, 1) := by decide +kernel
theorem d3_17 : decode method_3_code 17 = .ok (.bipush 13, 2) := by decide +kernel
theorem d3_19 : decode method_3_code 19 = .ok (.if_icmp .lt 11, 3) := by decide +kernel
theorem d3_22 : decode method_3_code 22 = .ok (.dload_n 1, 1) := by decide +kernel
theorem d3_23 : decode method_3_code 23 = .ok (.ldc2_w 27, 3) := by decide +kernel
theorem d3_26 : decode method_3_code 26 = .ok (.dload_n 3, 1) := by decide +kernel
theorem d3_27 : decode method_3_code 27 = .ok (.dmul, 1) := by decide +kernel
theorem d3_28 : decode method_3_code 28 = .ok (.dsub, 1) := by decide +kernel
theorem d3_29 : decode method_3_code 29 = .ok (.dreturn, 1) := by decide +kernel
theorem d3_30 : decode method_3_code 30 = .ok (.iload_n 0, 1) := by decide +kernel
theorem d3_31 : decode method_3_code 31 = .ok (.bipush 7, 2) := by decide +kernel
theorem d3_33 : decode method_3_code 33 = .ok (.if_icmp .lt 7, 3) := by decide +kernel
theorem d3_36 : decode method_3_code 36 = .ok (.dload_n 1, 1) := by decide +kernel
theorem d3_37 : decode method_3_code 37 = .ok (.dload_n 3, 1) := by decide +kernel
theorem d3_38 : decode method_3_code 38 = .ok (.dsub, 1) := by decide +kernel
theorem d3_39 : decode method_3_code 39 = .ok (.dreturn, 1) := by decide +kernel
theorem d3_40 : decode method_3_code 40 = .ok (.iload_n 0, 1) := by decide +kernel
theorem d3_41 : decode method_3_code 41 = .ok (.ifCond .lt 5, 3) := by decide +kernel
theorem d3_44 : decode method_3_code 44 = .ok (.dload_n 1, 1) := by decide +kernel
theorem d3_45 : decode method_3_code 45 = .ok (.dreturn, 1) := by decide +kernel
theorem d3_46 : decode method_3_code 46 = .ok (.iload_n 0, 1) := by decide +kernel
theorem d3_47 : decode method_3_code 47 = .ok (.bipush (-6), 2) := by decide +kernel
theorem d3_49 : decode method_3_code 49 = .ok (.if_icmp .lt 7, 3) := by decide +kernel
theorem d3_52 : decode method_3_code 52 = .ok (.dload_n 1, 1) := by decide +kernel
theorem d3_53 : decode method_3_code 53 = .ok (.dload_n 3, 1) := by decide +kernel
theorem d3_54 : decode method_3_code 54 = .ok (.dadd, 1) := by decide +kernel
theorem d3_55 : decode method_3_code 55 = .ok (.dreturn, 1) := by decide +kernel
theorem d3_56 : decode method_3_code 56 = .ok (.iload_n 0, 1) := by decide +kernel
theorem d3_57 : decode method_3_code 57 = .ok (.bipush (-12), 2) := by decide +kernel
theorem d3_59 : decode method_3_code 59 = .ok (.if_icmp .lt 11, 3) := by decide +kernel
theorem d3_62 : decode method_3_code 62 = .ok (.dload_n 1, 1) := by decide +kernel
theorem d3_63 : decode method_3_code 63 = .ok (.ldc2_w 27, 3) := by decide +kernel
theorem d3_66 : decode method_3_code 66 = .ok (.dload_n 3, 1) := by decide +kernel
theorem d3_67 : decode method_3_code 67 = .ok (.dmul, 1) := by decide +kernel
theorem d3_68 : decode method_3_code 68 = .ok (.dadd, 1) := by decide +kernel
theorem d3_69 : decode method_3_code 69 = .ok (.dreturn, 1) := by decide +kernel
theorem d3_70 : decode method_3_code 70 = .ok (.iload_n 0, 1) := by decide +kernel
theorem d3_71 : decode method_3_code 71 = .ok (.bipush (-18), 2) := by decide +kernel
theorem d3_73 : decode method_3_code 73 = .ok (.if_icmp .lt 13, 3) := by decide +kernel
theorem d3_76 : decode method_3_code 76 = .ok (.dload_n 1, 1) := by decide +kernel
theorem d3_77 : decode method_3_code 77 = .ok (.ldc2_w 27, 3) := by decide +kernel
theorem d3_80 : decode method_3_code 80 = .ok (.dload_n 3, 1) := by decide +kernel
theorem d3_81 : decode method_3_code 81 = .ok (.dmul, 1) := by decide +kernel
theorem d3_82 : decode method_3_code 82 = .ok (.dadd, 1) := by decide +kernel
theorem d3_83 : decode method_3_code 83 = .ok (.dload_n 3, 1) := by decide +kernel
theorem d3_84 : decode method_3_code 84 = .ok (.dadd, 1) := by decide +kernel
theorem d3_85 : decode method_3_code 85 = .ok (.dreturn, 1) := by decide +kernel
theorem d3_86 : decode method_3_code 86 = .ok (.dload_n 1, 1) := by decide +kernel
theorem d3_87 : decode method_3_code 87 = .ok (.ldc2_w 29, 3) := by decide +kernel
theorem d3_90 : decode method_3_code 90 = .ok (.dload_n 3, 1) := by decide +kernel
theorem d3_91 : decode method_3_code 91 = .ok (.dmul, 1) := by decide +kernel
theorem d3_92 : decode method_3_code 92 = .ok (.dadd, 1) := by decide +kernel
theorem d3_93 : decode method_3_code 93 = .ok (.dreturn, 1) := by decide +kernel
theorem pn3 : plainName "com/example/ordinate/ordinate/plane/EdgeTurnPinLaw" = true := by first | (simp [plainName, overriddenIn]; done) | decide +kernel
theorem ef3 (m : MethodId) (z0 : Int32) (z1 : UInt64) (z2 : UInt64) : entryFrame m #[(.int z0), (.double z1), (.double z2)] 5 = mkF m 0 #[.val (.int z0), .val (.double z1), .second, .val (.double z2), .second] [] := by first | (simp [entryFrame, mkF, argsToLocals, Value.category]; done) | rfl
def Q3 (Z : State) (q1 : Int32) (q2 : UInt64) (q3 : UInt64) (h0 : Heap) (n0 : Nat) (v : Option Value) (h : Heap) (L : List Loc) : Prop := v = some (.double (own_exp q1 q2 q3)) ∧ Fr n0 L ∧ h = h0
set_option maxRecDepth 65536 in
set_option maxHeartbeats 40000000 in
theorem rm3 (l : Launch) (Z : State) (a0 : Array Value) (hw : ∀ d ∈ tables_1, d.before a0 Z = true) (ws : List Jvm.Cond) (q1 : Int32) (q2 : UInt64) (q3 : UInt64) (h0 : Heap) (n0 : Nat) (Z0 : n0 ≤ h0.size) (hF : Jvm.Free.Fl.Fin64 q2) (htp : q3 = (4618760256179416344 : UInt64)) :
    MetFree l (⟨"com/example/ordinate/ordinate/plane/EdgeTurnPinLaw", "expected", "(IDD)D"⟩ : MethodName) (head1 (Jvm.Cond.code (⟨"com/example/ordinate/ordinate/plane/EdgeTurnPinLaw", "expected", "(IDD)D"⟩ : MethodName) method_3_code 5 (Option.some Jvm.ClassFile.FieldType.double) :: ws) ({ frames := 0, cells := 0, slots := 0, locals := 0 } : Room)) (fun a U => a = #[(.int q1), (.double q2), (.double q3)] ∧ Z.Warmed39 U.vm ∧ U.heap = h0) (fun _ _ _ _ _ => True) (fun _ U o U' => ∃ v L, o = .returned v ∧ Q3 Z q1 q2 q3 h0 n0 v U'.heap L ∧ FrameEnd U o U' L ({ frames := 0, cells := 0, slots := 0, locals := 0 } : Room).cells ({ frames := 0, cells := 0, slots := 0, locals := 0 } : Room).slots) := by
  refine MetFree.of_bodySF (plainFor_of_name pn3) hisR ?_
  intro p e s m args below meth c s₁ Bd hml0 hP hK
  obtain ⟨rfl, hZ, hh⟩ := hP
  have hx := Bd.exec
  have hby := Bd.bytes
  have hml : c.maxLocals = 5 := hml0
  have hown : s.vm.findClass "com/example/ordinate/ordinate/plane/EdgeTurnPinLaw" = some m.cls := findClass_of_methodNamed Bd.named
  have hnm := (name_of_methodNamed Bd.named Bd.method).1
  have X0 : Stand p l e ({ frames := 0, cells := 0, slots := 0, locals := 0 } : Room) s m #[(.int q1), (.double q2), (.double q3)] below meth c s₁ [] 0 0 := Stand.of_body Bd
  have e0 : s₁.heap = h0 := by rw [← hh, Bd.state]; rfl
  have N0 := Fr.nil n0
  show Go p e below (Ret s (Q3 Z q1 q2 q3 h0 n0) ({ frames := 0, cells := 0, slots := 0, locals := 0 } : Room).cells ({ frames := 0, cells := 0, slots := 0, locals := 0 } : Room).slots) (s₁.setTop (entryFrame m #[(.int q1), (.double q2), (.double q3)] 5))
  rw [ef3 m q1 q2 q3]
  refine g_iloadN X0 hx (hb hby d3_0) rfl ?_
  refine g_bipush X0 hx (hb hby d3_1) (v := (19 : Int32)) (by decide) ?_
  by_cases hc3_1 : q1 < (19 : Int32)
  ·
    refine g_icmpYes X0 hx (hb hby d3_3) (tlt hc3_1).1 (by decide) (pc' := 16) (by decide) ?_
    refine g_iloadN X0 hx (hb hby d3_16) rfl ?_
    refine g_bipush X0 hx (hb hby d3_17) (v := (13 : Int32)) (by decide) ?_
    by_cases hc19_2 : q1 < (13 : Int32)
    ·
      refine g_icmpYes X0 hx (hb hby d3_19) (tlt hc19_2).1 (by decide) (pc' := 30) (by decide) ?_
      refine g_iloadN X0 hx (hb hby d3_30) rfl ?_
      refine g_bipush X0 hx (hb hby d3_31) (v := (7 : Int32)) (by decide) ?_
      by_cases hc33_3 : q1 < (7 : Int32)
      ·
        refine g_icmpYes X0 hx (hb hby d3_33) (tlt hc33_3).1 (by decide) (pc' := 40) (by decide) ?_
        refine g_iloadN X0 hx (hb hby d3_40) rfl ?_
        by_cases hc41_4 : q1 < (0 : Int32)
        ·
          refine g_ifYes X0 hx (hb hby d3_41) (tlt hc41_4).1 (by decide) (pc' := 46) (by decide) ?_
          refine g_iloadN X0 hx (hb hby d3_46) rfl ?_
          refine g_bipush X0 hx (hb hby d3_47) (v := (-6 : Int32)) (by decide) ?_
          by_cases hc49_5 : q1 < (-6 : Int32)
          ·
            refine g_icmpYes X0 hx (hb hby d3_49) (tlt hc49_5).1 (by decide) (pc' := 56) (by decide) ?_
            refine g_iloadN X0 hx (hb hby d3_56) rfl ?_
            refine g_bipush X0 hx (hb hby d3_57) (v := (-12 : Int32)) (by decide) ?_
            by_cases hc59_6 : q1 < (-12 : Int32)
            ·
              refine g_icmpYes X0 hx (hb hby d3_59) (tlt hc59_6).1 (by decide) (pc' := 70) (by decide) ?_
              refine g_iloadN X0 hx (hb hby d3_70) rfl ?_
              refine g_bipush X0 hx (hb hby d3_71) (v := (-18 : Int32)) (by decide) ?_
              by_cases hc73_7 : q1 < (-18 : Int32)
              ·
                refine g_icmpYes X0 hx (hb hby d3_73) (tlt hc73_7).1 (by decide) (pc' := 86) (by decide) ?_
                refine g_dloadN X0 hx (hb hby d3_86) rfl ?_
                refine g_ldc2D X0 hx hZ hown (hw _ (List.mem_of_getElem? (i := 14) rfl)) (hb hby d3_87) ?_
                refine g_dloadN X0 hx (hb hby d3_90) rfl ?_
                have n8 : Jvm.Free.Fl.NoNaN64 (FP.dmul (4616189618054758400 : UInt64) q3) := (by rw [htp]; exact Jvm.Free.Fl.dmul_out own_fin4 own_finTP)
                obtain ⟨d9, hd9⟩ : ∃ v : UInt64, FP.dmul (4616189618054758400 : UInt64) q3 = v := ⟨_, rfl⟩
                have nn_d9 : Jvm.Free.Fl.NoNaN64 d9 := by rw [← hd9]; exact n8
                refine g_dmul X0 hx (hb hby d3_91) n8 hd9 ?_
                have n10 : Jvm.Free.Fl.NoNaN64 (FP.dadd q2 d9) := Jvm.Free.Fl.dadd_out hF.noNaN (by rw [← hd9, htp]; exact own_fin4TP)
                obtain ⟨d11, hd11⟩ : ∃ v : UInt64, FP.dadd q2 d9 = v := ⟨_, rfl⟩
                have nn_d11 : Jvm.Free.Fl.NoNaN64 d11 := by rw [← hd11]; exact n10
                refine g_dadd X0 hx (hb hby d3_92) n10 hd11 ?_
                refine g_dreturn X0 hx Bd.notSynchronized Bd.returns (hb hby d3_93) (by decide) (by decide) ?_
                subst hd9 hd11
                exact ⟨by simp only [own_exp, hc3_1, hc19_2, hc33_3, hc41_4, hc49_5, hc59_6, hc73_7, if_true, if_false], N0, e0⟩
              ·
                refine g_icmpNo X0 hx (hb hby d3_73) (flt hc73_7).1 ?_
                refine g_dloadN X0 hx (hb hby d3_76) rfl ?_
                refine g_ldc2D X0 hx hZ hown (hw _ (List.mem_of_getElem? (i := 15) rfl)) (hb hby d3_77) ?_
                refine g_dloadN X0 hx (hb hby d3_80) rfl ?_
                have n12 : Jvm.Free.Fl.NoNaN64 (FP.dmul (4611686018427387904 : UInt64) q3) := (by rw [htp]; exact Jvm.Free.Fl.dmul_out own_fin2 own_finTP)
                obtain ⟨d13, hd13⟩ : ∃ v : UInt64, FP.dmul (4611686018427387904 : UInt64) q3 = v := ⟨_, rfl⟩
                have nn_d13 : Jvm.Free.Fl.NoNaN64 d13 := by rw [← hd13]; exact n12
                refine g_dmul X0 hx (hb hby d3_81) n12 hd13 ?_
                have n14 : Jvm.Free.Fl.NoNaN64 (FP.dadd q2 d13) := Jvm.Free.Fl.dadd_out hF.noNaN (by rw [← hd13, htp]; exact own_fin2TP)
                obtain ⟨d15, hd15⟩ : ∃ v : UInt64, FP.dadd q2 d13 = v := ⟨_, rfl⟩
                have nn_d15 : Jvm.Free.Fl.NoNaN64 d15 := by rw [← hd15]; exact n14
                refine g_dadd X0 hx (hb hby d3_82) n14 hd15 ?_
                refine g_dloadN X0 hx (hb hby d3_83) rfl ?_
                have n16 : Jvm.Free.Fl.NoNaN64 (FP.dadd d15 q3) := Jvm.Free.Fl.dadd_out nn_d15 (htp ▸ own_finTP)
                obtain ⟨d17, hd17⟩ : ∃ v : UInt64, FP.dadd d15 q3 = v := ⟨_, rfl⟩
                have nn_d17 : Jvm.Free.Fl.NoNaN64 d17 := by rw [← hd17]; exact n16
                refine g_dadd X0 hx (hb hby d3_84) n16 hd17 ?_
                refine g_dreturn X0 hx Bd.notSynchronized Bd.returns (hb hby d3_85) (by decide) (by decide) ?_
                subst hd13 hd15 hd17
                exact ⟨by simp only [own_exp, hc3_1, hc19_2, hc33_3, hc41_4, hc49_5, hc59_6, hc73_7, if_true, if_false], N0, e0⟩
            ·
              refine g_icmpNo X0 hx (hb hby d3_59) (flt hc59_6).1 ?_
              refine g_dloadN X0 hx (hb hby d3_62) rfl ?_
              refine g_ldc2D X0 hx hZ hown (hw _ (List.mem_of_getElem? (i := 15) rfl)) (hb hby d3_63) ?_
              refine g_dloadN X0 hx (hb hby d3_66) rfl ?_
              have n18 : Jvm.Free.Fl.NoNaN64 (FP.dmul (4611686018427387904 : UInt64) q3) := (by rw [htp]; exact Jvm.Free.Fl.dmul_out own_fin2 own_finTP)
              obtain ⟨d19, hd19⟩ : ∃ v : UInt64, FP.dmul (4611686018427387904 : UInt64) q3 = v := ⟨_, rfl⟩
              have nn_d19 : Jvm.Free.Fl.NoNaN64 d19 := by rw [← hd19]; exact n18
              refine g_dmul X0 hx (hb hby d3_67) n18 hd19 ?_
              have n20 : Jvm.Free.Fl.NoNaN64 (FP.dadd q2 d19) := Jvm.Free.Fl.dadd_out hF.noNaN (by rw [← hd19, htp]; exact own_fin2TP)
              obtain ⟨d21, hd21⟩ : ∃ v : UInt64, FP.dadd q2 d19 = v := ⟨_, rfl⟩
              have nn_d21 : Jvm.Free.Fl.NoNaN64 d21 := by rw [← hd21]; exact n20
              refine g_dadd X0 hx (hb hby d3_68) n20 hd21 ?_
              refine g_dreturn X0 hx Bd.notSynchronized Bd.returns (hb hby d3_69) (by decide) (by decide) ?_
              subst hd19 hd21
              exact ⟨by simp only [own_exp, hc3_1, hc19_2, hc33_3, hc41_4, hc49_5, hc59_6, if_true, if_false], N0, e0⟩
          ·
            refine g_icmpNo X0 hx (hb hby d3_49) (flt hc49_5).1 ?_
            refine g_dloadN X0 hx (hb hby d3_52) rfl ?_
            refine g_dloadN X0 hx (hb hby d3_53) rfl ?_
            have n22 : Jvm.Free.Fl.NoNaN64 (FP.dadd q2 q3) := Jvm.Free.Fl.dadd_out hF.noNaN (htp ▸ own_finTP)
            obtain ⟨d23, hd23⟩ : ∃ v : UInt64, FP.dadd q2 q3 = v := ⟨_, rfl⟩
            have nn_d23 : Jvm.Free.Fl.NoNaN64 d23 := by rw [← hd23]; exact n22
            refine g_dadd X0 hx (hb hby d3_54) n22 hd23 ?_
            refine g_dreturn X0 hx Bd.notSynchronized Bd.returns (hb hby d3_55) (by decide) (by decide) ?_
            subst hd23
            exact ⟨by simp only [own_exp, hc3_1, hc19_2, hc33_3, hc41_4, hc49_5, if_true, if_false], N0, e0⟩
        ·
          refine g_ifNo X0 hx (hb hby d3_41) (flt hc41_4).1 ?_
          refine g_dloadN X0 hx (hb hby d3_44) rfl ?_
          refine g_dreturn X0 hx Bd.notSynchronized Bd.returns (hb hby d3_45) (by decide) (by decide) ?_
          exact ⟨by simp only [own_exp, hc3_1, hc19_2, hc33_3, hc41_4, if_true, if_false], N0, e0⟩
      ·
        refine g_icmpNo X0 hx (hb hby d3_33) (flt hc33_3).1 ?_
        refine g_dloadN X0 hx (hb hby d3_36) rfl ?_
        refine g_dloadN X0 hx (hb hby d3_37) rfl ?_
        have n24 : Jvm.Free.Fl.NoNaN64 (FP.dsub q2 q3) := Jvm.Free.Fl.dsub_out hF.noNaN (htp ▸ own_finTP)
        obtain ⟨d25, hd25⟩ : ∃ v : UInt64, FP.dsub q2 q3 = v := ⟨_, rfl⟩
        have nn_d25 : Jvm.Free.Fl.NoNaN64 d25 := by rw [← hd25]; exact n24
        refine g_dsub X0 hx (hb hby d3_38) n24 hd25 ?_
        refine g_dreturn X0 hx Bd.notSynchronized Bd.returns (hb hby d3_39) (by decide) (by decide) ?_
        subst hd25
        exact ⟨by simp only [own_exp, hc3_1, hc19_2, hc33_3, if_true, if_false], N0, e0⟩
    ·
      refine g_icmpNo X0 hx (hb hby d3_19) (flt hc19_2).1 ?_
      refine g_dloadN X0 hx (hb hby d3_22) rfl ?_
      refine g_ldc2D X0 hx hZ hown (hw _ (List.mem_of_getElem? (i := 15) rfl)) (hb hby d3_23) ?_
      refine g_dloadN X0 hx (hb hby d3_26) rfl ?_
      have n26 : Jvm.Free.Fl.NoNaN64 (FP.dmul (4611686018427387904 : UInt64) q3) := (by rw [htp]; exact Jvm.Free.Fl.dmul_out own_fin2 own_finTP)
      obtain ⟨d27, hd27⟩ : ∃ v : UInt64, FP.dmul (4611686018427387904 : UInt64) q3 = v := ⟨_, rfl⟩
      have nn_d27 : Jvm.Free.Fl.NoNaN64 d27 := by rw [← hd27]; exact n26
      refine g_dmul X0 hx (hb hby d3_27) n26 hd27 ?_
      have n28 : Jvm.Free.Fl.NoNaN64 (FP.dsub q2 d27) := Jvm.Free.Fl.dsub_out hF.noNaN (by rw [← hd27, htp]; exact own_fin2TP)
      obtain ⟨d29, hd29⟩ : ∃ v : UInt64, FP.dsub q2 d27 = v := ⟨_, rfl⟩
      have nn_d29 : Jvm.Free.Fl.NoNaN64 d29 := by rw [← hd29]; exact n28
      refine g_dsub X0 hx (hb hby d3_28) n28 hd29 ?_
      refine g_dreturn X0 hx Bd.notSynchronized Bd.returns (hb hby d3_29) (by decide) (by decide) ?_
      subst hd27 hd29
      exact ⟨by simp only [own_exp, hc3_1, hc19_2, if_true, if_false], N0, e0⟩
  ·
    refine g_icmpNo X0 hx (hb hby d3_3) (flt hc3_1).1 ?_
    refine g_dloadN X0 hx (hb hby d3_6) rfl ?_
    refine g_ldc2D X0 hx hZ hown (hw _ (List.mem_of_getElem? (i := 15) rfl)) (hb hby d3_7) ?_
    refine g_dloadN X0 hx (hb hby d3_10) rfl ?_
    have n30 : Jvm.Free.Fl.NoNaN64 (FP.dmul (4611686018427387904 : UInt64) q3) := (by rw [htp]; exact Jvm.Free.Fl.dmul_out own_fin2 own_finTP)
    obtain ⟨d31, hd31⟩ : ∃ v : UInt64, FP.dmul (4611686018427387904 : UInt64) q3 = v := ⟨_, rfl⟩
    have nn_d31 : Jvm.Free.Fl.NoNaN64 d31 := by rw [← hd31]; exact n30
    refine g_dmul X0 hx (hb hby d3_11) n30 hd31 ?_
    have n32 : Jvm.Free.Fl.NoNaN64 (FP.dsub q2 d31) := Jvm.Free.Fl.dsub_out hF.noNaN (by rw [← hd31, htp]; exact own_fin2TP)
    obtain ⟨d33, hd33⟩ : ∃ v : UInt64, FP.dsub q2 d31 = v := ⟨_, rfl⟩
    have nn_d33 : Jvm.Free.Fl.NoNaN64 d33 := by rw [← hd33]; exact n32
    refine g_dsub X0 hx (hb hby d3_12) n32 hd33 ?_
    refine g_dloadN X0 hx (hb hby d3_13) rfl ?_
    have n34 : Jvm.Free.Fl.NoNaN64 (FP.dsub d33 q3) := Jvm.Free.Fl.dsub_out nn_d33 (htp ▸ own_finTP)
    obtain ⟨d35, hd35⟩ : ∃ v : UInt64, FP.dsub d33 q3 = v := ⟨_, rfl⟩
    have nn_d35 : Jvm.Free.Fl.NoNaN64 d35 := by rw [← hd35]; exact n34
    refine g_dsub X0 hx (hb hby d3_14) n34 hd35 ?_
    refine g_dreturn X0 hx Bd.notSynchronized Bd.returns (hb hby d3_15) (by decide) (by decide) ?_
    subst hd31 hd33 hd35
    exact ⟨by simp only [own_exp, hc3_1, if_true, if_false], N0, e0⟩
theorem pn0 : plainName "com/example/ordinate/ordinate/plane/EdgeTurnPinLaw" = true := by first | (simp [plainName, overriddenIn]; done) | decide +kernel
theorem pd0_0 : parseMethodDescriptor "(J)J" = some ⟨[.long], some .long⟩ := by decide +kernel
theorem pd0_1 : parseMethodDescriptor "(D)D" = some ⟨[.double], some .double⟩ := by decide +kernel
theorem pd0_2 : parseMethodDescriptor "(IDD)D" = some ⟨[.int, .double, .double], some .double⟩ := by decide +kernel
theorem ef0 (m : MethodId) (z0 : Int32) (z1 : Int32) : entryFrame m #[(.int z0), (.int z1)] maxLocals = mkF m 0 #[.val (.int z0), .val (.int z1), .unset, .unset, .unset, .unset, .unset, .unset, .unset, .unset, .unset, .unset, .unset, .unset, .unset, .unset] [] := by first | (simp [entryFrame, mkF, argsToLocals, Value.category, maxLocals]; done) | rfl
def Q0 (Z : State) (q0 : Int32) (q1 : Int32) (h0 : Heap) (n0 : Nat) (v : Option Value) (h : Heap) (L : List Loc) : Prop := v = some (.int 1) ∧ Fr n0 L
set_option maxRecDepth 65536 in
set_option maxHeartbeats 40000000 in
theorem rm0 (l : Launch) (Z : State) (a0 : Array Value) (hw : ∀ d ∈ tables_1, d.before a0 Z = true) (ws : List Jvm.Cond) (q0 : Int32) (q1 : Int32) (h0 : Heap) (n0 : Nat) (Z0 : n0 ≤ h0.size)  :
    MetFree l x (head1 (Jvm.Cond.code x code maxLocals ret :: ws) room_1) (fun a U => a = #[(.int q0), (.int q1)] ∧ Z.Warmed39 U.vm ∧ U.heap = h0) (fun _ _ _ _ _ => True) (fun _ U o U' => ∃ v L, o = .returned v ∧ Q0 Z q0 q1 h0 n0 v U'.heap L ∧ FrameEnd U o U' L 0 0) := by
  refine MetFree.of_bodySF (plainFor_of_name pn0) hisR ?_
  intro p e s m args below meth c s₁ Bd hml0 hP hK
  obtain ⟨rfl, hZ, hh⟩ := hP
  have hx := Bd.exec
  have hby := Bd.bytes
  have hml : c.maxLocals = 16 := hml0
  have hown : s.vm.findClass "com/example/ordinate/ordinate/plane/EdgeTurnPinLaw" = some m.cls := findClass_of_methodNamed Bd.named
  have hnm := (name_of_methodNamed Bd.named Bd.method).1
  have X0 : Stand p l e room_1 s m #[(.int q0), (.int q1)] below meth c s₁ [] 0 0 := Stand.of_body Bd
  have e0 : s₁.heap = h0 := by rw [← hh, Bd.state]; rfl
  have N0 := Fr.nil n0
  show Go p e below (Ret s (Q0 Z q0 q1 h0 n0) 0 0) (s₁.setTop (entryFrame m #[(.int q0), (.int q1)] maxLocals))
  rw [ef0 m q0 q1]
  refine g_ldc2D X0 hx hZ hown (hw _ (List.mem_of_getElem? (i := 0) rfl)) (hb hby at_0) ?_
  refine g_dstoreN X0 hx (hb hby at_3) (L' := #[.val (.int q0), .val (.int q1), .val (.double (4618760256179416344 : UInt64)), .second, .unset, .unset, .unset, .unset, .unset, .unset, .unset, .unset, .unset, .unset, .unset, .unset]) rfl ?_
  refine g_iloadN X0 hx (hb hby at_4) rfl ?_
  obtain ⟨l1, hl1⟩ : ∃ v : Int64, q0.toInt64 = v := ⟨_, rfl⟩
  refine g_i2l X0 hx (hb hby at_5) hl1 ?_
  refine g_callS X0 hx hZ hown (hw _ (List.mem_of_getElem? (i := 1) rfl)) (hw _ (List.mem_of_getElem? (i := 2) rfl)) (hw _ (List.mem_of_getElem? (i := 3) rfl)) (hw _ (List.mem_of_getElem? (i := 4) rfl)) (by decide) (rm1 l Z a0 hw [] l1 h0 n0 Z0) e0 (W := 0) (by decide) (by decide) (by rw [hml]; rfl) [(.long l1)] [] (lenOf pd0_0 rfl) rfl rfl (Nat.le_of_eq rfl) (hb hby at_6) (by decide) (by decide) ?_
  intro v6 T2 L5 X3 hQ4
  obtain ⟨rfl, N7, e8⟩ := hQ4
  have N9 := Fr.app N0 N7
  show Go p e below (Ret s (Q0 Z q0 q1 h0 n0) 0 0) (T2.setTop (mkF m 9 #[.val (.int q0), .val (.int q1), .val (.double (4618760256179416344 : UInt64)), .second, .unset, .unset, .unset, .unset, .unset, .unset, .unset, .unset, .unset, .unset, .unset, .unset] [(.long (own_abs l1))]))
  generalize hpp : (own_abs l1) = pp
  refine g_lstore X3 hx (hb hby at_9) (L' := #[.val (.int q0), .val (.int q1), .val (.double (4618760256179416344 : UInt64)), .second, .val (.long pp), .second, .unset, .unset, .unset, .unset, .unset, .unset, .unset, .unset, .unset, .unset]) rfl ?_
  refine g_lload X3 hx (hb hby at_11) rfl ?_
  obtain ⟨d10, hd10⟩ : ∃ v : UInt64, FP.l2d pp = v := ⟨_, rfl⟩
  have fin_d10 : Jvm.Free.Fl.Fin64 d10 := by rw [← hd10]; exact Jvm.Free.Fl.l2d_fin _
  refine g_l2d X3 hx (hb hby at_13) hd10 ?_
  refine g_callS X3 hx hZ hown (hw _ (List.mem_of_getElem? (i := 5) rfl)) (hw _ (List.mem_of_getElem? (i := 6) rfl)) (hw _ (List.mem_of_getElem? (i := 7) rfl)) (hw _ (List.mem_of_getElem? (i := 8) rfl)) (by decide) (rm2 l Z a0 hw [] d10 h0 n0 Z0 fin_d10) e8 (W := 0) (by decide) (by decide) (by rw [hml]; rfl) [(.double d10)] [] (lenOf pd0_1 rfl) rfl rfl (Nat.le_of_eq rfl) (hb hby at_14) (by decide) (by decide) ?_
  intro v15 T11 L14 X12 hQ13
  obtain ⟨rfl, N16, e17⟩ := hQ13
  have N18 := Fr.app N9 N16
  show Go p e below (Ret s (Q0 Z q0 q1 h0 n0) 0 0) (T11.setTop (mkF m 17 #[.val (.int q0), .val (.int q1), .val (.double (4618760256179416344 : UInt64)), .second, .val (.long pp), .second, .unset, .unset, .unset, .unset, .unset, .unset, .unset, .unset, .unset, .unset] [(.double (own_turn d10))]))
  generalize hrr : (own_turn d10) = rr
  refine g_dstore X12 hx (hb hby at_17) (L' := #[.val (.int q0), .val (.int q1), .val (.double (4618760256179416344 : UInt64)), .second, .val (.long pp), .second, .val (.double rr), .second, .unset, .unset, .unset, .unset, .unset, .unset, .unset, .unset]) rfl ?_
  refine g_lload X12 hx (hb hby at_19) rfl ?_
  obtain ⟨l19, hl19⟩ : ∃ v : Int64, -pp = v := ⟨_, rfl⟩
  refine g_lneg X12 hx (hb hby at_21) hl19 ?_
  obtain ⟨d20, hd20⟩ : ∃ v : UInt64, FP.l2d l19 = v := ⟨_, rfl⟩
  have fin_d20 : Jvm.Free.Fl.Fin64 d20 := by rw [← hd20]; exact Jvm.Free.Fl.l2d_fin _
  refine g_l2d X12 hx (hb hby at_22) hd20 ?_
  refine g_callS X12 hx hZ hown (hw _ (List.mem_of_getElem? (i := 5) rfl)) (hw _ (List.mem_of_getElem? (i := 6) rfl)) (hw _ (List.mem_of_getElem? (i := 7) rfl)) (hw _ (List.mem_of_getElem? (i := 8) rfl)) (by decide) (rm2 l Z a0 hw [] d20 h0 n0 Z0 fin_d20) e17 (W := 0) (by decide) (by decide) (by rw [hml]; rfl) [(.double d20)] [] (lenOf pd0_1 rfl) rfl rfl (Nat.le_of_eq rfl) (hb hby at_23) (by decide) (by decide) ?_
  intro v25 T21 L24 X22 hQ23
  obtain ⟨rfl, N26, e27⟩ := hQ23
  have N28 := Fr.app N18 N26
  show Go p e below (Ret s (Q0 Z q0 q1 h0 n0) 0 0) (T21.setTop (mkF m 26 #[.val (.int q0), .val (.int q1), .val (.double (4618760256179416344 : UInt64)), .second, .val (.long pp), .second, .val (.double rr), .second, .unset, .unset, .unset, .unset, .unset, .unset, .unset, .unset] [(.double (own_turn d20))]))
  generalize hss : (own_turn d20) = ss
  refine g_dstore X22 hx (hb hby at_26) (L' := #[.val (.int q0), .val (.int q1), .val (.double (4618760256179416344 : UInt64)), .second, .val (.long pp), .second, .val (.double rr), .second, .val (.double ss), .second, .unset, .unset, .unset, .unset, .unset, .unset]) rfl ?_
  refine g_lload X22 hx (hb hby at_28) rfl ?_
  refine g_lconst0 X22 hx (hb hby at_30) ?_
  refine g_lcmp X22 hx (hb hby at_31) ?_
  have hpr : 0 ≤ pp.toInt ∧ pp.toInt ≤ 2147483648 := by rw [← hpp, ← hl1]; exact own_abs_rng _
  by_cases hc32_29 : pp = (0 : Int64)
  ·
    refine g_ifNo X22 hx (hb hby at_32) (teq ((lw_eq _ _).mpr hc32_29)).2 ?_
    refine g_dload X22 hx (hb hby at_35) rfl ?_
    refine g_dconst0 X22 hx (hb hby at_37) ?_
    refine g_dcmp X22 hx (hb hby at_38) ?_
    have hc39_30 : FP.dcmp rr (0 : UInt64) = some .eq := (by rw [← hrr, ← hd10, hc32_29]; exact own_zero.1)
    refine g_ifNo X22 hx (hb hby at_39) (teq ((cv_l_eq _).mpr hc39_30)).2 ?_
    refine g_dload X22 hx (hb hby at_42) rfl ?_
    refine g_dconst0 X22 hx (hb hby at_44) ?_
    refine g_dcmp X22 hx (hb hby at_45) ?_
    have hc46_31 : FP.dcmp ss (0 : UInt64) = some .eq := (by rw [← hss, ← hd20, ← hl19, hc32_29]; exact own_zero.2)
    refine g_ifNo X22 hx (hb hby at_46) (teq ((cv_l_eq _).mpr hc46_31)).2 ?_
    refine g_iconst X22 hx (hb hby at_49) (v := (1 : Int32)) (by decide) ?_
    refine g_goto X22 hx (hb hby at_50) (by decide) (pc' := 54) (by decide) ?_
    refine g_istore X22 hx (hb hby at_54) (L' := #[.val (.int q0), .val (.int q1), .val (.double (4618760256179416344 : UInt64)), .second, .val (.long pp), .second, .val (.double rr), .second, .val (.double ss), .second, .val (.int (1 : Int32)), .unset, .unset, .unset, .unset, .unset]) rfl ?_
    refine g_goto X22 hx (hb hby at_56) (by decide) (pc' := 90) (by decide) ?_
    refine g_iloadN X22 hx (hb hby at_90) rfl ?_
    refine g_bipush X22 hx (hb hby at_91) (v := (26 : Int32)) (by decide) ?_
    obtain ⟨i32, hi32⟩ : ∃ v : Int32, q1 % (26 : Int32) = v := ⟨_, rfl⟩
    refine g_irem X22 hx (hb hby at_93) (by decide) hi32 ?_
    refine g_istore X22 hx (hb hby at_94) (L' := #[.val (.int q0), .val (.int q1), .val (.double (4618760256179416344 : UInt64)), .second, .val (.long pp), .second, .val (.double rr), .second, .val (.double ss), .second, .val (.int (1 : Int32)), .val (.int i32), .unset, .unset, .unset, .unset]) rfl ?_
    refine g_iload X22 hx (hb hby at_96) rfl ?_
    obtain ⟨d33, hd33⟩ : ∃ v : UInt64, FP.i2d i32 = v := ⟨_, rfl⟩
    have fin_d33 : Jvm.Free.Fl.Fin64 d33 := by rw [← hd33]; exact Jvm.Free.Fl.i2d_fin _
    refine g_i2d X22 hx (hb hby at_98) hd33 ?_
    refine g_dstore X22 hx (hb hby at_99) (L' := #[.val (.int q0), .val (.int q1), .val (.double (4618760256179416344 : UInt64)), .second, .val (.long pp), .second, .val (.double rr), .second, .val (.double ss), .second, .val (.int (1 : Int32)), .val (.int i32), .val (.double d33), .second, .unset, .unset]) rfl ?_
    refine g_dload X22 hx (hb hby at_101) rfl ?_
    refine g_callS X22 hx hZ hown (hw _ (List.mem_of_getElem? (i := 5) rfl)) (hw _ (List.mem_of_getElem? (i := 6) rfl)) (hw _ (List.mem_of_getElem? (i := 7) rfl)) (hw _ (List.mem_of_getElem? (i := 8) rfl)) (by decide) (rm2 l Z a0 hw [] d33 h0 n0 Z0 fin_d33) e27 (W := 0) (by decide) (by decide) (by rw [hml]; rfl) [(.double d33)] [] (lenOf pd0_1 rfl) rfl rfl (Nat.le_of_eq rfl) (hb hby at_103) (by decide) (by decide) ?_
    intro v38 T34 L37 X35 hQ36
    obtain ⟨rfl, N39, e40⟩ := hQ36
    have N41 := Fr.app N28 N39
    show Go p e below (Ret s (Q0 Z q0 q1 h0 n0) 0 0) (T34.setTop (mkF m 106 #[.val (.int q0), .val (.int q1), .val (.double (4618760256179416344 : UInt64)), .second, .val (.long pp), .second, .val (.double rr), .second, .val (.double ss), .second, .val (.int (1 : Int32)), .val (.int i32), .val (.double d33), .second, .unset, .unset] [(.double (own_turn d33))]))
    generalize htt : (own_turn d33) = tt
    refine g_dstore X35 hx (hb hby at_106) (L' := #[.val (.int q0), .val (.int q1), .val (.double (4618760256179416344 : UInt64)), .second, .val (.long pp), .second, .val (.double rr), .second, .val (.double ss), .second, .val (.int (1 : Int32)), .val (.int i32), .val (.double d33), .second, .val (.double tt), .second]) rfl ?_
    refine g_iload X35 hx (hb hby at_108) rfl ?_
    have hc110_42 : ¬ ((1 : Int32) = (0 : Int32)) := (by decide)
    refine g_ifNo X35 hx (hb hby at_110) (feq hc110_42).1 ?_
    refine g_dload X35 hx (hb hby at_113) rfl ?_
    refine g_iload X35 hx (hb hby at_115) rfl ?_
    refine g_dload X35 hx (hb hby at_117) rfl ?_
    refine g_dloadN X35 hx (hb hby at_119) rfl ?_
    refine g_callS X35 hx hZ hown (hw _ (List.mem_of_getElem? (i := 10) rfl)) (hw _ (List.mem_of_getElem? (i := 11) rfl)) (hw _ (List.mem_of_getElem? (i := 12) rfl)) (hw _ (List.mem_of_getElem? (i := 13) rfl)) (by decide) (rm3 l Z a0 hw [] i32 d33 (4618760256179416344 : UInt64) h0 n0 Z0 fin_d33 rfl) e40 (W := 2) (by decide) (by decide) (by rw [hml]; rfl) [(.int i32), (.double d33), (.double (4618760256179416344 : UInt64))] [(.double tt)] (lenOf pd0_2 rfl) rfl rfl (Nat.le_of_eq rfl) (hb hby at_120) (by decide) (by decide) ?_
    intro v47 T43 L46 X44 hQ45
    obtain ⟨rfl, N48, e49⟩ := hQ45
    have N50 := Fr.app N41 N48
    show Go p e below (Ret s (Q0 Z q0 q1 h0 n0) 0 0) (T43.setTop (mkF m 123 #[.val (.int q0), .val (.int q1), .val (.double (4618760256179416344 : UInt64)), .second, .val (.long pp), .second, .val (.double rr), .second, .val (.double ss), .second, .val (.int (1 : Int32)), .val (.int i32), .val (.double d33), .second, .val (.double tt), .second] [(.double (own_exp i32 d33 (4618760256179416344 : UInt64))), (.double tt)]))
    generalize hee : (own_exp i32 d33 (4618760256179416344 : UInt64)) = ee
    refine g_dcmp X44 hx (hb hby at_123) ?_
    have hc124_51 : FP.dcmp tt ee = some .eq := (by rw [← htt, ← hee, ← hd33, ← hi32]; exact own_smallV _)
    refine g_ifNo X44 hx (hb hby at_124) (teq ((cv_l_eq _).mpr hc124_51)).2 ?_
    refine g_iconst X44 hx (hb hby at_127) (v := (1 : Int32)) (by decide) ?_
    refine g_goto X44 hx (hb hby at_128) (by decide) (pc' := 132) (by decide) ?_
    refine g_ireturn X44 hx Bd.notSynchronized Bd.returns rfl (by simp) (hb hby at_132) (by decide) (by decide) ?_
    exact ⟨rfl, N50⟩
  ·
    refine g_ifYes X22 hx (hb hby at_32) (feq (fun q => hc32_29 ((lw_eq _ _).mp q))).2 (by decide) (pc' := 59) (by decide) ?_
    have hp0 : 0 < pp.toInt := by
      rcases Int.lt_or_eq_of_le hpr.1 with q | q
      · exact q
      · exact absurd (Int64.toInt_inj.mp q.symm) hc32_29
    obtain ⟨k1, k2, k3, k4⟩ := own_turnP hp0 hpr.2
    rw [hd10, hrr] at k1 k2 k3 k4
    rw [hl19, hd20, hss] at k3
    refine g_dconst0 X22 hx (hb hby at_59) ?_
    refine g_dload X22 hx (hb hby at_60) rfl ?_
    refine g_dcmp X22 hx (hb hby at_62) ?_
    have hc63_52 : FP.dcmp (0 : UInt64) rr = some .lt := k1
    refine g_ifNo X22 hx (hb hby at_63) (tlt ((cv_g_lt _).mpr hc63_52)).2.1 ?_
    refine g_dload X22 hx (hb hby at_66) rfl ?_
    refine g_dloadN X22 hx (hb hby at_68) rfl ?_
    refine g_dcmp X22 hx (hb hby at_69) ?_
    have hc70_53 : FP.dcmp rr (4618760256179416344 : UInt64) = some .lt := k2
    refine g_ifNo X22 hx (hb hby at_70) (tlt ((cv_g_lt _).mpr hc70_53)).2.1 ?_
    refine g_dload X22 hx (hb hby at_73) rfl ?_
    refine g_dloadN X22 hx (hb hby at_75) rfl ?_
    refine g_dload X22 hx (hb hby at_76) rfl ?_
    have n54 : Jvm.Free.Fl.NoNaN64 (FP.dsub (4618760256179416344 : UInt64) rr) := Jvm.Free.Fl.dsub_out' own_finTP k4
    obtain ⟨d55, hd55⟩ : ∃ v : UInt64, FP.dsub (4618760256179416344 : UInt64) rr = v := ⟨_, rfl⟩
    have nn_d55 : Jvm.Free.Fl.NoNaN64 d55 := by rw [← hd55]; exact n54
    refine g_dsub X22 hx (hb hby at_78) n54 hd55 ?_
    refine g_dcmp X22 hx (hb hby at_79) ?_
    have hc80_56 : FP.dcmp ss d55 = some .eq := (by rw [k3, hd55]; exact FP.Core.dcmp_self (Jvm.Free.Fl.val64_no.mp nn_d55))
    refine g_ifNo X22 hx (hb hby at_80) (teq ((cv_l_eq _).mpr hc80_56)).2 ?_
    refine g_iconst X22 hx (hb hby at_83) (v := (1 : Int32)) (by decide) ?_
    refine g_goto X22 hx (hb hby at_84) (by decide) (pc' := 88) (by decide) ?_
    refine g_istore X22 hx (hb hby at_88) (L' := #[.val (.int q0), .val (.int q1), .val (.double (4618760256179416344 : UInt64)), .second, .val (.long pp), .second, .val (.double rr), .second, .val (.double ss), .second, .val (.int (1 : Int32)), .unset, .unset, .unset, .unset, .unset]) rfl ?_
    refine g_iloadN X22 hx (hb hby at_90) rfl ?_
    refine g_bipush X22 hx (hb hby at_91) (v := (26 : Int32)) (by decide) ?_
    obtain ⟨i57, hi57⟩ : ∃ v : Int32, q1 % (26 : Int32) = v := ⟨_, rfl⟩
    refine g_irem X22 hx (hb hby at_93) (by decide) hi57 ?_
    refine g_istore X22 hx (hb hby at_94) (L' := #[.val (.int q0), .val (.int q1), .val (.double (4618760256179416344 : UInt64)), .second, .val (.long pp), .second, .val (.double rr), .second, .val (.double ss), .second, .val (.int (1 : Int32)), .val (.int i57), .unset, .unset, .unset, .unset]) rfl ?_
    refine g_iload X22 hx (hb hby at_96) rfl ?_
    obtain ⟨d58, hd58⟩ : ∃ v : UInt64, FP.i2d i57 = v := ⟨_, rfl⟩
    have fin_d58 : Jvm.Free.Fl.Fin64 d58 := by rw [← hd58]; exact Jvm.Free.Fl.i2d_fin _
    refine g_i2d X22 hx (hb hby at_98) hd58 ?_
    refine g_dstore X22 hx (hb hby at_99) (L' := #[.val (.int q0), .val (.int q1), .val (.double (4618760256179416344 : UInt64)), .second, .val (.long pp), .second, .val (.double rr), .second, .val (.double ss), .second, .val (.int (1 : Int32)), .val (.int i57), .val (.double d58), .second, .unset, .unset]) rfl ?_
    refine g_dload X22 hx (hb hby at_101) rfl ?_
    refine g_callS X22 hx hZ hown (hw _ (List.mem_of_getElem? (i := 5) rfl)) (hw _ (List.mem_of_getElem? (i := 6) rfl)) (hw _ (List.mem_of_getElem? (i := 7) rfl)) (hw _ (List.mem_of_getElem? (i := 8) rfl)) (by decide) (rm2 l Z a0 hw [] d58 h0 n0 Z0 fin_d58) e27 (W := 0) (by decide) (by decide) (by rw [hml]; rfl) [(.double d58)] [] (lenOf pd0_1 rfl) rfl rfl (Nat.le_of_eq rfl) (hb hby at_103) (by decide) (by decide) ?_
    intro v63 T59 L62 X60 hQ61
    obtain ⟨rfl, N64, e65⟩ := hQ61
    have N66 := Fr.app N28 N64
    show Go p e below (Ret s (Q0 Z q0 q1 h0 n0) 0 0) (T59.setTop (mkF m 106 #[.val (.int q0), .val (.int q1), .val (.double (4618760256179416344 : UInt64)), .second, .val (.long pp), .second, .val (.double rr), .second, .val (.double ss), .second, .val (.int (1 : Int32)), .val (.int i57), .val (.double d58), .second, .unset, .unset] [(.double (own_turn d58))]))
    generalize htt : (own_turn d58) = tt
    refine g_dstore X60 hx (hb hby at_106) (L' := #[.val (.int q0), .val (.int q1), .val (.double (4618760256179416344 : UInt64)), .second, .val (.long pp), .second, .val (.double rr), .second, .val (.double ss), .second, .val (.int (1 : Int32)), .val (.int i57), .val (.double d58), .second, .val (.double tt), .second]) rfl ?_
    refine g_iload X60 hx (hb hby at_108) rfl ?_
    have hc110_67 : ¬ ((1 : Int32) = (0 : Int32)) := (by decide)
    refine g_ifNo X60 hx (hb hby at_110) (feq hc110_67).1 ?_
    refine g_dload X60 hx (hb hby at_113) rfl ?_
    refine g_iload X60 hx (hb hby at_115) rfl ?_
    refine g_dload X60 hx (hb hby at_117) rfl ?_
    refine g_dloadN X60 hx (hb hby at_119) rfl ?_
    refine g_callS X60 hx hZ hown (hw _ (List.mem_of_getElem? (i := 10) rfl)) (hw _ (List.mem_of_getElem? (i := 11) rfl)) (hw _ (List.mem_of_getElem? (i := 12) rfl)) (hw _ (List.mem_of_getElem? (i := 13) rfl)) (by decide) (rm3 l Z a0 hw [] i57 d58 (4618760256179416344 : UInt64) h0 n0 Z0 fin_d58 rfl) e65 (W := 2) (by decide) (by decide) (by rw [hml]; rfl) [(.int i57), (.double d58), (.double (4618760256179416344 : UInt64))] [(.double tt)] (lenOf pd0_2 rfl) rfl rfl (Nat.le_of_eq rfl) (hb hby at_120) (by decide) (by decide) ?_
    intro v72 T68 L71 X69 hQ70
    obtain ⟨rfl, N73, e74⟩ := hQ70
    have N75 := Fr.app N66 N73
    show Go p e below (Ret s (Q0 Z q0 q1 h0 n0) 0 0) (T68.setTop (mkF m 123 #[.val (.int q0), .val (.int q1), .val (.double (4618760256179416344 : UInt64)), .second, .val (.long pp), .second, .val (.double rr), .second, .val (.double ss), .second, .val (.int (1 : Int32)), .val (.int i57), .val (.double d58), .second, .val (.double tt), .second] [(.double (own_exp i57 d58 (4618760256179416344 : UInt64))), (.double tt)]))
    generalize hee : (own_exp i57 d58 (4618760256179416344 : UInt64)) = ee
    refine g_dcmp X69 hx (hb hby at_123) ?_
    have hc124_76 : FP.dcmp tt ee = some .eq := (by rw [← htt, ← hee, ← hd58, ← hi57]; exact own_smallV _)
    refine g_ifNo X69 hx (hb hby at_124) (teq ((cv_l_eq _).mpr hc124_76)).2 ?_
    refine g_iconst X69 hx (hb hby at_127) (v := (1 : Int32)) (by decide) ?_
    refine g_goto X69 hx (hb hby at_128) (by decide) (pc' := 132) (by decide) ?_
    refine g_ireturn X69 hx Bd.notSynchronized Bd.returns rfl (by simp) (hb hby at_132) (by decide) (by decide) ?_
    exact ⟨rfl, N75⟩
set_option maxRecDepth 65536 in
set_option maxHeartbeats 40000000 in
theorem comes_1 {Post : Tables → Env → Array Value → State → Outcome → State → Prop} (hpost : ∀ tb e args s v u, (limb_1_1.after args s (.returned v) u = true ∧ limb_1_2.after args s (.returned v) u = true ∧ True) → FrameEnd s (.returned v) u (Jvm.fieldLocs frame_1_writes args s ++ Jvm.arrayLocs frame_1_arrays args s ++ Jvm.staticLocs frame_1_statics s) 0 0 → Post tb e args s (.returned v) u) :
    ArmFor flags0 classFile x code maxLocals ret World_1 tables_1 room_1 Calls_1 rest_1 Pre_1 Post := by
  intro l hfl _ _ p e ha hc hk s m args below hf hA hF happ hP
  obtain ⟨hcalls, hrest, hpre⟩ := hP
  obtain ⟨-, -, -, hnamed, -, -, -, hat⟩ := (Spec.applies_iff hf).mp happ
  obtain ⟨hg, hn⟩ := and_e (Cond.before_iff.mp (show (Jvm.Cond.and given_1 narrow_1).before args s = true from hpre))
  obtain ⟨h1, g0⟩ := and_e hg
  obtain ⟨k0, g1⟩ := and_e g0
  obtain ⟨w0, w1, rfl⟩ : ∃ w0 w1 : Value, args = #[w0, w1] := by
    have hs : args.size = 2 := by simpa [Cond.value, given_1] using h1
    obtain ⟨L⟩ := args
    match L, hs with
    | [w0, w1], _ => exact ⟨w0, w1, rfl⟩
  have hw := fun d (hd : d ∈ tables_1) => atoms_spec (ws := Jvm.Cond.code x code maxLocals ret :: tables_1) hat d (List.mem_cons_of_mem _ hd)
  have hfit : Fit s := fun {y c} hc i hi => by
    obtain ⟨ha, rfl⟩ := Array.getElem?_eq_some_iff.mp hc
    have q := List.all_eq_true.mp ((Array.all_eq_true_iff_forall_mem.mp hF) _ (Array.getElem_mem ha)) i (List.mem_range.mpr hi)
    simpa [Array.getElem?_eq_getElem hi] using q
  obtain ⟨i0, e0⟩ := is_v k0
  obtain rfl : w0 = (.int i0) := Option.some.inj e0
  obtain ⟨i1, e1⟩ := is_v g1
  obtain rfl : w1 = (.int i1) := Option.some.inj e1
  obtain ⟨n, o, h1, h2, h3, _, L, rfl, ⟨rfl, N⟩, hq⟩ := rm0 l s _ hw tables_1 i0 i1 s.heap s.heap.size (Nat.le_refl _)  p e ha hc hk s m _ below hf ((Spec.applies_iff_loose hf).mp happ).1 ⟨rfl, State.Warmed39.refl s, rfl⟩ trivial
  refine ⟨n, _, h1, h2, h3, hpost _ _ _ _ _ _ ⟨Cond.after_iff.mpr rfl, Cond.after_iff.mpr (eq_i res_at (Term.int_eval (1)) rfl), trivial⟩ ⟨hq.1, hq.2.1, (hq.2.2.sift fun y hy => Or.inr (N y hy)).mono (by decide) (by decide)⟩⟩
theorem main_1_1 : Claimed_1_1 := comes_1 fun _ _ _ _ _ _ h hF => ⟨h.1, hF⟩
theorem main_1_2 : Claimed_1_2 := comes_1 fun _ _ _ _ _ _ h hF => ⟨h.2.1, hF⟩
end Jvm.Pilot.@@N@@
namespace Jvm.Pilot.@@N@@
open Jvm Jvm.ClassFile Sem Op Lib Jvm.Free Jvm.Stand Jvm.Pilot.@@N@@.Jvm.D
/-! MADE BY PROGRAM (witnessworld.py) out of the Statement's table words and the real class files: 10 classes; the members and pool entries that the words name. The judged class is class 1, her method 1. -/
namespace start1
open Jvm.ClassFile
def u (s : String) : CpInfo := .utf8 (stringToUtf16 s)
/-- a pool by its gaps: so many unusable entries, then the entry; so many at the end -/
def gap : Nat → List CpInfo → List CpInfo
  | 0, r => r
  | n + 1, r => .unusable :: gap n r
def poolList (es : List (Nat × CpInfo)) (last : Nat) : List CpInfo := es.foldr (fun e r => gap e.1 (e.2 :: r)) (gap last [])
def pool (es : List (Nat × CpInfo)) (last : Nat) : Array CpInfo := ⟨poolList es last⟩
def fileOf (pool : Array CpInfo) (this : Nat) (attrs : Array Attribute := #[]) (ms : Array MethodInfo := #[]) (fl : Nat := 33) (sup : Nat := 0) (ifs : Array Nat := #[]) (fds : Array FieldInfo := #[]) : ClassFile where
  minorVersion := 0
  majorVersion := 65
  constantPool := pool
  accessFlags := fl
  thisClass := this
  superClass := sup
  interfaces := ifs
  fields := fds
  methods := ms
  attributes := attrs
def plain (name : String) (sup : Option ClassId) : Class where
  name := name
  kind := .ordinary
  loader := none
  accessFlags := 33
  super := sup
  interfaces := #[]
  cf := none
  fields := #[]
  methods := #[]
  instanceTypes := #[]
  staticTypes := #[]
  resolved := #[]
  callSites := []
  init := .initialized
  statics := none
  mirror := none

def pool0 : Array CpInfo := pool [(5, u "<init>"), (0, u "()V"), (1, .class_ 10), (1, u "java/lang/Object")] 113

def k0m0 : Method := { name := "<init>", desc := "()V", sig := { parameters := [], returnType := none }, accessFlags := 1, code := none }
/-- java/lang/Object -/
def k0 : Class := { plain "java/lang/Object" none with
  accessFlags := 33
  interfaces := #[]
  cf := some (fileOf pool0 8 #[] #[{ accessFlags := 1, nameIndex := 5, descriptorIndex := 6, attributes := #[] }] 33 0 #[] #[])
  fields := #[]
  methods := #[k0m0]
  instanceTypes := #[]
  staticTypes := #[]
  resolved := Array.replicate 124 none
  statics := none }

def pool1 : Array CpInfo := pool [(2, .class_ 4), (1, u "java/lang/Object"), (0, u "<init>"), (0, u "()V"), (0, .class_ 8), (0, u "java/lang/Math"), (0, .double 4618760256179416344), (1, .methodref 7 12), (0, .nameAndType 13 14), (0, u "abs"), (0, u "(J)J"), (0, .methodref 16 17), (0, .class_ 18), (0, .nameAndType 19 20), (0, u "com/example/ordinate/ordinate/plane/Edge"), (0, u "turn"), (0, u "(D)D"), (0, .methodref 22 23), (0, .class_ 24), (0, .nameAndType 25 26), (0, u "com/example/ordinate/ordinate/plane/EdgeTurnPinLaw"), (0, u "expected"), (0, u "(IDD)D"), (0, .double 4611686018427387904), (1, .double 4616189618054758400), (3, u "law"), (0, u "(II)Z")] 3

def k1m0 : Method := { name := "<init>", desc := "()V", sig := { parameters := [], returnType := none }, accessFlags := 2, code := none }
def k1c1 : Code := { maxStack := 7, maxLocals := 16, code := code, exceptionTable := #[], attributes := #[] }
def k1m1 : Method := { name := "law", desc := "(II)Z", sig := { parameters := [.int, .int], returnType := some .boolean }, accessFlags := 9, code := some k1c1 }
def k1c2 : Code := { maxStack := 6, maxLocals := 5, code := method_3_code, exceptionTable := #[], attributes := #[] }
def k1m2 : Method := { name := "expected", desc := "(IDD)D", sig := { parameters := [.int, .double, .double], returnType := some .double }, accessFlags := 10, code := some k1c2 }
/-- com/example/ordinate/ordinate/plane/EdgeTurnPinLaw -/
def k1 : Class := { plain "com/example/ordinate/ordinate/plane/EdgeTurnPinLaw" (some 0) with
  accessFlags := 49
  interfaces := #[]
  cf := some (fileOf pool1 22 #[] #[{ accessFlags := 2, nameIndex := 5, descriptorIndex := 6, attributes := #[] }, { accessFlags := 9, nameIndex := 33, descriptorIndex := 34, attributes := #[] }, { accessFlags := 10, nameIndex := 25, descriptorIndex := 26, attributes := #[] }] 49 2 #[] #[])
  fields := #[]
  methods := #[k1m0, k1m1, k1m2]
  instanceTypes := #[]
  staticTypes := #[]
  resolved := Array.replicate 38 none
  statics := none }

def pool2 : Array CpInfo := pool [(1, .class_ 2), (0, u "java/lang/Math"), (1, .class_ 6), (1, u "java/lang/Object"), (0, u "<init>"), (0, u "()V"), (89, .class_ 100), (1, u "java/lang/Math$RandomNumberGeneratorHolder"), (23, u "abs"), (0, u "(J)J"), (46, u "negativeZeroFloatBits"), (0, u "J"), (2, u "negativeZeroDoubleBits"), (68, u "$assertionsDisabled"), (0, u "Z"), (91, u "twoToTheDoubleScaleDown"), (0, u "D"), (4, u "twoToTheDoubleScaleUp"), (9, u "E"), (3, u "PI"), (2, u "TAU"), (2, u "DEGREES_TO_RADIANS"), (0, u "RADIANS_TO_DEGREES")] 94

def k2m0 : Method := { name := "<init>", desc := "()V", sig := { parameters := [], returnType := none }, accessFlags := 2, code := none }
def k2c1 : Code := { maxStack := 4, maxLocals := 2, code := jdk_29_method_61_code, exceptionTable := #[], attributes := #[] }
def k2m1 : Method := { name := "abs", desc := "(J)J", sig := { parameters := [.long], returnType := some .long }, accessFlags := 9, code := some k2c1 }
/-- java/lang/Math -/
def k2 : Class := { plain "java/lang/Math" (some 0) with
  accessFlags := 49
  interfaces := #[]
  cf := some (fileOf pool2 1 #[.nestMembers #[98]] #[{ accessFlags := 2, nameIndex := 7, descriptorIndex := 8, attributes := #[] }, { accessFlags := 9, nameIndex := 124, descriptorIndex := 125, attributes := #[] }] 49 4 #[] #[{ accessFlags := 25, nameIndex := 354, descriptorIndex := 339, attributes := #[] }, { accessFlags := 25, nameIndex := 358, descriptorIndex := 339, attributes := #[] }, { accessFlags := 25, nameIndex := 361, descriptorIndex := 339, attributes := #[] }, { accessFlags := 26, nameIndex := 364, descriptorIndex := 339, attributes := #[] }, { accessFlags := 26, nameIndex := 365, descriptorIndex := 339, attributes := #[] }, { accessFlags := 26, nameIndex := 172, descriptorIndex := 173, attributes := #[] }, { accessFlags := 26, nameIndex := 176, descriptorIndex := 173, attributes := #[] }, { accessFlags := 8, nameIndex := 344, descriptorIndex := 339, attributes := #[] }, { accessFlags := 8, nameIndex := 338, descriptorIndex := 339, attributes := #[] }, { accessFlags := 4120, nameIndex := 245, descriptorIndex := 246, attributes := #[] }])
  fields := #[{ name := "E", type := .double, accessFlags := 25, slot := 0, constantValue := 0 }, { name := "PI", type := .double, accessFlags := 25, slot := 1, constantValue := 0 }, { name := "TAU", type := .double, accessFlags := 25, slot := 2, constantValue := 0 }, { name := "DEGREES_TO_RADIANS", type := .double, accessFlags := 26, slot := 3, constantValue := 0 }, { name := "RADIANS_TO_DEGREES", type := .double, accessFlags := 26, slot := 4, constantValue := 0 }, { name := "negativeZeroFloatBits", type := .long, accessFlags := 26, slot := 5, constantValue := 0 }, { name := "negativeZeroDoubleBits", type := .long, accessFlags := 26, slot := 6, constantValue := 0 }, { name := "twoToTheDoubleScaleUp", type := .double, accessFlags := 8, slot := 7, constantValue := 0 }, { name := "twoToTheDoubleScaleDown", type := .double, accessFlags := 8, slot := 8, constantValue := 0 }, { name := "$assertionsDisabled", type := .boolean, accessFlags := 4120, slot := 9, constantValue := 0 }]
  methods := #[k2m0, k2m1]
  instanceTypes := #[]
  staticTypes := #[.double, .double, .double, .double, .double, .long, .long, .double, .double, .boolean]
  resolved := Array.replicate 460 none
  statics := none }

def pool3 : Array CpInfo := pool [(4, .class_ 6), (1, u "java/lang/Object"), (3, .class_ 12), (1, u "com/example/ordinate/ordinate/plane/Edge"), (0, u "startX"), (0, u "D"), (2, u "startY"), (2, u "endX"), (2, u "endY"), (2, u "curved"), (0, u "Z"), (2, u "arc"), (0, u "Lcom/example/ordinate/ordinate/plane/Edge$Arc;"), (14, u "(D)D"), (12, .class_ 61), (1, u "com/example/ordinate/ordinate/plane/Edge$Arc"), (9, u "minX"), (2, u "minY"), (2, u "maxX"), (2, u "maxY"), (18, u "turn"), (3, .double 4618760256179416344), (136, u "TWO_PI"), (1, u "CIRCLE_PAST_RANGE"), (0, u "Ljava/lang/String;")] 20

def k3c0 : Code := { maxStack := 4, maxLocals := 4, code := prog_51_method_22_code, exceptionTable := #[], attributes := #[] }
def k3m0 : Method := { name := "turn", desc := "(D)D", sig := { parameters := [.double], returnType := some .double }, accessFlags := 8, code := some k3c0 }
/-- com/example/ordinate/ordinate/plane/Edge -/
def k3 : Class := { plain "com/example/ordinate/ordinate/plane/Edge" (some 0) with
  accessFlags := 48
  interfaces := #[]
  cf := some (fileOf pool3 10 #[.nestMembers #[59]] #[{ accessFlags := 8, nameIndex := 99, descriptorIndex := 46, attributes := #[] }] 48 4 #[] #[{ accessFlags := 26, nameIndex := 240, descriptorIndex := 14, attributes := #[] }, { accessFlags := 24, nameIndex := 242, descriptorIndex := 243, attributes := #[] }, { accessFlags := 16, nameIndex := 13, descriptorIndex := 14, attributes := #[] }, { accessFlags := 16, nameIndex := 17, descriptorIndex := 14, attributes := #[] }, { accessFlags := 16, nameIndex := 20, descriptorIndex := 14, attributes := #[] }, { accessFlags := 16, nameIndex := 23, descriptorIndex := 14, attributes := #[] }, { accessFlags := 16, nameIndex := 26, descriptorIndex := 27, attributes := #[] }, { accessFlags := 16, nameIndex := 30, descriptorIndex := 31, attributes := #[] }, { accessFlags := 16, nameIndex := 71, descriptorIndex := 14, attributes := #[] }, { accessFlags := 16, nameIndex := 74, descriptorIndex := 14, attributes := #[] }, { accessFlags := 16, nameIndex := 77, descriptorIndex := 14, attributes := #[] }, { accessFlags := 16, nameIndex := 80, descriptorIndex := 14, attributes := #[] }])
  fields := #[{ name := "TWO_PI", type := .double, accessFlags := 26, slot := 0, constantValue := 0 }, { name := "CIRCLE_PAST_RANGE", type := (.object "java/lang/String"), accessFlags := 24, slot := 1, constantValue := 0 }, { name := "startX", type := .double, accessFlags := 16, slot := 0, constantValue := 0 }, { name := "startY", type := .double, accessFlags := 16, slot := 1, constantValue := 0 }, { name := "endX", type := .double, accessFlags := 16, slot := 2, constantValue := 0 }, { name := "endY", type := .double, accessFlags := 16, slot := 3, constantValue := 0 }, { name := "curved", type := .boolean, accessFlags := 16, slot := 4, constantValue := 0 }, { name := "arc", type := (.object "com/example/ordinate/ordinate/plane/Edge$Arc"), accessFlags := 16, slot := 5, constantValue := 0 }, { name := "minX", type := .double, accessFlags := 16, slot := 6, constantValue := 0 }, { name := "minY", type := .double, accessFlags := 16, slot := 7, constantValue := 0 }, { name := "maxX", type := .double, accessFlags := 16, slot := 8, constantValue := 0 }, { name := "maxY", type := .double, accessFlags := 16, slot := 9, constantValue := 0 }]
  methods := #[k3m0]
  instanceTypes := #[.double, .double, .double, .double, .boolean, (.object "com/example/ordinate/ordinate/plane/Edge$Arc"), .double, .double, .double, .double]
  staticTypes := #[.double, (.object "java/lang/String")]
  resolved := Array.replicate 264 none
  statics := none }

def pool4 : Array CpInfo := pool [(1, u "java/lang/Cloneable"), (0, .class_ 1), (0, u "java/lang/Object"), (0, .class_ 3)] 3

/-- java/lang/Cloneable -/
def k4 : Class := { plain "java/lang/Cloneable" (some 0) with
  accessFlags := 1537
  interfaces := #[]
  cf := some (fileOf pool4 2 #[] #[] 1537 4 #[] #[])
  fields := #[]
  methods := #[]
  instanceTypes := #[]
  staticTypes := #[]
  resolved := Array.replicate 8 none
  statics := none }

def pool5 : Array CpInfo := pool [(1, u "java/io/Serializable"), (0, .class_ 1), (0, u "java/lang/Object"), (0, .class_ 3)] 3

/-- java/io/Serializable -/
def k5 : Class := { plain "java/io/Serializable" (some 0) with
  accessFlags := 1537
  interfaces := #[]
  cf := some (fileOf pool5 2 #[] #[] 1537 4 #[] #[])
  fields := #[]
  methods := #[]
  instanceTypes := #[]
  staticTypes := #[]
  resolved := Array.replicate 8 none
  statics := none }

/-- the primitive byte -/
def k6 : Class := { plain "byte" none with kind := .primitive 'B', accessFlags := 0x411 }
/-- [B -/
def k7 : Class := { plain "[B" (some 0) with kind := .array 6 .byte, interfaces := #[4, 5], accessFlags := 1041 }

/-- the primitive int -/
def k8 : Class := { plain "int" none with kind := .primitive 'I', accessFlags := 0x411 }
/-- [I -/
def k9 : Class := { plain "[I" (some 0) with kind := .array 8 .int, interfaces := #[4, 5], accessFlags := 1041 }

def heap : Heap := #[]
def classes : Array Class := #[k0, k1, k2, k3, k4, k5, k6, k7, k8, k9]
def interned : List (Array UInt16 × Addr) := []
def slotsUsed : Nat := 0
def theMethod : MethodId := ⟨1, 1⟩
def args0 : Array Value := #[.int 5, .int 7]
def aboutOver (below : List Frame) : State where
  vm := { classes := classes, interned := interned.toArray }
  heap := heap
  slotsUsed := slotsUsed
  threads := #[{ frames := .invoking theMethod args0 :: below }]
def below0 : List Frame := [.native { method := ⟨0, 0⟩, args := #[] }]
def about1 : State := aboutOver below0
def p0 : Program := .bare "" "" ""
def e0 : Env := launch0.env 0 0 0
theorem w_frames : about1.frames = Frame.invoking theMethod args0 :: below0 := rfl
set_option maxRecDepth 65536 in
theorem w_args : argsFit about1.vm theMethod args0 = true := by decide +kernel
set_option maxRecDepth 65536 in
theorem w_heap : heapFits about1 = true := by decide +kernel
set_option maxRecDepth 65536 in
theorem w_runnable : about1.curStatus? = some .runnable := by decide +kernel
set_option maxRecDepth 65536 in
theorem w_alone : about1.alone = true := by decide +kernel
set_option maxRecDepth 65536 in
theorem w_named : about1.methodNamed? x = some theMethod := by decide +kernel
set_option maxRecDepth 65536 in
theorem w_hears : about1.hears theMethod below0 = true := by decide +kernel
set_option maxRecDepth 65536 in
theorem w_ripe : about1.ripe theMethod args0 below0 = true := by decide +kernel
theorem w_running : about1.status = .running := rfl
set_option maxRecDepth 65536 in
theorem w_room : about1.hasRoom e0.platform room_1 = true :=
  launch0.hasRoom_least _ room_1 (by decide +kernel) (by decide +kernel) (by decide +kernel) (by decide +kernel) (by decide +kernel) (by decide +kernel)
theorem allAtoms_all (ts : List Jvm.Cond) (a : Array Jvm.Value) (st : Jvm.State) : (allAtoms ts).before a st = ts.all (fun c => c.before a st) := by
  induction ts with
  | nil => rfl
  | cons c t ih =>
    show (Jvm.Cond.and c (allAtoms t)).before a st = _
    rw [Jvm.Cond.before_and, ih, List.all_cons]
def words1 : List Jvm.Cond := Jvm.Cond.code x code maxLocals ret :: tables_1
/-- a 'code' word, met by the world's own term for the bytes: nothing is compared byte by byte -/
theorem code_word {y : MethodName} {bytes : ByteArray} {mx : Nat} {rt : Option FieldType} {a : Array Value} {s : State} {m : MethodId} {meth : Method} {c : Code} (h1 : s.methodNamed? y = some m) (h2 : s.vm.method? m = some meth) (h3 : meth.code = some c) (h4 : c.code = bytes)
    (h5 : (c.maxLocals == mx && c.exceptionTable.isEmpty && decide (c.maxStack ≤ mostOperands) && decide (meth.sig.returnType = rt) && !meth.locks && decide (parseMethodDescriptor y.desc = some meth.sig)) = true) : (Jvm.Cond.code y bytes mx rt).before a s = true := by
  simp only [Bool.and_eq_true, beq_iff_eq, Bool.not_eq_true', decide_eq_true_eq] at h5
  obtain ⟨⟨⟨⟨⟨g1, g2⟩, g3⟩, g4⟩, g5⟩, g6⟩ := h5
  simp [Cond.before, Cond.holds, Cond.value, h1, h2, h3, h4, g1, g2, g3, g4, g5, g6]
def isCode : Jvm.Cond → Bool
  | .code _ _ _ _ => true
  | _ => false
theorem all_split {L : List Jvm.Cond} {P : Jvm.Cond → Bool} (h1 : L.all (fun c => isCode c || P c) = true) (h2 : ∀ c ∈ L.filter isCode, P c = true) : L.all P = true := by
  refine List.all_eq_true.mpr fun c hc => ?_
  have h := List.all_eq_true.mp h1 c hc
  rcases Bool.eq_false_or_eq_true (isCode c) with hi | hi
  · exact h2 c (List.mem_filter.mpr ⟨hc, hi⟩)
  · simpa [hi] using h
set_option maxRecDepth 65536 in
theorem w_c0 : (Jvm.Cond.code x code maxLocals ret).before args0 about1 = true := code_word (m := ⟨1, 1⟩) (meth := k1m1) (c := k1c1) (by decide +kernel) rfl rfl rfl (by decide +kernel)
set_option maxRecDepth 65536 in
theorem w_c1 : (Jvm.Cond.code ({ cls := "java/lang/Math", name := "abs", desc := "(J)J" } : Jvm.MethodName) jdk_29_method_61_code (2 : Nat) (Option.some Jvm.ClassFile.FieldType.long)).before args0 about1 = true := code_word (m := ⟨2, 1⟩) (meth := k2m1) (c := k2c1) (by decide +kernel) rfl rfl rfl (by decide +kernel)
set_option maxRecDepth 65536 in
theorem w_c2 : (Jvm.Cond.code ({ cls := "com/example/ordinate/ordinate/plane/Edge", name := "turn", desc := "(D)D" } : Jvm.MethodName) prog_51_method_22_code (4 : Nat) (Option.some Jvm.ClassFile.FieldType.double)).before args0 about1 = true := code_word (m := ⟨3, 0⟩) (meth := k3m0) (c := k3c0) (by decide +kernel) rfl rfl rfl (by decide +kernel)
set_option maxRecDepth 65536 in
theorem w_c3 : (Jvm.Cond.code ({ cls := "com/example/ordinate/ordinate/plane/EdgeTurnPinLaw", name := "expected", desc := "(IDD)D" } : Jvm.MethodName) method_3_code (5 : Nat) (Option.some Jvm.ClassFile.FieldType.double)).before args0 about1 = true := code_word (m := ⟨1, 2⟩) (meth := k1m2) (c := k1c2) (by decide +kernel) rfl rfl rfl (by decide +kernel)
def codes1 : List Jvm.Cond := [Jvm.Cond.code x code maxLocals ret, Jvm.Cond.code ({ cls := "java/lang/Math", name := "abs", desc := "(J)J" } : Jvm.MethodName) jdk_29_method_61_code (2 : Nat) (Option.some Jvm.ClassFile.FieldType.long), Jvm.Cond.code ({ cls := "com/example/ordinate/ordinate/plane/Edge", name := "turn", desc := "(D)D" } : Jvm.MethodName) prog_51_method_22_code (4 : Nat) (Option.some Jvm.ClassFile.FieldType.double), Jvm.Cond.code ({ cls := "com/example/ordinate/ordinate/plane/EdgeTurnPinLaw", name := "expected", desc := "(IDD)D" } : Jvm.MethodName) method_3_code (5 : Nat) (Option.some Jvm.ClassFile.FieldType.double)]
set_option maxRecDepth 65536 in
theorem codes_eq : words1.filter isCode = codes1 := rfl
theorem w_codes : ∀ c ∈ words1.filter isCode, c.before args0 about1 = true := by
  rw [codes_eq]
  intro c hc
  simp only [codes1, List.mem_cons, List.not_mem_nil, or_false] at hc
  rcases hc with rfl | rfl | rfl | rfl
  · exact w_c0
  · exact w_c1
  · exact w_c2
  · exact w_c3
set_option maxRecDepth 65536 in
theorem w_t1 : words1.all (fun c => isCode c || c.before args0 about1) = true := by decide +kernel
theorem w_tables : (allAtoms (Jvm.Cond.code x code maxLocals ret :: tables_1)).before args0 about1 = true := by
  rw [allAtoms_all]
  show words1.all (fun c => c.before args0 about1) = true
  refine all_split ?_ w_codes
  rw [w_t1]
set_option maxRecDepth 65536 in
theorem w_case : (Jvm.Cond.and given_1 narrow_1).before args0 about1 = true := by decide +kernel
theorem w_applies : (headSpec (Jvm.Cond.code x code maxLocals ret :: tables_1) room_1).applies x e0.platform about1 = true :=
  (Spec.applies_iff w_frames).mpr ⟨w_running, w_runnable, w_alone, w_named, w_hears, w_ripe, w_room, w_tables⟩
theorem atStart : AtStart classFile x code maxLocals ret World_1 tables_1 room_1 Calls_1 rest_1 Pre_1 launch0 p0 e0 about1 theMethod args0 below0 :=
  ⟨lists_1, trivial, launch0.admits_env _ _ _, launch0.least_env, fairChoices_fair.cas, fairChoices_fair.clock, w_frames, w_args, w_heap, w_applies, trivial, trivial, w_case⟩
end start1
theorem witness_1 : WitnessClaimed_1 := ⟨start1.p0, start1.e0, start1.about1, start1.theMethod, start1.args0, start1.below0, start1.atStart⟩
end Jvm.Pilot.@@N@@
