import JvmDerived
import JvmDerived.Pilot.@@N@@Statement
import JvmDerived.Pilot.@@N@@Code
set_option linter.unusedVariables false
set_option linter.unusedSimpArgs false
namespace Jvm.Pilot.@@N@@
open Jvm Jvm.ClassFile Sem Op Lib Jvm.Free Jvm.Stand Jvm.LawKit Jvm.RoadKit Bundle Jvm.Pilot.@@N@@.Jvm.D
section OwnKit
variable {p : Program} {l : Launch} {e : Env} {R : Room} {s : State} {m : MethodId} {args : Array Value} {below : List Frame} {meth : Method} {c : Code} {T : State} {locs : List Loc} {cells slots : Nat} {P : State → Outcome → Prop} {pc : Nat} {Ls : Array Slot} {st : List Value} {Z : State} {a0 : Array Value} {h : Heap} {own : String} {index : Nat}
/-- what is still owed from a state on -/
def Go (p : Program) (e : Env) (below : List Frame) (P : State → Outcome → Prop) (S : State) : Prop := ∃ s₂ o, Steps p.tables e below S s₂ ∧ s₂.status = .running ∧ Ended s₂ below o ∧ P s₂ o
theorem Go.by {S S' : State} (st : ∀ t, Steps p.tables e below S' t → Steps p.tables e below S t) (k : Go p e below P S') : Go p e below P S := by
  obtain ⟨a, b, h1, h2⟩ := k
  exact ⟨a, b, st _ h1, h2⟩
def Ret (s : State) (Q : Option Value → Heap → List Loc → Prop) (C N : Nat) (s₂ : State) (o : Outcome) : Prop := ∃ v L, o = .returned v ∧ Q v s₂.heap L ∧ FrameEnd s o s₂ L C N

theorem g_iloadN (X : Stand p l e R s m args below meth c T locs cells slots) (hx : p.tables.exec = Jvm.exec) {k : Fin 4} {v : Int32} (hd : decode c.code pc = .ok (.iload_n k, 1)) (hl : Ls[k.val]? = some (.val (.int v))) (q : Go p e below P (T.setTop (mkF m (pc + 1) Ls (.int v :: st)))) : Go p e below P (T.setTop (mkF m pc Ls st)) := q.by fun t r => XS.iloadN X.here hx rfl hd hl r
theorem g_iload (X : Stand p l e R s m args below meth c T locs cells slots) (hx : p.tables.exec = Jvm.exec) {k : Nat} {v : Int32} (hd : decode c.code pc = .ok (.iload k, 2)) (hl : Ls[k]? = some (.val (.int v))) (q : Go p e below P (T.setTop (mkF m (pc + 2) Ls (.int v :: st)))) : Go p e below P (T.setTop (mkF m pc Ls st)) := q.by fun t r => XS.iload X.here hx rfl hd hl r
theorem g_lloadN (X : Stand p l e R s m args below meth c T locs cells slots) (hx : p.tables.exec = Jvm.exec) {k : Fin 4} {v : Int64} (hd : decode c.code pc = .ok (.lload_n k, 1)) (hl : Ls[k.val]? = some (.val (.long v))) (q : Go p e below P (T.setTop (mkF m (pc + 1) Ls (.long v :: st)))) : Go p e below P (T.setTop (mkF m pc Ls st)) := q.by fun t r => XS.lloadN X.here hx rfl hd hl r
theorem g_lload (X : Stand p l e R s m args below meth c T locs cells slots) (hx : p.tables.exec = Jvm.exec) {k : Nat} {v : Int64} (hd : decode c.code pc = .ok (.lload k, 2)) (hl : Ls[k]? = some (.val (.long v))) (q : Go p e below P (T.setTop (mkF m (pc + 2) Ls (.long v :: st)))) : Go p e below P (T.setTop (mkF m pc Ls st)) := q.by fun t r => XS.lload X.here hx rfl hd hl r
theorem g_dloadN (X : Stand p l e R s m args below meth c T locs cells slots) (hx : p.tables.exec = Jvm.exec) {k : Fin 4} {v : UInt64} (hd : decode c.code pc = .ok (.dload_n k, 1)) (hl : Ls[k.val]? = some (.val (.double v))) (q : Go p e below P (T.setTop (mkF m (pc + 1) Ls (.double v :: st)))) : Go p e below P (T.setTop (mkF m pc Ls st)) := q.by fun t r => XS.dloadN X.here hx rfl hd hl r
theorem g_dload (X : Stand p l e R s m args below meth c T locs cells slots) (hx : p.tables.exec = Jvm.exec) {k : Nat} {v : UInt64} (hd : decode c.code pc = .ok (.dload k, 2)) (hl : Ls[k]? = some (.val (.double v))) (q : Go p e below P (T.setTop (mkF m (pc + 2) Ls (.double v :: st)))) : Go p e below P (T.setTop (mkF m pc Ls st)) := q.by fun t r => XS.dload X.here hx rfl hd hl r
theorem g_floadN (X : Stand p l e R s m args below meth c T locs cells slots) (hx : p.tables.exec = Jvm.exec) {k : Fin 4} {v : UInt32} (hd : decode c.code pc = .ok (.fload_n k, 1)) (hl : Ls[k.val]? = some (.val (.float v))) (q : Go p e below P (T.setTop (mkF m (pc + 1) Ls (.float v :: st)))) : Go p e below P (T.setTop (mkF m pc Ls st)) := q.by fun t r => XS.floadN X.here hx rfl hd hl r
theorem g_fload (X : Stand p l e R s m args below meth c T locs cells slots) (hx : p.tables.exec = Jvm.exec) {k : Nat} {v : UInt32} (hd : decode c.code pc = .ok (.fload k, 2)) (hl : Ls[k]? = some (.val (.float v))) (q : Go p e below P (T.setTop (mkF m (pc + 2) Ls (.float v :: st)))) : Go p e below P (T.setTop (mkF m pc Ls st)) := q.by fun t r => XS.fload X.here hx rfl hd hl r
theorem g_aloadN (X : Stand p l e R s m args below meth c T locs cells slots) (hx : p.tables.exec = Jvm.exec) {k : Fin 4} {v : Value} (hd : decode c.code pc = .ok (.aload_n k, 1)) (hl : Ls[k.val]? = some (.val v)) (hv : v.isRef = true) (q : Go p e below P (T.setTop (mkF m (pc + 1) Ls (v :: st)))) : Go p e below P (T.setTop (mkF m pc Ls st)) := q.by fun t r => XS.aloadN X.here hx rfl hd hl hv r
theorem g_aload (X : Stand p l e R s m args below meth c T locs cells slots) (hx : p.tables.exec = Jvm.exec) {k : Nat} {v : Value} (hd : decode c.code pc = .ok (.aload k, 2)) (hl : Ls[k]? = some (.val v)) (hv : v.isRef = true) (q : Go p e below P (T.setTop (mkF m (pc + 2) Ls (v :: st)))) : Go p e below P (T.setTop (mkF m pc Ls st)) := q.by fun t r => XS.aload X.here hx rfl hd hl hv r
theorem g_istoreN (X : Stand p l e R s m args below meth c T locs cells slots) (hx : p.tables.exec = Jvm.exec) {k : Fin 4} {v : Int32} {L' : Array Slot} (hd : decode c.code pc = .ok (.istore_n k, 1)) (hl : storeLocals Ls k.val (.int v) = some L') (q : Go p e below P (T.setTop (mkF m (pc + 1) L' st))) : Go p e below P (T.setTop (mkF m pc Ls (.int v :: st))) := q.by fun t r => XS.istoreN X.here hx rfl hd rfl hl r
theorem g_istore (X : Stand p l e R s m args below meth c T locs cells slots) (hx : p.tables.exec = Jvm.exec) {k : Nat} {v : Int32} {L' : Array Slot} (hd : decode c.code pc = .ok (.istore k, 2)) (hl : storeLocals Ls k (.int v) = some L') (q : Go p e below P (T.setTop (mkF m (pc + 2) L' st))) : Go p e below P (T.setTop (mkF m pc Ls (.int v :: st))) := q.by fun t r => XS.istore X.here hx rfl hd rfl hl r
theorem g_lstoreN (X : Stand p l e R s m args below meth c T locs cells slots) (hx : p.tables.exec = Jvm.exec) {k : Fin 4} {v : Int64} {L' : Array Slot} (hd : decode c.code pc = .ok (.lstore_n k, 1)) (hl : storeLocals Ls k.val (.long v) = some L') (q : Go p e below P (T.setTop (mkF m (pc + 1) L' st))) : Go p e below P (T.setTop (mkF m pc Ls (.long v :: st))) := q.by fun t r => XS.lstoreN X.here hx rfl hd rfl hl r
theorem g_lstore (X : Stand p l e R s m args below meth c T locs cells slots) (hx : p.tables.exec = Jvm.exec) {k : Nat} {v : Int64} {L' : Array Slot} (hd : decode c.code pc = .ok (.lstore k, 2)) (hl : storeLocals Ls k (.long v) = some L') (q : Go p e below P (T.setTop (mkF m (pc + 2) L' st))) : Go p e below P (T.setTop (mkF m pc Ls (.long v :: st))) := q.by fun t r => XS.lstore X.here hx rfl hd rfl hl r
theorem g_dstoreN (X : Stand p l e R s m args below meth c T locs cells slots) (hx : p.tables.exec = Jvm.exec) {k : Fin 4} {v : UInt64} {L' : Array Slot} (hd : decode c.code pc = .ok (.dstore_n k, 1)) (hl : storeLocals Ls k.val (.double v) = some L') (q : Go p e below P (T.setTop (mkF m (pc + 1) L' st))) : Go p e below P (T.setTop (mkF m pc Ls (.double v :: st))) := q.by fun t r => XS.dstoreN X.here hx rfl hd rfl hl r
theorem g_dstore (X : Stand p l e R s m args below meth c T locs cells slots) (hx : p.tables.exec = Jvm.exec) {k : Nat} {v : UInt64} {L' : Array Slot} (hd : decode c.code pc = .ok (.dstore k, 2)) (hl : storeLocals Ls k (.double v) = some L') (q : Go p e below P (T.setTop (mkF m (pc + 2) L' st))) : Go p e below P (T.setTop (mkF m pc Ls (.double v :: st))) := q.by fun t r => XS.dstore X.here hx rfl hd rfl hl r
theorem g_fstoreN (X : Stand p l e R s m args below meth c T locs cells slots) (hx : p.tables.exec = Jvm.exec) {k : Fin 4} {v : UInt32} {L' : Array Slot} (hd : decode c.code pc = .ok (.fstore_n k, 1)) (hl : storeLocals Ls k.val (.float v) = some L') (q : Go p e below P (T.setTop (mkF m (pc + 1) L' st))) : Go p e below P (T.setTop (mkF m pc Ls (.float v :: st))) := q.by fun t r => XS.fstoreN X.here hx rfl hd rfl hl r
theorem g_fstore (X : Stand p l e R s m args below meth c T locs cells slots) (hx : p.tables.exec = Jvm.exec) {k : Nat} {v : UInt32} {L' : Array Slot} (hd : decode c.code pc = .ok (.fstore k, 2)) (hl : storeLocals Ls k (.float v) = some L') (q : Go p e below P (T.setTop (mkF m (pc + 2) L' st))) : Go p e below P (T.setTop (mkF m pc Ls (.float v :: st))) := q.by fun t r => XS.fstore X.here hx rfl hd rfl hl r
theorem g_astoreN (X : Stand p l e R s m args below meth c T locs cells slots) (hx : p.tables.exec = Jvm.exec) {k : Fin 4} {v : Value} {L' : Array Slot} (hd : decode c.code pc = .ok (.astore_n k, 1)) (hv : v.isRef = true) (hl : storeLocals Ls k.val v = some L') (q : Go p e below P (T.setTop (mkF m (pc + 1) L' st))) : Go p e below P (T.setTop (mkF m pc Ls (v :: st))) := q.by fun t r => XS.astoreN X.here hx rfl hd rfl hv hl r
theorem g_astore (X : Stand p l e R s m args below meth c T locs cells slots) (hx : p.tables.exec = Jvm.exec) {k : Nat} {v : Value} {L' : Array Slot} (hd : decode c.code pc = .ok (.astore k, 2)) (hv : v.isRef = true) (hl : storeLocals Ls k v = some L') (q : Go p e below P (T.setTop (mkF m (pc + 2) L' st))) : Go p e below P (T.setTop (mkF m pc Ls (v :: st))) := q.by fun t r => XS.astore X.here hx rfl hd rfl hv hl r
theorem g_iconst (X : Stand p l e R s m args below meth c T locs cells slots) (hx : p.tables.exec = Jvm.exec) {i : Int} {v : Int32} (hd : decode c.code pc = .ok (.iconst i, 1)) (hv : Int32.ofInt i = v) (q : Go p e below P (T.setTop (mkF m (pc + 1) Ls (.int v :: st)))) : Go p e below P (T.setTop (mkF m pc Ls st)) := q.by fun t r => XS.iconst X.here hx rfl hd (hv ▸ r)
theorem g_bipush (X : Stand p l e R s m args below meth c T locs cells slots) (hx : p.tables.exec = Jvm.exec) {i : Int} {v : Int32} (hd : decode c.code pc = .ok (.bipush i, 2)) (hv : (Int8.ofInt i).toInt32 = v) (q : Go p e below P (T.setTop (mkF m (pc + 2) Ls (.int v :: st)))) : Go p e below P (T.setTop (mkF m pc Ls st)) := q.by fun t r => XS.bipush X.here hx rfl hd (hv ▸ r)
theorem g_sipush (X : Stand p l e R s m args below meth c T locs cells slots) (hx : p.tables.exec = Jvm.exec) {i : Int} {v : Int32} (hd : decode c.code pc = .ok (.sipush i, 3)) (hv : (Int16.ofInt i).toInt32 = v) (q : Go p e below P (T.setTop (mkF m (pc + 3) Ls (.int v :: st)))) : Go p e below P (T.setTop (mkF m pc Ls st)) := q.by fun t r => XS.sipush X.here hx rfl hd (hv ▸ r)
theorem g_lconst0 (X : Stand p l e R s m args below meth c T locs cells slots) (hx : p.tables.exec = Jvm.exec)  (hd : decode c.code pc = .ok (.lconst 0, 1))  (q : Go p e below P (T.setTop (mkF m (pc + 1) Ls (.long 0 :: st)))) : Go p e below P (T.setTop (mkF m pc Ls st)) := q.by fun t r => XS.lconst X.here hx rfl hd r
theorem g_lconst1 (X : Stand p l e R s m args below meth c T locs cells slots) (hx : p.tables.exec = Jvm.exec)  (hd : decode c.code pc = .ok (.lconst 1, 1))  (q : Go p e below P (T.setTop (mkF m (pc + 1) Ls (.long 1 :: st)))) : Go p e below P (T.setTop (mkF m pc Ls st)) := q.by fun t r => XS.lconst X.here hx rfl hd r
theorem g_aconst_null (X : Stand p l e R s m args below meth c T locs cells slots) (hx : p.tables.exec = Jvm.exec)  (hd : decode c.code pc = .ok (.aconst_null, 1))  (q : Go p e below P (T.setTop (mkF m (pc + 1) Ls (.null :: st)))) : Go p e below P (T.setTop (mkF m pc Ls st)) := q.by fun t r => XS.aconstNull X.here hx rfl hd r
theorem g_dconst0 (X : Stand p l e R s m args below meth c T locs cells slots) (hx : p.tables.exec = Jvm.exec)  (hd : decode c.code pc = .ok (.dconst 0, 1))  (q : Go p e below P (T.setTop (mkF m (pc + 1) Ls (.double 0 :: st)))) : Go p e below P (T.setTop (mkF m pc Ls st)) := q.by fun t r => XS.dconst0 X.here hx rfl hd rfl r
theorem g_dconst1 (X : Stand p l e R s m args below meth c T locs cells slots) (hx : p.tables.exec = Jvm.exec)  (hd : decode c.code pc = .ok (.dconst 1, 1))  (q : Go p e below P (T.setTop (mkF m (pc + 1) Ls (.double 4607182418800017408 :: st)))) : Go p e below P (T.setTop (mkF m pc Ls st)) := q.by fun t r => XS.dconst1 X.here hx rfl hd rfl r
theorem g_iadd (X : Stand p l e R s m args below meth c T locs cells slots) (hx : p.tables.exec = Jvm.exec) {x y v : Int32} (hd : decode c.code pc = .ok (.iadd, 1)) (hv : x + y = v) (q : Go p e below P (T.setTop (mkF m (pc + 1) Ls (.int v :: st)))) : Go p e below P (T.setTop (mkF m pc Ls (.int y :: .int x :: st))) := q.by fun t r => XS.iadd X.here hx rfl hd rfl (hv ▸ r)
theorem g_isub (X : Stand p l e R s m args below meth c T locs cells slots) (hx : p.tables.exec = Jvm.exec) {x y v : Int32} (hd : decode c.code pc = .ok (.isub, 1)) (hv : x - y = v) (q : Go p e below P (T.setTop (mkF m (pc + 1) Ls (.int v :: st)))) : Go p e below P (T.setTop (mkF m pc Ls (.int y :: .int x :: st))) := q.by fun t r => XS.isub X.here hx rfl hd rfl (hv ▸ r)
theorem g_imul (X : Stand p l e R s m args below meth c T locs cells slots) (hx : p.tables.exec = Jvm.exec) {x y v : Int32} (hd : decode c.code pc = .ok (.imul, 1)) (hv : x * y = v) (q : Go p e below P (T.setTop (mkF m (pc + 1) Ls (.int v :: st)))) : Go p e below P (T.setTop (mkF m pc Ls (.int y :: .int x :: st))) := q.by fun t r => XS.imul X.here hx rfl hd rfl (hv ▸ r)
theorem g_iand (X : Stand p l e R s m args below meth c T locs cells slots) (hx : p.tables.exec = Jvm.exec) {x y v : Int32} (hd : decode c.code pc = .ok (.iand, 1)) (hv : x &&& y = v) (q : Go p e below P (T.setTop (mkF m (pc + 1) Ls (.int v :: st)))) : Go p e below P (T.setTop (mkF m pc Ls (.int y :: .int x :: st))) := q.by fun t r => XS.iand X.here hx rfl hd rfl (hv ▸ r)
theorem g_ior (X : Stand p l e R s m args below meth c T locs cells slots) (hx : p.tables.exec = Jvm.exec) {x y v : Int32} (hd : decode c.code pc = .ok (.ior, 1)) (hv : x ||| y = v) (q : Go p e below P (T.setTop (mkF m (pc + 1) Ls (.int v :: st)))) : Go p e below P (T.setTop (mkF m pc Ls (.int y :: .int x :: st))) := q.by fun t r => XS.ior X.here hx rfl hd rfl (hv ▸ r)
theorem g_ixor (X : Stand p l e R s m args below meth c T locs cells slots) (hx : p.tables.exec = Jvm.exec) {x y v : Int32} (hd : decode c.code pc = .ok (.ixor, 1)) (hv : x ^^^ y = v) (q : Go p e below P (T.setTop (mkF m (pc + 1) Ls (.int v :: st)))) : Go p e below P (T.setTop (mkF m pc Ls (.int y :: .int x :: st))) := q.by fun t r => XS.ixor X.here hx rfl hd rfl (hv ▸ r)
theorem g_ladd (X : Stand p l e R s m args below meth c T locs cells slots) (hx : p.tables.exec = Jvm.exec) {x y v : Int64} (hd : decode c.code pc = .ok (.ladd, 1)) (hv : x + y = v) (q : Go p e below P (T.setTop (mkF m (pc + 1) Ls (.long v :: st)))) : Go p e below P (T.setTop (mkF m pc Ls (.long y :: .long x :: st))) := q.by fun t r => XS.ladd X.here hx rfl hd rfl (hv ▸ r)
theorem g_lsub (X : Stand p l e R s m args below meth c T locs cells slots) (hx : p.tables.exec = Jvm.exec) {x y v : Int64} (hd : decode c.code pc = .ok (.lsub, 1)) (hv : x - y = v) (q : Go p e below P (T.setTop (mkF m (pc + 1) Ls (.long v :: st)))) : Go p e below P (T.setTop (mkF m pc Ls (.long y :: .long x :: st))) := q.by fun t r => XS.lsub X.here hx rfl hd rfl (hv ▸ r)
theorem g_lmul (X : Stand p l e R s m args below meth c T locs cells slots) (hx : p.tables.exec = Jvm.exec) {x y v : Int64} (hd : decode c.code pc = .ok (.lmul, 1)) (hv : x * y = v) (q : Go p e below P (T.setTop (mkF m (pc + 1) Ls (.long v :: st)))) : Go p e below P (T.setTop (mkF m pc Ls (.long y :: .long x :: st))) := q.by fun t r => XS.lmul X.here hx rfl hd rfl (hv ▸ r)
theorem g_land (X : Stand p l e R s m args below meth c T locs cells slots) (hx : p.tables.exec = Jvm.exec) {x y v : Int64} (hd : decode c.code pc = .ok (.land, 1)) (hv : x &&& y = v) (q : Go p e below P (T.setTop (mkF m (pc + 1) Ls (.long v :: st)))) : Go p e below P (T.setTop (mkF m pc Ls (.long y :: .long x :: st))) := q.by fun t r => XS.land X.here hx rfl hd rfl (hv ▸ r)
theorem g_lor (X : Stand p l e R s m args below meth c T locs cells slots) (hx : p.tables.exec = Jvm.exec) {x y v : Int64} (hd : decode c.code pc = .ok (.lor, 1)) (hv : x ||| y = v) (q : Go p e below P (T.setTop (mkF m (pc + 1) Ls (.long v :: st)))) : Go p e below P (T.setTop (mkF m pc Ls (.long y :: .long x :: st))) := q.by fun t r => XS.lor X.here hx rfl hd rfl (hv ▸ r)
theorem g_ishl (X : Stand p l e R s m args below meth c T locs cells slots) (hx : p.tables.exec = Jvm.exec) {x y v : Int32} (hd : decode c.code pc = .ok (.ishl, 1)) (hv : x <<< (y &&& 31) = v) (q : Go p e below P (T.setTop (mkF m (pc + 1) Ls (.int v :: st)))) : Go p e below P (T.setTop (mkF m pc Ls (.int y :: .int x :: st))) := q.by fun t r => XS.ishl X.here hx rfl hd rfl (hv ▸ r)
theorem g_ishr (X : Stand p l e R s m args below meth c T locs cells slots) (hx : p.tables.exec = Jvm.exec) {x y v : Int32} (hd : decode c.code pc = .ok (.ishr, 1)) (hv : x >>> (y &&& 31) = v) (q : Go p e below P (T.setTop (mkF m (pc + 1) Ls (.int v :: st)))) : Go p e below P (T.setTop (mkF m pc Ls (.int y :: .int x :: st))) := q.by fun t r => XS.ishr X.here hx rfl hd rfl (hv ▸ r)
theorem g_iushr (X : Stand p l e R s m args below meth c T locs cells slots) (hx : p.tables.exec = Jvm.exec) {x y v : Int32} (hd : decode c.code pc = .ok (.iushr, 1)) (hv : (x.toUInt32 >>> (y &&& 31).toUInt32).toInt32 = v) (q : Go p e below P (T.setTop (mkF m (pc + 1) Ls (.int v :: st)))) : Go p e below P (T.setTop (mkF m pc Ls (.int y :: .int x :: st))) := q.by fun t r => XS.iushr X.here hx rfl hd rfl (hv ▸ r)
theorem g_idiv (X : Stand p l e R s m args below meth c T locs cells slots) (hx : p.tables.exec = Jvm.exec) {x y v : Int32} (hd : decode c.code pc = .ok (.idiv, 1)) (hy : y ≠ 0) (hv : x / y = v) (q : Go p e below P (T.setTop (mkF m (pc + 1) Ls (.int v :: st)))) : Go p e below P (T.setTop (mkF m pc Ls (.int y :: .int x :: st))) := q.by fun t r => XS.idiv X.here hx rfl hd rfl hy (hv ▸ r)
theorem g_irem (X : Stand p l e R s m args below meth c T locs cells slots) (hx : p.tables.exec = Jvm.exec) {x y v : Int32} (hd : decode c.code pc = .ok (.irem, 1)) (hy : y ≠ 0) (hv : x % y = v) (q : Go p e below P (T.setTop (mkF m (pc + 1) Ls (.int v :: st)))) : Go p e below P (T.setTop (mkF m pc Ls (.int y :: .int x :: st))) := q.by fun t r => XS.irem X.here hx rfl hd rfl hy (irem_eq_mod x y ▸ hv ▸ r)
theorem g_ldiv (X : Stand p l e R s m args below meth c T locs cells slots) (hx : p.tables.exec = Jvm.exec) {x y v : Int64} (hd : decode c.code pc = .ok (.ldiv, 1)) (hy : y ≠ 0) (hv : x / y = v) (q : Go p e below P (T.setTop (mkF m (pc + 1) Ls (.long v :: st)))) : Go p e below P (T.setTop (mkF m pc Ls (.long y :: .long x :: st))) := q.by fun t r => XS.ldiv X.here hx rfl hd rfl hy (hv ▸ r)
theorem g_lshl (X : Stand p l e R s m args below meth c T locs cells slots) (hx : p.tables.exec = Jvm.exec) {x v : Int64} {y : Int32} (hd : decode c.code pc = .ok (.lshl, 1)) (hv : x <<< (y &&& 0x3f).toInt64 = v) (q : Go p e below P (T.setTop (mkF m (pc + 1) Ls (.long v :: st)))) : Go p e below P (T.setTop (mkF m pc Ls (.int y :: .long x :: st))) := q.by fun t r => XS.lshl X.here hx rfl hd rfl (hv ▸ r)
theorem g_lshr (X : Stand p l e R s m args below meth c T locs cells slots) (hx : p.tables.exec = Jvm.exec) {x v : Int64} {y : Int32} (hd : decode c.code pc = .ok (.lshr, 1)) (hv : x >>> (y &&& 0x3f).toInt64 = v) (q : Go p e below P (T.setTop (mkF m (pc + 1) Ls (.long v :: st)))) : Go p e below P (T.setTop (mkF m pc Ls (.int y :: .long x :: st))) := q.by fun t r => XS.lshr X.here hx rfl hd rfl (hv ▸ r)
theorem g_lushr (X : Stand p l e R s m args below meth c T locs cells slots) (hx : p.tables.exec = Jvm.exec) {x v : Int64} {y : Int32} (hd : decode c.code pc = .ok (.lushr, 1)) (hv : (x.toUInt64 >>> (y &&& 0x3f).toInt64.toUInt64).toInt64 = v) (q : Go p e below P (T.setTop (mkF m (pc + 1) Ls (.long v :: st)))) : Go p e below P (T.setTop (mkF m pc Ls (.int y :: .long x :: st))) := q.by fun t r => XS.lushr X.here hx rfl hd rfl (hv ▸ r)
theorem g_lcmp (X : Stand p l e R s m args below meth c T locs cells slots) (hx : p.tables.exec = Jvm.exec) {x y : Int64} (hd : decode c.code pc = .ok (.lcmp, 1))  (q : Go p e below P (T.setTop (mkF m (pc + 1) Ls (.int (lcmpW x y) :: st)))) : Go p e below P (T.setTop (mkF m pc Ls (.long y :: .long x :: st))) := q.by fun t r => XS.lcmp X.here hx rfl hd rfl r
theorem g_ineg (X : Stand p l e R s m args below meth c T locs cells slots) (hx : p.tables.exec = Jvm.exec) {x : Int32} {v : Int32} (hd : decode c.code pc = .ok (.ineg, 1)) (hv : -x = v) (q : Go p e below P (T.setTop (mkF m (pc + 1) Ls (.int v :: st)))) : Go p e below P (T.setTop (mkF m pc Ls (.int x :: st))) := q.by fun t r => XS.ineg X.here hx rfl hd rfl (hv ▸ r)
theorem g_lneg (X : Stand p l e R s m args below meth c T locs cells slots) (hx : p.tables.exec = Jvm.exec) {x : Int64} {v : Int64} (hd : decode c.code pc = .ok (.lneg, 1)) (hv : -x = v) (q : Go p e below P (T.setTop (mkF m (pc + 1) Ls (.long v :: st)))) : Go p e below P (T.setTop (mkF m pc Ls (.long x :: st))) := q.by fun t r => XS.lneg X.here hx rfl hd rfl (hv ▸ r)
theorem g_i2l (X : Stand p l e R s m args below meth c T locs cells slots) (hx : p.tables.exec = Jvm.exec) {x : Int32} {v : Int64} (hd : decode c.code pc = .ok (.i2l, 1)) (hv : x.toInt64 = v) (q : Go p e below P (T.setTop (mkF m (pc + 1) Ls (.long v :: st)))) : Go p e below P (T.setTop (mkF m pc Ls (.int x :: st))) := q.by fun t r => XS.i2l X.here hx rfl hd rfl (hv ▸ r)
theorem g_l2i (X : Stand p l e R s m args below meth c T locs cells slots) (hx : p.tables.exec = Jvm.exec) {x : Int64} {v : Int32} (hd : decode c.code pc = .ok (.l2i, 1)) (hv : x.toInt32 = v) (q : Go p e below P (T.setTop (mkF m (pc + 1) Ls (.int v :: st)))) : Go p e below P (T.setTop (mkF m pc Ls (.long x :: st))) := q.by fun t r => XS.l2i X.here hx rfl hd rfl (hv ▸ r)
theorem g_i2b (X : Stand p l e R s m args below meth c T locs cells slots) (hx : p.tables.exec = Jvm.exec) {x : Int32} {v : Int32} (hd : decode c.code pc = .ok (.i2b, 1)) (hv : x.toInt8.toInt32 = v) (q : Go p e below P (T.setTop (mkF m (pc + 1) Ls (.int v :: st)))) : Go p e below P (T.setTop (mkF m pc Ls (.int x :: st))) := q.by fun t r => XS.i2b X.here hx rfl hd rfl (hv ▸ r)
theorem g_i2c (X : Stand p l e R s m args below meth c T locs cells slots) (hx : p.tables.exec = Jvm.exec) {x : Int32} {v : Int32} (hd : decode c.code pc = .ok (.i2c, 1)) (hv : x.toUInt32.toUInt16.toUInt32.toInt32 = v) (q : Go p e below P (T.setTop (mkF m (pc + 1) Ls (.int v :: st)))) : Go p e below P (T.setTop (mkF m pc Ls (.int x :: st))) := q.by fun t r => XS.i2c X.here hx rfl hd rfl (hv ▸ r)
theorem g_i2s (X : Stand p l e R s m args below meth c T locs cells slots) (hx : p.tables.exec = Jvm.exec) {x : Int32} {v : Int32} (hd : decode c.code pc = .ok (.i2s, 1)) (hv : x.toInt16.toInt32 = v) (q : Go p e below P (T.setTop (mkF m (pc + 1) Ls (.int v :: st)))) : Go p e below P (T.setTop (mkF m pc Ls (.int x :: st))) := q.by fun t r => XS.i2s X.here hx rfl hd rfl (hv ▸ r)
theorem g_i2d (X : Stand p l e R s m args below meth c T locs cells slots) (hx : p.tables.exec = Jvm.exec) {x : Int32} {v : UInt64} (hd : decode c.code pc = .ok (.i2d, 1)) (hv : FP.i2d x = v) (q : Go p e below P (T.setTop (mkF m (pc + 1) Ls (.double v :: st)))) : Go p e below P (T.setTop (mkF m pc Ls (.int x :: st))) := q.by fun t r => XS.i2dS X.here hx rfl hd rfl hv r
theorem g_l2d (X : Stand p l e R s m args below meth c T locs cells slots) (hx : p.tables.exec = Jvm.exec) {x : Int64} {v : UInt64} (hd : decode c.code pc = .ok (.l2d, 1)) (hv : FP.l2d x = v) (q : Go p e below P (T.setTop (mkF m (pc + 1) Ls (.double v :: st)))) : Go p e below P (T.setTop (mkF m pc Ls (.long x :: st))) := q.by fun t r => XS.l2dS X.here hx rfl hd rfl hv r
theorem g_d2i (X : Stand p l e R s m args below meth c T locs cells slots) (hx : p.tables.exec = Jvm.exec) {x : UInt64} {v : Int32} (hd : decode c.code pc = .ok (.d2i, 1)) (hv : FP.d2i x = v) (q : Go p e below P (T.setTop (mkF m (pc + 1) Ls (.int v :: st)))) : Go p e below P (T.setTop (mkF m pc Ls (.double x :: st))) := q.by fun t r => XS.d2iS X.here hx rfl hd rfl hv r
theorem g_d2l (X : Stand p l e R s m args below meth c T locs cells slots) (hx : p.tables.exec = Jvm.exec) {x : UInt64} {v : Int64} (hd : decode c.code pc = .ok (.d2l, 1)) (hv : FP.d2l x = v) (q : Go p e below P (T.setTop (mkF m (pc + 1) Ls (.long v :: st)))) : Go p e below P (T.setTop (mkF m pc Ls (.double x :: st))) := q.by fun t r => XS.d2lS X.here hx rfl hd rfl hv r
theorem g_dneg (X : Stand p l e R s m args below meth c T locs cells slots) (hx : p.tables.exec = Jvm.exec) {x : UInt64} {v : UInt64} (hd : decode c.code pc = .ok (.dneg, 1)) (hv : FP.dneg x = v) (q : Go p e below P (T.setTop (mkF m (pc + 1) Ls (.double v :: st)))) : Go p e below P (T.setTop (mkF m pc Ls (.double x :: st))) := q.by fun t r => XS.dnegS X.here hx rfl hd rfl hv r
theorem g_i2f (X : Stand p l e R s m args below meth c T locs cells slots) (hx : p.tables.exec = Jvm.exec) {x : Int32} {v : UInt32} (hd : decode c.code pc = .ok (.i2f, 1)) (hv : FP.i2f x = v) (q : Go p e below P (T.setTop (mkF m (pc + 1) Ls (.float v :: st)))) : Go p e below P (T.setTop (mkF m pc Ls (.int x :: st))) := q.by fun t r => XS.i2fS X.here hx rfl hd rfl hv r
theorem g_l2f (X : Stand p l e R s m args below meth c T locs cells slots) (hx : p.tables.exec = Jvm.exec) {x : Int64} {v : UInt32} (hd : decode c.code pc = .ok (.l2f, 1)) (hv : FP.l2f x = v) (q : Go p e below P (T.setTop (mkF m (pc + 1) Ls (.float v :: st)))) : Go p e below P (T.setTop (mkF m pc Ls (.long x :: st))) := q.by fun t r => XS.l2fS X.here hx rfl hd rfl hv r
theorem g_fneg (X : Stand p l e R s m args below meth c T locs cells slots) (hx : p.tables.exec = Jvm.exec) {x : UInt32} {v : UInt32} (hd : decode c.code pc = .ok (.fneg, 1)) (hv : FP.fneg x = v) (q : Go p e below P (T.setTop (mkF m (pc + 1) Ls (.float v :: st)))) : Go p e below P (T.setTop (mkF m pc Ls (.float x :: st))) := q.by fun t r => XS.fnegS X.here hx rfl hd rfl hv r
theorem g_dadd (X : Stand p l e R s m args below meth c T locs cells slots) (hx : p.tables.exec = Jvm.exec) {x y v : UInt64} (hd : decode c.code pc = .ok (.dadd, 1)) (hn : Jvm.Free.Fl.NoNaN64 (FP.dadd x y)) (hv : FP.dadd x y = v) (q : Go p e below P (T.setTop (mkF m (pc + 1) Ls (.double v :: st)))) : Go p e below P (T.setTop (mkF m pc Ls (.double y :: .double x :: st))) := q.by fun t r => XS.daddS X.here hx rfl hd rfl hn hv r
theorem g_dsub (X : Stand p l e R s m args below meth c T locs cells slots) (hx : p.tables.exec = Jvm.exec) {x y v : UInt64} (hd : decode c.code pc = .ok (.dsub, 1)) (hn : Jvm.Free.Fl.NoNaN64 (FP.dsub x y)) (hv : FP.dsub x y = v) (q : Go p e below P (T.setTop (mkF m (pc + 1) Ls (.double v :: st)))) : Go p e below P (T.setTop (mkF m pc Ls (.double y :: .double x :: st))) := q.by fun t r => XS.dsubS X.here hx rfl hd rfl hn hv r
theorem g_dmul (X : Stand p l e R s m args below meth c T locs cells slots) (hx : p.tables.exec = Jvm.exec) {x y v : UInt64} (hd : decode c.code pc = .ok (.dmul, 1)) (hn : Jvm.Free.Fl.NoNaN64 (FP.dmul x y)) (hv : FP.dmul x y = v) (q : Go p e below P (T.setTop (mkF m (pc + 1) Ls (.double v :: st)))) : Go p e below P (T.setTop (mkF m pc Ls (.double y :: .double x :: st))) := q.by fun t r => XS.dmulS X.here hx rfl hd rfl hn hv r
theorem g_ddiv (X : Stand p l e R s m args below meth c T locs cells slots) (hx : p.tables.exec = Jvm.exec) {x y v : UInt64} (hd : decode c.code pc = .ok (.ddiv, 1)) (hn : Jvm.Free.Fl.NoNaN64 (FP.ddiv x y)) (hv : FP.ddiv x y = v) (q : Go p e below P (T.setTop (mkF m (pc + 1) Ls (.double v :: st)))) : Go p e below P (T.setTop (mkF m pc Ls (.double y :: .double x :: st))) := q.by fun t r => XS.ddivS X.here hx rfl hd rfl hn hv r
theorem g_dcmp (X : Stand p l e R s m args below meth c T locs cells slots) (hx : p.tables.exec = Jvm.exec) {o : CmpOp} {x y : UInt64} (hd : decode c.code pc = .ok (.dcmp o, 1))  (q : Go p e below P (T.setTop (mkF m (pc + 1) Ls (.int (cmpValue (FP.dcmp x y) o) :: st)))) : Go p e below P (T.setTop (mkF m pc Ls (.double y :: .double x :: st))) := q.by fun t r => XS.dcmpS X.here hx rfl hd rfl rfl r
theorem g_fcmp (X : Stand p l e R s m args below meth c T locs cells slots) (hx : p.tables.exec = Jvm.exec) {o : CmpOp} {x y : UInt32} (hd : decode c.code pc = .ok (.fcmp o, 1))  (q : Go p e below P (T.setTop (mkF m (pc + 1) Ls (.int (cmpValue (FP.fcmp x y) o) :: st)))) : Go p e below P (T.setTop (mkF m pc Ls (.float y :: .float x :: st))) := q.by fun t r => XS.fcmpS X.here hx rfl hd rfl rfl r
theorem g_dup (X : Stand p l e R s m args below meth c T locs cells slots) (hx : p.tables.exec = Jvm.exec) {x : Value} (hd : decode c.code pc = .ok (.dup, 1)) (hc : x.category = 1) (q : Go p e below P (T.setTop (mkF m (pc + 1) Ls (x :: x :: st)))) : Go p e below P (T.setTop (mkF m pc Ls (x :: st))) := q.by fun t r => XS.dup X.here hx rfl hd rfl hc r
theorem g_pop (X : Stand p l e R s m args below meth c T locs cells slots) (hx : p.tables.exec = Jvm.exec) {x : Value} (hd : decode c.code pc = .ok (.pop, 1)) (hc : x.category = 1) (q : Go p e below P (T.setTop (mkF m (pc + 1) Ls st))) : Go p e below P (T.setTop (mkF m pc Ls (x :: st))) := q.by fun t r => XS.pop X.here hx rfl hd rfl hc r
theorem g_dup2 (X : Stand p l e R s m args below meth c T locs cells slots) (hx : p.tables.exec = Jvm.exec) {x y : Value} (hd : decode c.code pc = .ok (.dup2, 1)) (hc : x.category = 1) (hc' : y.category = 1) (q : Go p e below P (T.setTop (mkF m (pc + 1) Ls (x :: y :: x :: y :: st)))) : Go p e below P (T.setTop (mkF m pc Ls (x :: y :: st))) := q.by fun t r => XT.dup2 X.here hx rfl hd rfl hc hc' r
theorem g_iinc (X : Stand p l e R s m args below meth c T locs cells slots) (hx : p.tables.exec = Jvm.exec) {k : Nat} {d : Int} {x : Int32} {L' : Array Slot} (hd : decode c.code pc = .ok (.iinc k d, 3)) (hl : Ls[k]? = some (.val (.int x))) (hs : storeLocals Ls k (.int (x + Int32.ofInt d)) = some L') (q : Go p e below P (T.setTop (mkF m (pc + 3) L' st))) : Go p e below P (T.setTop (mkF m pc Ls st)) := q.by fun t r => XS.iinc X.here hx rfl hd hl hs r
theorem g_goto (X : Stand p l e R s m args below meth c T locs cells slots) (hx : p.tables.exec = Jvm.exec)  {o : Int} {pc' : Nat} (hd : decode c.code pc = .ok (.goto o, 3))  (ho : 0 ≤ (pc : Int) + o) (hp : ((pc : Int) + o).toNat = pc') (q : Go p e below P (T.setTop (mkF m pc' Ls st))) : Go p e below P (T.setTop (mkF m pc Ls st)) := q.by fun t r => XS.goto X.here hx rfl rfl hd ho hp r
theorem g_ifYes (X : Stand p l e R s m args below meth c T locs cells slots) (hx : p.tables.exec = Jvm.exec) {cd : ClassFile.Cond} {x : Int32} {o : Int} {pc' : Nat} (hd : decode c.code pc = .ok (.ifCond cd o, 3)) (hc : if_icmp.holds cd x 0 = true) (ho : 0 ≤ (pc : Int) + o) (hp : ((pc : Int) + o).toNat = pc') (q : Go p e below P (T.setTop (mkF m pc' Ls st))) : Go p e below P (T.setTop (mkF m pc Ls (.int x :: st))) := q.by fun t r => XS.ifYes X.here hx rfl rfl hd rfl ((if0 _ _).trans hc) ho hp r
theorem g_icmpYes (X : Stand p l e R s m args below meth c T locs cells slots) (hx : p.tables.exec = Jvm.exec) {cd : ClassFile.Cond} {x y : Int32} {o : Int} {pc' : Nat} (hd : decode c.code pc = .ok (.if_icmp cd o, 3)) (hc : if_icmp.holds cd x y = true) (ho : 0 ≤ (pc : Int) + o) (hp : ((pc : Int) + o).toNat = pc') (q : Go p e below P (T.setTop (mkF m pc' Ls st))) : Go p e below P (T.setTop (mkF m pc Ls (.int y :: .int x :: st))) := q.by fun t r => XS.icmpYes X.here hx rfl rfl hd rfl hc ho hp r
theorem g_ifNo (X : Stand p l e R s m args below meth c T locs cells slots) (hx : p.tables.exec = Jvm.exec) {cd : ClassFile.Cond} {o : Int} {x : Int32} (hd : decode c.code pc = .ok (.ifCond cd o, 3)) (hc : if_icmp.holds cd x 0 = false) (q : Go p e below P (T.setTop (mkF m (pc + 3) Ls st))) : Go p e below P (T.setTop (mkF m pc Ls (.int x :: st))) := q.by fun t r => XS.ifNo X.here hx rfl hd rfl ((if0 _ _).trans hc) r
theorem g_icmpNo (X : Stand p l e R s m args below meth c T locs cells slots) (hx : p.tables.exec = Jvm.exec) {cd : ClassFile.Cond} {o : Int} {x y : Int32} (hd : decode c.code pc = .ok (.if_icmp cd o, 3)) (hc : if_icmp.holds cd x y = false) (q : Go p e below P (T.setTop (mkF m (pc + 3) Ls st))) : Go p e below P (T.setTop (mkF m pc Ls (.int y :: .int x :: st))) := q.by fun t r => XS.icmpNo X.here hx rfl hd rfl hc r
theorem g_ifnonnullYes (X : Stand p l e R s m args below meth c T locs cells slots) (hx : p.tables.exec = Jvm.exec) {b : Addr} {o : Int} {pc' : Nat} (hd : decode c.code pc = .ok (.ifnonnull o, 3))  (ho : 0 ≤ (pc : Int) + o) (hp : ((pc : Int) + o).toNat = pc') (q : Go p e below P (T.setTop (mkF m pc' Ls st))) : Go p e below P (T.setTop (mkF m pc Ls (.ref b :: st))) := q.by fun t r => XS.ifnonnullYes X.here hx rfl rfl hd rfl ho hp r
theorem g_ifnonnullNo (X : Stand p l e R s m args below meth c T locs cells slots) (hx : p.tables.exec = Jvm.exec) {o : Int} (hd : decode c.code pc = .ok (.ifnonnull o, 3))  (q : Go p e below P (T.setTop (mkF m (pc + 3) Ls st))) : Go p e below P (T.setTop (mkF m pc Ls (.null :: st))) := q.by fun t r => XS.ifnonnullNo X.here hx rfl hd rfl r
theorem g_ifnullYes (X : Stand p l e R s m args below meth c T locs cells slots) (hx : p.tables.exec = Jvm.exec)  {o : Int} {pc' : Nat} (hd : decode c.code pc = .ok (.ifnull o, 3))  (ho : 0 ≤ (pc : Int) + o) (hp : ((pc : Int) + o).toNat = pc') (q : Go p e below P (T.setTop (mkF m pc' Ls st))) : Go p e below P (T.setTop (mkF m pc Ls (.null :: st))) := q.by fun t r => XS.ifnullYes X.here hx rfl rfl hd rfl ho hp r
theorem g_ifnullNo (X : Stand p l e R s m args below meth c T locs cells slots) (hx : p.tables.exec = Jvm.exec) {o : Int} {b : Addr} (hd : decode c.code pc = .ok (.ifnull o, 3))  (q : Go p e below P (T.setTop (mkF m (pc + 3) Ls st))) : Go p e below P (T.setTop (mkF m pc Ls (.ref b :: st))) := q.by fun t r => XS.ifnullNo X.here hx rfl hd rfl r
theorem g_drem (X : Stand p l e R s m args below meth c T locs cells slots) (hx : p.tables.exec = Jvm.exec) {x y v : UInt64} (hd : decode c.code pc = .ok (.drem, 1)) (hn : Jvm.Free.Fl.NoNaN64 (FP.drem x y)) (hv : FP.drem x y = v) (q : Go p e below P (T.setTop (mkF m (pc + 1) Ls (.double v :: st)))) : Go p e below P (T.setTop (mkF m pc Ls (.double y :: .double x :: st))) := q.by fun t r => by
  subst hv
  have ht := X.here
  show Steps p.tables e below (T.setTop { method := m, pc := pc, locals := Ls, stack := .double y :: .double x :: st, locked := none }) t
  jvm_step ht [ht.top, hx, hd, Op.drem.at_number ht.top hn]
  exact r
theorem g_dup_x2 (X : Stand p l e R s m args below meth c T locs cells slots) (hx : p.tables.exec = Jvm.exec) {x y z : Value} (hd : decode c.code pc = .ok (.dup_x2, 1)) (h1 : x.category = 1) (h2 : y.category = 1) (h3 : z.category = 1) (q : Go p e below P (T.setTop (mkF m (pc + 1) Ls (x :: y :: z :: x :: st)))) : Go p e below P (T.setTop (mkF m pc Ls (x :: y :: z :: st))) := q.by fun t r => by
  have ht := X.here
  show Steps p.tables e below (T.setTop { method := m, pc := pc, locals := Ls, stack := x :: y :: z :: st, locked := none }) t
  jvm_step ht [ht.top, hx, hd, h1, h2, h3]
  exact r
theorem g_ldcI (X : Stand p l e R s m args below meth c T locs cells slots) (hx : p.tables.exec = Jvm.exec) (hZ : Z.Warmed39 s.vm) (hown : s.vm.findClass own = some m.cls) {v : Int32} (w : (Cond.constant own index v).before a0 Z = true) (hd : decode c.code pc = .ok (.ldc index, 2)) (q : Go p e below P (T.setTop (mkF m (pc + 2) Ls (.int v :: st)))) : Go p e below P (T.setTop (mkF m pc Ls st)) := q.by fun t r => X.ldcI hx hown (mvT hZ w) rfl hd r
theorem g_ldc2J (X : Stand p l e R s m args below meth c T locs cells slots) (hx : p.tables.exec = Jvm.exec) (hZ : Z.Warmed39 s.vm) (hown : s.vm.findClass own = some m.cls) {v : Int64} (w : (Cond.constantLong own index v).before a0 Z = true) (hd : decode c.code pc = .ok (.ldc2_w index, 3)) (q : Go p e below P (T.setTop (mkF m (pc + 3) Ls (.long v :: st)))) : Go p e below P (T.setTop (mkF m pc Ls st)) := q.by fun t r => X.ldc2J hx hown (mvT hZ w) rfl hd r
theorem g_ldc2D (X : Stand p l e R s m args below meth c T locs cells slots) (hx : p.tables.exec = Jvm.exec) (hZ : Z.Warmed39 s.vm) (hown : s.vm.findClass own = some m.cls) {v : UInt64} (w : (Cond.constantDouble own index v).before a0 Z = true) (hd : decode c.code pc = .ok (.ldc2_w index, 3)) (q : Go p e below P (T.setTop (mkF m (pc + 3) Ls (.double v :: st)))) : Go p e below P (T.setTop (mkF m pc Ls st)) := q.by fun t r => X.ldc2DoubleC hx hown (mvT hZ w) (g := mkF m pc Ls st) rfl hd t r
theorem g_ldcF (X : Stand p l e R s m args below meth c T locs cells slots) (hx : p.tables.exec = Jvm.exec) (hZ : Z.Warmed39 s.vm) (hown : s.vm.findClass own = some m.cls) {v : UInt32} (w : (Cond.constantFloat own index v).before a0 Z = true) (hd : decode c.code pc = .ok (.ldc index, 2)) (q : Go p e below P (T.setTop (mkF m (pc + 2) Ls (.float v :: st)))) : Go p e below P (T.setTop (mkF m pc Ls st)) := q.by fun t r => X.ldcFloatC hx hown (mvT hZ w) (g := mkF m pc Ls st) rfl hd t r
theorem Ret.end {Q : Option Value → Heap → List Loc → Prop} {C N : Nat} {g : JFrame} (X : Stand p l e R s m args below meth c T locs cells slots) (hx : p.tables.exec = Jvm.exec) (hlk : meth.locks = false) {v : Option Value} (hv : meth.sig.returnType = none → v = none) (stp : ∀ fs, (∀ (f : JFrame) (acts : List Action), f.method = m → f.locked = none → f.entered = [] → (doReturn e (T.setTop f) acts v).1 = T.setFrames fs) → Steps p.tables e below (T.setTop g) (T.setFrames fs)) (hC : cells ≤ C) (hN : slots ≤ N) (hq : Q v T.heap locs) : Go p e below (Ret s Q C N) (T.setTop g) := by
  obtain ⟨fs, hr, hrun, hended, hW, hsame⟩ := X.leave hv hlk
  exact ⟨_, _, stp fs hr, hrun, hended, _, _, rfl, hq, ⟨_, rfl⟩, hW, hsame.mono hC hN⟩
theorem g_ireturn {Q : Option Value → Heap → List Loc → Prop} {C N : Nat} (X : Stand p l e R s m args below meth c T locs cells slots) (hx : p.tables.exec = Jvm.exec) (hlk : meth.locks = false) {w : Int32} {t : FieldType} (hret : meth.sig.returnType = some t) (hn : narrow t (.int w) = .int w) (hti : t = .int ∨ t = .boolean ∨ t = .byte ∨ t = .char ∨ t = .short) (hd : decode c.code pc = .ok (.ireturn, 1)) (hC : cells ≤ C) (hN : slots ≤ N) (hq : Q (some (.int w)) T.heap locs) : Go p e below (Ret s Q C N) (T.setTop (mkF m pc Ls [.int w])) :=
  Ret.end X hx hlk (fun h => by rw [hret] at h; cases h) (fun fs hr => X.ireturnOut hx hret hn hti hd hr) hC hN hq
theorem g_lreturn {Q : Option Value → Heap → List Loc → Prop} {C N : Nat} (X : Stand p l e R s m args below meth c T locs cells slots) (hx : p.tables.exec = Jvm.exec) (hlk : meth.locks = false) {w : Int64} (hret : meth.sig.returnType = some .long) (hd : decode c.code pc = .ok (.lreturn, 1)) (hC : cells ≤ C) (hN : slots ≤ N) (hq : Q (some (.long w)) T.heap locs) : Go p e below (Ret s Q C N) (T.setTop (mkF m pc Ls [.long w])) :=
  Ret.end X hx hlk (fun h => by rw [hret] at h; cases h) (fun fs hr => X.lreturnOut hx hret hd hr) hC hN hq
theorem g_return {Q : Option Value → Heap → List Loc → Prop} {C N : Nat} (X : Stand p l e R s m args below meth c T locs cells slots) (hx : p.tables.exec = Jvm.exec) (hlk : meth.locks = false) (hret : meth.sig.returnType = none) (hd : decode c.code pc = .ok (.return_, 1)) (hC : cells ≤ C) (hN : slots ≤ N) (hq : Q none T.heap locs) : Go p e below (Ret s Q C N) (T.setTop (mkF m pc Ls [])) :=
  Ret.end X hx hlk (fun _ => rfl) (fun fs hr => X.returnOut hx hret hd hr) hC hN hq
theorem g_areturn {Q : Option Value → Heap → List Loc → Prop} {C N : Nat} (X : Stand p l e R s m args below meth c T locs cells slots) (hx : p.tables.exec = Jvm.exec) (hlk : meth.locks = false) {w : Value} {t : FieldType} (hret : meth.sig.returnType = some t) (ht : t.isReference = true) (hw : w.isRef = true) (hd : decode c.code pc = .ok (.areturn, 1)) (hC : cells ≤ C) (hN : slots ≤ N) (hq : Q (some w) T.heap locs) : Go p e below (Ret s Q C N) (T.setTop (mkF m pc Ls [w])) :=
  Ret.end X hx hlk (fun h => by rw [hret] at h; cases h) (fun fs hr => X.areturnOut hx hw hret ht hd hr) hC hN hq
theorem g_dreturn {Q : Option Value → Heap → List Loc → Prop} {C N : Nat} (X : Stand p l e R s m args below meth c T locs cells slots) (hx : p.tables.exec = Jvm.exec) (hlk : meth.locks = false) {w : UInt64} (hret : meth.sig.returnType = some .double) (hd : decode c.code pc = .ok (.dreturn, 1)) (hC : cells ≤ C) (hN : slots ≤ N) (hq : Q (some (.double w)) T.heap locs) : Go p e below (Ret s Q C N) (T.setTop (mkF m pc Ls [.double w])) :=
  Ret.end X hx hlk (fun h => by rw [hret] at h; cases h) (fun fs hr => by
    have hm' : T.vm.method? m = some meth := X.method'
    show Steps p.tables e below (T.setTop { method := m, pc := pc, locals := Ls, stack := [.double w], locked := none }) _
    jvm_step X.here [X.here.top, hx, hd, hm', hret]
    first | (intro acts; rw [hr _ acts rfl rfl rfl]) | rw [hr _ _ rfl rfl rfl]
    exact Steps.refl _) hC hN hq
theorem g_freturn {Q : Option Value → Heap → List Loc → Prop} {C N : Nat} (X : Stand p l e R s m args below meth c T locs cells slots) (hx : p.tables.exec = Jvm.exec) (hlk : meth.locks = false) {w : UInt32} (hret : meth.sig.returnType = some .float) (hd : decode c.code pc = .ok (.freturn, 1)) (hC : cells ≤ C) (hN : slots ≤ N) (hq : Q (some (.float w)) T.heap locs) : Go p e below (Ret s Q C N) (T.setTop (mkF m pc Ls [.float w])) :=
  Ret.end X hx hlk (fun h => by rw [hret] at h; cases h) (fun fs hr => retF X hx hret hd hr) hC hN hq
theorem g_callS (X : Stand p l e R s m args below meth c T locs cells slots) (hx : p.tables.exec = Jvm.exec) (hZ : Z.Warmed39 s.vm) (hown : s.vm.findClass own = some m.cls) {y : MethodName} {bytes : ByteArray} {maxL : Nat} {ret : Option FieldType} (w1 : (Cond.methodLink own index y).before a0 Z = true) (w2 : (Cond.static y).before a0 Z = true) (w3 : (Cond.initialized y.cls).before a0 Z = true) (w4 : (Cond.code y bytes maxL ret).before a0 Z = true) (hy : y.cls ≠ "java/lang/invoke/MethodHandle" ∧ y.cls ≠ "java/lang/invoke/VarHandle") {rm : Room} {as' : Array Value} {Q : Option Value → Heap → List Loc → Prop} (hM : MetFree l y (head1 [Cond.code y bytes maxL ret] rm) (fun a U => a = as' ∧ Z.Warmed39 U.vm ∧ U.heap = h) (fun _ _ _ _ _ => True) (fun _ U o U' => ∃ v L, o = .returned v ∧ Q v U'.heap L ∧ FrameEnd U o U' L rm.cells rm.slots)) (eT : T.heap = h) {W : Nat} (hf : rm.frames + 1 ≤ R.frames) (hlo : W + (maxL + 11) + rm.locals ≤ R.locals) (hsize : Ls.size = c.maxLocals) (argsL rest : List Value) (hlen : ∀ sig, parseMethodDescriptor y.desc = some sig → argsL.length = sig.parameters.length) (hst : st = argsL.reverse ++ rest) (has : argsL.toArray = as') (hW : (rest.map fun v => v.category).sum ≤ W) (hd : decode c.code pc = .ok (.invokestatic index, 3)) (hc : cells + rm.cells ≤ R.cells) (hs : slots + rm.slots ≤ R.slots) (k : ∀ (v : Option Value) (T' : State) (L : List Loc), Stand p l e R s m args below meth c T' (locs ++ L) (cells + rm.cells) (slots + rm.slots) → Q v T'.heap L → Go p e below P (T'.setTop (mkF m (pc + 3) Ls (v.toList ++ rest)))) : Go p e below P (T.setTop (mkF m pc Ls st)) := by
  obtain ⟨v, vm1, ⟨T', L', k', n'⟩, -, X', ⟨L, hQ, l1, y1, z1⟩, stp⟩ := Jvm.LawKit.callS X hx hown (mvT hZ w1) (mvT hZ w2) (mvT hZ w3) (mvT hZ w4) hy (backOf (W := W) hM hZ w4 w3 hf hlo) (g := mkF m pc Ls st) rfl hsize hlen hst (by show 2 * 0 + _ ≤ _; omega) hd (fun _ _ => ⟨has, eT, hc, hs⟩)
  dsimp only [Pt.U, Pt.locs, Pt.cells, Pt.slots] at X' l1 y1 z1 stp hQ
  subst l1 y1 z1
  exact (k v T' L X' hQ).by stp
theorem g_init (X : Stand p l e R s m args below meth c T locs cells slots) (hx : p.tables.exec = Jvm.exec) (hZ : Z.Warmed39 s.vm) (hown : s.vm.findClass own = some m.cls) {y : MethodName} {bytes : ByteArray} {maxL : Nat} (hy1 : y.name = "<init>") (w1 : (Cond.methodLink own index y).before a0 Z = true) (w2 : (Cond.instanceMethod y).before a0 Z = true) (w3 : (Cond.initialized y.cls).before a0 Z = true) (w4 : (Cond.code y bytes maxL none).before a0 Z = true) (hy : y.cls ≠ "java/lang/invoke/MethodHandle" ∧ y.cls ≠ "java/lang/invoke/VarHandle") {rm : Room} {as' : Array Value} {Q : Option Value → Heap → List Loc → Prop} (hM : MetFree l y (head1 [Cond.code y bytes maxL none] rm) (fun a U => a = as' ∧ Z.Warmed39 U.vm ∧ U.heap = h) (fun _ _ _ _ _ => True) (fun _ U o U' => ∃ v L, o = .returned v ∧ Q v U'.heap L ∧ FrameEnd U o U' L rm.cells rm.slots)) (eT : T.heap = h) {W : Nat} (hf : rm.frames + 1 ≤ R.frames) (hlo : W + (maxL + 11) + rm.locals ≤ R.locals) (hsize : Ls.size = c.maxLocals) (a : Addr) (argsL rest : List Value) (hlen : ∀ sig, parseMethodDescriptor y.desc = some sig → argsL.length = sig.parameters.length) (hst : st = argsL.reverse ++ .ref a :: rest) (has : (.ref a :: argsL).toArray = as') (hW : (rest.map fun v => v.category).sum ≤ W) (hd : decode c.code pc = .ok (.invokespecial index, 3)) (hc : cells + rm.cells ≤ R.cells) (hs : slots + rm.slots ≤ R.slots) (k : ∀ (v : Option Value) (T' : State) (L : List Loc), Stand p l e R s m args below meth c T' (locs ++ L) (cells + rm.cells) (slots + rm.slots) → Q v T'.heap L → Go p e below P (T'.setTop (mkF m (pc + 3) Ls (v.toList ++ rest)))) : Go p e below P (T.setTop (mkF m pc Ls st)) := by
  obtain ⟨v, vm1, ⟨T', L', k', n'⟩, -, X', ⟨L, hQ, l1, y1, z1⟩, stp⟩ := X.specialBack hx hy1 hown (mvT hZ w1) (mvT hZ w2) (mvT hZ w4) hy (backOf (W := W) hM hZ w4 w3 hf hlo) (g := mkF m pc Ls st) rfl hsize (Steps.refl _) hlen hst (by show 2 * 0 + _ ≤ _; omega) hd (fun _ _ => ⟨has, eT, hc, hs⟩)
  dsimp only [Pt.U, Pt.locs, Pt.cells, Pt.slots] at X' l1 y1 z1 stp hQ
  subst l1 y1 z1
  exact (k v T' L X' hQ).by fun t r => stp.trans r
theorem g_callV (X : Stand p l e R s m args below meth c T locs cells slots) (hx : p.tables.exec = Jvm.exec) (hZ : Z.Warmed39 s.vm) (hown : s.vm.findClass own = some m.cls) {y : MethodName} {bytes : ByteArray} {maxL : Nat} {ret : Option FieldType} {C : String} (w1 : (Cond.methodLink own index y).before a0 Z = true) (w2 : (Cond.declares y).before a0 Z = true) (w5 : (Cond.selects C y y).before a0 Z = true) (w6 : (Cond.instanceMethod y).before a0 Z = true) (w3 : (Cond.initialized y.cls).before a0 Z = true) (w4 : (Cond.code y bytes maxL ret).before a0 Z = true) (hy : y.cls ≠ "java/lang/invoke/MethodHandle" ∧ y.cls ≠ "java/lang/invoke/VarHandle") {rm : Room} {as' : Array Value} {Q : Option Value → Heap → List Loc → Prop} (hM : MetFree l y (head1 [Cond.code y bytes maxL ret] rm) (fun a U => a = as' ∧ Z.Warmed39 U.vm ∧ U.heap = h) (fun _ _ _ _ _ => True) (fun _ U o U' => ∃ v L, o = .returned v ∧ Q v U'.heap L ∧ FrameEnd U o U' L rm.cells rm.slots)) (eT : T.heap = h) {W : Nat} (hf : rm.frames + 1 ≤ R.frames) (hlo : W + (maxL + 11) + rm.locals ≤ R.locals) (hsize : Ls.size = c.maxLocals) (a : Addr) (E : Exa Z h a C) (argsL rest : List Value) (hlen : ∀ sig, parseMethodDescriptor y.desc = some sig → argsL.length = sig.parameters.length) (hst : st = argsL.reverse ++ .ref a :: rest) (has : (.ref a :: argsL).toArray = as') (hW : (rest.map fun v => v.category).sum ≤ W) (hd : decode c.code pc = .ok (.invokevirtual index, 3)) (hc : cells + rm.cells ≤ R.cells) (hs : slots + rm.slots ≤ R.slots) (k : ∀ (v : Option Value) (T' : State) (L : List Loc), Stand p l e R s m args below meth c T' (locs ++ L) (cells + rm.cells) (slots + rm.slots) → Q v T'.heap L → Go p e below P (T'.setTop (mkF m (pc + 3) Ls (v.toList ++ rest)))) : Go p e below P (T.setTop (mkF m pc Ls st)) := by
  obtain ⟨cq, kq, qa, qb, qc⟩ := isOf hZ eT E
  obtain ⟨v, vm1, ⟨T', L', k', n'⟩, -, X', ⟨L, hQ, l1, y1, z1⟩, stp⟩ := X.virtualBack hx (y := y) (z := y) hown (mvT hZ w1) (mvT hZ w2) (notFace_of_selects (args := #[]) (mvT hZ w5)) (mvT hZ w5) (mvT hZ w6) hy (backOf (W := W) hM hZ w4 w3 hf hlo) qa qc (g := mkF m pc Ls st) rfl hsize (Steps.refl _) hlen hst (by show 2 * 0 + _ ≤ _; omega) hd (fun _ _ => ⟨has, eT, hc, hs⟩)
  dsimp only [Pt.U, Pt.locs, Pt.cells, Pt.slots] at X' l1 y1 z1 stp hQ
  subst l1 y1 z1
  exact (k v T' L X' hQ).by fun t r => stp.trans r
theorem g_absD (X : Stand p l e R s m args below meth c T locs cells slots) (hx : p.tables.exec = Jvm.exec) (hZ : Z.Warmed39 s.vm) (hown : s.vm.findClass own = some m.cls) (w1 : (Cond.methodLink own index Jvm.Free.Fl.Abs.absDN).before a0 Z = true) (w2 : (Cond.static Jvm.Free.Fl.Abs.absDN).before a0 Z = true) (w3 : (Cond.initialized "java/lang/Math").before a0 Z = true) (w4 : (Cond.code Jvm.Free.Fl.Abs.absDN Jvm.Free.Fl.Abs.absDCode 2 (some .double)).before a0 Z = true) (eT : T.heap = h) (hsize : Ls.size = c.maxLocals) {a : UInt64} (hn : Jvm.Free.Fl.NoNaN64 a) (hfr : 1 ≤ R.frames) {W : Nat} (hW : (st.map fun v => v.category).sum ≤ W) (hlo : W + 13 ≤ R.locals) (hc : cells ≤ R.cells) (hs : slots ≤ R.slots) (hd : decode c.code pc = .ok (.invokestatic index, 3))
    (k : ∀ T', Stand p l e R s m args below meth c T' locs cells slots → T'.heap = h → Go p e below P (T'.setTop (mkF m (pc + 3) Ls (.double (a &&& 0x7fffffffffffffff) :: st)))) : Go p e below P (T.setTop (mkF m pc Ls (.double a :: st))) := by
  obtain ⟨T', X', e', stp⟩ := natS X hx hZ hown w1 w2 w3 w4 (by decide) eT (W := W) (F := fun a' => a' = #[.double a] ∧ Jvm.Free.Fl.NoNaN64 a) (val := .double (a &&& 0x7fffffffffffffff)) (val' := .double (a &&& 0x7fffffffffffffff)) (fun q => Jvm.Free.Fl.Abs.absD_pays a q hfr hlo) (g := mkF m pc Ls (.double a :: st)) rfl hsize (argsL := [.double a]) (rest := st) (lenOf (ps := [.double]) (r := some .double) (by decide +kernel) rfl) rfl (by show 2 * 0 + _ ≤ _; omega) hd hc hs ⟨rfl, hn⟩ rfl
  exact (k T' X' e').by stp
theorem g_objInit (X : Stand p l e R s m args below meth c T locs cells slots) (hx : p.tables.exec = Jvm.exec) (hZ : Z.Warmed39 s.vm) (hown : s.vm.findClass own = some m.cls) (w1 : (Cond.methodLink own index Lib.objectInit).before a0 Z = true) (w2 : (Cond.instanceMethod Lib.objectInit).before a0 Z = true) (w3 : (Cond.code Lib.objectInit ⟨#[0xb1]⟩ 1 none).before a0 Z = true) (eT : T.heap = h) (hsize : Ls.size = c.maxLocals) {a : Addr} (hd : decode c.code pc = .ok (.invokespecial index, 3)) (hf : 1 ≤ R.frames) {W : Nat} (hW : (st.map fun v => v.category).sum ≤ W) (hlo : W + 12 ≤ R.locals)
    (k : ∀ T', Stand p l e R s m args below meth c T' locs cells slots → T'.heap = h → Go p e below P (T'.setTop (mkF m (pc + 3) Ls st))) : Go p e below P (T.setTop (mkF m pc Ls (.ref a :: st))) := by
  obtain ⟨T', X', e', stp⟩ := initO X hx hZ hown w1 w2 w3 eT (g := mkF m pc Ls (.ref a :: st)) rfl hsize rfl hd hf (W := W) (by show 2 * 0 + _ ≤ _; omega) hlo
  exact (k T' X' e').by stp
theorem g_new (X : Stand p l e R s m args below meth c T locs cells slots) (hx : p.tables.exec = Jvm.exec) (hZ : Z.Warmed39 s.vm) (hown : s.vm.findClass own = some m.cls) {C : String} {n : Nat} (w : (Cond.classLink own index C).before a0 Z = true) (wi : (Cond.instantiable C n).before a0 Z = true) (wz : (Cond.initialized C).before a0 Z = true) (eT : T.heap = h) (hd : decode c.code pc = .ok (.new index, 3)) (hc : cells + 1 ≤ R.cells) (hl : slots + n ≤ R.slots)
    (k : ∀ T' h' a, a = h.size → Stand p l e R s m args below meth c T' locs (cells + 1) (slots + n) → T'.heap = h' → Ext h h' → Exa Z h' a C → (∀ {O nm d : String} {ty : FieldType}, Laid Z a0 C O nm d → parseFieldDescriptor d = some ty → Fld Z h' a O nm d (defaultValue ty)) → Go p e below P (T'.setTop (mkF m (pc + 3) Ls (.ref a :: st)))) : Go p e below P (T.setTop (mkF m pc Ls st)) := by
  obtain ⟨T', h', X', e', E, A, D, -, stp⟩ := newO X hx hZ hown w wi wz eT (g := mkF m pc Ls st) rfl hd hc hl
  exact (k T' h' _ rfl X' e' E A D).by stp
theorem g_getF (X : Stand p l e R s m args below meth c T locs cells slots) (hx : p.tables.exec = Jvm.exec) (hZ : Z.Warmed39 s.vm) (hown : s.vm.findClass own = some m.cls) {O n d : String} (w : (Cond.fieldLink own index O n d).before a0 Z = true) (eT : T.heap = h) {a : Addr} {v : Value} (F : Fld Z h a O n d v) (hd : decode c.code pc = .ok (.getfield index, 3))
    (k : ∀ T', Stand p l e R s m args below meth c T' locs cells slots → T'.heap = h → Go p e below P (T'.setTop (mkF m (pc + 3) Ls (v :: st)))) : Go p e below P (T.setTop (mkF m pc Ls (.ref a :: st))) := by
  obtain ⟨T', X', e', stp⟩ := getF X hx hZ hown (host := "") (Or.inl w) Via.refl eT F (g := mkF m pc Ls (.ref a :: st)) rfl rfl hd
  exact (k T' X' e').by stp
theorem g_getS (X : Stand p l e R s m args below meth c T locs cells slots) (hx : p.tables.exec = Jvm.exec) (hZ : Z.Warmed39 s.vm) (hown : s.vm.findClass own = some m.cls) {O n d : String} (w : (Cond.fieldLink own index O n d).before a0 Z = true) (eT : T.heap = h) {v : Value} (F : Sta Z h O n d v) (hd : decode c.code pc = .ok (.getstatic index, 3))
    (k : ∀ T', Stand p l e R s m args below meth c T' locs cells slots → T'.heap = h → Go p e below P (T'.setTop (mkF m (pc + 3) Ls (v :: st)))) : Go p e below P (T.setTop (mkF m pc Ls st)) := by
  obtain ⟨T', X', e', stp⟩ := getS X hx hZ hown (host := "") w Via.refl eT F (g := mkF m pc Ls st) rfl hd
  exact (k T' X' e').by stp
theorem g_putF (X : Stand p l e R s m args below meth c T locs cells slots) (hx : p.tables.exec = Jvm.exec) (hZ : Z.Warmed39 s.vm) (hown : s.vm.findClass own = some m.cls) {O n d C : String} {kk : Nat} {ty : FieldType} (w : (Cond.fieldLink own index O n d).before a0 Z = true) (eT : T.heap = h) {a : Addr} {v old : Value} (F : Fld Z h a O n d old) (E : Exa Z h a C) (L : (Cond.lays C O n d).before a0 Z = true ∨ ((Cond.laysFinal C O n d).before a0 Z = true ∧ own = O ∧ meth.name = "<init>")) (wi : (Cond.instantiable C kk).before a0 Z = true) (hty : parseFieldDescriptor d = some ty) (hn : narrow ty v = v) (hf : fits ty v = true) (hd : decode c.code pc = .ok (.putfield index, 3))
    (k : ∀ T' h', Stand p l e R s m args below meth c T' (locs ++ [⟨a, Jvm.RoadKit.slotOf Z O n d⟩]) cells slots → T'.heap = h' → Wr h h' a (Jvm.RoadKit.slotOf Z O n d) v → Go p e below P (T'.setTop (mkF m (pc + 3) Ls st))) : Go p e below P (T.setTop (mkF m pc Ls (v :: .ref a :: st))) := by
  obtain ⟨T', h', X', e', W, stp⟩ := putF X hx hZ hown (host := "") (Or.inl w) Via.refl eT F E L wi hty hn hf (g := mkF m pc Ls (v :: .ref a :: st)) rfl rfl hd
  exact (k T' h' X' e' W).by stp
theorem g_newP (X : Stand p l e R s m args below meth c T locs cells slots) (hx : p.tables.exec = Jvm.exec) (hZ : Z.Warmed39 s.vm) {aty : ArrayType} {ty : FieldType} (hty : newarray.typeOf aty = ty) (w : (Cond.arrayClass ty).before a0 Z = true) (eT : T.heap = h) (hd : decode c.code pc = .ok (.newarray aty, 2)) {n : Int32} (hn : ¬ n < 0) {cap : Nat} (hcap : n.toNatClampNeg ≤ cap) (hb : cap * 8 ≤ 536870912) (hc : cells + 1 ≤ R.cells) (hl : slots + cap ≤ R.slots)
    (k : ∀ T' h' a cA, a = h.size → Stand p l e R s m args below meth c T' locs (cells + 1) (slots + cap) → T'.heap = h' → Ext h h' → Arr Z h' a (newA cA ty n) ty → Go p e below P (T'.setTop (mkF m (pc + 2) Ls (.ref a :: st)))) : Go p e below P (T.setTop (mkF m pc Ls (.int n :: st))) := by
  subst hty
  obtain ⟨T', h', cA, X', e', E, A, stp⟩ := newP X hx hZ w eT (g := mkF m pc Ls (.int n :: st)) rfl hd rfl hn hcap hb hc hl
  exact (k T' h' _ cA rfl X' e' E A).by stp
theorem fld_any {C O O' n n' d d' : String} {v : Value} {a : Addr} {kk : Nat} (E : Exa Z h a C) (F : Fld Z h a O n d v) (wi : (Cond.instantiable C kk).before a0 Z = true) (L : Laid Z a0 C O' n' d') : ∃ w, Fld Z h a O' n' d' w := by
  obtain ⟨cell, k, h1, h2, h3, h4, h5⟩ := E
  obtain ⟨cell', cf, k', i, f, g1, g2, g3, g4, g5, g6, g7⟩ := F
  cases h1.symm.trans g1
  obtain ⟨c1, k1, cf1, kf1, i1, f1, l1, l2, l3, l4, l5, l6, -⟩ := L.spec
  obtain ⟨c2, k2, j1, j2, j3, -⟩ := Cond.instantiable_spec wi
  cases h2.symm.trans l1
  cases h3.symm.trans l2
  cases l1.symm.trans j1
  cases h3.symm.trans j2
  have hsz := h5 j3
  obtain ⟨hlt, -⟩ := Array.getElem?_eq_some_iff.mp l6
  exact ⟨_, cell, cf1, kf1, i1, f1, g1, l3, l4, g4, g5, l5, Array.getElem?_eq_getElem (by rw [hsz]; exact hlt)⟩
/-- an array by a function of the place -/
def Av (Z : State) (h : Heap) (a : Addr) (ty : FieldType) (n : Nat) (f : Nat → Value) : Prop := ∃ cl : Cell, Arr Z h a cl ty ∧ cl.slots.size = n ∧ ∀ i, i < n → cl.slots[i]? = some (f i)
theorem Av.lt {a : Addr} {ty : FieldType} {n : Nat} {f : Nat → Value} (F : Av Z h a ty n f) : a < h.size := by obtain ⟨cl, A, -⟩ := F; exact A.lt
theorem Av.ext {h' : Heap} {a : Addr} {ty : FieldType} {n : Nat} {f : Nat → Value} (F : Av Z h a ty n f) (E : Ext h h') : Av Z h' a ty n f := by obtain ⟨cl, A, B⟩ := F; exact ⟨cl, A.ext E, B⟩
theorem Av.other {h' : Heap} {a b : Addr} {sl : Nat} {v : Value} {ty : FieldType} {n : Nat} {f : Nat → Value} (F : Av Z h b ty n f) (W : Wr h h' a sl v) (q : b ≠ a) : Av Z h' b ty n f := by obtain ⟨cl, A, B⟩ := F; exact ⟨cl, A.other W q, B⟩
theorem Av.keep {h' : Heap} {a : Addr} {ws : List Addr} {ty : FieldType} {n : Nat} {f : Nat → Value} (F : Av Z h a ty n f) (K : Keep h h' ws) (q : a ∉ ws) : Av Z h' a ty n f := by obtain ⟨cl, A, B⟩ := F; exact ⟨cl, ⟨K.2.1 a cl A.1 q, A.2⟩, B⟩
theorem Av.new {a : Addr} {cA : ClassId} {ty : FieldType} {n : Int32} (A : Arr Z h a (newA cA ty n) ty) : Av Z h a ty n.toNatClampNeg (fun _ => defaultValue ty) := ⟨_, A, sz_new _ _ _, fun i hi => by simp [newA, hi]⟩
theorem Av.newK {a : Addr} {cA : ClassId} {ty : FieldType} {n : Int32} {k : Nat} (A : Arr Z h a (newA cA ty n) ty) (hk : n.toNatClampNeg = k) : Av Z h a ty k (fun _ => defaultValue ty) := hk ▸ Av.new A
theorem Av.congr {a : Addr} {ty : FieldType} {n : Nat} {f f' : Nat → Value} (F : Av Z h a ty n f) (q : ∀ i, i < n → f i = f' i) : Av Z h a ty n f' := by obtain ⟨cl, A, B, C⟩ := F; exact ⟨cl, A, B, fun i hi => by rw [C i hi, q i hi]⟩
theorem Av.same {h' : Heap} {a : Addr} {i : Nat} {v : Value} {ty : FieldType} {n : Nat} {f : Nat → Value} (F : Av Z h a ty n f) (W : Wr h h' a i v) : Av Z h' a ty n (fun j => if j = i then v else f j) := by
  obtain ⟨cl, A, B, C⟩ := F
  refine ⟨_, A.same W, by rw [sz_set]; exact B, fun j hj => ?_⟩
  obtain ⟨cb, hb1, -, -, -, -, hb2, hb3⟩ := wr_at W A.1
  have e1 := (A.same W).1
  have e2 : cb = cl.setSlot i v := Option.some.inj (hb1.symm.trans e1)
  by_cases q : j = i
  · subst q; rw [← e2, (hb3 rfl).2.1]; simp
  · rw [← e2, hb2 j q, C j hj]; simp [q]
theorem out_idx {j : Int32} {n : Nat} (h0 : 0 ≤ j.toInt) (h1 : j.toInt < n) : ¬ (j < 0 ∨ n ≤ j.toNatClampNeg) := by
  have e : (j.toNatClampNeg : Int) = j.toInt := by rw [Int32.toNatClampNeg]; omega
  intro q
  rcases q with q | q
  · have := Int32.lt_iff_toInt_lt.mp q; simp at this; omega
  · omega
theorem g_iaload (X : Stand p l e R s m args below meth c T locs cells slots) (hx : p.tables.exec = Jvm.exec) (hZ : Z.Warmed39 s.vm) (eT : T.heap = h) {a : Addr} {n : Nat} {f : Nat → Value} (F : Av Z h a .int n f) {j : Int32} {i : Nat} {v : Value} (hj0 : 0 ≤ j.toInt) (hj1 : j.toInt < n) (hi : j.toNatClampNeg = i) (hv : f i = v) (hd : decode c.code pc = .ok (.iaload, 1)) (q : Go p e below P (T.setTop (mkF m (pc + 1) Ls (v :: st)))) : Go p e below P (T.setTop (mkF m pc Ls (.int j :: .ref a :: st))) := by
  obtain ⟨cl, A, B, C⟩ := F
  have hin := out_idx hj0 hj1
  subst hi hv
  exact q.by fun t r => X.iaload hx (by rw [eT]; exact A.1) (State.isArrayOf_alike hZ.alike A.2.1) A.2.2 (by rw [B]; exact hin) (C _ (by omega)) (g := mkF m pc Ls (.int j :: .ref a :: st)) rfl rfl hd t r
theorem g_laload (X : Stand p l e R s m args below meth c T locs cells slots) (hx : p.tables.exec = Jvm.exec) (hZ : Z.Warmed39 s.vm) (eT : T.heap = h) {a : Addr} {n : Nat} {f : Nat → Value} (F : Av Z h a .long n f) {j : Int32} {i : Nat} {v : Value} (hj0 : 0 ≤ j.toInt) (hj1 : j.toInt < n) (hi : j.toNatClampNeg = i) (hv : f i = v) (hd : decode c.code pc = .ok (.laload, 1)) (q : Go p e below P (T.setTop (mkF m (pc + 1) Ls (v :: st)))) : Go p e below P (T.setTop (mkF m pc Ls (.int j :: .ref a :: st))) := by
  obtain ⟨cl, A, B, C⟩ := F
  have hin := out_idx hj0 hj1
  subst hi hv
  exact q.by fun t r => X.laload hx (by rw [eT]; exact A.1) (State.isArrayOf_alike hZ.alike A.2.1) A.2.2 (by rw [B]; exact hin) (C _ (by omega)) (g := mkF m pc Ls (.int j :: .ref a :: st)) rfl rfl hd t r
theorem g_daload (X : Stand p l e R s m args below meth c T locs cells slots) (hx : p.tables.exec = Jvm.exec) (hZ : Z.Warmed39 s.vm) (eT : T.heap = h) {a : Addr} {n : Nat} {f : Nat → Value} (F : Av Z h a .double n f) {j : Int32} {i : Nat} {v : Value} (hj0 : 0 ≤ j.toInt) (hj1 : j.toInt < n) (hi : j.toNatClampNeg = i) (hv : f i = v) (hd : decode c.code pc = .ok (.daload, 1)) (q : Go p e below P (T.setTop (mkF m (pc + 1) Ls (v :: st)))) : Go p e below P (T.setTop (mkF m pc Ls (.int j :: .ref a :: st))) := by
  obtain ⟨cl, A, B, C⟩ := F
  have hin := out_idx hj0 hj1
  subst hi hv
  exact q.by fun t r => X.daload hx (by rw [eT]; exact A.1) (State.isArrayOf_alike hZ.alike A.2.1) A.2.2 (by rw [B]; exact hin) (C _ (by omega)) (g := mkF m pc Ls (.int j :: .ref a :: st)) rfl rfl hd t r
theorem g_caload (X : Stand p l e R s m args below meth c T locs cells slots) (hx : p.tables.exec = Jvm.exec) (hZ : Z.Warmed39 s.vm) (eT : T.heap = h) {a : Addr} {n : Nat} {f : Nat → Value} (F : Av Z h a .char n f) {j : Int32} {i : Nat} {v : Value} (hj0 : 0 ≤ j.toInt) (hj1 : j.toInt < n) (hi : j.toNatClampNeg = i) (hv : f i = v) (hd : decode c.code pc = .ok (.caload, 1)) (q : Go p e below P (T.setTop (mkF m (pc + 1) Ls (v :: st)))) : Go p e below P (T.setTop (mkF m pc Ls (.int j :: .ref a :: st))) := by
  obtain ⟨cl, A, B, C⟩ := F
  have hin := out_idx hj0 hj1
  subst hi hv
  exact q.by fun t r => X.caload hx (by rw [eT]; exact A.1) (State.isArrayOf_alike hZ.alike A.2.1) A.2.2 (by rw [B]; exact hin) (C _ (by omega)) (g := mkF m pc Ls (.int j :: .ref a :: st)) rfl rfl hd t r
theorem g_baloadB (X : Stand p l e R s m args below meth c T locs cells slots) (hx : p.tables.exec = Jvm.exec) (hZ : Z.Warmed39 s.vm) (eT : T.heap = h) {a : Addr} {n : Nat} {f : Nat → Value} (F : Av Z h a .byte n f) {j : Int32} {i : Nat} {v : Value} (hj0 : 0 ≤ j.toInt) (hj1 : j.toInt < n) (hi : j.toNatClampNeg = i) (hv : f i = v) (hd : decode c.code pc = .ok (.baload, 1)) (q : Go p e below P (T.setTop (mkF m (pc + 1) Ls (v :: st)))) : Go p e below P (T.setTop (mkF m pc Ls (.int j :: .ref a :: st))) := by
  obtain ⟨cl, A, B, C⟩ := F
  have hin := out_idx hj0 hj1
  subst hi hv
  exact q.by fun t r => X.baloadBytes hx (by rw [eT]; exact A.1) (State.isArrayOf_alike hZ.alike A.2.1) A.2.2 (by rw [B]; exact hin) (C _ (by omega)) (g := mkF m pc Ls (.int j :: .ref a :: st)) rfl rfl hd t r
theorem g_baloadZ (X : Stand p l e R s m args below meth c T locs cells slots) (hx : p.tables.exec = Jvm.exec) (hZ : Z.Warmed39 s.vm) (eT : T.heap = h) {a : Addr} {n : Nat} {f : Nat → Value} (F : Av Z h a .boolean n f) {j : Int32} {i : Nat} {v : Value} (hj0 : 0 ≤ j.toInt) (hj1 : j.toInt < n) (hi : j.toNatClampNeg = i) (hv : f i = v) (hd : decode c.code pc = .ok (.baload, 1)) (q : Go p e below P (T.setTop (mkF m (pc + 1) Ls (v :: st)))) : Go p e below P (T.setTop (mkF m pc Ls (.int j :: .ref a :: st))) := by
  obtain ⟨cl, A, B, C⟩ := F
  have hin := out_idx hj0 hj1
  subst hi hv
  exact q.by fun t r => X.baloadBooleans hx (by rw [eT]; exact A.1) (State.isArrayOf_alike hZ.alike A.2.1) A.2.2 (by rw [B]; exact hin) (C _ (by omega)) (g := mkF m pc Ls (.int j :: .ref a :: st)) rfl rfl hd t r
theorem g_iastore (X : Stand p l e R s m args below meth c T locs cells slots) (hx : p.tables.exec = Jvm.exec) (hZ : Z.Warmed39 s.vm) (eT : T.heap = h) {a : Addr} {n : Nat} {f : Nat → Value} (F : Av Z h a .int n f) {j : Int32} {i : Nat} {x : Int32} (hj0 : 0 ≤ j.toInt) (hj1 : j.toInt < n) (hi : j.toNatClampNeg = i) (hd : decode c.code pc = .ok (.iastore, 1))
    (k : ∀ T' h', Stand p l e R s m args below meth c T' (locs ++ [⟨a, i⟩]) cells slots → T'.heap = h' → Wr h h' a i (.int x) → Go p e below P (T'.setTop (mkF m (pc + 1) Ls st))) : Go p e below P (T.setTop (mkF m pc Ls (.int x :: .int j :: .ref a :: st))) := by
  obtain ⟨cl, A, B, C⟩ := F
  have hin := out_idx hj0 hj1
  subst hi
  obtain ⟨T', h', X', e', W, stp⟩ := stI X hx hZ eT A (x := x) (by rw [B]; exact hin) (g := mkF m pc Ls (.int x :: .int j :: .ref a :: st)) rfl rfl hd
  exact (k T' h' X' e' W).by stp
theorem g_lastore (X : Stand p l e R s m args below meth c T locs cells slots) (hx : p.tables.exec = Jvm.exec) (hZ : Z.Warmed39 s.vm) (eT : T.heap = h) {a : Addr} {n : Nat} {f : Nat → Value} (F : Av Z h a .long n f) {j : Int32} {i : Nat} {x : Int64} (hj0 : 0 ≤ j.toInt) (hj1 : j.toInt < n) (hi : j.toNatClampNeg = i) (hd : decode c.code pc = .ok (.lastore, 1))
    (k : ∀ T' h', Stand p l e R s m args below meth c T' (locs ++ [⟨a, i⟩]) cells slots → T'.heap = h' → Wr h h' a i (.long x) → Go p e below P (T'.setTop (mkF m (pc + 1) Ls st))) : Go p e below P (T.setTop (mkF m pc Ls (.long x :: .int j :: .ref a :: st))) := by
  obtain ⟨cl, A, B, C⟩ := F
  have hin := out_idx hj0 hj1
  subst hi
  obtain ⟨T', h', X', e', W, stp⟩ := stJ X hx hZ eT A (x := x) (by rw [B]; exact hin) (g := mkF m pc Ls (.long x :: .int j :: .ref a :: st)) rfl rfl hd
  exact (k T' h' X' e' W).by stp
theorem g_dastore (X : Stand p l e R s m args below meth c T locs cells slots) (hx : p.tables.exec = Jvm.exec) (hZ : Z.Warmed39 s.vm) (eT : T.heap = h) {a : Addr} {n : Nat} {f : Nat → Value} (F : Av Z h a .double n f) {j : Int32} {i : Nat} {x : UInt64} (hj0 : 0 ≤ j.toInt) (hj1 : j.toInt < n) (hi : j.toNatClampNeg = i) (hd : decode c.code pc = .ok (.dastore, 1))
    (k : ∀ T' h', Stand p l e R s m args below meth c T' (locs ++ [⟨a, i⟩]) cells slots → T'.heap = h' → Wr h h' a i (.double x) → Go p e below P (T'.setTop (mkF m (pc + 1) Ls st))) : Go p e below P (T.setTop (mkF m pc Ls (.double x :: .int j :: .ref a :: st))) := by
  obtain ⟨cl, A, B, C⟩ := F
  have hin := out_idx hj0 hj1
  subst hi
  obtain ⟨T', h', X', e', W, stp⟩ := stD X hx hZ eT A (x := x) (by rw [B]; exact hin) (g := mkF m pc Ls (.double x :: .int j :: .ref a :: st)) rfl rfl hd
  exact (k T' h' X' e' W).by stp
theorem g_castore (X : Stand p l e R s m args below meth c T locs cells slots) (hx : p.tables.exec = Jvm.exec) (hZ : Z.Warmed39 s.vm) (eT : T.heap = h) {a : Addr} {n : Nat} {f : Nat → Value} (F : Av Z h a .char n f) {j : Int32} {i : Nat} {x : Int32} (hj0 : 0 ≤ j.toInt) (hj1 : j.toInt < n) (hi : j.toNatClampNeg = i) (hd : decode c.code pc = .ok (.castore, 1))
    (k : ∀ T' h', Stand p l e R s m args below meth c T' (locs ++ [⟨a, i⟩]) cells slots → T'.heap = h' → Wr h h' a i (.int (nar .char x)) → Go p e below P (T'.setTop (mkF m (pc + 1) Ls st))) : Go p e below P (T.setTop (mkF m pc Ls (.int x :: .int j :: .ref a :: st))) := by
  obtain ⟨cl, A, B, C⟩ := F
  have hin := out_idx hj0 hj1
  subst hi
  obtain ⟨T', h', X', e', W, stp⟩ := stC X hx hZ eT A (x := x) (by rw [B]; exact hin) (g := mkF m pc Ls (.int x :: .int j :: .ref a :: st)) rfl rfl hd
  exact (k T' h' X' e' W).by stp
theorem g_bastoreB (X : Stand p l e R s m args below meth c T locs cells slots) (hx : p.tables.exec = Jvm.exec) (hZ : Z.Warmed39 s.vm) (eT : T.heap = h) {a : Addr} {n : Nat} {f : Nat → Value} (F : Av Z h a .byte n f) {j : Int32} {i : Nat} {x : Int32} (hj0 : 0 ≤ j.toInt) (hj1 : j.toInt < n) (hi : j.toNatClampNeg = i) (hd : decode c.code pc = .ok (.bastore, 1))
    (k : ∀ T' h', Stand p l e R s m args below meth c T' (locs ++ [⟨a, i⟩]) cells slots → T'.heap = h' → Wr h h' a i (.int (nar .byte x)) → Go p e below P (T'.setTop (mkF m (pc + 1) Ls st))) : Go p e below P (T.setTop (mkF m pc Ls (.int x :: .int j :: .ref a :: st))) := by
  obtain ⟨cl, A, B, C⟩ := F
  have hin := out_idx hj0 hj1
  subst hi
  obtain ⟨T', h', X', e', W, stp⟩ := stB X hx hZ eT A (x := x) (by rw [B]; exact hin) (g := mkF m pc Ls (.int x :: .int j :: .ref a :: st)) rfl rfl hd
  exact (k T' h' X' e' W).by stp
theorem g_bastoreZ (X : Stand p l e R s m args below meth c T locs cells slots) (hx : p.tables.exec = Jvm.exec) (hZ : Z.Warmed39 s.vm) (eT : T.heap = h) {a : Addr} {n : Nat} {f : Nat → Value} (F : Av Z h a .boolean n f) {j : Int32} {i : Nat} {x : Int32} (hj0 : 0 ≤ j.toInt) (hj1 : j.toInt < n) (hi : j.toNatClampNeg = i) (hd : decode c.code pc = .ok (.bastore, 1))
    (k : ∀ T' h', Stand p l e R s m args below meth c T' (locs ++ [⟨a, i⟩]) cells slots → T'.heap = h' → Wr h h' a i (.int (nar .boolean x)) → Go p e below P (T'.setTop (mkF m (pc + 1) Ls st))) : Go p e below P (T.setTop (mkF m pc Ls (.int x :: .int j :: .ref a :: st))) := by
  obtain ⟨cl, A, B, C⟩ := F
  have hin := out_idx hj0 hj1
  subst hi
  obtain ⟨T', h', X', e', W, stp⟩ := stZ X hx hZ eT A (x := x) (by rw [B]; exact hin) (g := mkF m pc Ls (.int x :: .int j :: .ref a :: st)) rfl rfl hd
  exact (k T' h' X' e' W).by stp
theorem g_arraylength (X : Stand p l e R s m args below meth c T locs cells slots) (hx : p.tables.exec = Jvm.exec) (hZ : Z.Warmed39 s.vm) (eT : T.heap = h) {a : Addr} {ty : FieldType} {n : Nat} {f : Nat → Value} (F : Av Z h a ty n f) {v : Int32} (hv : n.toInt32 = v) (hd : decode c.code pc = .ok (.arraylength, 1)) (q : Go p e below P (T.setTop (mkF m (pc + 1) Ls (.int v :: st)))) : Go p e below P (T.setTop (mkF m pc Ls (.ref a :: st))) := by
  obtain ⟨cl, A, B, C⟩ := F
  subst hv B
  exact q.by fun t r => X.arraylength hx (by rw [eT]; exact A.1) (State.isArrayOf_alike hZ.alike A.2.1) (g := mkF m pc Ls (.ref a :: st)) rfl rfl hd t r
theorem cv_g_lt (r : Option Ordering) : cmpValue r .g < 0 ↔ r = some .lt := by rcases r with _ | (_ | _ | _) <;> decide
theorem cv_g_gt (r : Option Ordering) : 0 < cmpValue r .g ↔ (r = some .gt ∨ r = none) := by rcases r with _ | (_ | _ | _) <;> decide
theorem cv_l_lt (r : Option Ordering) : cmpValue r .l < 0 ↔ (r = some .lt ∨ r = none) := by rcases r with _ | (_ | _ | _) <;> decide
theorem cv_l_gt (r : Option Ordering) : 0 < cmpValue r .l ↔ r = some .gt := by rcases r with _ | (_ | _ | _) <;> decide
theorem cv_g_eq (r : Option Ordering) : cmpValue r .g = 0 ↔ r = some .eq := by rcases r with _ | (_ | _ | _) <;> decide
theorem cv_l_eq (r : Option Ordering) : cmpValue r .l = 0 ↔ r = some .eq := by rcases r with _ | (_ | _ | _) <;> decide
end OwnKit

section OwnMag
theorem own_fin {a : UInt64} {K : Nat} (h : a.toNat % 2 ^ 63 < K * 2 ^ 52) (hK : K ≤ 2047) : Jvm.Free.Fl.Fin64 a := Jvm.Free.Fl.fin64_core.mpr (FP.Core.fin_of_lt h hK)
theorem own_up {a : UInt64} {K K' : Nat} (h : a.toNat % 2 ^ 63 < K * 2 ^ 52) (hK : K ≤ K') : a.toNat % 2 ^ 63 < K' * 2 ^ 52 := Nat.lt_of_lt_of_le h (Nat.mul_le_mul_right _ hK)
end OwnMag
section OwnDy
open Jvm.FP.Core
/-- two ratios of whole numbers, written by their digits -/
theorem own_two {c D d m : Nat} {e1 e2 : Int} (h1 : c * 2 ^ e1.toNat = D * 2 ^ (-e1).toNat) (h2 : d * 2 ^ e2.toNat = m * 2 ^ (-e2).toNat) :
    c * m * 2 ^ ((e1 - e2) - 0).toNat = D * d * 2 ^ (0 - (e1 - e2)).toNat := by
  obtain ⟨t, ht⟩ : ∃ t, min (e1.toNat + (-e2).toNat) ((-e1).toNat + e2.toNat) = t := ⟨_, rfl⟩
  have p1 : ((e1 - e2) - 0).toNat + t = e1.toNat + (-e2).toNat := by omega
  have p2 : (0 - (e1 - e2)).toNat + t = (-e1).toNat + e2.toNat := by omega
  have q1 : 2 ^ ((e1 - e2) - 0).toNat * 2 ^ t = 2 ^ e1.toNat * 2 ^ (-e2).toNat := by rw [← Nat.pow_add, ← Nat.pow_add, p1]
  have q2 : 2 ^ (0 - (e1 - e2)).toNat * 2 ^ t = 2 ^ (-e1).toNat * 2 ^ e2.toNat := by rw [← Nat.pow_add, ← Nat.pow_add, p2]
  have h : (c * m * 2 ^ ((e1 - e2) - 0).toNat) * 2 ^ t = (D * d * 2 ^ (0 - (e1 - e2)).toNat) * 2 ^ t := by
    rw [Nat.mul_assoc (c * m), q1, Nat.mul_assoc (D * d), q2]
    calc c * m * (2 ^ e1.toNat * 2 ^ (-e2).toNat) = (c * 2 ^ e1.toNat) * (m * 2 ^ (-e2).toNat) := by ac_rfl
      _ = (D * 2 ^ (-e1).toNat) * (d * 2 ^ e2.toNat) := by rw [h1, h2]
      _ = D * d * (2 ^ (-e1).toNat * 2 ^ e2.toNat) := by ac_rfl
  exact Nat.eq_of_mul_eq_mul_right (Nat.two_pow_pos _) h
theorem own_quot {d m : Int64} (hd : d.toInt.natAbs ≤ 2 ^ 53) (hm : 0 < m.toInt) (hm2 : m.toInt ≤ 2 ^ 53) : val64 (ddiv (l2d d) (l2d m)) = roundRatio b64 (decide (d.toInt < 0)) d.toInt.natAbs m.toInt.natAbs 0 := by
  have w1 := l2d_int (a := d) hd
  have w2 := l2d_int (a := m) (by omega)
  obtain ⟨c, q, e1⟩ := l2d_shape d
  obtain ⟨c2, r, e2⟩ := l2d_shape m
  have s2 : decide (m.toInt < 0) = false := by simp; omega
  rw [s2] at e2
  have w1' : Whole d.toInt (.fin (decide (d.toInt < 0)) c q) := by rw [← e1]; exact w1
  have w2' : Whole m.toInt (.fin false c2 r) := by rw [← e2]; exact w2
  have n1 := whole_natAbs w1'
  have n2 := whole_natAbs w2'
  have z2 : c2 ≠ 0 := fun z => by have := (whole_zero w2').mp z; omega
  rw [val64_ddiv, e1, e2]
  show (if c2 = 0 then _ else roundRatio b64 (decide (d.toInt < 0) != false) c c2 (q - r)) = _
  rw [if_neg z2, Bool.bne_false]
  exact roundRatio_congr (by omega) (by omega) (own_two n1 n2)

def own_Dy (k : Nat) (i : Int) (a : UInt64) : Prop := DFin a ∧ zval b64 (val64 a) = i * ((2 ^ (1074 - k) : Nat) : Int)
theorem own_sgnI (n : Int) : signed (decide (n < 0)) n.natAbs = n := by
  by_cases z : n < 0
  · simp only [z, decide_true, signed, if_true]; omega
  · simp only [z, decide_false, signed]; simp; omega
theorem own_W (k : Nat) (hk : k ≤ 1000) (n : Int) (hn : n.natAbs < 2 ^ 53) : ∃ V, FP.Core.fits b64 V ∧ V ≠ .nan ∧ zval b64 V = n * ((2 ^ (1074 - k) : Nat) : Int) ∧ ∃ s c q, V = .fin s c q := by
  have qx : b64.qmax = 971 := by decide
  obtain ⟨c', q', e, h⟩ := round_exact good_b64 (decide (n < 0)) (c := n.natAbs) (q := -(k : Int)) hn (by rw [qmin_b64]; omega) (by rw [qx]; omega)
  refine ⟨round b64 (.fin (decide (n < 0)) n.natAbs (-(k : Int))), round_fits good_b64 _, (by rw [e]; intro z; cases z), ?_, _, _, _, e⟩
  rw [e]
  show signed (decide (n < 0)) (inUnits c' q' b64.qmin) = _
  have e1 : inUnits n.natAbs (-(k : Int)) b64.qmin = n.natAbs * 2 ^ (1074 - k) := by
    show n.natAbs * 2 ^ (-(k : Int) - b64.qmin).toNat = _
    rw [qmin_b64]; congr 2; omega
  rw [h, e1, signed_mul, own_sgnI]
theorem own_finV {d V : Datum} (hd : FP.Core.fits b64 d) (hn : d ≠ .nan) (hV : FP.Core.fits b64 V) (hf : ∃ s c q, V = .fin s c q) (h : zval b64 d = zval b64 V) : ∃ s c q, d = .fin s c q := by
  cases d with
  | nan => exact absurd rfl hn
  | fin s c q => exact ⟨s, c, q, rfl⟩
  | inf s =>
    exfalso
    obtain ⟨s', c, q, rfl⟩ := hf
    have k := zmag_lt_top good_b64 hV
    have a1 : (zval b64 (.inf s)).natAbs = zmag b64 (.inf s) := natAbs_signed _ _
    have a2 : (zval b64 (.fin s' c q)).natAbs = inUnits c q b64.qmin := natAbs_signed _ _
    have a3 : zmag b64 (.inf s) = b64.tails * 2 ^ (b64.exps - 2) := rfl
    rw [h, a2, a3] at a1
    omega
theorem own_4 {i A j B C D : Int} (h : A * B = C * D) : i * A * (j * B) = i * j * C * D := by
  rw [Int.mul_assoc (i * j), ← h]; ac_rfl
theorem own_pw2 {k : Nat} (hk : k ≤ 1074) : 2 ^ (1074 - k) * 2 ^ k = 2 ^ 1074 := by
  rw [← Nat.pow_add]; congr 1; omega
theorem own_pw3 {k l : Nat} (hk : k + l ≤ 1000) : ((2 ^ (1074 - k) : Nat) : Int) * ((2 ^ (1074 - l) : Nat) : Int) = ((2 ^ (1074 - (k + l)) : Nat) : Int) * ((2 ^ 1074 : Nat) : Int) := by
  rw [← Int.natCast_mul, ← Int.natCast_mul, ← Nat.pow_add, ← Nat.pow_add]; congr 2; omega
theorem own_nat {x : Int} {P : Nat} (h : 0 ≤ x) : x * (P : Int) = ((x.natAbs * P : Nat) : Int) := by
  rw [Int.natCast_mul]; congr 1; omega
theorem own_Dy_of {k : Nat} {i : Int} {a : UInt64} {V : Datum} (hn : val64 a ≠ .nan) (hV : FP.Core.fits b64 V) (hf : ∃ s c q, V = .fin s c q) (hz : zval b64 V = i * ((2 ^ (1074 - k) : Nat) : Int)) (h : zval b64 (val64 a) = zval b64 V) : own_Dy k i a :=
  ⟨own_finV (val64_fits a) hn hV hf h, h.trans hz⟩
theorem own_dadd {k : Nat} {i j : Int} {a b : UInt64} (hk : k ≤ 1000) (ha : own_Dy k i a) (hb : own_Dy k j b) (h : (i + j).natAbs < 2 ^ 53) : own_Dy k (i + j) (dadd a b) := by
  obtain ⟨V, v1, v2, v3, v4⟩ := own_W k hk (i + j) h
  have e : zval b64 (val64 a) + zval b64 (val64 b) = zval b64 V := by rw [ha.2, hb.2, v3, Int.add_mul]
  have l := sum_le good_b64 ha.1 hb.1 (val64_fits a) (val64_fits b) v1 v2 (Int.le_of_eq e)
  have g := sum_ge good_b64 ha.1 hb.1 (val64_fits a) (val64_fits b) v1 v2 (Int.le_of_eq e.symm)
  rw [← val64_dadd] at l g
  exact own_Dy_of ((notNaN_iff _).mp (dadd_out (DFin.notNaN ha.1) hb.1)) v1 v4 v3 (Int.le_antisymm l g)
theorem own_dmul {k l : Nat} {i j : Int} {a b : UInt64} (hk : k + l ≤ 1000) (ha : own_Dy k i a) (hb : own_Dy l j b) (h : (i * j).natAbs < 2 ^ 53) : own_Dy (k + l) (i * j) (dmul a b) := by
  obtain ⟨V, v1, v2, v3, v4⟩ := own_W (k + l) hk (i * j) h
  obtain ⟨s, c, q, ea⟩ := ha.1
  obtain ⟨t, d, r, eb⟩ := hb.1
  have fa := val64_fits a
  have fb := val64_fits b
  rw [ea] at fa
  rw [eb] at fb
  obtain ⟨p1, p2, p3⟩ := product_units fa fb
  have za := ha.2
  have zb := hb.2
  rw [ea] at za
  rw [eb] at zb
  have hq : (b64.qmin - 2 * b64.qmin).toNat = 1074 := by rw [qmin_b64]; decide
  have e : signed (s != t) (inUnits (c * d) (q + r) (2 * b64.qmin)) = zval b64 V * ((2 ^ (b64.qmin - 2 * b64.qmin).toNat : Nat) : Int) := by
    rw [p3, signed_xor, v3, hq]
    have za' : signed s (zmag b64 (.fin s c q)) = i * ((2 ^ (1074 - k) : Nat) : Int) := za
    have zb' : signed t (zmag b64 (.fin t d r)) = j * ((2 ^ (1074 - l) : Nat) : Int) := zb
    rw [za', zb']
    exact own_4 (own_pw3 hk)
  have h0 : 2 * b64.qmin ≤ b64.qmin := by rw [qmin_b64]; decide
  have l1 := zval_round_le good_b64 v1 v2 h0 p2 (Int.le_of_eq e)
  have g1 := zval_round_ge good_b64 v1 v2 h0 p2 (Int.le_of_eq e.symm)
  have ev : val64 (dmul a b) = round b64 (.fin (s != t) (c * d) (q + r)) := by rw [val64_dmul, ea, eb, p1]
  rw [← ev] at l1 g1
  exact own_Dy_of ((notNaN_iff _).mp (dmul_out ha.1 hb.1)) v1 v4 v3 (Int.le_antisymm l1 g1)
theorem own_lift {k : Nat} {i : Int} {a : UInt64} (t : Nat) (hk : k + t ≤ 1000) (h : own_Dy k i a) : own_Dy (k + t) (i * ((2 ^ t : Nat) : Int)) a := by
  refine ⟨h.1, ?_⟩
  rw [h.2, Int.mul_assoc, ← Int.natCast_mul, ← Nat.pow_add]
  congr 3; omega
theorem own_dyI {v : Int64} (h : v.toInt.natAbs ≤ 2 ^ 53) : own_Dy 0 v.toInt (l2d v) := ⟨l2d_fin v, DInt_zval (l2d_int h)⟩
theorem own_dyEq {k : Nat} {i : Int} {a b : UInt64} (ha : own_Dy k i a) (hb : own_Dy k i b) : FP.dcmp a b = some .eq := dcmp_eq.mpr ⟨DFin.ne_nan ha.1, DFin.ne_nan hb.1, by rw [ha.2, hb.2]⟩
theorem own_dyF {k : Nat} {i : Int} {a : UInt64} (h : own_Dy k i a) : Jvm.Free.Fl.Fin64 a := Jvm.Free.Fl.fin64_core.mpr h.1
theorem own_dyPos {k : Nat} {i : Int} {a : UInt64} (hi : 0 < i) (h : own_Dy k i a) : FP.dcmp a 0 = some .gt := by
  refine dcmp_gt.mpr ⟨DFin.ne_nan h.1, by rw [ne_nan]; decide, ?_⟩
  rw [zval64_zero, h.2]
  exact Int.mul_pos hi (Int.ofNat_lt.mpr (Nat.two_pow_pos _))
theorem own_dyC {k : Nat} {i : Int} {a b : UInt64} (e : a = b) (h : own_Dy k i a) : own_Dy k i b := e ▸ h
theorem own_dyJ {k : Nat} {i j : Int} {a : UInt64} (e : i = j) (h : own_Dy k i a) : own_Dy k j a := e ▸ h
/-- a whole number over a power of two -/
theorem own_dyQ {d m : Int64} {k : Nat} (hk : k ≤ 60) (hd : 0 ≤ d.toInt ∧ d.toInt < 2 ^ 53) (hm : m.toInt = ((2 ^ k : Nat) : Int)) (hm2 : m.toInt ≤ 2 ^ 53) : own_Dy k d.toInt (ddiv (l2d d) (l2d m)) := by
  have hp : 0 < m.toInt := by rw [hm]; exact Int.ofNat_lt.mpr (Nat.two_pow_pos _)
  have e := own_quot (d := d) (m := m) (by omega) hp hm2
  have sd : decide (d.toInt < 0) = false := by simp; omega
  rw [sd] at e
  obtain ⟨V, v1, v2, v3, v4⟩ := own_W k (by omega) d.toInt (by omega)
  have zV : zmag b64 V = d.toInt.natAbs * 2 ^ (1074 - k) := by
    have a : (zval b64 V).natAbs = zmag b64 V := natAbs_signed _ _
    rw [← a, v3, Int.natAbs_mul]; rfl
  have e0 : 2 ^ (b64.qmin - b64.qmin).toNat = 1 := by decide
  have hN : inUnits d.toInt.natAbs 0 b64.qmin = zmag b64 V * 2 ^ (b64.qmin - b64.qmin).toNat * m.toInt.natAbs := by
    have a : inUnits d.toInt.natAbs 0 b64.qmin = d.toInt.natAbs * 2 ^ 1074 := rfl
    have b : m.toInt.natAbs = 2 ^ k := by rw [hm]; rfl
    rw [a, e0, zV, b, Nat.mul_one, Nat.mul_assoc, own_pw2 (by omega)]
  have g1 := zmag_roundRatio_le (s := false) good_b64 (A := d.toInt.natAbs) (B := m.toInt.natAbs) (e := 0) (e0 := b64.qmin) (by omega) v1 v2 (Int.le_refl _) (by decide) (Nat.le_of_eq hN)
  have g2 := zmag_roundRatio_ge (s := false) good_b64 (A := d.toInt.natAbs) (B := m.toInt.natAbs) (e := 0) (e0 := b64.qmin) (by omega) v1 (Int.le_refl _) (by decide) (Nat.le_of_eq hN.symm)
  refine own_Dy_of (V := V) (by rw [e]; exact roundRatio_ne_nan _ _ _ _ _) v1 v4 v3 ?_
  rw [e]
  have z1 : zval b64 (roundRatio b64 false d.toInt.natAbs m.toInt.natAbs 0) = (zmag b64 (roundRatio b64 false d.toInt.natAbs m.toInt.natAbs 0) : Int) := by
    show signed (FP.Core.sgn _) _ = _
    rw [sgn_roundRatio]; rfl
  have z2 : zval b64 V = (zmag b64 V : Int) := by
    rw [v3, zV]; exact own_nat hd.1
  rw [z1, z2, Nat.le_antisymm g1 g2]
end OwnDy

theorem own_half : own_Dy 1 1 4602678819172646912 := by
  have e : FP.Core.ddiv (FP.Core.l2d 1) (FP.Core.l2d 2) = 4602678819172646912 := by decide +kernel
  exact own_dyC e (own_dyQ (d := 1) (m := 2) (by decide) (by decide) (by decide) (by decide))
theorem own_sixt : own_Dy 0 16 4625196817309499392 := by
  have e : FP.Core.l2d 16 = 4625196817309499392 := by decide +kernel
  exact own_dyC e (own_dyI (v := 16) (by decide))
theorem own_l8 : FP.Core.l2d 8 = 4620693217682128896 := by decide +kernel
theorem own_cell {s : Int32} {d c : UInt64} (h : 1 ≤ s.toInt ∧ s.toInt ≤ 1024) (h1 : FP.i2d s = d) (h2 : FP.ddiv d (4620693217682128896 : UInt64) = c) : own_Dy 3 s.toInt c := by
  have k := own_dyQ (d := s.toInt64) (m := 8) (k := 3) (by decide) (by rw [c_i2l]; omega) (by decide) (by decide)
  rw [c_i2l] at k
  refine own_dyC ?_ k
  rw [own_l8, ← h2, ← h1, i2d_w]
theorem own_dy32 (v : Int32) : own_Dy 0 v.toInt (FP.i2d v) := by
  have k := own_dyI (v := v.toInt64) (by rw [c_i2l]; have := rng32 v; omega)
  rw [c_i2l] at k
  exact own_dyC (i2d_w v).symm k
theorem own_z0 : FP.dadd (0 : UInt64) (FP.dmul (FP.l2d 0) 0) = 0 := by decide +kernel
theorem df_0 : decode jdk_117_method_8_code 0 = .ok (.dload_n 0, 1) := by decide +kernel
theorem df_1 : decode jdk_117_method_8_code 1 = .ok (.invokestatic 38, 3) := by decide +kernel
theorem df_4 : decode jdk_117_method_8_code 4 = .ok (.ldc2_w 111, 3) := by decide +kernel
theorem df_7 : decode jdk_117_method_8_code 7 = .ok (.dcmp .g, 1) := by decide +kernel
theorem df_8 : decode jdk_117_method_8_code 8 = .ok (.ifCond .gt 7, 3) := by decide +kernel
theorem df_11 : decode jdk_117_method_8_code 11 = .ok (.iconst 1, 1) := by decide +kernel
theorem df_12 : decode jdk_117_method_8_code 12 = .ok (.goto 4, 3) := by decide +kernel
theorem df_16 : decode jdk_117_method_8_code 16 = .ok (.ireturn, 1) := by decide +kernel
theorem pnf : plainName "java/lang/Double" = true := by first | (simp [plainName, overriddenIn]; done) | decide +kernel
theorem eff (m : MethodId) (z0 : UInt64) : entryFrame m #[(.double z0)] 2 = mkF m 0 #[.val (.double z0), .second] [] := by first | (simp [entryFrame, mkF, argsToLocals, Value.category]; done) | rfl
def Qf (Z : State) (q1 : UInt64) (h0 : Heap) (n0 : Nat) (v : Option Value) (h : Heap) (L : List Loc) : Prop := v = some (.int 1) ∧ Fr n0 L ∧ h = h0
set_option maxRecDepth 65536 in
set_option maxHeartbeats 40000000 in
theorem rmf (l : Launch) (Z : State) (a0 : Array Value) (hw : ∀ d ∈ tables_1, d.before a0 Z = true) (ws : List Jvm.Cond) (q1 : UInt64) (h0 : Heap) (n0 : Nat) (Z0 : n0 ≤ h0.size) (hF : Jvm.Free.Fl.Fin64 q1) :
    MetFree l (⟨"java/lang/Double", "isFinite", "(D)Z"⟩ : MethodName) (head1 (Jvm.Cond.code (⟨"java/lang/Double", "isFinite", "(D)Z"⟩ : MethodName) jdk_117_method_8_code 2 (Option.some Jvm.ClassFile.FieldType.boolean) :: ws) ({ frames := 1, cells := 0, slots := 0, locals := 13 } : Room)) (fun a U => a = #[(.double q1)] ∧ Z.Warmed39 U.vm ∧ U.heap = h0) (fun _ _ _ _ _ => True) (fun _ U o U' => ∃ v L, o = .returned v ∧ Qf Z q1 h0 n0 v U'.heap L ∧ FrameEnd U o U' L ({ frames := 1, cells := 0, slots := 0, locals := 13 } : Room).cells ({ frames := 1, cells := 0, slots := 0, locals := 13 } : Room).slots) := by
  refine MetFree.of_bodySF (plainFor_of_name pnf) hisR ?_
  intro p e s m args below meth c s₁ Bd hml0 hP hK
  obtain ⟨rfl, hZ, hh⟩ := hP
  have hx := Bd.exec
  have hby := Bd.bytes
  have hml : c.maxLocals = 2 := hml0
  have hown : s.vm.findClass "java/lang/Double" = some m.cls := findClass_of_methodNamed Bd.named
  have hnm := (name_of_methodNamed Bd.named Bd.method).1
  have X0 : Stand p l e ({ frames := 1, cells := 0, slots := 0, locals := 13 } : Room) s m #[(.double q1)] below meth c s₁ [] 0 0 := Stand.of_body Bd
  have e0 : s₁.heap = h0 := by rw [← hh, Bd.state]; rfl
  have N0 := Fr.nil n0
  show Go p e below (Ret s (Qf Z q1 h0 n0) ({ frames := 1, cells := 0, slots := 0, locals := 13 } : Room).cells ({ frames := 1, cells := 0, slots := 0, locals := 13 } : Room).slots) (s₁.setTop (entryFrame m #[(.double q1)] 2))
  rw [eff m q1]
  refine g_dloadN X0 hx (hb hby df_0) rfl ?_
  refine g_absD X0 hx hZ hown (hw _ (List.mem_of_getElem? (i := 19) rfl)) (hw _ (List.mem_of_getElem? (i := 20) rfl)) (hw _ (List.mem_of_getElem? (i := 21) rfl)) (hw _ (List.mem_of_getElem? (i := 22) rfl)) e0 (by rw [hml]; rfl) hF.noNaN (by decide) (W := 0) (Nat.le_of_eq rfl) (by decide) (by decide) (by decide) (hb hby df_1) ?_
  intro T1 X2 e3
  refine g_ldc2D X2 hx hZ hown (hw _ (List.mem_of_getElem? (i := 23) rfl)) (hb hby df_4) ?_
  refine g_dcmp X2 hx (hb hby df_7) ?_
  have hc8_4 : ¬ (FP.dcmp (q1 &&& 0x7fffffffffffffff) (9218868437227405311 : UInt64) = some .gt ∨ FP.dcmp (q1 &&& 0x7fffffffffffffff) (9218868437227405311 : UInt64) = none) := (by
    have k := (FP.Core.le_max (a := q1) (Jvm.Free.Fl.noNaN64_no.mp hF.noNaN)).mpr (Jvm.Free.Fl.fin64_core.mp hF)
    intro q
    have k' : FP.dcmp (q1 &&& 0x7fffffffffffffff) (9218868437227405311 : UInt64) = some .lt ∨ FP.dcmp (q1 &&& 0x7fffffffffffffff) (9218868437227405311 : UInt64) = some .eq := k
    rcases k' with k | k <;> rw [k] at q <;> rcases q with q | q <;> cases q)
  refine g_ifNo X2 hx (hb hby df_8) (flt (fun q => hc8_4 ((cv_g_gt _).mp q))).2.2.1 ?_
  refine g_iconst X2 hx (hb hby df_11) (v := (1 : Int32)) (by decide) ?_
  refine g_goto X2 hx (hb hby df_12) (by decide) (pc' := 16) (by decide) ?_
  refine g_ireturn X2 hx Bd.notSynchronized Bd.returns rfl (by simp) (hb hby df_16) (by decide) (by decide) ?_
  exact ⟨rfl, N0, e3⟩
theorem ds_0 : decode prog_46_method_3_code 0 = .ok (.dload_n 0, 1) := by decide +kernel
theorem ds_1 : decode prog_46_method_3_code 1 = .ok (.dconst 0, 1) := by decide +kernel
theorem ds_2 : decode prog_46_method_3_code 2 = .ok (.dcmp .l, 1) := by decide +kernel
theorem ds_3 : decode prog_46_method_3_code 3 = .ok (.ifCond .le 14, 3) := by decide +kernel
theorem ds_6 : decode prog_46_method_3_code 6 = .ok (.dload_n 0, 1) := by decide +kernel
theorem ds_7 : decode prog_46_method_3_code 7 = .ok (.invokestatic 36, 3) := by decide +kernel
theorem ds_10 : decode prog_46_method_3_code 10 = .ok (.ifCond .eq 7, 3) := by decide +kernel
theorem ds_13 : decode prog_46_method_3_code 13 = .ok (.iconst 1, 1) := by decide +kernel
theorem ds_14 : decode prog_46_method_3_code 14 = .ok (.goto 4, 3) := by decide +kernel
theorem ds_18 : decode prog_46_method_3_code 18 = .ok (.ireturn, 1) := by decide +kernel
theorem pns : plainName "com/example/floorfield/floorfield/model/Grid" = true := by first | (simp [plainName, overriddenIn]; done) | decide +kernel
theorem pds_0 : parseMethodDescriptor "(D)Z" = some ⟨[.double], some .boolean⟩ := by decide +kernel
theorem efs (m : MethodId) (z0 : UInt64) : entryFrame m #[(.double z0)] 2 = mkF m 0 #[.val (.double z0), .second] [] := by first | (simp [entryFrame, mkF, argsToLocals, Value.category]; done) | rfl
def Qs (Z : State) (q1 : UInt64) (h0 : Heap) (n0 : Nat) (v : Option Value) (h : Heap) (L : List Loc) : Prop := v = some (.int 1) ∧ Fr n0 L ∧ h = h0
set_option maxRecDepth 65536 in
set_option maxHeartbeats 40000000 in
theorem rms (l : Launch) (Z : State) (a0 : Array Value) (hw : ∀ d ∈ tables_1, d.before a0 Z = true) (ws : List Jvm.Cond) (q1 : UInt64) (h0 : Heap) (n0 : Nat) (Z0 : n0 ≤ h0.size) (hF : Jvm.Free.Fl.Fin64 q1) (hP : FP.dcmp q1 (0 : UInt64) = some .gt) :
    MetFree l (⟨"com/example/floorfield/floorfield/model/Grid", "isCellSide", "(D)Z"⟩ : MethodName) (head1 (Jvm.Cond.code (⟨"com/example/floorfield/floorfield/model/Grid", "isCellSide", "(D)Z"⟩ : MethodName) prog_46_method_3_code 2 (Option.some Jvm.ClassFile.FieldType.boolean) :: ws) ({ frames := 2, cells := 0, slots := 0, locals := 26 } : Room)) (fun a U => a = #[(.double q1)] ∧ Z.Warmed39 U.vm ∧ U.heap = h0) (fun _ _ _ _ _ => True) (fun _ U o U' => ∃ v L, o = .returned v ∧ Qs Z q1 h0 n0 v U'.heap L ∧ FrameEnd U o U' L ({ frames := 2, cells := 0, slots := 0, locals := 26 } : Room).cells ({ frames := 2, cells := 0, slots := 0, locals := 26 } : Room).slots) := by
  refine MetFree.of_bodySF (plainFor_of_name pns) hisR ?_
  intro p e s m args below meth c s₁ Bd hml0 hP hK
  obtain ⟨rfl, hZ, hh⟩ := hP
  have hx := Bd.exec
  have hby := Bd.bytes
  have hml : c.maxLocals = 2 := hml0
  have hown : s.vm.findClass "com/example/floorfield/floorfield/model/Grid" = some m.cls := findClass_of_methodNamed Bd.named
  have hnm := (name_of_methodNamed Bd.named Bd.method).1
  have X0 : Stand p l e ({ frames := 2, cells := 0, slots := 0, locals := 26 } : Room) s m #[(.double q1)] below meth c s₁ [] 0 0 := Stand.of_body Bd
  have e0 : s₁.heap = h0 := by rw [← hh, Bd.state]; rfl
  have N0 := Fr.nil n0
  show Go p e below (Ret s (Qs Z q1 h0 n0) ({ frames := 2, cells := 0, slots := 0, locals := 26 } : Room).cells ({ frames := 2, cells := 0, slots := 0, locals := 26 } : Room).slots) (s₁.setTop (entryFrame m #[(.double q1)] 2))
  rw [efs m q1]
  refine g_dloadN X0 hx (hb hby ds_0) rfl ?_
  refine g_dconst0 X0 hx (hb hby ds_1) ?_
  refine g_dcmp X0 hx (hb hby ds_2) ?_
  have hc3_1 : FP.dcmp q1 (0 : UInt64) = some .gt := hP
  refine g_ifNo X0 hx (hb hby ds_3) (tlt ((cv_l_gt _).mpr hc3_1)).2.2.2 ?_
  refine g_dloadN X0 hx (hb hby ds_6) rfl ?_
  refine g_callS X0 hx hZ hown (hw _ (List.mem_of_getElem? (i := 15) rfl)) (hw _ (List.mem_of_getElem? (i := 16) rfl)) (hw _ (List.mem_of_getElem? (i := 17) rfl)) (hw _ (List.mem_of_getElem? (i := 18) rfl)) (by decide) (rmf l Z a0 hw [] q1 h0 n0 Z0 hF) e0 (W := 0) (by decide) (by decide) (by rw [hml]; rfl) [(.double q1)] [] (lenOf pds_0 rfl) rfl rfl (Nat.le_of_eq rfl) (hb hby ds_7) (by decide) (by decide) ?_
  intro v6 T2 L5 X3 hQ4
  obtain ⟨rfl, N7, e8⟩ := hQ4
  have N9 := Fr.app N0 N7
  show Go p e below (Ret s (Qs Z q1 h0 n0) ({ frames := 2, cells := 0, slots := 0, locals := 26 } : Room).cells ({ frames := 2, cells := 0, slots := 0, locals := 26 } : Room).slots) (T2.setTop (mkF m 10 #[.val (.double q1), .second] [(.int (1 : Int32))]))
  have hc10_10 : ¬ ((1 : Int32) = (0 : Int32)) := (by decide)
  refine g_ifNo X3 hx (hb hby ds_10) (feq hc10_10).1 ?_
  refine g_iconst X3 hx (hb hby ds_13) (v := (1 : Int32)) (by decide) ?_
  refine g_goto X3 hx (hb hby ds_14) (by decide) (pc' := 18) (by decide) ?_
  refine g_ireturn X3 hx Bd.notSynchronized Bd.returns rfl (by simp) (hb hby ds_18) (by decide) (by decide) ?_
  exact ⟨rfl, N9, e8⟩
theorem dn_0 : decode prog_46_method_4_code 0 = .ok (.dload_n 0, 1) := by decide +kernel
theorem dn_1 : decode prog_46_method_4_code 1 = .ok (.lload_n 2, 1) := by decide +kernel
theorem dn_2 : decode prog_46_method_4_code 2 = .ok (.l2d, 1) := by decide +kernel
theorem dn_3 : decode prog_46_method_4_code 3 = .ok (.dload 4, 2) := by decide +kernel
theorem dn_5 : decode prog_46_method_4_code 5 = .ok (.dmul, 1) := by decide +kernel
theorem dn_6 : decode prog_46_method_4_code 6 = .ok (.dadd, 1) := by decide +kernel
theorem dn_7 : decode prog_46_method_4_code 7 = .ok (.dreturn, 1) := by decide +kernel
theorem pnn : plainName "com/example/floorfield/floorfield/model/Grid" = true := by first | (simp [plainName, overriddenIn]; done) | decide +kernel
theorem efn (m : MethodId) (z0 : UInt64) (z1 : Int64) (z2 : UInt64) : entryFrame m #[(.double z0), (.long z1), (.double z2)] 6 = mkF m 0 #[.val (.double z0), .second, .val (.long z1), .second, .val (.double z2), .second] [] := by first | (simp [entryFrame, mkF, argsToLocals, Value.category]; done) | rfl
def Qn (Z : State) (q1 : UInt64) (q2 : Int64) (q3 : UInt64) (h0 : Heap) (n0 : Nat) (v : Option Value) (h : Heap) (L : List Loc) : Prop := v = some (.double (FP.dadd q1 (FP.dmul (FP.l2d q2) q3))) ∧ Fr n0 L ∧ h = h0
set_option maxRecDepth 65536 in
set_option maxHeartbeats 40000000 in
theorem rmn (l : Launch) (Z : State) (a0 : Array Value) (hw : ∀ d ∈ tables_1, d.before a0 Z = true) (ws : List Jvm.Cond) (q1 : UInt64) (q2 : Int64) (q3 : UInt64) (h0 : Heap) (n0 : Nat) (Z0 : n0 ≤ h0.size) (hn1 : Jvm.Free.Fl.NoNaN64 (FP.dmul (FP.l2d q2) q3)) (hn2 : Jvm.Free.Fl.NoNaN64 (FP.dadd q1 (FP.dmul (FP.l2d q2) q3))) :
    MetFree l (⟨"com/example/floorfield/floorfield/model/Grid", "line", "(DJD)D"⟩ : MethodName) (head1 (Jvm.Cond.code (⟨"com/example/floorfield/floorfield/model/Grid", "line", "(DJD)D"⟩ : MethodName) prog_46_method_4_code 6 (Option.some Jvm.ClassFile.FieldType.double) :: ws) ({ frames := 0, cells := 0, slots := 0, locals := 0 } : Room)) (fun a U => a = #[(.double q1), (.long q2), (.double q3)] ∧ Z.Warmed39 U.vm ∧ U.heap = h0) (fun _ _ _ _ _ => True) (fun _ U o U' => ∃ v L, o = .returned v ∧ Qn Z q1 q2 q3 h0 n0 v U'.heap L ∧ FrameEnd U o U' L ({ frames := 0, cells := 0, slots := 0, locals := 0 } : Room).cells ({ frames := 0, cells := 0, slots := 0, locals := 0 } : Room).slots) := by
  refine MetFree.of_bodySF (plainFor_of_name pnn) hisR ?_
  intro p e s m args below meth c s₁ Bd hml0 hP hK
  obtain ⟨rfl, hZ, hh⟩ := hP
  have hx := Bd.exec
  have hby := Bd.bytes
  have hml : c.maxLocals = 6 := hml0
  have hown : s.vm.findClass "com/example/floorfield/floorfield/model/Grid" = some m.cls := findClass_of_methodNamed Bd.named
  have hnm := (name_of_methodNamed Bd.named Bd.method).1
  have X0 : Stand p l e ({ frames := 0, cells := 0, slots := 0, locals := 0 } : Room) s m #[(.double q1), (.long q2), (.double q3)] below meth c s₁ [] 0 0 := Stand.of_body Bd
  have e0 : s₁.heap = h0 := by rw [← hh, Bd.state]; rfl
  have N0 := Fr.nil n0
  show Go p e below (Ret s (Qn Z q1 q2 q3 h0 n0) ({ frames := 0, cells := 0, slots := 0, locals := 0 } : Room).cells ({ frames := 0, cells := 0, slots := 0, locals := 0 } : Room).slots) (s₁.setTop (entryFrame m #[(.double q1), (.long q2), (.double q3)] 6))
  rw [efn m q1 q2 q3]
  refine g_dloadN X0 hx (hb hby dn_0) rfl ?_
  refine g_lloadN X0 hx (hb hby dn_1) rfl ?_
  obtain ⟨d1, hd1⟩ : ∃ v : UInt64, FP.l2d q2 = v := ⟨_, rfl⟩
  have fin_d1 : Jvm.Free.Fl.Fin64 d1 := by rw [← hd1]; exact Jvm.Free.Fl.l2d_fin _
  refine g_l2d X0 hx (hb hby dn_2) hd1 ?_
  refine g_dload X0 hx (hb hby dn_3) rfl ?_
  have n2 : Jvm.Free.Fl.NoNaN64 (FP.dmul d1 q3) := (by rw [← hd1]; exact hn1)
  obtain ⟨d3, hd3⟩ : ∃ v : UInt64, FP.dmul d1 q3 = v := ⟨_, rfl⟩
  have nn_d3 : Jvm.Free.Fl.NoNaN64 d3 := by rw [← hd3]; exact n2
  refine g_dmul X0 hx (hb hby dn_5) n2 hd3 ?_
  have n4 : Jvm.Free.Fl.NoNaN64 (FP.dadd q1 d3) := (by subst hd3 hd1; exact hn2)
  obtain ⟨d5, hd5⟩ : ∃ v : UInt64, FP.dadd q1 d3 = v := ⟨_, rfl⟩
  have nn_d5 : Jvm.Free.Fl.NoNaN64 d5 := by rw [← hd5]; exact n4
  refine g_dadd X0 hx (hb hby dn_6) n4 hd5 ?_
  refine g_dreturn X0 hx Bd.notSynchronized Bd.returns (hb hby dn_7) (by decide) (by decide) ?_
  subst hd1 hd3 hd5
  exact ⟨rfl, N0, e0⟩
theorem di_0 : decode prog_46_method_2_code 0 = .ok (.aload_n 0, 1) := by decide +kernel
theorem di_1 : decode prog_46_method_2_code 1 = .ok (.invokespecial 7, 3) := by decide +kernel
theorem di_4 : decode prog_46_method_2_code 4 = .ok (.dload 5, 2) := by decide +kernel
theorem di_6 : decode prog_46_method_2_code 6 = .ok (.invokestatic 12, 3) := by decide +kernel
theorem di_9 : decode prog_46_method_2_code 9 = .ok (.ifCond .ne 18, 3) := by decide +kernel
theorem di_27 : decode prog_46_method_2_code 27 = .ok (.aload_n 0, 1) := by decide +kernel
theorem di_28 : decode prog_46_method_2_code 28 = .ok (.dload_n 1, 1) := by decide +kernel
theorem di_29 : decode prog_46_method_2_code 29 = .ok (.lload 7, 2) := by decide +kernel
theorem di_31 : decode prog_46_method_2_code 31 = .ok (.dload 5, 2) := by decide +kernel
theorem di_33 : decode prog_46_method_2_code 33 = .ok (.invokestatic 25, 3) := by decide +kernel
theorem di_36 : decode prog_46_method_2_code 36 = .ok (.putfield 29, 3) := by decide +kernel
theorem di_39 : decode prog_46_method_2_code 39 = .ok (.aload_n 0, 1) := by decide +kernel
theorem di_40 : decode prog_46_method_2_code 40 = .ok (.dload_n 3, 1) := by decide +kernel
theorem di_41 : decode prog_46_method_2_code 41 = .ok (.lload 9, 2) := by decide +kernel
theorem di_43 : decode prog_46_method_2_code 43 = .ok (.dload 5, 2) := by decide +kernel
theorem di_45 : decode prog_46_method_2_code 45 = .ok (.invokestatic 25, 3) := by decide +kernel
theorem di_48 : decode prog_46_method_2_code 48 = .ok (.putfield 33, 3) := by decide +kernel
theorem di_51 : decode prog_46_method_2_code 51 = .ok (.aload_n 0, 1) := by decide +kernel
theorem di_52 : decode prog_46_method_2_code 52 = .ok (.getfield 29, 3) := by decide +kernel
theorem di_55 : decode prog_46_method_2_code 55 = .ok (.invokestatic 36, 3) := by decide +kernel
theorem di_58 : decode prog_46_method_2_code 58 = .ok (.ifCond .eq 13, 3) := by decide +kernel
theorem di_61 : decode prog_46_method_2_code 61 = .ok (.aload_n 0, 1) := by decide +kernel
theorem di_62 : decode prog_46_method_2_code 62 = .ok (.getfield 33, 3) := by decide +kernel
theorem di_65 : decode prog_46_method_2_code 65 = .ok (.invokestatic 36, 3) := by decide +kernel
theorem di_68 : decode prog_46_method_2_code 68 = .ok (.ifCond .ne 24, 3) := by decide +kernel
theorem di_92 : decode prog_46_method_2_code 92 = .ok (.iload 11, 2) := by decide +kernel
theorem di_94 : decode prog_46_method_2_code 94 = .ok (.ifCond .lt 22, 3) := by decide +kernel
theorem di_97 : decode prog_46_method_2_code 97 = .ok (.iload 12, 2) := by decide +kernel
theorem di_99 : decode prog_46_method_2_code 99 = .ok (.ifCond .lt 17, 3) := by decide +kernel
theorem di_102 : decode prog_46_method_2_code 102 = .ok (.iload 11, 2) := by decide +kernel
theorem di_104 : decode prog_46_method_2_code 104 = .ok (.i2l, 1) := by decide +kernel
theorem di_105 : decode prog_46_method_2_code 105 = .ok (.iload 12, 2) := by decide +kernel
theorem di_107 : decode prog_46_method_2_code 107 = .ok (.i2l, 1) := by decide +kernel
theorem di_108 : decode prog_46_method_2_code 108 = .ok (.lmul, 1) := by decide +kernel
theorem di_109 : decode prog_46_method_2_code 109 = .ok (.ldc2_w 46, 3) := by decide +kernel
theorem di_112 : decode prog_46_method_2_code 112 = .ok (.lcmp, 1) := by decide +kernel
theorem di_113 : decode prog_46_method_2_code 113 = .ok (.ifCond .le 20, 3) := by decide +kernel
theorem di_133 : decode prog_46_method_2_code 133 = .ok (.aload_n 0, 1) := by decide +kernel
theorem di_134 : decode prog_46_method_2_code 134 = .ok (.dload 5, 2) := by decide +kernel
theorem di_136 : decode prog_46_method_2_code 136 = .ok (.putfield 51, 3) := by decide +kernel
theorem di_139 : decode prog_46_method_2_code 139 = .ok (.aload_n 0, 1) := by decide +kernel
theorem di_140 : decode prog_46_method_2_code 140 = .ok (.lload 7, 2) := by decide +kernel
theorem di_142 : decode prog_46_method_2_code 142 = .ok (.putfield 54, 3) := by decide +kernel
theorem di_145 : decode prog_46_method_2_code 145 = .ok (.aload_n 0, 1) := by decide +kernel
theorem di_146 : decode prog_46_method_2_code 146 = .ok (.lload 9, 2) := by decide +kernel
theorem di_148 : decode prog_46_method_2_code 148 = .ok (.putfield 58, 3) := by decide +kernel
theorem di_151 : decode prog_46_method_2_code 151 = .ok (.aload_n 0, 1) := by decide +kernel
theorem di_152 : decode prog_46_method_2_code 152 = .ok (.iload 11, 2) := by decide +kernel
theorem di_154 : decode prog_46_method_2_code 154 = .ok (.putfield 61, 3) := by decide +kernel
theorem di_157 : decode prog_46_method_2_code 157 = .ok (.aload_n 0, 1) := by decide +kernel
theorem di_158 : decode prog_46_method_2_code 158 = .ok (.iload 12, 2) := by decide +kernel
theorem di_160 : decode prog_46_method_2_code 160 = .ok (.putfield 65, 3) := by decide +kernel
theorem di_163 : decode prog_46_method_2_code 163 = .ok (.return_, 1) := by decide +kernel
theorem pni : plainName "com/example/floorfield/floorfield/model/Grid" = true := by first | (simp [plainName, overriddenIn]; done) | decide +kernel
theorem pdi_0 : parseMethodDescriptor "(D)Z" = some ⟨[.double], some .boolean⟩ := by decide +kernel
theorem pdi_1 : parseMethodDescriptor "(DJD)D" = some ⟨[.double, .long, .double], some .double⟩ := by decide +kernel
theorem efi (m : MethodId) (z0 : Addr) (z1 : UInt64) (z2 : UInt64) (z3 : UInt64) (z4 : Int64) (z5 : Int64) (z6 : Int32) (z7 : Int32) : entryFrame m #[(.ref z0), (.double z1), (.double z2), (.double z3), (.long z4), (.long z5), (.int z6), (.int z7)] 13 = mkF m 0 #[.val (.ref z0), .val (.double z1), .second, .val (.double z2), .second, .val (.double z3), .second, .val (.long z4), .second, .val (.long z5), .second, .val (.int z6), .val (.int z7)] [] := by first | (simp [entryFrame, mkF, argsToLocals, Value.category]; done) | rfl
def Qi (Z : State) (q1 : Addr) (ox : UInt64) (oy : UInt64) (ce : UInt64) (fc : Int64) (fr : Int64) (wd : Int32) (ht : Int32) (h0 : Heap) (n0 : Nat) (v : Option Value) (h : Heap) (L : List Loc) : Prop := v = none ∧ Fr n0 L ∧ Keep h0 h [q1] ∧ Exa Z h q1 "com/example/floorfield/floorfield/model/Grid" ∧ Fld Z h q1 "com/example/floorfield/floorfield/model/Grid" "left" "D" (.double (FP.dadd ox (FP.dmul (FP.l2d fc) ce))) ∧ Fld Z h q1 "com/example/floorfield/floorfield/model/Grid" "bottom" "D" (.double (FP.dadd oy (FP.dmul (FP.l2d fr) ce))) ∧ Fld Z h q1 "com/example/floorfield/floorfield/model/Grid" "cell" "D" (.double ce) ∧ Fld Z h q1 "com/example/floorfield/floorfield/model/Grid" "firstRow" "J" (.long fr) ∧ Fld Z h q1 "com/example/floorfield/floorfield/model/Grid" "width" "I" (.int wd) ∧ Fld Z h q1 "com/example/floorfield/floorfield/model/Grid" "height" "I" (.int ht)
set_option maxRecDepth 65536 in
set_option maxHeartbeats 40000000 in
theorem rmi (l : Launch) (Z : State) (a0 : Array Value) (hw : ∀ d ∈ tables_1, d.before a0 Z = true) (ws : List Jvm.Cond) (q1 : Addr) (ox : UInt64) (oy : UInt64) (ce : UInt64) (fc : Int64) (fr : Int64) (wd : Int32) (ht : Int32) (h0 : Heap) (n0 : Nat) (Z0 : n0 ≤ h0.size) (E0 : Exa Z h0 q1 "com/example/floorfield/floorfield/model/Grid") (F0 : Fld Z h0 q1 "com/example/floorfield/floorfield/model/Grid" "left" "D" (.double 0)) (g1 : n0 ≤ q1) (hF : Jvm.Free.Fl.Fin64 ce) (hP : FP.dcmp ce (0 : UInt64) = some .gt) (hL : Jvm.Free.Fl.Fin64 (FP.dadd ox (FP.dmul (FP.l2d fc) ce))) (hB : Jvm.Free.Fl.Fin64 (FP.dadd oy (FP.dmul (FP.l2d fr) ce))) (hw0 : ¬ (wd < (0 : Int32))) (hh0 : ¬ (ht < (0 : Int32))) (hwh : wd.toInt * ht.toInt ≤ 2147483647) :
    MetFree l (⟨"com/example/floorfield/floorfield/model/Grid", "<init>", "(DDDJJII)V"⟩ : MethodName) (head1 (Jvm.Cond.code (⟨"com/example/floorfield/floorfield/model/Grid", "<init>", "(DDDJJII)V"⟩ : MethodName) prog_46_method_2_code 13 (Option.none : Option Jvm.ClassFile.FieldType) :: ws) ({ frames := 3, cells := 0, slots := 0, locals := 39 } : Room)) (fun a U => a = #[(.ref q1), (.double ox), (.double oy), (.double ce), (.long fc), (.long fr), (.int wd), (.int ht)] ∧ Z.Warmed39 U.vm ∧ U.heap = h0) (fun _ _ _ _ _ => True) (fun _ U o U' => ∃ v L, o = .returned v ∧ Qi Z q1 ox oy ce fc fr wd ht h0 n0 v U'.heap L ∧ FrameEnd U o U' L ({ frames := 3, cells := 0, slots := 0, locals := 39 } : Room).cells ({ frames := 3, cells := 0, slots := 0, locals := 39 } : Room).slots) := by
  refine MetFree.of_bodySF (plainFor_of_name pni) hisR ?_
  intro p e s m args below meth c s₁ Bd hml0 hP hK
  obtain ⟨rfl, hZ, hh⟩ := hP
  have hx := Bd.exec
  have hby := Bd.bytes
  have hml : c.maxLocals = 13 := hml0
  have hown : s.vm.findClass "com/example/floorfield/floorfield/model/Grid" = some m.cls := findClass_of_methodNamed Bd.named
  have hnm := (name_of_methodNamed Bd.named Bd.method).1
  have X0 : Stand p l e ({ frames := 3, cells := 0, slots := 0, locals := 39 } : Room) s m #[(.ref q1), (.double ox), (.double oy), (.double ce), (.long fc), (.long fr), (.int wd), (.int ht)] below meth c s₁ [] 0 0 := Stand.of_body Bd
  have e0 : s₁.heap = h0 := by rw [← hh, Bd.state]; rfl
  have N0 := Fr.nil n0
  show Go p e below (Ret s (Qi Z q1 ox oy ce fc fr wd ht h0 n0) ({ frames := 3, cells := 0, slots := 0, locals := 39 } : Room).cells ({ frames := 3, cells := 0, slots := 0, locals := 39 } : Room).slots) (s₁.setTop (entryFrame m #[(.ref q1), (.double ox), (.double oy), (.double ce), (.long fc), (.long fr), (.int wd), (.int ht)] 13))
  rw [efi m q1 ox oy ce fc fr wd ht]
  have K0 : Keep h0 h0 [q1] := Keep.refl _ _
  refine g_aloadN X0 hx (hb hby di_0) rfl rfl ?_
  refine g_objInit X0 hx hZ hown (hw _ (List.mem_of_getElem? (i := 9) rfl)) (hw _ (List.mem_of_getElem? (i := 10) rfl)) (hw _ (List.mem_of_getElem? (i := 11) rfl)) e0 (by rw [hml]; rfl) (hb hby di_1) (by decide) (W := 0) (Nat.le_of_eq rfl) (by decide) ?_
  intro T1 X2 e3
  refine g_dload X2 hx (hb hby di_4) rfl ?_
  refine g_callS X2 hx hZ hown (hw _ (List.mem_of_getElem? (i := 12) rfl)) (hw _ (List.mem_of_getElem? (i := 13) rfl)) (hw _ (List.mem_of_getElem? (i := 5) rfl)) (hw _ (List.mem_of_getElem? (i := 14) rfl)) (by decide) (rms l Z a0 hw [] ce h0 n0 Z0 hF hP) e3 (W := 0) (by decide) (by decide) (by rw [hml]; rfl) [(.double ce)] [] (lenOf pdi_0 rfl) rfl rfl (Nat.le_of_eq rfl) (hb hby di_6) (by decide) (by decide) ?_
  intro v8 T4 L7 X5 hQ6
  obtain ⟨rfl, N9, e10⟩ := hQ6
  have N11 := Fr.app N0 N9
  show Go p e below (Ret s (Qi Z q1 ox oy ce fc fr wd ht h0 n0) ({ frames := 3, cells := 0, slots := 0, locals := 39 } : Room).cells ({ frames := 3, cells := 0, slots := 0, locals := 39 } : Room).slots) (T4.setTop (mkF m 9 #[.val (.ref q1), .val (.double ox), .second, .val (.double oy), .second, .val (.double ce), .second, .val (.long fc), .second, .val (.long fr), .second, .val (.int wd), .val (.int ht)] [(.int (1 : Int32))]))
  have hc9_12 : ¬ ((1 : Int32) = (0 : Int32)) := (by decide)
  refine g_ifYes X5 hx (hb hby di_9) (feq hc9_12).2 (by decide) (pc' := 27) (by decide) ?_
  refine g_aloadN X5 hx (hb hby di_27) rfl rfl ?_
  refine g_dloadN X5 hx (hb hby di_28) rfl ?_
  refine g_lload X5 hx (hb hby di_29) rfl ?_
  refine g_dload X5 hx (hb hby di_31) rfl ?_
  refine g_callS X5 hx hZ hown (hw _ (List.mem_of_getElem? (i := 24) rfl)) (hw _ (List.mem_of_getElem? (i := 25) rfl)) (hw _ (List.mem_of_getElem? (i := 5) rfl)) (hw _ (List.mem_of_getElem? (i := 26) rfl)) (by decide) (rmn l Z a0 hw [] ox fc ce h0 n0 Z0 (Jvm.Free.Fl.dmul_out (Jvm.Free.Fl.l2d_fin _) hF) hL.noNaN) e10 (W := 1) (by decide) (by decide) (by rw [hml]; rfl) [(.double ox), (.long fc), (.double ce)] [(.ref q1)] (lenOf pdi_1 rfl) rfl rfl (Nat.le_of_eq rfl) (hb hby di_33) (by decide) (by decide) ?_
  intro v17 T13 L16 X14 hQ15
  obtain ⟨rfl, N18, e19⟩ := hQ15
  have N20 := Fr.app N11 N18
  show Go p e below (Ret s (Qi Z q1 ox oy ce fc fr wd ht h0 n0) ({ frames := 3, cells := 0, slots := 0, locals := 39 } : Room).cells ({ frames := 3, cells := 0, slots := 0, locals := 39 } : Room).slots) (T13.setTop (mkF m 36 #[.val (.ref q1), .val (.double ox), .second, .val (.double oy), .second, .val (.double ce), .second, .val (.long fc), .second, .val (.long fr), .second, .val (.int wd), .val (.int ht)] [(.double (FP.dadd ox (FP.dmul (FP.l2d fc) ce))), (.ref q1)]))
  refine g_putF X14 hx hZ hown (hw _ (List.mem_of_getElem? (i := 27) rfl)) e19 F0 E0 (Or.inr ⟨(hw _ (List.mem_of_getElem? (i := 28) rfl)), rfl, hnm⟩) (hw _ (List.mem_of_getElem? (i := 4) rfl)) (ty := .double) (by decide) rfl rfl (hb hby di_36) ?_
  intro T21 h24 X22 e23 W25
  have F27 := E0.wr W25
  have F28 := F0.same W25
  have Z29 : n0 ≤ h24.size := by rw [W25.size]; exact Z0
  have K30 := Keep.wr K0 W25 (Or.inl (List.mem_of_getElem? (i := 0) rfl))
  have N31 := Fr.snoc X22 N20 g1
  refine g_aloadN X22 hx (hb hby di_39) rfl rfl ?_
  refine g_dloadN X22 hx (hb hby di_40) rfl ?_
  refine g_lload X22 hx (hb hby di_41) rfl ?_
  refine g_dload X22 hx (hb hby di_43) rfl ?_
  refine g_callS X22 hx hZ hown (hw _ (List.mem_of_getElem? (i := 24) rfl)) (hw _ (List.mem_of_getElem? (i := 25) rfl)) (hw _ (List.mem_of_getElem? (i := 5) rfl)) (hw _ (List.mem_of_getElem? (i := 26) rfl)) (by decide) (rmn l Z a0 hw [] oy fr ce h24 n0 Z29 (Jvm.Free.Fl.dmul_out (Jvm.Free.Fl.l2d_fin _) hF) hB.noNaN) e23 (W := 1) (by decide) (by decide) (by rw [hml]; rfl) [(.double oy), (.long fr), (.double ce)] [(.ref q1)] (lenOf pdi_1 rfl) rfl rfl (Nat.le_of_eq rfl) (hb hby di_45) (by decide) (by decide) ?_
  intro v36 T32 L35 X33 hQ34
  obtain ⟨rfl, N37, e38⟩ := hQ34
  have N39 := Fr.app N31 N37
  show Go p e below (Ret s (Qi Z q1 ox oy ce fc fr wd ht h0 n0) ({ frames := 3, cells := 0, slots := 0, locals := 39 } : Room).cells ({ frames := 3, cells := 0, slots := 0, locals := 39 } : Room).slots) (T32.setTop (mkF m 48 #[.val (.ref q1), .val (.double ox), .second, .val (.double oy), .second, .val (.double ce), .second, .val (.long fc), .second, .val (.long fr), .second, .val (.int wd), .val (.int ht)] [(.double (FP.dadd oy (FP.dmul (FP.l2d fr) ce))), (.ref q1)]))
  obtain ⟨o41, F40⟩ := fld_any F27 F28 (hw _ (List.mem_of_getElem? (i := 4) rfl)) (Or.inr (hw _ (List.mem_of_getElem? (i := 30) rfl)))
  refine g_putF X33 hx hZ hown (hw _ (List.mem_of_getElem? (i := 29) rfl)) e38 F40 F27 (Or.inr ⟨(hw _ (List.mem_of_getElem? (i := 30) rfl)), rfl, hnm⟩) (hw _ (List.mem_of_getElem? (i := 4) rfl)) (ty := .double) (by decide) rfl rfl (hb hby di_48) ?_
  intro T43 h46 X44 e45 W47
  have F49 := F27.wr W47
  have F50 := F28.other W47 (Or.inr (slot_ne (Or.inr (hw _ (List.mem_of_getElem? (i := 28) rfl))) (Or.inr (hw _ (List.mem_of_getElem? (i := 30) rfl))) (by decide) (t := .double) (t' := .double) (by decide) (by decide)))
  have F51 := F40.same W47
  have Z52 : n0 ≤ h46.size := by rw [W47.size]; exact Z29
  have K53 := Keep.wr K30 W47 (Or.inl (List.mem_of_getElem? (i := 0) rfl))
  have N54 := Fr.snoc X44 N39 g1
  refine g_aloadN X44 hx (hb hby di_51) rfl rfl ?_
  refine g_getF X44 hx hZ hown (hw _ (List.mem_of_getElem? (i := 27) rfl)) e45 F50 (hb hby di_52) ?_
  intro T55 X56 e57
  refine g_callS X56 hx hZ hown (hw _ (List.mem_of_getElem? (i := 15) rfl)) (hw _ (List.mem_of_getElem? (i := 16) rfl)) (hw _ (List.mem_of_getElem? (i := 17) rfl)) (hw _ (List.mem_of_getElem? (i := 18) rfl)) (by decide) (rmf l Z a0 hw [] (FP.dadd ox (FP.dmul (FP.l2d fc) ce)) h46 n0 Z52 hL) e57 (W := 0) (by decide) (by decide) (by rw [hml]; rfl) [(.double (FP.dadd ox (FP.dmul (FP.l2d fc) ce)))] [] (lenOf pdi_0 rfl) rfl rfl (Nat.le_of_eq rfl) (hb hby di_55) (by decide) (by decide) ?_
  intro v62 T58 L61 X59 hQ60
  obtain ⟨rfl, N63, e64⟩ := hQ60
  have N65 := Fr.app N54 N63
  show Go p e below (Ret s (Qi Z q1 ox oy ce fc fr wd ht h0 n0) ({ frames := 3, cells := 0, slots := 0, locals := 39 } : Room).cells ({ frames := 3, cells := 0, slots := 0, locals := 39 } : Room).slots) (T58.setTop (mkF m 58 #[.val (.ref q1), .val (.double ox), .second, .val (.double oy), .second, .val (.double ce), .second, .val (.long fc), .second, .val (.long fr), .second, .val (.int wd), .val (.int ht)] [(.int (1 : Int32))]))
  have hc58_66 : ¬ ((1 : Int32) = (0 : Int32)) := (by decide)
  refine g_ifNo X59 hx (hb hby di_58) (feq hc58_66).1 ?_
  refine g_aloadN X59 hx (hb hby di_61) rfl rfl ?_
  refine g_getF X59 hx hZ hown (hw _ (List.mem_of_getElem? (i := 29) rfl)) e64 F51 (hb hby di_62) ?_
  intro T67 X68 e69
  refine g_callS X68 hx hZ hown (hw _ (List.mem_of_getElem? (i := 15) rfl)) (hw _ (List.mem_of_getElem? (i := 16) rfl)) (hw _ (List.mem_of_getElem? (i := 17) rfl)) (hw _ (List.mem_of_getElem? (i := 18) rfl)) (by decide) (rmf l Z a0 hw [] (FP.dadd oy (FP.dmul (FP.l2d fr) ce)) h46 n0 Z52 hB) e69 (W := 0) (by decide) (by decide) (by rw [hml]; rfl) [(.double (FP.dadd oy (FP.dmul (FP.l2d fr) ce)))] [] (lenOf pdi_0 rfl) rfl rfl (Nat.le_of_eq rfl) (hb hby di_65) (by decide) (by decide) ?_
  intro v74 T70 L73 X71 hQ72
  obtain ⟨rfl, N75, e76⟩ := hQ72
  have N77 := Fr.app N65 N75
  show Go p e below (Ret s (Qi Z q1 ox oy ce fc fr wd ht h0 n0) ({ frames := 3, cells := 0, slots := 0, locals := 39 } : Room).cells ({ frames := 3, cells := 0, slots := 0, locals := 39 } : Room).slots) (T70.setTop (mkF m 68 #[.val (.ref q1), .val (.double ox), .second, .val (.double oy), .second, .val (.double ce), .second, .val (.long fc), .second, .val (.long fr), .second, .val (.int wd), .val (.int ht)] [(.int (1 : Int32))]))
  have hc68_78 : ¬ ((1 : Int32) = (0 : Int32)) := (by decide)
  refine g_ifYes X71 hx (hb hby di_68) (feq hc68_78).2 (by decide) (pc' := 92) (by decide) ?_
  refine g_iload X71 hx (hb hby di_92) rfl ?_
  have hc94_79 : ¬ (wd < (0 : Int32)) := hw0
  refine g_ifNo X71 hx (hb hby di_94) (flt hc94_79).1 ?_
  refine g_iload X71 hx (hb hby di_97) rfl ?_
  have hc99_80 : ¬ (ht < (0 : Int32)) := hh0
  refine g_ifNo X71 hx (hb hby di_99) (flt hc99_80).1 ?_
  refine g_iload X71 hx (hb hby di_102) rfl ?_
  obtain ⟨l81, hl81⟩ : ∃ v : Int64, wd.toInt64 = v := ⟨_, rfl⟩
  refine g_i2l X71 hx (hb hby di_104) hl81 ?_
  refine g_iload X71 hx (hb hby di_105) rfl ?_
  obtain ⟨l82, hl82⟩ : ∃ v : Int64, ht.toInt64 = v := ⟨_, rfl⟩
  refine g_i2l X71 hx (hb hby di_107) hl82 ?_
  obtain ⟨l83, hl83⟩ : ∃ v : Int64, l81 * l82 = v := ⟨_, rfl⟩
  refine g_lmul X71 hx (hb hby di_108) hl83 ?_
  refine g_ldc2J X71 hx hZ hown (hw _ (List.mem_of_getElem? (i := 31) rfl)) (hb hby di_109) ?_
  refine g_lcmp X71 hx (hb hby di_112) ?_
  have hc113_84 : ¬ ((2147483647 : Int64) < l83) := (by
    intro q
    have q' := Int64.lt_iff_toInt_lt.mp q
    have e1 := c_i2l wd; rw [hl81] at e1
    have e2 := c_i2l ht; rw [hl82] at e2
    have k := c_lmul l81 l82; rw [hl83, e1, e2] at k
    have r := rng64 l83
    have z : (2147483647 : Int64).toInt = 2147483647 := rfl
    have w1 : ¬ wd.toInt < 0 := fun z => hw0 (Int32.lt_iff_toInt_lt.mpr z)
    have w2 : ¬ ht.toInt < 0 := fun z => hh0 (Int32.lt_iff_toInt_lt.mpr z)
    have w3 : 0 ≤ wd.toInt * ht.toInt := Int.mul_nonneg (by omega) (by omega)
    omega)
  refine g_ifYes X71 hx (hb hby di_113) (flt (fun q => hc113_84 ((lw_gt _ _).mp q))).2.2.2 (by decide) (pc' := 133) (by decide) ?_
  refine g_aloadN X71 hx (hb hby di_133) rfl rfl ?_
  refine g_dload X71 hx (hb hby di_134) rfl ?_
  obtain ⟨o86, F85⟩ := fld_any F49 F50 (hw _ (List.mem_of_getElem? (i := 4) rfl)) (Or.inr (hw _ (List.mem_of_getElem? (i := 33) rfl)))
  refine g_putF X71 hx hZ hown (hw _ (List.mem_of_getElem? (i := 32) rfl)) e76 F85 F49 (Or.inr ⟨(hw _ (List.mem_of_getElem? (i := 33) rfl)), rfl, hnm⟩) (hw _ (List.mem_of_getElem? (i := 4) rfl)) (ty := .double) (by decide) rfl rfl (hb hby di_136) ?_
  intro T88 h91 X89 e90 W92
  have F94 := F49.wr W92
  have F95 := F50.other W92 (Or.inr (slot_ne (Or.inr (hw _ (List.mem_of_getElem? (i := 28) rfl))) (Or.inr (hw _ (List.mem_of_getElem? (i := 33) rfl))) (by decide) (t := .double) (t' := .double) (by decide) (by decide)))
  have F96 := F51.other W92 (Or.inr (slot_ne (Or.inr (hw _ (List.mem_of_getElem? (i := 30) rfl))) (Or.inr (hw _ (List.mem_of_getElem? (i := 33) rfl))) (by decide) (t := .double) (t' := .double) (by decide) (by decide)))
  have F97 := F85.same W92
  have Z98 : n0 ≤ h91.size := by rw [W92.size]; exact Z52
  have K99 := Keep.wr K53 W92 (Or.inl (List.mem_of_getElem? (i := 0) rfl))
  have N100 := Fr.snoc X89 N77 g1
  refine g_aloadN X89 hx (hb hby di_139) rfl rfl ?_
  refine g_lload X89 hx (hb hby di_140) rfl ?_
  obtain ⟨o102, F101⟩ := fld_any F94 F95 (hw _ (List.mem_of_getElem? (i := 4) rfl)) (Or.inr (hw _ (List.mem_of_getElem? (i := 35) rfl)))
  refine g_putF X89 hx hZ hown (hw _ (List.mem_of_getElem? (i := 34) rfl)) e90 F101 F94 (Or.inr ⟨(hw _ (List.mem_of_getElem? (i := 35) rfl)), rfl, hnm⟩) (hw _ (List.mem_of_getElem? (i := 4) rfl)) (ty := .long) (by decide) rfl rfl (hb hby di_142) ?_
  intro T104 h107 X105 e106 W108
  have F110 := F94.wr W108
  have F111 := F95.other W108 (Or.inr (slot_ne (Or.inr (hw _ (List.mem_of_getElem? (i := 28) rfl))) (Or.inr (hw _ (List.mem_of_getElem? (i := 35) rfl))) (by decide) (t := .double) (t' := .long) (by decide) (by decide)))
  have F112 := F96.other W108 (Or.inr (slot_ne (Or.inr (hw _ (List.mem_of_getElem? (i := 30) rfl))) (Or.inr (hw _ (List.mem_of_getElem? (i := 35) rfl))) (by decide) (t := .double) (t' := .long) (by decide) (by decide)))
  have F113 := F97.other W108 (Or.inr (slot_ne (Or.inr (hw _ (List.mem_of_getElem? (i := 33) rfl))) (Or.inr (hw _ (List.mem_of_getElem? (i := 35) rfl))) (by decide) (t := .double) (t' := .long) (by decide) (by decide)))
  have F114 := F101.same W108
  have Z115 : n0 ≤ h107.size := by rw [W108.size]; exact Z98
  have K116 := Keep.wr K99 W108 (Or.inl (List.mem_of_getElem? (i := 0) rfl))
  have N117 := Fr.snoc X105 N100 g1
  refine g_aloadN X105 hx (hb hby di_145) rfl rfl ?_
  refine g_lload X105 hx (hb hby di_146) rfl ?_
  obtain ⟨o119, F118⟩ := fld_any F110 F111 (hw _ (List.mem_of_getElem? (i := 4) rfl)) (Or.inr (hw _ (List.mem_of_getElem? (i := 37) rfl)))
  refine g_putF X105 hx hZ hown (hw _ (List.mem_of_getElem? (i := 36) rfl)) e106 F118 F110 (Or.inr ⟨(hw _ (List.mem_of_getElem? (i := 37) rfl)), rfl, hnm⟩) (hw _ (List.mem_of_getElem? (i := 4) rfl)) (ty := .long) (by decide) rfl rfl (hb hby di_148) ?_
  intro T121 h124 X122 e123 W125
  have F127 := F110.wr W125
  have F128 := F111.other W125 (Or.inr (slot_ne (Or.inr (hw _ (List.mem_of_getElem? (i := 28) rfl))) (Or.inr (hw _ (List.mem_of_getElem? (i := 37) rfl))) (by decide) (t := .double) (t' := .long) (by decide) (by decide)))
  have F129 := F112.other W125 (Or.inr (slot_ne (Or.inr (hw _ (List.mem_of_getElem? (i := 30) rfl))) (Or.inr (hw _ (List.mem_of_getElem? (i := 37) rfl))) (by decide) (t := .double) (t' := .long) (by decide) (by decide)))
  have F130 := F113.other W125 (Or.inr (slot_ne (Or.inr (hw _ (List.mem_of_getElem? (i := 33) rfl))) (Or.inr (hw _ (List.mem_of_getElem? (i := 37) rfl))) (by decide) (t := .double) (t' := .long) (by decide) (by decide)))
  have F131 := F114.other W125 (Or.inr (slot_ne (Or.inr (hw _ (List.mem_of_getElem? (i := 35) rfl))) (Or.inr (hw _ (List.mem_of_getElem? (i := 37) rfl))) (by decide) (t := .long) (t' := .long) (by decide) (by decide)))
  have F132 := F118.same W125
  have Z133 : n0 ≤ h124.size := by rw [W125.size]; exact Z115
  have K134 := Keep.wr K116 W125 (Or.inl (List.mem_of_getElem? (i := 0) rfl))
  have N135 := Fr.snoc X122 N117 g1
  refine g_aloadN X122 hx (hb hby di_151) rfl rfl ?_
  refine g_iload X122 hx (hb hby di_152) rfl ?_
  obtain ⟨o137, F136⟩ := fld_any F127 F128 (hw _ (List.mem_of_getElem? (i := 4) rfl)) (Or.inr (hw _ (List.mem_of_getElem? (i := 39) rfl)))
  refine g_putF X122 hx hZ hown (hw _ (List.mem_of_getElem? (i := 38) rfl)) e123 F136 F127 (Or.inr ⟨(hw _ (List.mem_of_getElem? (i := 39) rfl)), rfl, hnm⟩) (hw _ (List.mem_of_getElem? (i := 4) rfl)) (ty := .int) (by decide) rfl rfl (hb hby di_154) ?_
  intro T139 h142 X140 e141 W143
  have F145 := F127.wr W143
  have F146 := F128.other W143 (Or.inr (slot_ne (Or.inr (hw _ (List.mem_of_getElem? (i := 28) rfl))) (Or.inr (hw _ (List.mem_of_getElem? (i := 39) rfl))) (by decide) (t := .double) (t' := .int) (by decide) (by decide)))
  have F147 := F129.other W143 (Or.inr (slot_ne (Or.inr (hw _ (List.mem_of_getElem? (i := 30) rfl))) (Or.inr (hw _ (List.mem_of_getElem? (i := 39) rfl))) (by decide) (t := .double) (t' := .int) (by decide) (by decide)))
  have F148 := F130.other W143 (Or.inr (slot_ne (Or.inr (hw _ (List.mem_of_getElem? (i := 33) rfl))) (Or.inr (hw _ (List.mem_of_getElem? (i := 39) rfl))) (by decide) (t := .double) (t' := .int) (by decide) (by decide)))
  have F149 := F131.other W143 (Or.inr (slot_ne (Or.inr (hw _ (List.mem_of_getElem? (i := 35) rfl))) (Or.inr (hw _ (List.mem_of_getElem? (i := 39) rfl))) (by decide) (t := .long) (t' := .int) (by decide) (by decide)))
  have F150 := F132.other W143 (Or.inr (slot_ne (Or.inr (hw _ (List.mem_of_getElem? (i := 37) rfl))) (Or.inr (hw _ (List.mem_of_getElem? (i := 39) rfl))) (by decide) (t := .long) (t' := .int) (by decide) (by decide)))
  have F151 := F136.same W143
  have Z152 : n0 ≤ h142.size := by rw [W143.size]; exact Z133
  have K153 := Keep.wr K134 W143 (Or.inl (List.mem_of_getElem? (i := 0) rfl))
  have N154 := Fr.snoc X140 N135 g1
  refine g_aloadN X140 hx (hb hby di_157) rfl rfl ?_
  refine g_iload X140 hx (hb hby di_158) rfl ?_
  obtain ⟨o156, F155⟩ := fld_any F145 F146 (hw _ (List.mem_of_getElem? (i := 4) rfl)) (Or.inr (hw _ (List.mem_of_getElem? (i := 41) rfl)))
  refine g_putF X140 hx hZ hown (hw _ (List.mem_of_getElem? (i := 40) rfl)) e141 F155 F145 (Or.inr ⟨(hw _ (List.mem_of_getElem? (i := 41) rfl)), rfl, hnm⟩) (hw _ (List.mem_of_getElem? (i := 4) rfl)) (ty := .int) (by decide) rfl rfl (hb hby di_160) ?_
  intro T158 h161 X159 e160 W162
  have F164 := F145.wr W162
  have F165 := F146.other W162 (Or.inr (slot_ne (Or.inr (hw _ (List.mem_of_getElem? (i := 28) rfl))) (Or.inr (hw _ (List.mem_of_getElem? (i := 41) rfl))) (by decide) (t := .double) (t' := .int) (by decide) (by decide)))
  have F166 := F147.other W162 (Or.inr (slot_ne (Or.inr (hw _ (List.mem_of_getElem? (i := 30) rfl))) (Or.inr (hw _ (List.mem_of_getElem? (i := 41) rfl))) (by decide) (t := .double) (t' := .int) (by decide) (by decide)))
  have F167 := F148.other W162 (Or.inr (slot_ne (Or.inr (hw _ (List.mem_of_getElem? (i := 33) rfl))) (Or.inr (hw _ (List.mem_of_getElem? (i := 41) rfl))) (by decide) (t := .double) (t' := .int) (by decide) (by decide)))
  have F168 := F149.other W162 (Or.inr (slot_ne (Or.inr (hw _ (List.mem_of_getElem? (i := 35) rfl))) (Or.inr (hw _ (List.mem_of_getElem? (i := 41) rfl))) (by decide) (t := .long) (t' := .int) (by decide) (by decide)))
  have F169 := F150.other W162 (Or.inr (slot_ne (Or.inr (hw _ (List.mem_of_getElem? (i := 37) rfl))) (Or.inr (hw _ (List.mem_of_getElem? (i := 41) rfl))) (by decide) (t := .long) (t' := .int) (by decide) (by decide)))
  have F170 := F151.other W162 (Or.inr (slot_ne (Or.inr (hw _ (List.mem_of_getElem? (i := 39) rfl))) (Or.inr (hw _ (List.mem_of_getElem? (i := 41) rfl))) (by decide) (t := .int) (t' := .int) (by decide) (by decide)))
  have F171 := F155.same W162
  have Z172 : n0 ≤ h161.size := by rw [W162.size]; exact Z152
  have K173 := Keep.wr K153 W162 (Or.inl (List.mem_of_getElem? (i := 0) rfl))
  have N174 := Fr.snoc X159 N154 g1
  refine g_return X159 hx Bd.notSynchronized Bd.returns (hb hby di_163) (by decide) (by decide) ?_
  rw [e160]
  exact ⟨rfl, N174, K173, F164, F165, F166, F167, F169, F170, F171⟩
theorem own_finH : Jvm.Free.Fl.Fin64 (4602678819172646912 : UInt64) := by unfold Jvm.Free.Fl.Fin64; decide
theorem dy_0 : decode prog_46_method_15_code 0 = .ok (.aload_n 0, 1) := by decide +kernel
theorem dy_1 : decode prog_46_method_15_code 1 = .ok (.getfield 33, 3) := by decide +kernel
theorem dy_4 : decode prog_46_method_15_code 4 = .ok (.aload_n 0, 1) := by decide +kernel
theorem dy_5 : decode prog_46_method_15_code 5 = .ok (.getfield 65, 3) := by decide +kernel
theorem dy_8 : decode prog_46_method_15_code 8 = .ok (.iconst 1, 1) := by decide +kernel
theorem dy_9 : decode prog_46_method_15_code 9 = .ok (.isub, 1) := by decide +kernel
theorem dy_10 : decode prog_46_method_15_code 10 = .ok (.iload_n 1, 1) := by decide +kernel
theorem dy_11 : decode prog_46_method_15_code 11 = .ok (.aload_n 0, 1) := by decide +kernel
theorem dy_12 : decode prog_46_method_15_code 12 = .ok (.getfield 61, 3) := by decide +kernel
theorem dy_15 : decode prog_46_method_15_code 15 = .ok (.idiv, 1) := by decide +kernel
theorem dy_16 : decode prog_46_method_15_code 16 = .ok (.isub, 1) := by decide +kernel
theorem dy_17 : decode prog_46_method_15_code 17 = .ok (.i2d, 1) := by decide +kernel
theorem dy_18 : decode prog_46_method_15_code 18 = .ok (.ldc2_w 86, 3) := by decide +kernel
theorem dy_21 : decode prog_46_method_15_code 21 = .ok (.dadd, 1) := by decide +kernel
theorem dy_22 : decode prog_46_method_15_code 22 = .ok (.aload_n 0, 1) := by decide +kernel
theorem dy_23 : decode prog_46_method_15_code 23 = .ok (.getfield 51, 3) := by decide +kernel
theorem dy_26 : decode prog_46_method_15_code 26 = .ok (.dmul, 1) := by decide +kernel
theorem dy_27 : decode prog_46_method_15_code 27 = .ok (.dadd, 1) := by decide +kernel
theorem dy_28 : decode prog_46_method_15_code 28 = .ok (.dreturn, 1) := by decide +kernel
theorem pny : plainName "com/example/floorfield/floorfield/model/Grid" = true := by first | (simp [plainName, overriddenIn]; done) | decide +kernel
theorem efy (m : MethodId) (z0 : Addr) (z1 : Int32) : entryFrame m #[(.ref z0), (.int z1)] 2 = mkF m 0 #[.val (.ref z0), .val (.int z1)] [] := by first | (simp [entryFrame, mkF, argsToLocals, Value.category]; done) | rfl
def Qy (Z : State) (q1 : Addr) (q2 : Int32) (bo : UInt64) (ht : Int32) (wd : Int32) (ce : UInt64) (h0 : Heap) (n0 : Nat) (v : Option Value) (h : Heap) (L : List Loc) : Prop := v = some (.double (FP.dadd bo (FP.dmul (FP.dadd (FP.i2d ((ht - 1) - (q2 / wd))) 4602678819172646912) ce))) ∧ Fr n0 L ∧ h = h0
set_option maxRecDepth 65536 in
set_option maxHeartbeats 40000000 in
theorem rmy (l : Launch) (Z : State) (a0 : Array Value) (hw : ∀ d ∈ tables_1, d.before a0 Z = true) (ws : List Jvm.Cond) (q1 : Addr) (q2 : Int32) (bo : UInt64) (ht : Int32) (wd : Int32) (ce : UInt64) (h0 : Heap) (n0 : Nat) (Z0 : n0 ≤ h0.size) (F1 : Fld Z h0 q1 "com/example/floorfield/floorfield/model/Grid" "bottom" "D" (.double bo)) (F2 : Fld Z h0 q1 "com/example/floorfield/floorfield/model/Grid" "height" "I" (.int ht)) (F3 : Fld Z h0 q1 "com/example/floorfield/floorfield/model/Grid" "width" "I" (.int wd)) (F4 : Fld Z h0 q1 "com/example/floorfield/floorfield/model/Grid" "cell" "D" (.double ce)) (hz : wd ≠ 0) (hn2 : Jvm.Free.Fl.NoNaN64 (FP.dmul (FP.dadd (FP.i2d ((ht - 1) - (q2 / wd))) 4602678819172646912) ce)) (hn3 : Jvm.Free.Fl.NoNaN64 (FP.dadd bo (FP.dmul (FP.dadd (FP.i2d ((ht - 1) - (q2 / wd))) 4602678819172646912) ce))) :
    MetFree l (⟨"com/example/floorfield/floorfield/model/Grid", "centreY", "(I)D"⟩ : MethodName) (head1 (Jvm.Cond.code (⟨"com/example/floorfield/floorfield/model/Grid", "centreY", "(I)D"⟩ : MethodName) prog_46_method_15_code 2 (Option.some Jvm.ClassFile.FieldType.double) :: ws) ({ frames := 0, cells := 0, slots := 0, locals := 0 } : Room)) (fun a U => a = #[(.ref q1), (.int q2)] ∧ Z.Warmed39 U.vm ∧ U.heap = h0) (fun _ _ _ _ _ => True) (fun _ U o U' => ∃ v L, o = .returned v ∧ Qy Z q1 q2 bo ht wd ce h0 n0 v U'.heap L ∧ FrameEnd U o U' L ({ frames := 0, cells := 0, slots := 0, locals := 0 } : Room).cells ({ frames := 0, cells := 0, slots := 0, locals := 0 } : Room).slots) := by
  refine MetFree.of_bodySF (plainFor_of_name pny) hisR ?_
  intro p e s m args below meth c s₁ Bd hml0 hP hK
  obtain ⟨rfl, hZ, hh⟩ := hP
  have hx := Bd.exec
  have hby := Bd.bytes
  have hml : c.maxLocals = 2 := hml0
  have hown : s.vm.findClass "com/example/floorfield/floorfield/model/Grid" = some m.cls := findClass_of_methodNamed Bd.named
  have hnm := (name_of_methodNamed Bd.named Bd.method).1
  have X0 : Stand p l e ({ frames := 0, cells := 0, slots := 0, locals := 0 } : Room) s m #[(.ref q1), (.int q2)] below meth c s₁ [] 0 0 := Stand.of_body Bd
  have e0 : s₁.heap = h0 := by rw [← hh, Bd.state]; rfl
  have N0 := Fr.nil n0
  show Go p e below (Ret s (Qy Z q1 q2 bo ht wd ce h0 n0) ({ frames := 0, cells := 0, slots := 0, locals := 0 } : Room).cells ({ frames := 0, cells := 0, slots := 0, locals := 0 } : Room).slots) (s₁.setTop (entryFrame m #[(.ref q1), (.int q2)] 2))
  rw [efy m q1 q2]
  refine g_aloadN X0 hx (hb hby dy_0) rfl rfl ?_
  refine g_getF X0 hx hZ hown (hw _ (List.mem_of_getElem? (i := 29) rfl)) e0 F1 (hb hby dy_1) ?_
  intro T1 X2 e3
  refine g_aloadN X2 hx (hb hby dy_4) rfl rfl ?_
  refine g_getF X2 hx hZ hown (hw _ (List.mem_of_getElem? (i := 40) rfl)) e3 F2 (hb hby dy_5) ?_
  intro T4 X5 e6
  refine g_iconst X5 hx (hb hby dy_8) (v := (1 : Int32)) (by decide) ?_
  obtain ⟨i7, hi7⟩ : ∃ v : Int32, ht - (1 : Int32) = v := ⟨_, rfl⟩
  refine g_isub X5 hx (hb hby dy_9) hi7 ?_
  refine g_iloadN X5 hx (hb hby dy_10) rfl ?_
  refine g_aloadN X5 hx (hb hby dy_11) rfl rfl ?_
  refine g_getF X5 hx hZ hown (hw _ (List.mem_of_getElem? (i := 38) rfl)) e6 F3 (hb hby dy_12) ?_
  intro T8 X9 e10
  obtain ⟨i11, hi11⟩ : ∃ v : Int32, q2 / wd = v := ⟨_, rfl⟩
  refine g_idiv X9 hx (hb hby dy_15) hz hi11 ?_
  obtain ⟨i12, hi12⟩ : ∃ v : Int32, i7 - i11 = v := ⟨_, rfl⟩
  refine g_isub X9 hx (hb hby dy_16) hi12 ?_
  obtain ⟨d13, hd13⟩ : ∃ v : UInt64, FP.i2d i12 = v := ⟨_, rfl⟩
  have fin_d13 : Jvm.Free.Fl.Fin64 d13 := by rw [← hd13]; exact Jvm.Free.Fl.i2d_fin _
  refine g_i2d X9 hx (hb hby dy_17) hd13 ?_
  refine g_ldc2D X9 hx hZ hown (hw _ (List.mem_of_getElem? (i := 47) rfl)) (hb hby dy_18) ?_
  have n14 : Jvm.Free.Fl.NoNaN64 (FP.dadd d13 (4602678819172646912 : UInt64)) := Jvm.Free.Fl.dadd_out fin_d13.noNaN own_finH
  obtain ⟨d15, hd15⟩ : ∃ v : UInt64, FP.dadd d13 (4602678819172646912 : UInt64) = v := ⟨_, rfl⟩
  have nn_d15 : Jvm.Free.Fl.NoNaN64 d15 := by rw [← hd15]; exact n14
  refine g_dadd X9 hx (hb hby dy_21) n14 hd15 ?_
  refine g_aloadN X9 hx (hb hby dy_22) rfl rfl ?_
  refine g_getF X9 hx hZ hown (hw _ (List.mem_of_getElem? (i := 32) rfl)) e10 F4 (hb hby dy_23) ?_
  intro T16 X17 e18
  have n19 : Jvm.Free.Fl.NoNaN64 (FP.dmul d15 ce) := (by subst hd15 hd13 hi12 hi11 hi7; exact hn2)
  obtain ⟨d20, hd20⟩ : ∃ v : UInt64, FP.dmul d15 ce = v := ⟨_, rfl⟩
  have nn_d20 : Jvm.Free.Fl.NoNaN64 d20 := by rw [← hd20]; exact n19
  refine g_dmul X17 hx (hb hby dy_26) n19 hd20 ?_
  have n21 : Jvm.Free.Fl.NoNaN64 (FP.dadd bo d20) := (by subst hd20 hd15 hd13 hi12 hi11 hi7; exact hn3)
  obtain ⟨d22, hd22⟩ : ∃ v : UInt64, FP.dadd bo d20 = v := ⟨_, rfl⟩
  have nn_d22 : Jvm.Free.Fl.NoNaN64 d22 := by rw [← hd22]; exact n21
  refine g_dadd X17 hx (hb hby dy_27) n21 hd22 ?_
  refine g_dreturn X17 hx Bd.notSynchronized Bd.returns (hb hby dy_28) (by decide) (by decide) ?_
  subst hi7 hi11 hi12 hd13 hd15 hd20 hd22
  exact ⟨rfl, N0, e18⟩
theorem pn0 : plainName "com/example/floorfield/floorfield/model/GridCentreYPinLaw" = true := by first | (simp [plainName, overriddenIn]; done) | decide +kernel
theorem pd0_0 : parseMethodDescriptor "(DDDJJII)V" = some ⟨[.double, .double, .double, .long, .long, .int, .int], none⟩ := by decide +kernel
theorem pd0_1 : parseMethodDescriptor "(I)D" = some ⟨[.int], some .double⟩ := by decide +kernel
theorem ef0 (m : MethodId) (z0 : Int32) (z1 : Int32) (z2 : Int32) (z3 : Int32) (z4 : Int32) (z5 : Int64) : entryFrame m #[(.int z0), (.int z1), (.int z2), (.int z3), (.int z4), (.long z5)] maxLocals = mkF m 0 #[.val (.int z0), .val (.int z1), .val (.int z2), .val (.int z3), .val (.int z4), .val (.long z5), .second, .unset, .unset, .unset, .unset, .unset, .unset, .unset, .unset, .unset, .unset, .unset, .unset, .unset, .unset, .unset, .unset] [] := by first | (simp [entryFrame, mkF, argsToLocals, Value.category, maxLocals]; done) | rfl
def Q0 (Z : State) (q0 : Int32) (q1 : Int32) (q2 : Int32) (q3 : Int32) (q4 : Int32) (q5 : Int64) (h0 : Heap) (n0 : Nat) (v : Option Value) (h : Heap) (L : List Loc) : Prop := v = some (.int 1) ∧ Fr n0 L
set_option maxRecDepth 65536 in
set_option maxHeartbeats 40000000 in
theorem rm0 (l : Launch) (Z : State) (a0 : Array Value) (hw : ∀ d ∈ tables_1, d.before a0 Z = true) (ws : List Jvm.Cond) (q0 : Int32) (q1 : Int32) (q2 : Int32) (q3 : Int32) (q4 : Int32) (q5 : Int64) (h0 : Heap) (n0 : Nat) (Z0 : n0 ≤ h0.size)  :
    MetFree l x (head1 (Jvm.Cond.code x code maxLocals ret :: ws) room_1) (fun a U => a = #[(.int q0), (.int q1), (.int q2), (.int q3), (.int q4), (.long q5)] ∧ Z.Warmed39 U.vm ∧ U.heap = h0) (fun _ _ _ _ _ => True) (fun _ U o U' => ∃ v L, o = .returned v ∧ Q0 Z q0 q1 q2 q3 q4 q5 h0 n0 v U'.heap L ∧ FrameEnd U o U' L 16 128) := by
  refine MetFree.of_bodySF (plainFor_of_name pn0) hisR ?_
  intro p e s m args below meth c s₁ Bd hml0 hP hK
  obtain ⟨rfl, hZ, hh⟩ := hP
  have hx := Bd.exec
  have hby := Bd.bytes
  have hml : c.maxLocals = 23 := hml0
  have hown : s.vm.findClass "com/example/floorfield/floorfield/model/GridCentreYPinLaw" = some m.cls := findClass_of_methodNamed Bd.named
  have hnm := (name_of_methodNamed Bd.named Bd.method).1
  have X0 : Stand p l e room_1 s m #[(.int q0), (.int q1), (.int q2), (.int q3), (.int q4), (.long q5)] below meth c s₁ [] 0 0 := Stand.of_body Bd
  have e0 : s₁.heap = h0 := by rw [← hh, Bd.state]; rfl
  have N0 := Fr.nil n0
  show Go p e below (Ret s (Q0 Z q0 q1 q2 q3 q4 q5 h0 n0) 16 128) (s₁.setTop (entryFrame m #[(.int q0), (.int q1), (.int q2), (.int q3), (.int q4), (.long q5)] maxLocals))
  rw [ef0 m q0 q1 q2 q3 q4 q5]
  refine g_iconst X0 hx (hb hby at_0) (v := (1 : Int32)) (by decide) ?_
  refine g_iloadN X0 hx (hb hby at_1) rfl ?_
  refine g_ldcI X0 hx hZ hown (hw _ (List.mem_of_getElem? (i := 0) rfl)) (hb hby at_2) ?_
  obtain ⟨i1, hi1⟩ : ∃ v : Int32, q0 &&& (65535 : Int32) = v := ⟨_, rfl⟩
  refine g_iand X0 hx (hb hby at_4) hi1 ?_
  obtain ⟨ww, hww⟩ : ∃ v : Int32, (1 : Int32) + i1 = v := ⟨_, rfl⟩
  refine g_iadd X0 hx (hb hby at_5) hww ?_
  have b_ww : 1 ≤ ww.toInt ∧ ww.toInt ≤ 65536 := by
    have a := c_mask q0 (65535 : Int32) 16 (by decide) (by decide)
    rw [hi1] at a
    have b := c_iadd (1 : Int32) i1
    rw [hww] at b
    have h1 : (1 : Int32).toInt = 1 := rfl
    have := rng32 ww
    omega
  have z_ww : ww ≠ 0 := by intro q; rw [q] at b_ww; simp at b_ww
  refine g_istore X0 hx (hb hby at_6) (L' := #[.val (.int q0), .val (.int q1), .val (.int q2), .val (.int q3), .val (.int q4), .val (.long q5), .second, .val (.int ww), .unset, .unset, .unset, .unset, .unset, .unset, .unset, .unset, .unset, .unset, .unset, .unset, .unset, .unset, .unset]) rfl ?_
  refine g_iconst X0 hx (hb hby at_8) (v := (1 : Int32)) (by decide) ?_
  refine g_iloadN X0 hx (hb hby at_9) rfl ?_
  refine g_sipush X0 hx (hb hby at_10) (v := (16383 : Int32)) (by decide) ?_
  obtain ⟨i2, hi2⟩ : ∃ v : Int32, q1 &&& (16383 : Int32) = v := ⟨_, rfl⟩
  refine g_iand X0 hx (hb hby at_13) hi2 ?_
  obtain ⟨hh, hhh⟩ : ∃ v : Int32, (1 : Int32) + i2 = v := ⟨_, rfl⟩
  refine g_iadd X0 hx (hb hby at_14) hhh ?_
  have b_hh : 1 ≤ hh.toInt ∧ hh.toInt ≤ 16384 := by
    have a := c_mask q1 (16383 : Int32) 14 (by decide) (by decide)
    rw [hi2] at a
    have b := c_iadd (1 : Int32) i2
    rw [hhh] at b
    have h1 : (1 : Int32).toInt = 1 := rfl
    have := rng32 hh
    omega
  have z_hh : hh ≠ 0 := by intro q; rw [q] at b_hh; simp at b_hh
  refine g_istore X0 hx (hb hby at_15) (L' := #[.val (.int q0), .val (.int q1), .val (.int q2), .val (.int q3), .val (.int q4), .val (.long q5), .second, .val (.int ww), .val (.int hh), .unset, .unset, .unset, .unset, .unset, .unset, .unset, .unset, .unset, .unset, .unset, .unset, .unset, .unset]) rfl ?_
  refine g_iloadN X0 hx (hb hby at_17) rfl ?_
  refine g_ldcI X0 hx hZ hown (hw _ (List.mem_of_getElem? (i := 1) rfl)) (hb hby at_18) ?_
  obtain ⟨i3, hi3⟩ : ∃ v : Int32, q2 &&& (2147483647 : Int32) = v := ⟨_, rfl⟩
  refine g_iand X0 hx (hb hby at_20) hi3 ?_
  refine g_iload X0 hx (hb hby at_21) rfl ?_
  obtain ⟨rr, hrr⟩ : ∃ v : Int32, i3 % hh = v := ⟨_, rfl⟩
  refine g_irem X0 hx (hb hby at_23) z_hh hrr ?_
  have b_rr : 0 ≤ rr.toInt ∧ rr.toInt < hh.toInt := by
    have a := c_and q2 (2147483647 : Int32) (by decide)
    rw [hi3] at a
    have b := (c_iremV i3 hh).1 a.1 (by omega)
    rw [hrr] at b
    omega
  refine g_istore X0 hx (hb hby at_24) (L' := #[.val (.int q0), .val (.int q1), .val (.int q2), .val (.int q3), .val (.int q4), .val (.long q5), .second, .val (.int ww), .val (.int hh), .val (.int rr), .unset, .unset, .unset, .unset, .unset, .unset, .unset, .unset, .unset, .unset, .unset, .unset, .unset]) rfl ?_
  refine g_iloadN X0 hx (hb hby at_26) rfl ?_
  refine g_ldcI X0 hx hZ hown (hw _ (List.mem_of_getElem? (i := 1) rfl)) (hb hby at_27) ?_
  obtain ⟨i4, hi4⟩ : ∃ v : Int32, q3 &&& (2147483647 : Int32) = v := ⟨_, rfl⟩
  refine g_iand X0 hx (hb hby at_29) hi4 ?_
  refine g_iload X0 hx (hb hby at_30) rfl ?_
  obtain ⟨cc, hcc⟩ : ∃ v : Int32, i4 % ww = v := ⟨_, rfl⟩
  refine g_irem X0 hx (hb hby at_32) z_ww hcc ?_
  have b_cc : 0 ≤ cc.toInt ∧ cc.toInt < ww.toInt := by
    have a := c_and q3 (2147483647 : Int32) (by decide)
    rw [hi4] at a
    have b := (c_iremV i4 ww).1 a.1 (by omega)
    rw [hcc] at b
    omega
  refine g_istore X0 hx (hb hby at_33) (L' := #[.val (.int q0), .val (.int q1), .val (.int q2), .val (.int q3), .val (.int q4), .val (.long q5), .second, .val (.int ww), .val (.int hh), .val (.int rr), .val (.int cc), .unset, .unset, .unset, .unset, .unset, .unset, .unset, .unset, .unset, .unset, .unset, .unset]) rfl ?_
  refine g_iconst X0 hx (hb hby at_35) (v := (1 : Int32)) (by decide) ?_
  refine g_iload X0 hx (hb hby at_36) rfl ?_
  refine g_sipush X0 hx (hb hby at_38) (v := (1023 : Int32)) (by decide) ?_
  obtain ⟨i5, hi5⟩ : ∃ v : Int32, q4 &&& (1023 : Int32) = v := ⟨_, rfl⟩
  refine g_iand X0 hx (hb hby at_41) hi5 ?_
  obtain ⟨sz, hsz⟩ : ∃ v : Int32, (1 : Int32) + i5 = v := ⟨_, rfl⟩
  refine g_iadd X0 hx (hb hby at_42) hsz ?_
  have b_sz : 1 ≤ sz.toInt ∧ sz.toInt ≤ 1024 := by
    have a := c_mask q4 (1023 : Int32) 10 (by decide) (by decide)
    rw [hi5] at a
    have b := c_iadd (1 : Int32) i5
    rw [hsz] at b
    have h1 : (1 : Int32).toInt = 1 := rfl
    have := rng32 sz
    omega
  have z_sz : sz ≠ 0 := by intro q; rw [q] at b_sz; simp at b_sz
  refine g_istore X0 hx (hb hby at_43) (L' := #[.val (.int q0), .val (.int q1), .val (.int q2), .val (.int q3), .val (.int q4), .val (.long q5), .second, .val (.int ww), .val (.int hh), .val (.int rr), .val (.int cc), .val (.int sz), .unset, .unset, .unset, .unset, .unset, .unset, .unset, .unset, .unset, .unset, .unset]) rfl ?_
  refine g_iload X0 hx (hb hby at_45) rfl ?_
  refine g_bipush X0 hx (hb hby at_47) (v := (12 : Int32)) (by decide) ?_
  obtain ⟨oy, hoy⟩ : ∃ v : Int32, q4 >>> ((12 : Int32) &&& 31) = v := ⟨_, rfl⟩
  refine g_ishr X0 hx (hb hby at_49) hoy ?_
  have b_oy : -524288 ≤ oy.toInt ∧ oy.toInt < 524288 := by
    have a := c_ishr q4 12 12 (by decide)
    rw [hoy] at a
    have := rng32 q4
    omega
  refine g_istore X0 hx (hb hby at_50) (L' := #[.val (.int q0), .val (.int q1), .val (.int q2), .val (.int q3), .val (.int q4), .val (.long q5), .second, .val (.int ww), .val (.int hh), .val (.int rr), .val (.int cc), .val (.int sz), .val (.int oy), .unset, .unset, .unset, .unset, .unset, .unset, .unset, .unset, .unset, .unset]) rfl ?_
  refine g_lload X0 hx (hb hby at_52) rfl ?_
  refine g_bipush X0 hx (hb hby at_54) (v := (44 : Int32)) (by decide) ?_
  obtain ⟨fr, hfr⟩ : ∃ v : Int64, q5 >>> ((44 : Int32) &&& 0x3f).toInt64 = v := ⟨_, rfl⟩
  refine g_lshr X0 hx (hb hby at_56) hfr ?_
  have b_fr : -524288 ≤ fr.toInt ∧ fr.toInt < 524288 := by
    have a := c_lshr q5 44 44 (by decide)
    rw [hfr] at a
    have := rng64 q5
    omega
  refine g_lstore X0 hx (hb hby at_57) (L' := #[.val (.int q0), .val (.int q1), .val (.int q2), .val (.int q3), .val (.int q4), .val (.long q5), .second, .val (.int ww), .val (.int hh), .val (.int rr), .val (.int cc), .val (.int sz), .val (.int oy), .val (.long fr), .second, .unset, .unset, .unset, .unset, .unset, .unset, .unset, .unset]) rfl ?_
  refine g_iload X0 hx (hb hby at_59) rfl ?_
  obtain ⟨d6, hd6⟩ : ∃ v : UInt64, FP.i2d sz = v := ⟨_, rfl⟩
  have fin_d6 : Jvm.Free.Fl.Fin64 d6 := by rw [← hd6]; exact Jvm.Free.Fl.i2d_fin _
  refine g_i2d X0 hx (hb hby at_61) hd6 ?_
  refine g_ldc2D X0 hx hZ hown (hw _ (List.mem_of_getElem? (i := 2) rfl)) (hb hby at_62) ?_
  have n7 : Jvm.Free.Fl.NoNaN64 (FP.ddiv d6 (4620693217682128896 : UInt64)) := Jvm.Free.Fl.ddiv_out fin_d6.noNaN (by unfold Jvm.Free.Fl.Fin64; decide) (by unfold Jvm.Free.Fl.Nz64; decide)
  obtain ⟨ce, hce⟩ : ∃ v : UInt64, FP.ddiv d6 (4620693217682128896 : UInt64) = v := ⟨_, rfl⟩
  have nn_ce : Jvm.Free.Fl.NoNaN64 ce := by rw [← hce]; exact n7
  refine g_ddiv X0 hx (hb hby at_65) n7 hce ?_
  have y_ce : own_Dy 3 sz.toInt ce := own_cell b_sz hd6 hce
  refine g_dstore X0 hx (hb hby at_66) (L' := #[.val (.int q0), .val (.int q1), .val (.int q2), .val (.int q3), .val (.int q4), .val (.long q5), .second, .val (.int ww), .val (.int hh), .val (.int rr), .val (.int cc), .val (.int sz), .val (.int oy), .val (.long fr), .second, .val (.double ce), .second, .unset, .unset, .unset, .unset, .unset, .unset]) rfl ?_
  refine g_new X0 hx hZ hown (hw _ (List.mem_of_getElem? (i := 3) rfl)) (hw _ (List.mem_of_getElem? (i := 4) rfl)) (hw _ (List.mem_of_getElem? (i := 5) rfl)) e0 (hb hby at_68) (by decide) (by decide) ?_
  intro T8 h11 gr ggr X9 e10 E12 F13 D14
  have ge_gr : n0 ≤ gr := by rw [ggr]; exact Z0
  have Z16 : n0 ≤ h11.size := Nat.le_trans Z0 E12.1
  have F18 : Fld Z h11 gr "com/example/floorfield/floorfield/model/Grid" "left" "D" (.double (0 : UInt64)) := D14 (Or.inr (hw _ (List.mem_of_getElem? (i := 28) rfl))) (ty := .double) (by decide)
  refine g_dup X9 hx (hb hby at_71) rfl ?_
  refine g_dconst0 X9 hx (hb hby at_72) ?_
  refine g_iload X9 hx (hb hby at_73) rfl ?_
  obtain ⟨doy, hdoy⟩ : ∃ v : UInt64, FP.i2d oy = v := ⟨_, rfl⟩
  have fin_doy : Jvm.Free.Fl.Fin64 doy := by rw [← hdoy]; exact Jvm.Free.Fl.i2d_fin _
  refine g_i2d X9 hx (hb hby at_75) hdoy ?_
  refine g_dload X9 hx (hb hby at_76) rfl ?_
  refine g_lconst0 X9 hx (hb hby at_78) ?_
  refine g_lload X9 hx (hb hby at_79) rfl ?_
  refine g_iload X9 hx (hb hby at_81) rfl ?_
  refine g_iload X9 hx (hb hby at_83) rfl ?_
  have y_fs := own_dmul (by decide) (own_dyI (v := fr) (by omega)) y_ce (by have := mc b_fr.1 (show fr.toInt ≤ 524287 by omega) b_sz.1 b_sz.2; omega)
  have y_oy := own_lift 3 (by decide) (own_dyC hdoy (own_dy32 oy))
  have y_bo := own_dadd (by decide) y_oy y_fs (by have := mc b_fr.1 (show fr.toInt ≤ 524287 by omega) b_sz.1 b_sz.2; have e3 : ((2 ^ 3 : Nat) : Int) = 8 := rfl; omega)
  have y_l0 := own_dmul (by decide) (own_dyI (v := 0) (by decide)) y_ce (by simp)
  have y_le := own_dadd (by decide) (own_lift 3 (by decide) (own_dyI (v := 0) (by decide))) y_l0 (by simp)
  rw [show FP.Core.l2d 0 = (0 : UInt64) from FP.Core.l2d_zero] at y_le
  refine g_init X9 hx hZ hown rfl (hw _ (List.mem_of_getElem? (i := 6) rfl)) (hw _ (List.mem_of_getElem? (i := 7) rfl)) (hw _ (List.mem_of_getElem? (i := 5) rfl)) (hw _ (List.mem_of_getElem? (i := 8) rfl)) (by decide) (rmi l Z a0 hw [] gr (0 : UInt64) doy ce (0 : Int64) fr ww hh h11 n0 Z16 F13 F18 ge_gr (own_dyF y_ce) (own_dyPos (by omega) y_ce) (by rw [show FP.l2d 0 = (0 : UInt64) from FP.Core.l2d_zero]; exact own_dyF y_le) (own_dyF y_bo) (fun q => by have := Int32.lt_iff_toInt_lt.mp q; simp at this; omega) (fun q => by have := Int32.lt_iff_toInt_lt.mp q; simp at this; omega) (by have := mc b_ww.1 b_ww.2 b_hh.1 b_hh.2; omega)) e10 (W := 1) (by decide) (by decide) (by rw [hml]; rfl) gr [(.double (0 : UInt64)), (.double doy), (.double ce), (.long (0 : Int64)), (.long fr), (.int ww), (.int hh)] [(.ref gr)] (lenOf pd0_0 rfl) rfl rfl (Nat.le_of_eq rfl) (hb hby at_85) (by decide) (by decide) ?_
  intro v24 T20 L23 X21 hQ22
  obtain ⟨rfl, N25, K26, F27, F28, F29, F30, F31, F32, F33⟩ := hQ22
  have N34 := Fr.app N0 N25
  have F35 := F13.keep K26
  have Z37 : n0 ≤ T20.heap.size := Nat.le_trans Z16 K26.1
  show Go p e below (Ret s (Q0 Z q0 q1 q2 q3 q4 q5 h0 n0) 16 128) (T20.setTop (mkF m 88 #[.val (.int q0), .val (.int q1), .val (.int q2), .val (.int q3), .val (.int q4), .val (.long q5), .second, .val (.int ww), .val (.int hh), .val (.int rr), .val (.int cc), .val (.int sz), .val (.int oy), .val (.long fr), .second, .val (.double ce), .second, .unset, .unset, .unset, .unset, .unset, .unset] [(.ref gr)]))
  refine g_astore X21 hx (hb hby at_88) rfl (L' := #[.val (.int q0), .val (.int q1), .val (.int q2), .val (.int q3), .val (.int q4), .val (.long q5), .second, .val (.int ww), .val (.int hh), .val (.int rr), .val (.int cc), .val (.int sz), .val (.int oy), .val (.long fr), .second, .val (.double ce), .second, .val (.ref gr), .unset, .unset, .unset, .unset, .unset]) rfl ?_
  refine g_iload X21 hx (hb hby at_90) rfl ?_
  refine g_iload X21 hx (hb hby at_92) rfl ?_
  obtain ⟨i45, hi45⟩ : ∃ v : Int32, rr * ww = v := ⟨_, rfl⟩
  refine g_imul X21 hx (hb hby at_94) hi45 ?_
  refine g_iload X21 hx (hb hby at_95) rfl ?_
  obtain ⟨nn, hnn⟩ : ∃ v : Int32, i45 + cc = v := ⟨_, rfl⟩
  refine g_iadd X21 hx (hb hby at_97) hnn ?_
  have t_nn : nn.toInt = rr.toInt * ww.toInt + cc.toInt := by
    have a := c_imul rr ww; rw [hi45] at a
    have b := c_iadd i45 cc; rw [hnn] at b
    have m := mc b_rr.1 (show rr.toInt ≤ 16383 by omega) b_ww.1 b_ww.2
    have r1 := rng32 i45
    have r2 := rng32 nn
    omega
  have t_dv : (nn / ww).toInt = rr.toInt := by
    have d := (c_idiv nn ww ww.toInt rfl (by intro q; rw [q] at b_ww; revert b_ww; decide)).1 (by rw [t_nn]; have := Int.mul_nonneg b_rr.1 (show 0 ≤ ww.toInt by omega); omega)
    rw [d, t_nn, Int.add_comm, Int.add_mul_ediv_right _ _ (by omega), Int.ediv_eq_zero_of_lt b_cc.1 b_cc.2]; omega
  have t_H : ((hh - 1) - (nn / ww)).toInt = hh.toInt - 1 - rr.toInt := by
    have a := c_isub hh 1
    have b := c_isub (hh - 1) (nn / ww)
    have z : (1 : Int32).toInt = 1 := rfl
    have r1 := rng32 (hh - 1)
    have r2 := rng32 ((hh - 1) - (nn / ww))
    omega
  have y_t := own_dadd (by decide) (own_lift 1 (by decide) (own_dy32 ((hh - 1) - (nn / ww)))) own_half (by have e : ((2 ^ 1 : Nat) : Int) = 2 := rfl; omega)
  have y_tc := own_dmul (by decide) y_t y_ce (by
    have e : ((2 ^ 1 : Nat) : Int) = 2 := by decide
    have := mc (show 1 ≤ ((hh - 1) - (nn / ww)).toInt * ((2 ^ 1 : Nat) : Int) + 1 by omega) (show ((hh - 1) - (nn / ww)).toInt * ((2 ^ 1 : Nat) : Int) + 1 ≤ 32767 by omega) b_sz.1 b_sz.2
    omega)
  have y_y := own_dadd (by decide) (own_lift 1 (by decide) y_bo) y_tc (by
    have e : ((2 ^ 1 : Nat) : Int) = 2 := by decide
    have e3 : ((2 ^ 3 : Nat) : Int) = 8 := by decide
    have := mc b_fr.1 (show fr.toInt ≤ 524287 by omega) b_sz.1 b_sz.2
    have := mc (show 1 ≤ ((hh - 1) - (nn / ww)).toInt * ((2 ^ 1 : Nat) : Int) + 1 by omega) (show ((hh - 1) - (nn / ww)).toInt * ((2 ^ 1 : Nat) : Int) + 1 ≤ 32767 by omega) b_sz.1 b_sz.2
    omega)
  refine g_istore X21 hx (hb hby at_98) (L' := #[.val (.int q0), .val (.int q1), .val (.int q2), .val (.int q3), .val (.int q4), .val (.long q5), .second, .val (.int ww), .val (.int hh), .val (.int rr), .val (.int cc), .val (.int sz), .val (.int oy), .val (.long fr), .second, .val (.double ce), .second, .val (.ref gr), .val (.int nn), .unset, .unset, .unset, .unset]) rfl ?_
  refine g_aload X21 hx (hb hby at_100) rfl rfl ?_
  refine g_iload X21 hx (hb hby at_102) rfl ?_
  refine g_callV X21 hx hZ hown (hw _ (List.mem_of_getElem? (i := 42) rfl)) (hw _ (List.mem_of_getElem? (i := 43) rfl)) (hw _ (List.mem_of_getElem? (i := 45) rfl)) (hw _ (List.mem_of_getElem? (i := 44) rfl)) (hw _ (List.mem_of_getElem? (i := 5) rfl)) (hw _ (List.mem_of_getElem? (i := 46) rfl)) (by decide) (rmy l Z a0 hw [] gr nn (FP.dadd doy (FP.dmul (FP.l2d fr) ce)) hh ww ce T20.heap n0 Z37 F29 F33 F32 F30 z_ww (own_dyF y_tc).noNaN (own_dyF y_y).noNaN) rfl (W := 0) (by decide) (by decide) (by rw [hml]; rfl) gr F27 [(.int nn)] [] (lenOf pd0_1 rfl) rfl rfl (Nat.le_of_eq rfl) (hb hby at_104) (by decide) (by decide) ?_
  intro v50 T46 L49 X47 hQ48
  obtain ⟨rfl, N51, e52⟩ := hQ48
  have N53 := Fr.app N34 N51
  show Go p e below (Ret s (Q0 Z q0 q1 q2 q3 q4 q5 h0 n0) 16 128) (T46.setTop (mkF m 107 #[.val (.int q0), .val (.int q1), .val (.int q2), .val (.int q3), .val (.int q4), .val (.long q5), .second, .val (.int ww), .val (.int hh), .val (.int rr), .val (.int cc), .val (.int sz), .val (.int oy), .val (.long fr), .second, .val (.double ce), .second, .val (.ref gr), .val (.int nn), .unset, .unset, .unset, .unset] [(.double (FP.dadd (FP.dadd doy (FP.dmul (FP.l2d fr) ce)) (FP.dmul (FP.dadd (FP.i2d ((hh - 1) - (nn / ww))) 4602678819172646912) ce)))]))
  generalize hyy : (FP.dadd (FP.dadd doy (FP.dmul (FP.l2d fr) ce)) (FP.dmul (FP.dadd (FP.i2d ((hh - 1) - (nn / ww))) 4602678819172646912) ce)) = yy
  refine g_dstore X47 hx (hb hby at_107) (L' := #[.val (.int q0), .val (.int q1), .val (.int q2), .val (.int q3), .val (.int q4), .val (.long q5), .second, .val (.int ww), .val (.int hh), .val (.int rr), .val (.int cc), .val (.int sz), .val (.int oy), .val (.long fr), .second, .val (.double ce), .second, .val (.ref gr), .val (.int nn), .val (.double yy), .second, .unset, .unset]) rfl ?_
  refine g_ldc2J X47 hx hZ hown (hw _ (List.mem_of_getElem? (i := 48) rfl)) (hb hby at_109) ?_
  refine g_iload X47 hx (hb hby at_112) rfl ?_
  obtain ⟨l54, hl54⟩ : ∃ v : Int64, oy.toInt64 = v := ⟨_, rfl⟩
  refine g_i2l X47 hx (hb hby at_114) hl54 ?_
  obtain ⟨l55, hl55⟩ : ∃ v : Int64, (16 : Int64) * l54 = v := ⟨_, rfl⟩
  refine g_lmul X47 hx (hb hby at_115) hl55 ?_
  refine g_ldc2J X47 hx hZ hown (hw _ (List.mem_of_getElem? (i := 49) rfl)) (hb hby at_116) ?_
  refine g_lload X47 hx (hb hby at_119) rfl ?_
  obtain ⟨l56, hl56⟩ : ∃ v : Int64, (2 : Int64) * fr = v := ⟨_, rfl⟩
  refine g_lmul X47 hx (hb hby at_121) hl56 ?_
  refine g_iload X47 hx (hb hby at_122) rfl ?_
  obtain ⟨l57, hl57⟩ : ∃ v : Int64, sz.toInt64 = v := ⟨_, rfl⟩
  refine g_i2l X47 hx (hb hby at_124) hl57 ?_
  obtain ⟨l58, hl58⟩ : ∃ v : Int64, l56 * l57 = v := ⟨_, rfl⟩
  refine g_lmul X47 hx (hb hby at_125) hl58 ?_
  obtain ⟨l59, hl59⟩ : ∃ v : Int64, l55 + l58 = v := ⟨_, rfl⟩
  refine g_ladd X47 hx (hb hby at_126) hl59 ?_
  refine g_ldc2J X47 hx hZ hown (hw _ (List.mem_of_getElem? (i := 49) rfl)) (hb hby at_127) ?_
  refine g_iload X47 hx (hb hby at_130) rfl ?_
  refine g_iconst X47 hx (hb hby at_132) (v := (1 : Int32)) (by decide) ?_
  obtain ⟨i60, hi60⟩ : ∃ v : Int32, hh - (1 : Int32) = v := ⟨_, rfl⟩
  refine g_isub X47 hx (hb hby at_133) hi60 ?_
  refine g_iload X47 hx (hb hby at_134) rfl ?_
  obtain ⟨i61, hi61⟩ : ∃ v : Int32, i60 - rr = v := ⟨_, rfl⟩
  refine g_isub X47 hx (hb hby at_136) hi61 ?_
  obtain ⟨l62, hl62⟩ : ∃ v : Int64, i61.toInt64 = v := ⟨_, rfl⟩
  refine g_i2l X47 hx (hb hby at_137) hl62 ?_
  obtain ⟨l63, hl63⟩ : ∃ v : Int64, (2 : Int64) * l62 = v := ⟨_, rfl⟩
  refine g_lmul X47 hx (hb hby at_138) hl63 ?_
  refine g_lconst1 X47 hx (hb hby at_139) ?_
  obtain ⟨l64, hl64⟩ : ∃ v : Int64, l63 + (1 : Int64) = v := ⟨_, rfl⟩
  refine g_ladd X47 hx (hb hby at_140) hl64 ?_
  refine g_iload X47 hx (hb hby at_141) rfl ?_
  obtain ⟨l65, hl65⟩ : ∃ v : Int64, sz.toInt64 = v := ⟨_, rfl⟩
  refine g_i2l X47 hx (hb hby at_143) hl65 ?_
  obtain ⟨l66, hl66⟩ : ∃ v : Int64, l64 * l65 = v := ⟨_, rfl⟩
  refine g_lmul X47 hx (hb hby at_144) hl66 ?_
  obtain ⟨ex, hex⟩ : ∃ v : Int64, l59 + l66 = v := ⟨_, rfl⟩
  refine g_ladd X47 hx (hb hby at_145) hex ?_
  have t_iH : i61.toInt = hh.toInt - 1 - rr.toInt := by
    have a := c_isub hh 1; rw [hi60] at a
    have b := c_isub i60 rr; rw [hi61] at b
    have z : (1 : Int32).toInt = 1 := rfl
    have r1 := rng32 i60
    have r2 := rng32 i61
    omega
  have m1 := mc b_fr.1 (show fr.toInt ≤ 524287 by omega) b_sz.1 b_sz.2
  have m2 := mc (show 0 ≤ hh.toInt - 1 - rr.toInt by omega) (show hh.toInt - 1 - rr.toInt ≤ 16383 by omega) b_sz.1 b_sz.2
  have t_oy : l54.toInt = oy.toInt := by have a := c_i2l oy; rw [hl54] at a; exact a
  have t_s : l57.toInt = sz.toInt := by have a := c_i2l sz; rw [hl57] at a; exact a
  have t_s2 : l65.toInt = sz.toInt := by have a := c_i2l sz; rw [hl65] at a; exact a
  have t_lH : l62.toInt = hh.toInt - 1 - rr.toInt := by have a := c_i2l i61; rw [hl62, t_iH] at a; exact a
  have t_a : l55.toInt = 16 * oy.toInt := by
    have k := c_lmul (16 : Int64) l54; rw [hl55, t_oy] at k
    have z : (16 : Int64).toInt = 16 := rfl
    have r := rng64 l55
    rw [z] at k
    omega
  have t_2f : l56.toInt = 2 * fr.toInt := by
    have k := c_lmul (2 : Int64) fr; rw [hl56] at k
    have z : (2 : Int64).toInt = 2 := rfl
    have r := rng64 l56
    rw [z] at k
    omega
  have t_b : l58.toInt = 2 * (fr.toInt * sz.toInt) := by
    have k := c_lmul l56 l57; rw [hl58, t_2f, t_s, Int.mul_assoc] at k
    have r := rng64 l58
    omega
  have t_4 : l63.toInt = 2 * (hh.toInt - 1 - rr.toInt) := by
    have k := c_lmul (2 : Int64) l62; rw [hl63, t_lH] at k
    have z : (2 : Int64).toInt = 2 := rfl
    have r := rng64 l63
    rw [z] at k
    omega
  have t_5 : l64.toInt = 2 * (hh.toInt - 1 - rr.toInt) + 1 := by
    have k := c_ladd l63 1; rw [hl64, t_4] at k
    have z : (1 : Int64).toInt = 1 := rfl
    have r := rng64 l64
    omega
  have t_6 : l66.toInt = 2 * ((hh.toInt - 1 - rr.toInt) * sz.toInt) + sz.toInt := by
    have k := c_lmul l64 l65; rw [hl66, t_5, t_s2, Int.add_mul, Int.one_mul, Int.mul_assoc] at k
    have r := rng64 l66
    omega
  have t_ex : ex.toInt = 16 * oy.toInt + 2 * (fr.toInt * sz.toInt) + (2 * ((hh.toInt - 1 - rr.toInt) * sz.toInt) + sz.toInt) := by
    have k1 := c_ladd l55 l58; rw [hl59] at k1
    have k2 := c_ladd l59 l66; rw [hex] at k2
    have r1 := rng64 l59
    have r2 := rng64 ex
    omega
  have y_16 := own_dmul (by decide) y_y own_sixt (by
    have e : ((2 ^ 1 : Nat) : Int) = 2 := by decide
    have e3 : ((2 ^ 3 : Nat) : Int) = 8 := by decide
    have := mc (show 1 ≤ ((hh - 1) - (nn / ww)).toInt * ((2 ^ 1 : Nat) : Int) + 1 by omega) (show ((hh - 1) - (nn / ww)).toInt * ((2 ^ 1 : Nat) : Int) + 1 ≤ 32767 by omega) b_sz.1 b_sz.2
    omega)
  rw [show FP.Core.dadd (FP.Core.dadd doy (FP.Core.dmul (FP.Core.l2d fr) ce)) (FP.Core.dmul (FP.Core.dadd (FP.i2d ((hh - 1) - (nn / ww))) 4602678819172646912) ce) = yy from hyy] at y_16
  have y_ex := own_lift 4 (by decide) (own_dyI (v := ex) (by omega))
  refine g_lstore X47 hx (hb hby at_146) (L' := #[.val (.int q0), .val (.int q1), .val (.int q2), .val (.int q3), .val (.int q4), .val (.long q5), .second, .val (.int ww), .val (.int hh), .val (.int rr), .val (.int cc), .val (.int sz), .val (.int oy), .val (.long fr), .second, .val (.double ce), .second, .val (.ref gr), .val (.int nn), .val (.double yy), .second, .val (.long ex), .second]) rfl ?_
  refine g_dload X47 hx (hb hby at_148) rfl ?_
  refine g_ldc2D X47 hx hZ hown (hw _ (List.mem_of_getElem? (i := 50) rfl)) (hb hby at_150) ?_
  have n67 : Jvm.Free.Fl.NoNaN64 (FP.dmul yy (4625196817309499392 : UInt64)) := (own_dyF y_16).noNaN
  obtain ⟨d68, hd68⟩ : ∃ v : UInt64, FP.dmul yy (4625196817309499392 : UInt64) = v := ⟨_, rfl⟩
  have nn_d68 : Jvm.Free.Fl.NoNaN64 d68 := by rw [← hd68]; exact n67
  refine g_dmul X47 hx (hb hby at_153) n67 hd68 ?_
  refine g_lload X47 hx (hb hby at_154) rfl ?_
  obtain ⟨d69, hd69⟩ : ∃ v : UInt64, FP.l2d ex = v := ⟨_, rfl⟩
  have fin_d69 : Jvm.Free.Fl.Fin64 d69 := by rw [← hd69]; exact Jvm.Free.Fl.l2d_fin _
  refine g_l2d X47 hx (hb hby at_156) hd69 ?_
  refine g_dcmp X47 hx (hb hby at_157) ?_
  have hc158_70 : FP.dcmp d68 d69 = some .eq := (by
    rw [← hd68, ← hd69]
    refine own_dyEq (own_dyJ ?_ y_16) y_ex
    have e : ((2 ^ 1 : Nat) : Int) = 2 := by decide
    have e3 : ((2 ^ 3 : Nat) : Int) = 8 := by decide
    have e4 : ((2 ^ 4 : Nat) : Int) = 16 := by decide
    rw [t_ex, t_H, e, e3, e4, Int.add_mul ((hh.toInt - 1 - rr.toInt) * 2), Int.one_mul, Int.mul_right_comm (hh.toInt - 1 - rr.toInt)]
    omega)
  refine g_ifNo X47 hx (hb hby at_158) (teq ((cv_l_eq _).mpr hc158_70)).2 ?_
  refine g_iconst X47 hx (hb hby at_161) (v := (1 : Int32)) (by decide) ?_
  refine g_goto X47 hx (hb hby at_162) (by decide) (pc' := 166) (by decide) ?_
  refine g_ireturn X47 hx Bd.notSynchronized Bd.returns rfl (by simp) (hb hby at_166) (by decide) (by decide) ?_
  exact ⟨rfl, N53⟩
set_option maxRecDepth 65536 in
set_option maxHeartbeats 40000000 in
theorem comes_1 {Post : Tables → Env → Array Value → State → Outcome → State → Prop} (hpost : ∀ tb e args s v u, (limb_1_1.after args s (.returned v) u = true ∧ limb_1_2.after args s (.returned v) u = true ∧ True) → FrameEnd s (.returned v) u (Jvm.fieldLocs frame_1_writes args s ++ Jvm.arrayLocs frame_1_arrays args s ++ Jvm.staticLocs frame_1_statics s) 16 128 → Post tb e args s (.returned v) u) :
    ArmFor flags0 classFile x code maxLocals ret World_1 tables_1 room_1 Calls_1 rest_1 Pre_1 Post := by
  intro l hfl _ _ p e ha hc hk s m args below hf hA hF happ hP
  obtain ⟨hcalls, hrest, hpre⟩ := hP
  obtain ⟨-, -, -, hnamed, -, -, -, hat⟩ := (Spec.applies_iff hf).mp happ
  obtain ⟨hg, hn⟩ := and_e (Cond.before_iff.mp (show (Jvm.Cond.and given_1 narrow_1).before args s = true from hpre))
  obtain ⟨h1, g0⟩ := and_e hg
  obtain ⟨k0, g1⟩ := and_e g0
  obtain ⟨k1, g2⟩ := and_e g1
  obtain ⟨k2, g3⟩ := and_e g2
  obtain ⟨k3, g4⟩ := and_e g3
  obtain ⟨k4, g5⟩ := and_e g4
  obtain ⟨w0, w1, w2, w3, w4, w5, rfl⟩ : ∃ w0 w1 w2 w3 w4 w5 : Value, args = #[w0, w1, w2, w3, w4, w5] := by
    have hs : args.size = 6 := by simpa [Cond.value, given_1] using h1
    obtain ⟨L⟩ := args
    match L, hs with
    | [w0, w1, w2, w3, w4, w5], _ => exact ⟨w0, w1, w2, w3, w4, w5, rfl⟩
  have hw := fun d (hd : d ∈ tables_1) => atoms_spec (ws := Jvm.Cond.code x code maxLocals ret :: tables_1) hat d (List.mem_cons_of_mem _ hd)
  have hfit : Fit s := fun {y c} hc i hi => by
    obtain ⟨ha, rfl⟩ := Array.getElem?_eq_some_iff.mp hc
    have q := List.all_eq_true.mp ((Array.all_eq_true_iff_forall_mem.mp hF) _ (Array.getElem_mem ha)) i (List.mem_range.mpr hi)
    simpa [Array.getElem?_eq_getElem hi] using q
  obtain ⟨i0, e0⟩ := is_v k0
  obtain rfl : w0 = (.int i0) := Option.some.inj e0
  obtain ⟨i1, e1⟩ := is_v k1
  obtain rfl : w1 = (.int i1) := Option.some.inj e1
  obtain ⟨i2, e2⟩ := is_v k2
  obtain rfl : w2 = (.int i2) := Option.some.inj e2
  obtain ⟨i3, e3⟩ := is_v k3
  obtain rfl : w3 = (.int i3) := Option.some.inj e3
  obtain ⟨i4, e4⟩ := is_v k4
  obtain rfl : w4 = (.int i4) := Option.some.inj e4
  obtain ⟨i5, e5⟩ := isL_v g5
  obtain rfl : w5 = (.long i5) := Option.some.inj e5
  obtain ⟨n, o, h1, h2, h3, _, L, rfl, ⟨rfl, N⟩, hq⟩ := rm0 l s _ hw tables_1 i0 i1 i2 i3 i4 i5 s.heap s.heap.size (Nat.le_refl _)  p e ha hc hk s m _ below hf ((Spec.applies_iff_loose hf).mp happ).1 ⟨rfl, State.Warmed39.refl s, rfl⟩ trivial
  refine ⟨n, _, h1, h2, h3, hpost _ _ _ _ _ _ ⟨Cond.after_iff.mpr rfl, Cond.after_iff.mpr (eq_i res_at (Term.int_eval (1)) rfl), trivial⟩ ⟨hq.1, hq.2.1, (hq.2.2.sift fun y hy => Or.inr (N y hy)).mono (by decide) (by decide)⟩⟩
theorem main_1_1 : Claimed_1_1 := comes_1 fun _ _ _ _ _ _ h hF => ⟨h.1, hF⟩
theorem main_1_2 : Claimed_1_2 := comes_1 fun _ _ _ _ _ _ h hF => ⟨h.2.1, hF⟩
end Jvm.Pilot.@@N@@
namespace Jvm.Pilot.@@N@@
open Jvm Jvm.ClassFile Sem Op Lib Jvm.Free Jvm.Stand Jvm.Pilot.@@N@@.Jvm.D
/-! MADE BY PROGRAM (witnessworld.py) out of the Statement's table words and the real class files: 15 classes; the members and pool entries that the words name. The judged class is class 1, her method 1. -/
namespace start1
open Jvm.ClassFile
def u (s : String) : CpInfo := .utf8 (stringToUtf16 s)
/-- a pool by its gaps: so many unusable entries, then the entry; so many at the end -/
def gap : Nat → List CpInfo → List CpInfo
  | 0, r => r
  | n + 1, r => .unusable :: gap n r
def poolList (es : List (Nat × CpInfo)) (last : Nat) : List CpInfo := es.foldr (fun e r => gap e.1 (e.2 :: r)) (gap last [])
def pool (es : List (Nat × CpInfo)) (last : Nat) : Array CpInfo := ⟨poolList es last⟩
def fileOf (pool : Array CpInfo) (this : Nat) (attrs : Array Attribute := #[]) (ms : Array MethodInfo := #[]) (fl : Nat := 33) (sup : Nat := 0) (ifs : Array Nat := #[]) (fds : Array FieldInfo := #[]) : ClassFile where
  minorVersion := 0
  majorVersion := 65
  constantPool := pool
  accessFlags := fl
  thisClass := this
  superClass := sup
  interfaces := ifs
  fields := fds
  methods := ms
  attributes := attrs
def plain (name : String) (sup : Option ClassId) : Class where
  name := name
  kind := .ordinary
  loader := none
  accessFlags := 33
  super := sup
  interfaces := #[]
  cf := none
  fields := #[]
  methods := #[]
  instanceTypes := #[]
  staticTypes := #[]
  resolved := #[]
  callSites := []
  init := .initialized
  statics := none
  mirror := none

def pool0 : Array CpInfo := pool [(5, u "<init>"), (0, u "()V"), (1, .class_ 10), (1, u "java/lang/Object")] 113

def k0c0 : Code := { maxStack := 0, maxLocals := 1, code := object_method_1_code, exceptionTable := #[], attributes := #[] }
def k0m0 : Method := { name := "<init>", desc := "()V", sig := { parameters := [], returnType := none }, accessFlags := 1, code := some k0c0 }
/-- java/lang/Object -/
def k0 : Class := { plain "java/lang/Object" none with
  accessFlags := 33
  interfaces := #[]
  cf := some (fileOf pool0 8 #[] #[{ accessFlags := 1, nameIndex := 5, descriptorIndex := 6, attributes := #[] }] 33 0 #[] #[])
  fields := #[]
  methods := #[k0m0]
  instanceTypes := #[]
  staticTypes := #[]
  resolved := Array.replicate 124 none
  statics := none }

def pool1 : Array CpInfo := pool [(2, .class_ 4), (1, u "java/lang/Object"), (0, u "<init>"), (0, u "()V"), (0, .integer 65535), (0, .integer 2147483647), (0, .double 4620693217682128896), (1, .class_ 12), (0, u "com/example/floorfield/floorfield/model/Grid"), (0, .methodref 11 14), (0, .nameAndType 5 15), (0, u "(DDDJJII)V"), (0, .methodref 11 17), (0, .nameAndType 18 19), (0, u "centreY"), (0, u "(I)D"), (0, .long 16), (1, .long 2), (1, .double 4625196817309499392), (1, .class_ 27), (0, u "com/example/floorfield/floorfield/model/GridCentreYPinLaw"), (2, u "law"), (0, u "(IIIIIJ)Z")] 3

def k1m0 : Method := { name := "<init>", desc := "()V", sig := { parameters := [], returnType := none }, accessFlags := 1, code := none }
def k1c1 : Code := { maxStack := 14, maxLocals := 23, code := code, exceptionTable := #[], attributes := #[] }
def k1m1 : Method := { name := "law", desc := "(IIIIIJ)Z", sig := { parameters := [.int, .int, .int, .int, .int, .long], returnType := some .boolean }, accessFlags := 9, code := some k1c1 }
/-- com/example/floorfield/floorfield/model/GridCentreYPinLaw -/
def k1 : Class := { plain "com/example/floorfield/floorfield/model/GridCentreYPinLaw" (some 0) with
  accessFlags := 49
  interfaces := #[]
  cf := some (fileOf pool1 26 #[] #[{ accessFlags := 1, nameIndex := 5, descriptorIndex := 6, attributes := #[] }, { accessFlags := 9, nameIndex := 30, descriptorIndex := 31, attributes := #[] }] 49 2 #[] #[])
  fields := #[]
  methods := #[k1m0, k1m1]
  instanceTypes := #[]
  staticTypes := #[]
  resolved := Array.replicate 35 none
  statics := none }

def pool2 : Array CpInfo := pool [(2, .class_ 4), (1, u "com/example/floorfield/floorfield/model/Grid"), (0, u "<init>"), (0, u "(DDDJJII)V"), (0, .methodref 8 9), (0, .class_ 10), (0, .nameAndType 5 11), (0, u "java/lang/Object"), (0, u "()V"), (0, .methodref 2 13), (0, .nameAndType 14 15), (0, u "isCellSide"), (0, u "(D)Z"), (9, .methodref 2 26), (0, .nameAndType 27 28), (0, u "line"), (0, u "(DJD)D"), (0, .fieldref 2 30), (0, .nameAndType 31 32), (0, u "left"), (0, u "D"), (0, .fieldref 2 34), (0, .nameAndType 35 32), (0, u "bottom"), (0, .methodref 37 38), (0, .class_ 39), (0, .nameAndType 40 15), (0, u "java/lang/Double"), (0, u "isFinite"), (5, .long 2147483647), (4, .fieldref 2 52), (0, .nameAndType 53 32), (0, u "cell"), (0, .fieldref 2 55), (0, .nameAndType 56 57), (0, u "firstColumn"), (0, u "J"), (0, .fieldref 2 59), (0, .nameAndType 60 57), (0, u "firstRow"), (0, .fieldref 2 62), (0, .nameAndType 63 64), (0, u "width"), (0, u "I"), (0, .fieldref 2 66), (0, .nameAndType 67 64), (0, u "height"), (18, .double 4602678819172646912), (1, u "TOUCH"), (1, u "NO_CELL"), (10, u "(I)D"), (0, u "centreY")] 24

def k2c0 : Code := { maxStack := 7, maxLocals := 13, code := prog_46_method_2_code, exceptionTable := #[], attributes := #[] }
def k2m0 : Method := { name := "<init>", desc := "(DDDJJII)V", sig := { parameters := [.double, .double, .double, .long, .long, .int, .int], returnType := none }, accessFlags := 1, code := some k2c0 }
def k2c1 : Code := { maxStack := 4, maxLocals := 2, code := prog_46_method_3_code, exceptionTable := #[], attributes := #[] }
def k2m1 : Method := { name := "isCellSide", desc := "(D)Z", sig := { parameters := [.double], returnType := some .boolean }, accessFlags := 9, code := some k2c1 }
def k2c2 : Code := { maxStack := 6, maxLocals := 6, code := prog_46_method_4_code, exceptionTable := #[], attributes := #[] }
def k2m2 : Method := { name := "line", desc := "(DJD)D", sig := { parameters := [.double, .long, .double], returnType := some .double }, accessFlags := 9, code := some k2c2 }
def k2c3 : Code := { maxStack := 6, maxLocals := 2, code := prog_46_method_15_code, exceptionTable := #[], attributes := #[] }
def k2m3 : Method := { name := "centreY", desc := "(I)D", sig := { parameters := [.int], returnType := some .double }, accessFlags := 1, code := some k2c3 }
/-- com/example/floorfield/floorfield/model/Grid -/
def k2 : Class := { plain "com/example/floorfield/floorfield/model/Grid" (some 0) with
  accessFlags := 33
  interfaces := #[]
  cf := some (fileOf pool2 2 #[] #[{ accessFlags := 1, nameIndex := 5, descriptorIndex := 6, attributes := #[] }, { accessFlags := 9, nameIndex := 14, descriptorIndex := 15, attributes := #[] }, { accessFlags := 9, nameIndex := 27, descriptorIndex := 28, attributes := #[] }, { accessFlags := 1, nameIndex := 102, descriptorIndex := 101, attributes := #[] }] 33 8 #[] #[{ accessFlags := 25, nameIndex := 88, descriptorIndex := 32, attributes := #[] }, { accessFlags := 25, nameIndex := 90, descriptorIndex := 64, attributes := #[] }, { accessFlags := 18, nameIndex := 31, descriptorIndex := 32, attributes := #[] }, { accessFlags := 18, nameIndex := 35, descriptorIndex := 32, attributes := #[] }, { accessFlags := 18, nameIndex := 53, descriptorIndex := 32, attributes := #[] }, { accessFlags := 18, nameIndex := 56, descriptorIndex := 57, attributes := #[] }, { accessFlags := 18, nameIndex := 60, descriptorIndex := 57, attributes := #[] }, { accessFlags := 18, nameIndex := 63, descriptorIndex := 64, attributes := #[] }, { accessFlags := 18, nameIndex := 67, descriptorIndex := 64, attributes := #[] }])
  fields := #[{ name := "TOUCH", type := .double, accessFlags := 25, slot := 0, constantValue := 0 }, { name := "NO_CELL", type := .int, accessFlags := 25, slot := 1, constantValue := 0 }, { name := "left", type := .double, accessFlags := 18, slot := 0, constantValue := 0 }, { name := "bottom", type := .double, accessFlags := 18, slot := 1, constantValue := 0 }, { name := "cell", type := .double, accessFlags := 18, slot := 2, constantValue := 0 }, { name := "firstColumn", type := .long, accessFlags := 18, slot := 3, constantValue := 0 }, { name := "firstRow", type := .long, accessFlags := 18, slot := 4, constantValue := 0 }, { name := "width", type := .int, accessFlags := 18, slot := 5, constantValue := 0 }, { name := "height", type := .int, accessFlags := 18, slot := 6, constantValue := 0 }]
  methods := #[k2m0, k2m1, k2m2, k2m3]
  instanceTypes := #[.double, .double, .double, .long, .long, .int, .int]
  staticTypes := #[.double, .int]
  resolved := Array.replicate 127 none
  statics := none }

def pool3 : Array CpInfo := pool [(1, .class_ 2), (0, u "java/io/Serializable"), (0, .class_ 4), (0, u "java/lang/Object")] 2

/-- java/io/Serializable -/
def k3 : Class := { plain "java/io/Serializable" (some 0) with
  accessFlags := 1537
  interfaces := #[]
  cf := some (fileOf pool3 1 #[] #[] 1537 3 #[] #[])
  fields := #[]
  methods := #[]
  instanceTypes := #[]
  staticTypes := #[]
  resolved := Array.replicate 7 none
  statics := none }

def pool4 : Array CpInfo := pool [(2, .class_ 4), (1, u "java/lang/Object"), (0, u "<init>"), (0, u "()V"), (1, .class_ 10), (1, u "java/lang/Number"), (2, .class_ 14), (0, u "java/io/Serializable"), (0, u "serialVersionUID"), (0, u "J")] 20

def k4m0 : Method := { name := "<init>", desc := "()V", sig := { parameters := [], returnType := none }, accessFlags := 1, code := none }
/-- java/lang/Number -/
def k4 : Class := { plain "java/lang/Number" (some 0) with
  accessFlags := 1057
  interfaces := #[3]
  cf := some (fileOf pool4 8 #[] #[{ accessFlags := 1, nameIndex := 5, descriptorIndex := 6, attributes := #[] }] 1057 2 #[13] #[{ accessFlags := 26, nameIndex := 15, descriptorIndex := 16, attributes := #[] }])
  fields := #[{ name := "serialVersionUID", type := .long, accessFlags := 26, slot := 0, constantValue := 0 }]
  methods := #[k4m0]
  instanceTypes := #[]
  staticTypes := #[.long]
  resolved := Array.replicate 37 none
  statics := none }

def pool5 : Array CpInfo := pool [(1, .class_ 2), (0, u "java/lang/Comparable"), (0, .class_ 4), (0, u "java/lang/Object")] 7

/-- java/lang/Comparable -/
def k5 : Class := { plain "java/lang/Comparable" (some 0) with
  accessFlags := 1537
  interfaces := #[]
  cf := some (fileOf pool5 1 #[] #[] 1537 3 #[] #[])
  fields := #[]
  methods := #[]
  instanceTypes := #[]
  staticTypes := #[]
  resolved := Array.replicate 12 none
  statics := none }

def pool6 : Array CpInfo := pool [(1, .class_ 2), (0, u "java/lang/constant/Constable"), (0, .class_ 4), (0, u "java/lang/Object")] 6

/-- java/lang/constant/Constable -/
def k6 : Class := { plain "java/lang/constant/Constable" (some 0) with
  accessFlags := 1537
  interfaces := #[]
  cf := some (fileOf pool6 1 #[] #[] 1537 3 #[] #[])
  fields := #[]
  methods := #[]
  instanceTypes := #[]
  staticTypes := #[]
  resolved := Array.replicate 11 none
  statics := none }

def pool7 : Array CpInfo := pool [(1, .class_ 2), (0, u "java/lang/constant/ConstantDesc"), (0, .class_ 4), (0, u "java/lang/Object")] 32

/-- java/lang/constant/ConstantDesc -/
def k7 : Class := { plain "java/lang/constant/ConstantDesc" (some 0) with
  accessFlags := 1537
  interfaces := #[]
  cf := some (fileOf pool7 1 #[] #[] 1537 3 #[] #[])
  fields := #[]
  methods := #[]
  instanceTypes := #[]
  staticTypes := #[]
  resolved := Array.replicate 37 none
  statics := none }

def pool8 : Array CpInfo := pool [(1, .class_ 2), (0, u "java/lang/Double"), (10, u "isFinite"), (0, u "(D)Z"), (8, .class_ 25), (1, u "java/lang/Math"), (12, .methodref 23 39), (0, .nameAndType 40 41), (0, u "abs"), (0, u "(D)D"), (69, .double 9218868437227405311), (2, .class_ 116), (1, u "java/lang/Number"), (3, u "value"), (0, u "D"), (51, u "TYPE"), (0, u "Ljava/lang/Class;"), (0, .class_ 176), (0, u "java/lang/Comparable"), (0, .class_ 178), (0, u "java/lang/constant/Constable"), (0, .class_ 180), (0, u "java/lang/constant/ConstantDesc"), (0, u "POSITIVE_INFINITY"), (3, u "NEGATIVE_INFINITY"), (2, u "NaN"), (2, u "MAX_VALUE"), (0, u "MIN_NORMAL"), (0, u "MIN_VALUE"), (2, u "SIZE"), (0, u "I"), (1, u "PRECISION"), (1, u "MAX_EXPONENT"), (1, u "MIN_EXPONENT"), (1, u "BYTES"), (3, u "serialVersionUID"), (0, u "J")] 79

def k8c0 : Code := { maxStack := 4, maxLocals := 2, code := jdk_117_method_8_code, exceptionTable := #[], attributes := #[] }
def k8m0 : Method := { name := "isFinite", desc := "(D)Z", sig := { parameters := [.double], returnType := some .boolean }, accessFlags := 9, code := some k8c0 }
/-- java/lang/Double -/
def k8 : Class := { plain "java/lang/Double" (some 4) with
  accessFlags := 49
  interfaces := #[5, 6, 7]
  cf := some (fileOf pool8 1 #[] #[{ accessFlags := 9, nameIndex := 13, descriptorIndex := 14, attributes := #[] }] 49 114 #[175, 177, 179] #[{ accessFlags := 25, nameIndex := 181, descriptorIndex := 121, attributes := #[] }, { accessFlags := 25, nameIndex := 185, descriptorIndex := 121, attributes := #[] }, { accessFlags := 25, nameIndex := 188, descriptorIndex := 121, attributes := #[] }, { accessFlags := 25, nameIndex := 191, descriptorIndex := 121, attributes := #[] }, { accessFlags := 25, nameIndex := 192, descriptorIndex := 121, attributes := #[] }, { accessFlags := 25, nameIndex := 193, descriptorIndex := 121, attributes := #[] }, { accessFlags := 25, nameIndex := 196, descriptorIndex := 197, attributes := #[] }, { accessFlags := 25, nameIndex := 199, descriptorIndex := 197, attributes := #[] }, { accessFlags := 25, nameIndex := 201, descriptorIndex := 197, attributes := #[] }, { accessFlags := 25, nameIndex := 203, descriptorIndex := 197, attributes := #[] }, { accessFlags := 25, nameIndex := 205, descriptorIndex := 197, attributes := #[] }, { accessFlags := 25, nameIndex := 173, descriptorIndex := 174, attributes := #[] }, { accessFlags := 18, nameIndex := 120, descriptorIndex := 121, attributes := #[] }, { accessFlags := 26, nameIndex := 209, descriptorIndex := 210, attributes := #[] }])
  fields := #[{ name := "POSITIVE_INFINITY", type := .double, accessFlags := 25, slot := 0, constantValue := 0 }, { name := "NEGATIVE_INFINITY", type := .double, accessFlags := 25, slot := 1, constantValue := 0 }, { name := "NaN", type := .double, accessFlags := 25, slot := 2, constantValue := 0 }, { name := "MAX_VALUE", type := .double, accessFlags := 25, slot := 3, constantValue := 0 }, { name := "MIN_NORMAL", type := .double, accessFlags := 25, slot := 4, constantValue := 0 }, { name := "MIN_VALUE", type := .double, accessFlags := 25, slot := 5, constantValue := 0 }, { name := "SIZE", type := .int, accessFlags := 25, slot := 6, constantValue := 0 }, { name := "PRECISION", type := .int, accessFlags := 25, slot := 7, constantValue := 0 }, { name := "MAX_EXPONENT", type := .int, accessFlags := 25, slot := 8, constantValue := 0 }, { name := "MIN_EXPONENT", type := .int, accessFlags := 25, slot := 9, constantValue := 0 }, { name := "BYTES", type := .int, accessFlags := 25, slot := 10, constantValue := 0 }, { name := "TYPE", type := (.object "java/lang/Class"), accessFlags := 25, slot := 11, constantValue := 0 }, { name := "value", type := .double, accessFlags := 18, slot := 0, constantValue := 0 }, { name := "serialVersionUID", type := .long, accessFlags := 26, slot := 12, constantValue := 0 }]
  methods := #[k8m0]
  instanceTypes := #[.double]
  staticTypes := #[.double, .double, .double, .double, .double, .double, .int, .int, .int, .int, .int, (.object "java/lang/Class"), .long]
  resolved := Array.replicate 290 none
  statics := none }

def pool9 : Array CpInfo := pool [(1, .class_ 2), (0, u "java/lang/Math"), (1, .class_ 6), (1, u "java/lang/Object"), (0, u "<init>"), (0, u "()V"), (5, u "(D)D"), (83, .class_ 100), (1, u "java/lang/Math$RandomNumberGeneratorHolder"), (23, u "abs"), (47, u "negativeZeroFloatBits"), (0, u "J"), (2, u "negativeZeroDoubleBits"), (68, u "$assertionsDisabled"), (0, u "Z"), (91, u "twoToTheDoubleScaleDown"), (0, u "D"), (4, u "twoToTheDoubleScaleUp"), (9, u "E"), (3, u "PI"), (2, u "TAU"), (2, u "DEGREES_TO_RADIANS"), (0, u "RADIANS_TO_DEGREES")] 94

def k9m0 : Method := { name := "<init>", desc := "()V", sig := { parameters := [], returnType := none }, accessFlags := 2, code := none }
def k9c1 : Code := { maxStack := 4, maxLocals := 2, code := jdk_29_method_64_code, exceptionTable := #[], attributes := #[] }
def k9m1 : Method := { name := "abs", desc := "(D)D", sig := { parameters := [.double], returnType := some .double }, accessFlags := 9, code := some k9c1 }
/-- java/lang/Math -/
def k9 : Class := { plain "java/lang/Math" (some 0) with
  accessFlags := 49
  interfaces := #[]
  cf := some (fileOf pool9 1 #[.nestMembers #[98]] #[{ accessFlags := 2, nameIndex := 7, descriptorIndex := 8, attributes := #[] }, { accessFlags := 9, nameIndex := 124, descriptorIndex := 14, attributes := #[] }] 49 4 #[] #[{ accessFlags := 25, nameIndex := 354, descriptorIndex := 339, attributes := #[] }, { accessFlags := 25, nameIndex := 358, descriptorIndex := 339, attributes := #[] }, { accessFlags := 25, nameIndex := 361, descriptorIndex := 339, attributes := #[] }, { accessFlags := 26, nameIndex := 364, descriptorIndex := 339, attributes := #[] }, { accessFlags := 26, nameIndex := 365, descriptorIndex := 339, attributes := #[] }, { accessFlags := 26, nameIndex := 172, descriptorIndex := 173, attributes := #[] }, { accessFlags := 26, nameIndex := 176, descriptorIndex := 173, attributes := #[] }, { accessFlags := 8, nameIndex := 344, descriptorIndex := 339, attributes := #[] }, { accessFlags := 8, nameIndex := 338, descriptorIndex := 339, attributes := #[] }, { accessFlags := 4120, nameIndex := 245, descriptorIndex := 246, attributes := #[] }])
  fields := #[{ name := "E", type := .double, accessFlags := 25, slot := 0, constantValue := 0 }, { name := "PI", type := .double, accessFlags := 25, slot := 1, constantValue := 0 }, { name := "TAU", type := .double, accessFlags := 25, slot := 2, constantValue := 0 }, { name := "DEGREES_TO_RADIANS", type := .double, accessFlags := 26, slot := 3, constantValue := 0 }, { name := "RADIANS_TO_DEGREES", type := .double, accessFlags := 26, slot := 4, constantValue := 0 }, { name := "negativeZeroFloatBits", type := .long, accessFlags := 26, slot := 5, constantValue := 0 }, { name := "negativeZeroDoubleBits", type := .long, accessFlags := 26, slot := 6, constantValue := 0 }, { name := "twoToTheDoubleScaleUp", type := .double, accessFlags := 8, slot := 7, constantValue := 0 }, { name := "twoToTheDoubleScaleDown", type := .double, accessFlags := 8, slot := 8, constantValue := 0 }, { name := "$assertionsDisabled", type := .boolean, accessFlags := 4120, slot := 9, constantValue := 0 }]
  methods := #[k9m0, k9m1]
  instanceTypes := #[]
  staticTypes := #[.double, .double, .double, .double, .double, .long, .long, .double, .double, .boolean]
  resolved := Array.replicate 460 none
  statics := none }

def pool10 : Array CpInfo := pool [(1, u "java/lang/Cloneable"), (0, .class_ 1), (0, u "java/lang/Object"), (0, .class_ 3)] 3

/-- java/lang/Cloneable -/
def k10 : Class := { plain "java/lang/Cloneable" (some 0) with
  accessFlags := 1537
  interfaces := #[]
  cf := some (fileOf pool10 2 #[] #[] 1537 4 #[] #[])
  fields := #[]
  methods := #[]
  instanceTypes := #[]
  staticTypes := #[]
  resolved := Array.replicate 8 none
  statics := none }

/-- the primitive byte -/
def k11 : Class := { plain "byte" none with kind := .primitive 'B', accessFlags := 0x411 }
/-- [B -/
def k12 : Class := { plain "[B" (some 0) with kind := .array 11 .byte, interfaces := #[10, 3], accessFlags := 1041 }

/-- the primitive int -/
def k13 : Class := { plain "int" none with kind := .primitive 'I', accessFlags := 0x411 }
/-- [I -/
def k14 : Class := { plain "[I" (some 0) with kind := .array 13 .int, interfaces := #[10, 3], accessFlags := 1041 }

def heap : Heap := #[]
def classes : Array Class := #[k0, k1, k2, k3, k4, k5, k6, k7, k8, k9, k10, k11, k12, k13, k14]
def interned : List (Array UInt16 × Addr) := []
def slotsUsed : Nat := 0
def theMethod : MethodId := ⟨1, 1⟩
def args0 : Array Value := #[.int 5, .int 7, .int 0, .int 1, .int 2, .long 3]
def aboutOver (below : List Frame) : State where
  vm := { classes := classes, interned := interned.toArray }
  heap := heap
  slotsUsed := slotsUsed
  threads := #[{ frames := .invoking theMethod args0 :: below }]
def below0 : List Frame := [.native { method := ⟨0, 0⟩, args := #[] }]
def about1 : State := aboutOver below0
def p0 : Program := .bare "" "" ""
def e0 : Env := launch0.env 0 0 0
theorem w_frames : about1.frames = Frame.invoking theMethod args0 :: below0 := rfl
set_option maxRecDepth 65536 in
theorem w_args : argsFit about1.vm theMethod args0 = true := by decide +kernel
set_option maxRecDepth 65536 in
theorem w_heap : heapFits about1 = true := by decide +kernel
set_option maxRecDepth 65536 in
theorem w_runnable : about1.curStatus? = some .runnable := by decide +kernel
set_option maxRecDepth 65536 in
theorem w_alone : about1.alone = true := by decide +kernel
set_option maxRecDepth 65536 in
theorem w_named : about1.methodNamed? x = some theMethod := by decide +kernel
set_option maxRecDepth 65536 in
theorem w_hears : about1.hears theMethod below0 = true := by decide +kernel
set_option maxRecDepth 65536 in
theorem w_ripe : about1.ripe theMethod args0 below0 = true := by decide +kernel
theorem w_running : about1.status = .running := rfl
set_option maxRecDepth 65536 in
theorem w_room : about1.hasRoom e0.platform room_1 = true :=
  launch0.hasRoom_least _ room_1 (by decide +kernel) (by decide +kernel) (by decide +kernel) (by decide +kernel) (by decide +kernel) (by decide +kernel)
theorem allAtoms_all (ts : List Jvm.Cond) (a : Array Jvm.Value) (st : Jvm.State) : (allAtoms ts).before a st = ts.all (fun c => c.before a st) := by
  induction ts with
  | nil => rfl
  | cons c t ih =>
    show (Jvm.Cond.and c (allAtoms t)).before a st = _
    rw [Jvm.Cond.before_and, ih, List.all_cons]
def words1 : List Jvm.Cond := Jvm.Cond.code x code maxLocals ret :: tables_1
/-- a 'code' word, met by the world's own term for the bytes: nothing is compared byte by byte -/
theorem code_word {y : MethodName} {bytes : ByteArray} {mx : Nat} {rt : Option FieldType} {a : Array Value} {s : State} {m : MethodId} {meth : Method} {c : Code} (h1 : s.methodNamed? y = some m) (h2 : s.vm.method? m = some meth) (h3 : meth.code = some c) (h4 : c.code = bytes)
    (h5 : (c.maxLocals == mx && c.exceptionTable.isEmpty && decide (c.maxStack ≤ mostOperands) && decide (meth.sig.returnType = rt) && !meth.locks && decide (parseMethodDescriptor y.desc = some meth.sig)) = true) : (Jvm.Cond.code y bytes mx rt).before a s = true := by
  simp only [Bool.and_eq_true, beq_iff_eq, Bool.not_eq_true', decide_eq_true_eq] at h5
  obtain ⟨⟨⟨⟨⟨g1, g2⟩, g3⟩, g4⟩, g5⟩, g6⟩ := h5
  simp [Cond.before, Cond.holds, Cond.value, h1, h2, h3, h4, g1, g2, g3, g4, g5, g6]
def isCode : Jvm.Cond → Bool
  | .code _ _ _ _ => true
  | _ => false
theorem all_split {L : List Jvm.Cond} {P : Jvm.Cond → Bool} (h1 : L.all (fun c => isCode c || P c) = true) (h2 : ∀ c ∈ L.filter isCode, P c = true) : L.all P = true := by
  refine List.all_eq_true.mpr fun c hc => ?_
  have h := List.all_eq_true.mp h1 c hc
  rcases Bool.eq_false_or_eq_true (isCode c) with hi | hi
  · exact h2 c (List.mem_filter.mpr ⟨hc, hi⟩)
  · simpa [hi] using h
set_option maxRecDepth 65536 in
theorem w_c0 : (Jvm.Cond.code x code maxLocals ret).before args0 about1 = true := code_word (m := ⟨1, 1⟩) (meth := k1m1) (c := k1c1) (by decide +kernel) rfl rfl rfl (by decide +kernel)
set_option maxRecDepth 65536 in
theorem w_c1 : (Jvm.Cond.code ({ cls := "com/example/floorfield/floorfield/model/Grid", name := "<init>", desc := "(DDDJJII)V" } : Jvm.MethodName) prog_46_method_2_code (13 : Nat) (Option.none : Option Jvm.ClassFile.FieldType)).before args0 about1 = true := code_word (m := ⟨2, 0⟩) (meth := k2m0) (c := k2c0) (by decide +kernel) rfl rfl rfl (by decide +kernel)
set_option maxRecDepth 65536 in
theorem w_c2 : (Jvm.Cond.code ({ cls := "java/lang/Object", name := "<init>", desc := "()V" } : Jvm.MethodName) object_method_1_code (1 : Nat) (Option.none : Option Jvm.ClassFile.FieldType)).before args0 about1 = true := code_word (m := ⟨0, 0⟩) (meth := k0m0) (c := k0c0) (by decide +kernel) rfl rfl rfl (by decide +kernel)
set_option maxRecDepth 65536 in
theorem w_c3 : (Jvm.Cond.code ({ cls := "com/example/floorfield/floorfield/model/Grid", name := "isCellSide", desc := "(D)Z" } : Jvm.MethodName) prog_46_method_3_code (2 : Nat) (Option.some Jvm.ClassFile.FieldType.boolean)).before args0 about1 = true := code_word (m := ⟨2, 1⟩) (meth := k2m1) (c := k2c1) (by decide +kernel) rfl rfl rfl (by decide +kernel)
set_option maxRecDepth 65536 in
theorem w_c4 : (Jvm.Cond.code ({ cls := "java/lang/Double", name := "isFinite", desc := "(D)Z" } : Jvm.MethodName) jdk_117_method_8_code (2 : Nat) (Option.some Jvm.ClassFile.FieldType.boolean)).before args0 about1 = true := code_word (m := ⟨8, 0⟩) (meth := k8m0) (c := k8c0) (by decide +kernel) rfl rfl rfl (by decide +kernel)
set_option maxRecDepth 65536 in
theorem w_c5 : (Jvm.Cond.code ({ cls := "java/lang/Math", name := "abs", desc := "(D)D" } : Jvm.MethodName) jdk_29_method_64_code (2 : Nat) (Option.some Jvm.ClassFile.FieldType.double)).before args0 about1 = true := code_word (m := ⟨9, 1⟩) (meth := k9m1) (c := k9c1) (by decide +kernel) rfl rfl rfl (by decide +kernel)
set_option maxRecDepth 65536 in
theorem w_c6 : (Jvm.Cond.code ({ cls := "com/example/floorfield/floorfield/model/Grid", name := "line", desc := "(DJD)D" } : Jvm.MethodName) prog_46_method_4_code (6 : Nat) (Option.some Jvm.ClassFile.FieldType.double)).before args0 about1 = true := code_word (m := ⟨2, 2⟩) (meth := k2m2) (c := k2c2) (by decide +kernel) rfl rfl rfl (by decide +kernel)
set_option maxRecDepth 65536 in
theorem w_c7 : (Jvm.Cond.code ({ cls := "com/example/floorfield/floorfield/model/Grid", name := "centreY", desc := "(I)D" } : Jvm.MethodName) prog_46_method_15_code (2 : Nat) (Option.some Jvm.ClassFile.FieldType.double)).before args0 about1 = true := code_word (m := ⟨2, 3⟩) (meth := k2m3) (c := k2c3) (by decide +kernel) rfl rfl rfl (by decide +kernel)
def codes1 : List Jvm.Cond := [Jvm.Cond.code x code maxLocals ret, Jvm.Cond.code ({ cls := "com/example/floorfield/floorfield/model/Grid", name := "<init>", desc := "(DDDJJII)V" } : Jvm.MethodName) prog_46_method_2_code (13 : Nat) (Option.none : Option Jvm.ClassFile.FieldType), Jvm.Cond.code ({ cls := "java/lang/Object", name := "<init>", desc := "()V" } : Jvm.MethodName) object_method_1_code (1 : Nat) (Option.none : Option Jvm.ClassFile.FieldType), Jvm.Cond.code ({ cls := "com/example/floorfield/floorfield/model/Grid", name := "isCellSide", desc := "(D)Z" } : Jvm.MethodName) prog_46_method_3_code (2 : Nat) (Option.some Jvm.ClassFile.FieldType.boolean), Jvm.Cond.code ({ cls := "java/lang/Double", name := "isFinite", desc := "(D)Z" } : Jvm.MethodName) jdk_117_method_8_code (2 : Nat) (Option.some Jvm.ClassFile.FieldType.boolean), Jvm.Cond.code ({ cls := "java/lang/Math", name := "abs", desc := "(D)D" } : Jvm.MethodName) jdk_29_method_64_code (2 : Nat) (Option.some Jvm.ClassFile.FieldType.double), Jvm.Cond.code ({ cls := "com/example/floorfield/floorfield/model/Grid", name := "line", desc := "(DJD)D" } : Jvm.MethodName) prog_46_method_4_code (6 : Nat) (Option.some Jvm.ClassFile.FieldType.double), Jvm.Cond.code ({ cls := "com/example/floorfield/floorfield/model/Grid", name := "centreY", desc := "(I)D" } : Jvm.MethodName) prog_46_method_15_code (2 : Nat) (Option.some Jvm.ClassFile.FieldType.double)]
set_option maxRecDepth 65536 in
theorem codes_eq : words1.filter isCode = codes1 := rfl
theorem w_codes : ∀ c ∈ words1.filter isCode, c.before args0 about1 = true := by
  rw [codes_eq]
  intro c hc
  simp only [codes1, List.mem_cons, List.not_mem_nil, or_false] at hc
  rcases hc with rfl | rfl | rfl | rfl | rfl | rfl | rfl | rfl
  · exact w_c0
  · exact w_c1
  · exact w_c2
  · exact w_c3
  · exact w_c4
  · exact w_c5
  · exact w_c6
  · exact w_c7
set_option maxRecDepth 65536 in
theorem w_t1 : (words1.take 24).all (fun c => isCode c || c.before args0 about1) = true := by decide +kernel
set_option maxRecDepth 65536 in
theorem w_t2 : ((words1.drop 24).take 24).all (fun c => isCode c || c.before args0 about1) = true := by decide +kernel
set_option maxRecDepth 65536 in
theorem w_t3 : ((words1.drop 24).drop 24).all (fun c => isCode c || c.before args0 about1) = true := by decide +kernel
theorem w_tables : (allAtoms (Jvm.Cond.code x code maxLocals ret :: tables_1)).before args0 about1 = true := by
  rw [allAtoms_all]
  show words1.all (fun c => c.before args0 about1) = true
  refine all_split ?_ w_codes
  rw [← List.take_append_drop 24 words1, List.all_append, w_t1, ← List.take_append_drop 24 (words1.drop 24), List.all_append, w_t2, w_t3]
  rfl
set_option maxRecDepth 65536 in
theorem w_case : (Jvm.Cond.and given_1 narrow_1).before args0 about1 = true := by decide +kernel
theorem w_applies : (headSpec (Jvm.Cond.code x code maxLocals ret :: tables_1) room_1).applies x e0.platform about1 = true :=
  (Spec.applies_iff w_frames).mpr ⟨w_running, w_runnable, w_alone, w_named, w_hears, w_ripe, w_room, w_tables⟩
theorem atStart : AtStart classFile x code maxLocals ret World_1 tables_1 room_1 Calls_1 rest_1 Pre_1 launch0 p0 e0 about1 theMethod args0 below0 :=
  ⟨lists_1, trivial, launch0.admits_env _ _ _, launch0.least_env, fairChoices_fair.cas, fairChoices_fair.clock, w_frames, w_args, w_heap, w_applies, trivial, trivial, w_case⟩
end start1
theorem witness_1 : WitnessClaimed_1 := ⟨start1.p0, start1.e0, start1.about1, start1.theMethod, start1.args0, start1.below0, start1.atStart⟩
end Jvm.Pilot.@@N@@
