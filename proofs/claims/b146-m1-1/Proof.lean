import JvmDerived
import JvmDerived.Pilot.@@N@@Statement
import JvmDerived.Pilot.@@N@@Code
set_option linter.unusedVariables false
set_option linter.unusedSimpArgs false
namespace Jvm.Pilot.@@N@@
open Jvm Jvm.ClassFile Sem Op Lib Jvm.Free Jvm.Stand Jvm.LawKit Jvm.RoadKit Bundle Jvm.Pilot.@@N@@.Jvm.D
section OwnKit
variable {p : Program} {l : Launch} {e : Env} {R : Room} {s : State} {m : MethodId} {args : Array Value} {below : List Frame} {meth : Method} {c : Code} {T : State} {locs : List Loc} {cells slots : Nat} {P : State → Outcome → Prop} {pc : Nat} {Ls : Array Slot} {st : List Value} {Z : State} {a0 : Array Value} {h : Heap} {own : String} {index : Nat}
/-- what is still owed from a state on -/
def Go (p : Program) (e : Env) (below : List Frame) (P : State → Outcome → Prop) (S : State) : Prop := ∃ s₂ o, Steps p.tables e below S s₂ ∧ s₂.status = .running ∧ Ended s₂ below o ∧ P s₂ o
theorem Go.by {S S' : State} (st : ∀ t, Steps p.tables e below S' t → Steps p.tables e below S t) (k : Go p e below P S') : Go p e below P S := by
  obtain ⟨a, b, h1, h2⟩ := k
  exact ⟨a, b, st _ h1, h2⟩
def Ret (s : State) (Q : Option Value → Heap → List Loc → Prop) (C N : Nat) (s₂ : State) (o : Outcome) : Prop := ∃ v L, o = .returned v ∧ Q v s₂.heap L ∧ FrameEnd s o s₂ L C N

theorem g_iloadN (X : Stand p l e R s m args below meth c T locs cells slots) (hx : p.tables.exec = Jvm.exec) {k : Fin 4} {v : Int32} (hd : decode c.code pc = .ok (.iload_n k, 1)) (hl : Ls[k.val]? = some (.val (.int v))) (q : Go p e below P (T.setTop (mkF m (pc + 1) Ls (.int v :: st)))) : Go p e below P (T.setTop (mkF m pc Ls st)) := q.by fun t r => XS.iloadN X.here hx rfl hd hl r
theorem g_iload (X : Stand p l e R s m args below meth c T locs cells slots) (hx : p.tables.exec = Jvm.exec) {k : Nat} {v : Int32} (hd : decode c.code pc = .ok (.iload k, 2)) (hl : Ls[k]? = some (.val (.int v))) (q : Go p e below P (T.setTop (mkF m (pc + 2) Ls (.int v :: st)))) : Go p e below P (T.setTop (mkF m pc Ls st)) := q.by fun t r => XS.iload X.here hx rfl hd hl r
theorem g_lloadN (X : Stand p l e R s m args below meth c T locs cells slots) (hx : p.tables.exec = Jvm.exec) {k : Fin 4} {v : Int64} (hd : decode c.code pc = .ok (.lload_n k, 1)) (hl : Ls[k.val]? = some (.val (.long v))) (q : Go p e below P (T.setTop (mkF m (pc + 1) Ls (.long v :: st)))) : Go p e below P (T.setTop (mkF m pc Ls st)) := q.by fun t r => XS.lloadN X.here hx rfl hd hl r
theorem g_lload (X : Stand p l e R s m args below meth c T locs cells slots) (hx : p.tables.exec = Jvm.exec) {k : Nat} {v : Int64} (hd : decode c.code pc = .ok (.lload k, 2)) (hl : Ls[k]? = some (.val (.long v))) (q : Go p e below P (T.setTop (mkF m (pc + 2) Ls (.long v :: st)))) : Go p e below P (T.setTop (mkF m pc Ls st)) := q.by fun t r => XS.lload X.here hx rfl hd hl r
theorem g_dloadN (X : Stand p l e R s m args below meth c T locs cells slots) (hx : p.tables.exec = Jvm.exec) {k : Fin 4} {v : UInt64} (hd : decode c.code pc = .ok (.dload_n k, 1)) (hl : Ls[k.val]? = some (.val (.double v))) (q : Go p e below P (T.setTop (mkF m (pc + 1) Ls (.double v :: st)))) : Go p e below P (T.setTop (mkF m pc Ls st)) := q.by fun t r => XS.dloadN X.here hx rfl hd hl r
theorem g_dload (X : Stand p l e R s m args below meth c T locs cells slots) (hx : p.tables.exec = Jvm.exec) {k : Nat} {v : UInt64} (hd : decode c.code pc = .ok (.dload k, 2)) (hl : Ls[k]? = some (.val (.double v))) (q : Go p e below P (T.setTop (mkF m (pc + 2) Ls (.double v :: st)))) : Go p e below P (T.setTop (mkF m pc Ls st)) := q.by fun t r => XS.dload X.here hx rfl hd hl r
theorem g_floadN (X : Stand p l e R s m args below meth c T locs cells slots) (hx : p.tables.exec = Jvm.exec) {k : Fin 4} {v : UInt32} (hd : decode c.code pc = .ok (.fload_n k, 1)) (hl : Ls[k.val]? = some (.val (.float v))) (q : Go p e below P (T.setTop (mkF m (pc + 1) Ls (.float v :: st)))) : Go p e below P (T.setTop (mkF m pc Ls st)) := q.by fun t r => XS.floadN X.here hx rfl hd hl r
theorem g_fload (X : Stand p l e R s m args below meth c T locs cells slots) (hx : p.tables.exec = Jvm.exec) {k : Nat} {v : UInt32} (hd : decode c.code pc = .ok (.fload k, 2)) (hl : Ls[k]? = some (.val (.float v))) (q : Go p e below P (T.setTop (mkF m (pc + 2) Ls (.float v :: st)))) : Go p e below P (T.setTop (mkF m pc Ls st)) := q.by fun t r => XS.fload X.here hx rfl hd hl r
theorem g_aloadN (X : Stand p l e R s m args below meth c T locs cells slots) (hx : p.tables.exec = Jvm.exec) {k : Fin 4} {v : Value} (hd : decode c.code pc = .ok (.aload_n k, 1)) (hl : Ls[k.val]? = some (.val v)) (hv : v.isRef = true) (q : Go p e below P (T.setTop (mkF m (pc + 1) Ls (v :: st)))) : Go p e below P (T.setTop (mkF m pc Ls st)) := q.by fun t r => XS.aloadN X.here hx rfl hd hl hv r
theorem g_aload (X : Stand p l e R s m args below meth c T locs cells slots) (hx : p.tables.exec = Jvm.exec) {k : Nat} {v : Value} (hd : decode c.code pc = .ok (.aload k, 2)) (hl : Ls[k]? = some (.val v)) (hv : v.isRef = true) (q : Go p e below P (T.setTop (mkF m (pc + 2) Ls (v :: st)))) : Go p e below P (T.setTop (mkF m pc Ls st)) := q.by fun t r => XS.aload X.here hx rfl hd hl hv r
theorem g_istoreN (X : Stand p l e R s m args below meth c T locs cells slots) (hx : p.tables.exec = Jvm.exec) {k : Fin 4} {v : Int32} {L' : Array Slot} (hd : decode c.code pc = .ok (.istore_n k, 1)) (hl : storeLocals Ls k.val (.int v) = some L') (q : Go p e below P (T.setTop (mkF m (pc + 1) L' st))) : Go p e below P (T.setTop (mkF m pc Ls (.int v :: st))) := q.by fun t r => XS.istoreN X.here hx rfl hd rfl hl r
theorem g_istore (X : Stand p l e R s m args below meth c T locs cells slots) (hx : p.tables.exec = Jvm.exec) {k : Nat} {v : Int32} {L' : Array Slot} (hd : decode c.code pc = .ok (.istore k, 2)) (hl : storeLocals Ls k (.int v) = some L') (q : Go p e below P (T.setTop (mkF m (pc + 2) L' st))) : Go p e below P (T.setTop (mkF m pc Ls (.int v :: st))) := q.by fun t r => XS.istore X.here hx rfl hd rfl hl r
theorem g_lstoreN (X : Stand p l e R s m args below meth c T locs cells slots) (hx : p.tables.exec = Jvm.exec) {k : Fin 4} {v : Int64} {L' : Array Slot} (hd : decode c.code pc = .ok (.lstore_n k, 1)) (hl : storeLocals Ls k.val (.long v) = some L') (q : Go p e below P (T.setTop (mkF m (pc + 1) L' st))) : Go p e below P (T.setTop (mkF m pc Ls (.long v :: st))) := q.by fun t r => XS.lstoreN X.here hx rfl hd rfl hl r
theorem g_lstore (X : Stand p l e R s m args below meth c T locs cells slots) (hx : p.tables.exec = Jvm.exec) {k : Nat} {v : Int64} {L' : Array Slot} (hd : decode c.code pc = .ok (.lstore k, 2)) (hl : storeLocals Ls k (.long v) = some L') (q : Go p e below P (T.setTop (mkF m (pc + 2) L' st))) : Go p e below P (T.setTop (mkF m pc Ls (.long v :: st))) := q.by fun t r => XS.lstore X.here hx rfl hd rfl hl r
theorem g_dstoreN (X : Stand p l e R s m args below meth c T locs cells slots) (hx : p.tables.exec = Jvm.exec) {k : Fin 4} {v : UInt64} {L' : Array Slot} (hd : decode c.code pc = .ok (.dstore_n k, 1)) (hl : storeLocals Ls k.val (.double v) = some L') (q : Go p e below P (T.setTop (mkF m (pc + 1) L' st))) : Go p e below P (T.setTop (mkF m pc Ls (.double v :: st))) := q.by fun t r => XS.dstoreN X.here hx rfl hd rfl hl r
theorem g_dstore (X : Stand p l e R s m args below meth c T locs cells slots) (hx : p.tables.exec = Jvm.exec) {k : Nat} {v : UInt64} {L' : Array Slot} (hd : decode c.code pc = .ok (.dstore k, 2)) (hl : storeLocals Ls k (.double v) = some L') (q : Go p e below P (T.setTop (mkF m (pc + 2) L' st))) : Go p e below P (T.setTop (mkF m pc Ls (.double v :: st))) := q.by fun t r => XS.dstore X.here hx rfl hd rfl hl r
theorem g_fstoreN (X : Stand p l e R s m args below meth c T locs cells slots) (hx : p.tables.exec = Jvm.exec) {k : Fin 4} {v : UInt32} {L' : Array Slot} (hd : decode c.code pc = .ok (.fstore_n k, 1)) (hl : storeLocals Ls k.val (.float v) = some L') (q : Go p e below P (T.setTop (mkF m (pc + 1) L' st))) : Go p e below P (T.setTop (mkF m pc Ls (.float v :: st))) := q.by fun t r => XS.fstoreN X.here hx rfl hd rfl hl r
theorem g_fstore (X : Stand p l e R s m args below meth c T locs cells slots) (hx : p.tables.exec = Jvm.exec) {k : Nat} {v : UInt32} {L' : Array Slot} (hd : decode c.code pc = .ok (.fstore k, 2)) (hl : storeLocals Ls k (.float v) = some L') (q : Go p e below P (T.setTop (mkF m (pc + 2) L' st))) : Go p e below P (T.setTop (mkF m pc Ls (.float v :: st))) := q.by fun t r => XS.fstore X.here hx rfl hd rfl hl r
theorem g_astoreN (X : Stand p l e R s m args below meth c T locs cells slots) (hx : p.tables.exec = Jvm.exec) {k : Fin 4} {v : Value} {L' : Array Slot} (hd : decode c.code pc = .ok (.astore_n k, 1)) (hv : v.isRef = true) (hl : storeLocals Ls k.val v = some L') (q : Go p e below P (T.setTop (mkF m (pc + 1) L' st))) : Go p e below P (T.setTop (mkF m pc Ls (v :: st))) := q.by fun t r => XS.astoreN X.here hx rfl hd rfl hv hl r
theorem g_astore (X : Stand p l e R s m args below meth c T locs cells slots) (hx : p.tables.exec = Jvm.exec) {k : Nat} {v : Value} {L' : Array Slot} (hd : decode c.code pc = .ok (.astore k, 2)) (hv : v.isRef = true) (hl : storeLocals Ls k v = some L') (q : Go p e below P (T.setTop (mkF m (pc + 2) L' st))) : Go p e below P (T.setTop (mkF m pc Ls (v :: st))) := q.by fun t r => XS.astore X.here hx rfl hd rfl hv hl r
theorem g_iconst (X : Stand p l e R s m args below meth c T locs cells slots) (hx : p.tables.exec = Jvm.exec) {i : Int} {v : Int32} (hd : decode c.code pc = .ok (.iconst i, 1)) (hv : Int32.ofInt i = v) (q : Go p e below P (T.setTop (mkF m (pc + 1) Ls (.int v :: st)))) : Go p e below P (T.setTop (mkF m pc Ls st)) := q.by fun t r => XS.iconst X.here hx rfl hd (hv ▸ r)
theorem g_bipush (X : Stand p l e R s m args below meth c T locs cells slots) (hx : p.tables.exec = Jvm.exec) {i : Int} {v : Int32} (hd : decode c.code pc = .ok (.bipush i, 2)) (hv : (Int8.ofInt i).toInt32 = v) (q : Go p e below P (T.setTop (mkF m (pc + 2) Ls (.int v :: st)))) : Go p e below P (T.setTop (mkF m pc Ls st)) := q.by fun t r => XS.bipush X.here hx rfl hd (hv ▸ r)
theorem g_sipush (X : Stand p l e R s m args below meth c T locs cells slots) (hx : p.tables.exec = Jvm.exec) {i : Int} {v : Int32} (hd : decode c.code pc = .ok (.sipush i, 3)) (hv : (Int16.ofInt i).toInt32 = v) (q : Go p e below P (T.setTop (mkF m (pc + 3) Ls (.int v :: st)))) : Go p e below P (T.setTop (mkF m pc Ls st)) := q.by fun t r => XS.sipush X.here hx rfl hd (hv ▸ r)
theorem g_lconst0 (X : Stand p l e R s m args below meth c T locs cells slots) (hx : p.tables.exec = Jvm.exec)  (hd : decode c.code pc = .ok (.lconst 0, 1))  (q : Go p e below P (T.setTop (mkF m (pc + 1) Ls (.long 0 :: st)))) : Go p e below P (T.setTop (mkF m pc Ls st)) := q.by fun t r => XS.lconst X.here hx rfl hd r
theorem g_lconst1 (X : Stand p l e R s m args below meth c T locs cells slots) (hx : p.tables.exec = Jvm.exec)  (hd : decode c.code pc = .ok (.lconst 1, 1))  (q : Go p e below P (T.setTop (mkF m (pc + 1) Ls (.long 1 :: st)))) : Go p e below P (T.setTop (mkF m pc Ls st)) := q.by fun t r => XS.lconst X.here hx rfl hd r
theorem g_aconst_null (X : Stand p l e R s m args below meth c T locs cells slots) (hx : p.tables.exec = Jvm.exec)  (hd : decode c.code pc = .ok (.aconst_null, 1))  (q : Go p e below P (T.setTop (mkF m (pc + 1) Ls (.null :: st)))) : Go p e below P (T.setTop (mkF m pc Ls st)) := q.by fun t r => XS.aconstNull X.here hx rfl hd r
theorem g_dconst0 (X : Stand p l e R s m args below meth c T locs cells slots) (hx : p.tables.exec = Jvm.exec)  (hd : decode c.code pc = .ok (.dconst 0, 1))  (q : Go p e below P (T.setTop (mkF m (pc + 1) Ls (.double 0 :: st)))) : Go p e below P (T.setTop (mkF m pc Ls st)) := q.by fun t r => XS.dconst0 X.here hx rfl hd rfl r
theorem g_dconst1 (X : Stand p l e R s m args below meth c T locs cells slots) (hx : p.tables.exec = Jvm.exec)  (hd : decode c.code pc = .ok (.dconst 1, 1))  (q : Go p e below P (T.setTop (mkF m (pc + 1) Ls (.double 4607182418800017408 :: st)))) : Go p e below P (T.setTop (mkF m pc Ls st)) := q.by fun t r => XS.dconst1 X.here hx rfl hd rfl r
theorem g_iadd (X : Stand p l e R s m args below meth c T locs cells slots) (hx : p.tables.exec = Jvm.exec) {x y v : Int32} (hd : decode c.code pc = .ok (.iadd, 1)) (hv : x + y = v) (q : Go p e below P (T.setTop (mkF m (pc + 1) Ls (.int v :: st)))) : Go p e below P (T.setTop (mkF m pc Ls (.int y :: .int x :: st))) := q.by fun t r => XS.iadd X.here hx rfl hd rfl (hv ▸ r)
theorem g_isub (X : Stand p l e R s m args below meth c T locs cells slots) (hx : p.tables.exec = Jvm.exec) {x y v : Int32} (hd : decode c.code pc = .ok (.isub, 1)) (hv : x - y = v) (q : Go p e below P (T.setTop (mkF m (pc + 1) Ls (.int v :: st)))) : Go p e below P (T.setTop (mkF m pc Ls (.int y :: .int x :: st))) := q.by fun t r => XS.isub X.here hx rfl hd rfl (hv ▸ r)
theorem g_imul (X : Stand p l e R s m args below meth c T locs cells slots) (hx : p.tables.exec = Jvm.exec) {x y v : Int32} (hd : decode c.code pc = .ok (.imul, 1)) (hv : x * y = v) (q : Go p e below P (T.setTop (mkF m (pc + 1) Ls (.int v :: st)))) : Go p e below P (T.setTop (mkF m pc Ls (.int y :: .int x :: st))) := q.by fun t r => XS.imul X.here hx rfl hd rfl (hv ▸ r)
theorem g_iand (X : Stand p l e R s m args below meth c T locs cells slots) (hx : p.tables.exec = Jvm.exec) {x y v : Int32} (hd : decode c.code pc = .ok (.iand, 1)) (hv : x &&& y = v) (q : Go p e below P (T.setTop (mkF m (pc + 1) Ls (.int v :: st)))) : Go p e below P (T.setTop (mkF m pc Ls (.int y :: .int x :: st))) := q.by fun t r => XS.iand X.here hx rfl hd rfl (hv ▸ r)
theorem g_ior (X : Stand p l e R s m args below meth c T locs cells slots) (hx : p.tables.exec = Jvm.exec) {x y v : Int32} (hd : decode c.code pc = .ok (.ior, 1)) (hv : x ||| y = v) (q : Go p e below P (T.setTop (mkF m (pc + 1) Ls (.int v :: st)))) : Go p e below P (T.setTop (mkF m pc Ls (.int y :: .int x :: st))) := q.by fun t r => XS.ior X.here hx rfl hd rfl (hv ▸ r)
theorem g_ixor (X : Stand p l e R s m args below meth c T locs cells slots) (hx : p.tables.exec = Jvm.exec) {x y v : Int32} (hd : decode c.code pc = .ok (.ixor, 1)) (hv : x ^^^ y = v) (q : Go p e below P (T.setTop (mkF m (pc + 1) Ls (.int v :: st)))) : Go p e below P (T.setTop (mkF m pc Ls (.int y :: .int x :: st))) := q.by fun t r => XS.ixor X.here hx rfl hd rfl (hv ▸ r)
theorem g_ladd (X : Stand p l e R s m args below meth c T locs cells slots) (hx : p.tables.exec = Jvm.exec) {x y v : Int64} (hd : decode c.code pc = .ok (.ladd, 1)) (hv : x + y = v) (q : Go p e below P (T.setTop (mkF m (pc + 1) Ls (.long v :: st)))) : Go p e below P (T.setTop (mkF m pc Ls (.long y :: .long x :: st))) := q.by fun t r => XS.ladd X.here hx rfl hd rfl (hv ▸ r)
theorem g_lsub (X : Stand p l e R s m args below meth c T locs cells slots) (hx : p.tables.exec = Jvm.exec) {x y v : Int64} (hd : decode c.code pc = .ok (.lsub, 1)) (hv : x - y = v) (q : Go p e below P (T.setTop (mkF m (pc + 1) Ls (.long v :: st)))) : Go p e below P (T.setTop (mkF m pc Ls (.long y :: .long x :: st))) := q.by fun t r => XS.lsub X.here hx rfl hd rfl (hv ▸ r)
theorem g_lmul (X : Stand p l e R s m args below meth c T locs cells slots) (hx : p.tables.exec = Jvm.exec) {x y v : Int64} (hd : decode c.code pc = .ok (.lmul, 1)) (hv : x * y = v) (q : Go p e below P (T.setTop (mkF m (pc + 1) Ls (.long v :: st)))) : Go p e below P (T.setTop (mkF m pc Ls (.long y :: .long x :: st))) := q.by fun t r => XS.lmul X.here hx rfl hd rfl (hv ▸ r)
theorem g_land (X : Stand p l e R s m args below meth c T locs cells slots) (hx : p.tables.exec = Jvm.exec) {x y v : Int64} (hd : decode c.code pc = .ok (.land, 1)) (hv : x &&& y = v) (q : Go p e below P (T.setTop (mkF m (pc + 1) Ls (.long v :: st)))) : Go p e below P (T.setTop (mkF m pc Ls (.long y :: .long x :: st))) := q.by fun t r => XS.land X.here hx rfl hd rfl (hv ▸ r)
theorem g_lor (X : Stand p l e R s m args below meth c T locs cells slots) (hx : p.tables.exec = Jvm.exec) {x y v : Int64} (hd : decode c.code pc = .ok (.lor, 1)) (hv : x ||| y = v) (q : Go p e below P (T.setTop (mkF m (pc + 1) Ls (.long v :: st)))) : Go p e below P (T.setTop (mkF m pc Ls (.long y :: .long x :: st))) := q.by fun t r => XS.lor X.here hx rfl hd rfl (hv ▸ r)
theorem g_ishl (X : Stand p l e R s m args below meth c T locs cells slots) (hx : p.tables.exec = Jvm.exec) {x y v : Int32} (hd : decode c.code pc = .ok (.ishl, 1)) (hv : x <<< (y &&& 31) = v) (q : Go p e below P (T.setTop (mkF m (pc + 1) Ls (.int v :: st)))) : Go p e below P (T.setTop (mkF m pc Ls (.int y :: .int x :: st))) := q.by fun t r => XS.ishl X.here hx rfl hd rfl (hv ▸ r)
theorem g_ishr (X : Stand p l e R s m args below meth c T locs cells slots) (hx : p.tables.exec = Jvm.exec) {x y v : Int32} (hd : decode c.code pc = .ok (.ishr, 1)) (hv : x >>> (y &&& 31) = v) (q : Go p e below P (T.setTop (mkF m (pc + 1) Ls (.int v :: st)))) : Go p e below P (T.setTop (mkF m pc Ls (.int y :: .int x :: st))) := q.by fun t r => XS.ishr X.here hx rfl hd rfl (hv ▸ r)
theorem g_iushr (X : Stand p l e R s m args below meth c T locs cells slots) (hx : p.tables.exec = Jvm.exec) {x y v : Int32} (hd : decode c.code pc = .ok (.iushr, 1)) (hv : (x.toUInt32 >>> (y &&& 31).toUInt32).toInt32 = v) (q : Go p e below P (T.setTop (mkF m (pc + 1) Ls (.int v :: st)))) : Go p e below P (T.setTop (mkF m pc Ls (.int y :: .int x :: st))) := q.by fun t r => XS.iushr X.here hx rfl hd rfl (hv ▸ r)
theorem g_idiv (X : Stand p l e R s m args below meth c T locs cells slots) (hx : p.tables.exec = Jvm.exec) {x y v : Int32} (hd : decode c.code pc = .ok (.idiv, 1)) (hy : y ≠ 0) (hv : x / y = v) (q : Go p e below P (T.setTop (mkF m (pc + 1) Ls (.int v :: st)))) : Go p e below P (T.setTop (mkF m pc Ls (.int y :: .int x :: st))) := q.by fun t r => XS.idiv X.here hx rfl hd rfl hy (hv ▸ r)
theorem g_irem (X : Stand p l e R s m args below meth c T locs cells slots) (hx : p.tables.exec = Jvm.exec) {x y v : Int32} (hd : decode c.code pc = .ok (.irem, 1)) (hy : y ≠ 0) (hv : x % y = v) (q : Go p e below P (T.setTop (mkF m (pc + 1) Ls (.int v :: st)))) : Go p e below P (T.setTop (mkF m pc Ls (.int y :: .int x :: st))) := q.by fun t r => XS.irem X.here hx rfl hd rfl hy (irem_eq_mod x y ▸ hv ▸ r)
theorem g_ldiv (X : Stand p l e R s m args below meth c T locs cells slots) (hx : p.tables.exec = Jvm.exec) {x y v : Int64} (hd : decode c.code pc = .ok (.ldiv, 1)) (hy : y ≠ 0) (hv : x / y = v) (q : Go p e below P (T.setTop (mkF m (pc + 1) Ls (.long v :: st)))) : Go p e below P (T.setTop (mkF m pc Ls (.long y :: .long x :: st))) := q.by fun t r => XS.ldiv X.here hx rfl hd rfl hy (hv ▸ r)
theorem g_lshl (X : Stand p l e R s m args below meth c T locs cells slots) (hx : p.tables.exec = Jvm.exec) {x v : Int64} {y : Int32} (hd : decode c.code pc = .ok (.lshl, 1)) (hv : x <<< (y &&& 0x3f).toInt64 = v) (q : Go p e below P (T.setTop (mkF m (pc + 1) Ls (.long v :: st)))) : Go p e below P (T.setTop (mkF m pc Ls (.int y :: .long x :: st))) := q.by fun t r => XS.lshl X.here hx rfl hd rfl (hv ▸ r)
theorem g_lshr (X : Stand p l e R s m args below meth c T locs cells slots) (hx : p.tables.exec = Jvm.exec) {x v : Int64} {y : Int32} (hd : decode c.code pc = .ok (.lshr, 1)) (hv : x >>> (y &&& 0x3f).toInt64 = v) (q : Go p e below P (T.setTop (mkF m (pc + 1) Ls (.long v :: st)))) : Go p e below P (T.setTop (mkF m pc Ls (.int y :: .long x :: st))) := q.by fun t r => XS.lshr X.here hx rfl hd rfl (hv ▸ r)
theorem g_lushr (X : Stand p l e R s m args below meth c T locs cells slots) (hx : p.tables.exec = Jvm.exec) {x v : Int64} {y : Int32} (hd : decode c.code pc = .ok (.lushr, 1)) (hv : (x.toUInt64 >>> (y &&& 0x3f).toInt64.toUInt64).toInt64 = v) (q : Go p e below P (T.setTop (mkF m (pc + 1) Ls (.long v :: st)))) : Go p e below P (T.setTop (mkF m pc Ls (.int y :: .long x :: st))) := q.by fun t r => XS.lushr X.here hx rfl hd rfl (hv ▸ r)
theorem g_lcmp (X : Stand p l e R s m args below meth c T locs cells slots) (hx : p.tables.exec = Jvm.exec) {x y : Int64} (hd : decode c.code pc = .ok (.lcmp, 1))  (q : Go p e below P (T.setTop (mkF m (pc + 1) Ls (.int (lcmpW x y) :: st)))) : Go p e below P (T.setTop (mkF m pc Ls (.long y :: .long x :: st))) := q.by fun t r => XS.lcmp X.here hx rfl hd rfl r
theorem g_ineg (X : Stand p l e R s m args below meth c T locs cells slots) (hx : p.tables.exec = Jvm.exec) {x : Int32} {v : Int32} (hd : decode c.code pc = .ok (.ineg, 1)) (hv : -x = v) (q : Go p e below P (T.setTop (mkF m (pc + 1) Ls (.int v :: st)))) : Go p e below P (T.setTop (mkF m pc Ls (.int x :: st))) := q.by fun t r => XS.ineg X.here hx rfl hd rfl (hv ▸ r)
theorem g_lneg (X : Stand p l e R s m args below meth c T locs cells slots) (hx : p.tables.exec = Jvm.exec) {x : Int64} {v : Int64} (hd : decode c.code pc = .ok (.lneg, 1)) (hv : -x = v) (q : Go p e below P (T.setTop (mkF m (pc + 1) Ls (.long v :: st)))) : Go p e below P (T.setTop (mkF m pc Ls (.long x :: st))) := q.by fun t r => XS.lneg X.here hx rfl hd rfl (hv ▸ r)
theorem g_i2l (X : Stand p l e R s m args below meth c T locs cells slots) (hx : p.tables.exec = Jvm.exec) {x : Int32} {v : Int64} (hd : decode c.code pc = .ok (.i2l, 1)) (hv : x.toInt64 = v) (q : Go p e below P (T.setTop (mkF m (pc + 1) Ls (.long v :: st)))) : Go p e below P (T.setTop (mkF m pc Ls (.int x :: st))) := q.by fun t r => XS.i2l X.here hx rfl hd rfl (hv ▸ r)
theorem g_l2i (X : Stand p l e R s m args below meth c T locs cells slots) (hx : p.tables.exec = Jvm.exec) {x : Int64} {v : Int32} (hd : decode c.code pc = .ok (.l2i, 1)) (hv : x.toInt32 = v) (q : Go p e below P (T.setTop (mkF m (pc + 1) Ls (.int v :: st)))) : Go p e below P (T.setTop (mkF m pc Ls (.long x :: st))) := q.by fun t r => XS.l2i X.here hx rfl hd rfl (hv ▸ r)
theorem g_i2b (X : Stand p l e R s m args below meth c T locs cells slots) (hx : p.tables.exec = Jvm.exec) {x : Int32} {v : Int32} (hd : decode c.code pc = .ok (.i2b, 1)) (hv : x.toInt8.toInt32 = v) (q : Go p e below P (T.setTop (mkF m (pc + 1) Ls (.int v :: st)))) : Go p e below P (T.setTop (mkF m pc Ls (.int x :: st))) := q.by fun t r => XS.i2b X.here hx rfl hd rfl (hv ▸ r)
theorem g_i2c (X : Stand p l e R s m args below meth c T locs cells slots) (hx : p.tables.exec = Jvm.exec) {x : Int32} {v : Int32} (hd : decode c.code pc = .ok (.i2c, 1)) (hv : x.toUInt32.toUInt16.toUInt32.toInt32 = v) (q : Go p e below P (T.setTop (mkF m (pc + 1) Ls (.int v :: st)))) : Go p e below P (T.setTop (mkF m pc Ls (.int x :: st))) := q.by fun t r => XS.i2c X.here hx rfl hd rfl (hv ▸ r)
theorem g_i2s (X : Stand p l e R s m args below meth c T locs cells slots) (hx : p.tables.exec = Jvm.exec) {x : Int32} {v : Int32} (hd : decode c.code pc = .ok (.i2s, 1)) (hv : x.toInt16.toInt32 = v) (q : Go p e below P (T.setTop (mkF m (pc + 1) Ls (.int v :: st)))) : Go p e below P (T.setTop (mkF m pc Ls (.int x :: st))) := q.by fun t r => XS.i2s X.here hx rfl hd rfl (hv ▸ r)
theorem g_i2d (X : Stand p l e R s m args below meth c T locs cells slots) (hx : p.tables.exec = Jvm.exec) {x : Int32} {v : UInt64} (hd : decode c.code pc = .ok (.i2d, 1)) (hv : FP.i2d x = v) (q : Go p e below P (T.setTop (mkF m (pc + 1) Ls (.double v :: st)))) : Go p e below P (T.setTop (mkF m pc Ls (.int x :: st))) := q.by fun t r => XS.i2dS X.here hx rfl hd rfl hv r
theorem g_l2d (X : Stand p l e R s m args below meth c T locs cells slots) (hx : p.tables.exec = Jvm.exec) {x : Int64} {v : UInt64} (hd : decode c.code pc = .ok (.l2d, 1)) (hv : FP.l2d x = v) (q : Go p e below P (T.setTop (mkF m (pc + 1) Ls (.double v :: st)))) : Go p e below P (T.setTop (mkF m pc Ls (.long x :: st))) := q.by fun t r => XS.l2dS X.here hx rfl hd rfl hv r
theorem g_d2i (X : Stand p l e R s m args below meth c T locs cells slots) (hx : p.tables.exec = Jvm.exec) {x : UInt64} {v : Int32} (hd : decode c.code pc = .ok (.d2i, 1)) (hv : FP.d2i x = v) (q : Go p e below P (T.setTop (mkF m (pc + 1) Ls (.int v :: st)))) : Go p e below P (T.setTop (mkF m pc Ls (.double x :: st))) := q.by fun t r => XS.d2iS X.here hx rfl hd rfl hv r
theorem g_d2l (X : Stand p l e R s m args below meth c T locs cells slots) (hx : p.tables.exec = Jvm.exec) {x : UInt64} {v : Int64} (hd : decode c.code pc = .ok (.d2l, 1)) (hv : FP.d2l x = v) (q : Go p e below P (T.setTop (mkF m (pc + 1) Ls (.long v :: st)))) : Go p e below P (T.setTop (mkF m pc Ls (.double x :: st))) := q.by fun t r => XS.d2lS X.here hx rfl hd rfl hv r
theorem g_dneg (X : Stand p l e R s m args below meth c T locs cells slots) (hx : p.tables.exec = Jvm.exec) {x : UInt64} {v : UInt64} (hd : decode c.code pc = .ok (.dneg, 1)) (hv : FP.dneg x = v) (q : Go p e below P (T.setTop (mkF m (pc + 1) Ls (.double v :: st)))) : Go p e below P (T.setTop (mkF m pc Ls (.double x :: st))) := q.by fun t r => XS.dnegS X.here hx rfl hd rfl hv r
theorem g_i2f (X : Stand p l e R s m args below meth c T locs cells slots) (hx : p.tables.exec = Jvm.exec) {x : Int32} {v : UInt32} (hd : decode c.code pc = .ok (.i2f, 1)) (hv : FP.i2f x = v) (q : Go p e below P (T.setTop (mkF m (pc + 1) Ls (.float v :: st)))) : Go p e below P (T.setTop (mkF m pc Ls (.int x :: st))) := q.by fun t r => XS.i2fS X.here hx rfl hd rfl hv r
theorem g_l2f (X : Stand p l e R s m args below meth c T locs cells slots) (hx : p.tables.exec = Jvm.exec) {x : Int64} {v : UInt32} (hd : decode c.code pc = .ok (.l2f, 1)) (hv : FP.l2f x = v) (q : Go p e below P (T.setTop (mkF m (pc + 1) Ls (.float v :: st)))) : Go p e below P (T.setTop (mkF m pc Ls (.long x :: st))) := q.by fun t r => XS.l2fS X.here hx rfl hd rfl hv r
theorem g_fneg (X : Stand p l e R s m args below meth c T locs cells slots) (hx : p.tables.exec = Jvm.exec) {x : UInt32} {v : UInt32} (hd : decode c.code pc = .ok (.fneg, 1)) (hv : FP.fneg x = v) (q : Go p e below P (T.setTop (mkF m (pc + 1) Ls (.float v :: st)))) : Go p e below P (T.setTop (mkF m pc Ls (.float x :: st))) := q.by fun t r => XS.fnegS X.here hx rfl hd rfl hv r
theorem g_dadd (X : Stand p l e R s m args below meth c T locs cells slots) (hx : p.tables.exec = Jvm.exec) {x y v : UInt64} (hd : decode c.code pc = .ok (.dadd, 1)) (hn : Jvm.Free.Fl.NoNaN64 (FP.dadd x y)) (hv : FP.dadd x y = v) (q : Go p e below P (T.setTop (mkF m (pc + 1) Ls (.double v :: st)))) : Go p e below P (T.setTop (mkF m pc Ls (.double y :: .double x :: st))) := q.by fun t r => XS.daddS X.here hx rfl hd rfl hn hv r
theorem g_dsub (X : Stand p l e R s m args below meth c T locs cells slots) (hx : p.tables.exec = Jvm.exec) {x y v : UInt64} (hd : decode c.code pc = .ok (.dsub, 1)) (hn : Jvm.Free.Fl.NoNaN64 (FP.dsub x y)) (hv : FP.dsub x y = v) (q : Go p e below P (T.setTop (mkF m (pc + 1) Ls (.double v :: st)))) : Go p e below P (T.setTop (mkF m pc Ls (.double y :: .double x :: st))) := q.by fun t r => XS.dsubS X.here hx rfl hd rfl hn hv r
theorem g_dmul (X : Stand p l e R s m args below meth c T locs cells slots) (hx : p.tables.exec = Jvm.exec) {x y v : UInt64} (hd : decode c.code pc = .ok (.dmul, 1)) (hn : Jvm.Free.Fl.NoNaN64 (FP.dmul x y)) (hv : FP.dmul x y = v) (q : Go p e below P (T.setTop (mkF m (pc + 1) Ls (.double v :: st)))) : Go p e below P (T.setTop (mkF m pc Ls (.double y :: .double x :: st))) := q.by fun t r => XS.dmulS X.here hx rfl hd rfl hn hv r
theorem g_ddiv (X : Stand p l e R s m args below meth c T locs cells slots) (hx : p.tables.exec = Jvm.exec) {x y v : UInt64} (hd : decode c.code pc = .ok (.ddiv, 1)) (hn : Jvm.Free.Fl.NoNaN64 (FP.ddiv x y)) (hv : FP.ddiv x y = v) (q : Go p e below P (T.setTop (mkF m (pc + 1) Ls (.double v :: st)))) : Go p e below P (T.setTop (mkF m pc Ls (.double y :: .double x :: st))) := q.by fun t r => XS.ddivS X.here hx rfl hd rfl hn hv r
theorem g_dcmp (X : Stand p l e R s m args below meth c T locs cells slots) (hx : p.tables.exec = Jvm.exec) {o : CmpOp} {x y : UInt64} (hd : decode c.code pc = .ok (.dcmp o, 1))  (q : Go p e below P (T.setTop (mkF m (pc + 1) Ls (.int (cmpValue (FP.dcmp x y) o) :: st)))) : Go p e below P (T.setTop (mkF m pc Ls (.double y :: .double x :: st))) := q.by fun t r => XS.dcmpS X.here hx rfl hd rfl rfl r
theorem g_fcmp (X : Stand p l e R s m args below meth c T locs cells slots) (hx : p.tables.exec = Jvm.exec) {o : CmpOp} {x y : UInt32} (hd : decode c.code pc = .ok (.fcmp o, 1))  (q : Go p e below P (T.setTop (mkF m (pc + 1) Ls (.int (cmpValue (FP.fcmp x y) o) :: st)))) : Go p e below P (T.setTop (mkF m pc Ls (.float y :: .float x :: st))) := q.by fun t r => XS.fcmpS X.here hx rfl hd rfl rfl r
theorem g_dup (X : Stand p l e R s m args below meth c T locs cells slots) (hx : p.tables.exec = Jvm.exec) {x : Value} (hd : decode c.code pc = .ok (.dup, 1)) (hc : x.category = 1) (q : Go p e below P (T.setTop (mkF m (pc + 1) Ls (x :: x :: st)))) : Go p e below P (T.setTop (mkF m pc Ls (x :: st))) := q.by fun t r => XS.dup X.here hx rfl hd rfl hc r
theorem g_pop (X : Stand p l e R s m args below meth c T locs cells slots) (hx : p.tables.exec = Jvm.exec) {x : Value} (hd : decode c.code pc = .ok (.pop, 1)) (hc : x.category = 1) (q : Go p e below P (T.setTop (mkF m (pc + 1) Ls st))) : Go p e below P (T.setTop (mkF m pc Ls (x :: st))) := q.by fun t r => XS.pop X.here hx rfl hd rfl hc r
theorem g_dup2 (X : Stand p l e R s m args below meth c T locs cells slots) (hx : p.tables.exec = Jvm.exec) {x y : Value} (hd : decode c.code pc = .ok (.dup2, 1)) (hc : x.category = 1) (hc' : y.category = 1) (q : Go p e below P (T.setTop (mkF m (pc + 1) Ls (x :: y :: x :: y :: st)))) : Go p e below P (T.setTop (mkF m pc Ls (x :: y :: st))) := q.by fun t r => XT.dup2 X.here hx rfl hd rfl hc hc' r
theorem g_iinc (X : Stand p l e R s m args below meth c T locs cells slots) (hx : p.tables.exec = Jvm.exec) {k : Nat} {d : Int} {x : Int32} {L' : Array Slot} (hd : decode c.code pc = .ok (.iinc k d, 3)) (hl : Ls[k]? = some (.val (.int x))) (hs : storeLocals Ls k (.int (x + Int32.ofInt d)) = some L') (q : Go p e below P (T.setTop (mkF m (pc + 3) L' st))) : Go p e below P (T.setTop (mkF m pc Ls st)) := q.by fun t r => XS.iinc X.here hx rfl hd hl hs r
theorem g_goto (X : Stand p l e R s m args below meth c T locs cells slots) (hx : p.tables.exec = Jvm.exec)  {o : Int} {pc' : Nat} (hd : decode c.code pc = .ok (.goto o, 3))  (ho : 0 ≤ (pc : Int) + o) (hp : ((pc : Int) + o).toNat = pc') (q : Go p e below P (T.setTop (mkF m pc' Ls st))) : Go p e below P (T.setTop (mkF m pc Ls st)) := q.by fun t r => XS.goto X.here hx rfl rfl hd ho hp r
theorem g_ifYes (X : Stand p l e R s m args below meth c T locs cells slots) (hx : p.tables.exec = Jvm.exec) {cd : ClassFile.Cond} {x : Int32} {o : Int} {pc' : Nat} (hd : decode c.code pc = .ok (.ifCond cd o, 3)) (hc : if_icmp.holds cd x 0 = true) (ho : 0 ≤ (pc : Int) + o) (hp : ((pc : Int) + o).toNat = pc') (q : Go p e below P (T.setTop (mkF m pc' Ls st))) : Go p e below P (T.setTop (mkF m pc Ls (.int x :: st))) := q.by fun t r => XS.ifYes X.here hx rfl rfl hd rfl ((if0 _ _).trans hc) ho hp r
theorem g_icmpYes (X : Stand p l e R s m args below meth c T locs cells slots) (hx : p.tables.exec = Jvm.exec) {cd : ClassFile.Cond} {x y : Int32} {o : Int} {pc' : Nat} (hd : decode c.code pc = .ok (.if_icmp cd o, 3)) (hc : if_icmp.holds cd x y = true) (ho : 0 ≤ (pc : Int) + o) (hp : ((pc : Int) + o).toNat = pc') (q : Go p e below P (T.setTop (mkF m pc' Ls st))) : Go p e below P (T.setTop (mkF m pc Ls (.int y :: .int x :: st))) := q.by fun t r => XS.icmpYes X.here hx rfl rfl hd rfl hc ho hp r
theorem g_ifNo (X : Stand p l e R s m args below meth c T locs cells slots) (hx : p.tables.exec = Jvm.exec) {cd : ClassFile.Cond} {o : Int} {x : Int32} (hd : decode c.code pc = .ok (.ifCond cd o, 3)) (hc : if_icmp.holds cd x 0 = false) (q : Go p e below P (T.setTop (mkF m (pc + 3) Ls st))) : Go p e below P (T.setTop (mkF m pc Ls (.int x :: st))) := q.by fun t r => XS.ifNo X.here hx rfl hd rfl ((if0 _ _).trans hc) r
theorem g_icmpNo (X : Stand p l e R s m args below meth c T locs cells slots) (hx : p.tables.exec = Jvm.exec) {cd : ClassFile.Cond} {o : Int} {x y : Int32} (hd : decode c.code pc = .ok (.if_icmp cd o, 3)) (hc : if_icmp.holds cd x y = false) (q : Go p e below P (T.setTop (mkF m (pc + 3) Ls st))) : Go p e below P (T.setTop (mkF m pc Ls (.int y :: .int x :: st))) := q.by fun t r => XS.icmpNo X.here hx rfl hd rfl hc r
theorem g_ifnonnullYes (X : Stand p l e R s m args below meth c T locs cells slots) (hx : p.tables.exec = Jvm.exec) {b : Addr} {o : Int} {pc' : Nat} (hd : decode c.code pc = .ok (.ifnonnull o, 3))  (ho : 0 ≤ (pc : Int) + o) (hp : ((pc : Int) + o).toNat = pc') (q : Go p e below P (T.setTop (mkF m pc' Ls st))) : Go p e below P (T.setTop (mkF m pc Ls (.ref b :: st))) := q.by fun t r => XS.ifnonnullYes X.here hx rfl rfl hd rfl ho hp r
theorem g_ifnonnullNo (X : Stand p l e R s m args below meth c T locs cells slots) (hx : p.tables.exec = Jvm.exec) {o : Int} (hd : decode c.code pc = .ok (.ifnonnull o, 3))  (q : Go p e below P (T.setTop (mkF m (pc + 3) Ls st))) : Go p e below P (T.setTop (mkF m pc Ls (.null :: st))) := q.by fun t r => XS.ifnonnullNo X.here hx rfl hd rfl r
theorem g_ifnullYes (X : Stand p l e R s m args below meth c T locs cells slots) (hx : p.tables.exec = Jvm.exec)  {o : Int} {pc' : Nat} (hd : decode c.code pc = .ok (.ifnull o, 3))  (ho : 0 ≤ (pc : Int) + o) (hp : ((pc : Int) + o).toNat = pc') (q : Go p e below P (T.setTop (mkF m pc' Ls st))) : Go p e below P (T.setTop (mkF m pc Ls (.null :: st))) := q.by fun t r => XS.ifnullYes X.here hx rfl rfl hd rfl ho hp r
theorem g_ifnullNo (X : Stand p l e R s m args below meth c T locs cells slots) (hx : p.tables.exec = Jvm.exec) {o : Int} {b : Addr} (hd : decode c.code pc = .ok (.ifnull o, 3))  (q : Go p e below P (T.setTop (mkF m (pc + 3) Ls st))) : Go p e below P (T.setTop (mkF m pc Ls (.ref b :: st))) := q.by fun t r => XS.ifnullNo X.here hx rfl hd rfl r
theorem g_drem (X : Stand p l e R s m args below meth c T locs cells slots) (hx : p.tables.exec = Jvm.exec) {x y v : UInt64} (hd : decode c.code pc = .ok (.drem, 1)) (hn : Jvm.Free.Fl.NoNaN64 (FP.drem x y)) (hv : FP.drem x y = v) (q : Go p e below P (T.setTop (mkF m (pc + 1) Ls (.double v :: st)))) : Go p e below P (T.setTop (mkF m pc Ls (.double y :: .double x :: st))) := q.by fun t r => by
  subst hv
  have ht := X.here
  show Steps p.tables e below (T.setTop { method := m, pc := pc, locals := Ls, stack := .double y :: .double x :: st, locked := none }) t
  jvm_step ht [ht.top, hx, hd, Op.drem.at_number ht.top hn]
  exact r
theorem g_dup_x2 (X : Stand p l e R s m args below meth c T locs cells slots) (hx : p.tables.exec = Jvm.exec) {x y z : Value} (hd : decode c.code pc = .ok (.dup_x2, 1)) (h1 : x.category = 1) (h2 : y.category = 1) (h3 : z.category = 1) (q : Go p e below P (T.setTop (mkF m (pc + 1) Ls (x :: y :: z :: x :: st)))) : Go p e below P (T.setTop (mkF m pc Ls (x :: y :: z :: st))) := q.by fun t r => by
  have ht := X.here
  show Steps p.tables e below (T.setTop { method := m, pc := pc, locals := Ls, stack := x :: y :: z :: st, locked := none }) t
  jvm_step ht [ht.top, hx, hd, h1, h2, h3]
  exact r
theorem g_ldcI (X : Stand p l e R s m args below meth c T locs cells slots) (hx : p.tables.exec = Jvm.exec) (hZ : Z.Warmed39 s.vm) (hown : s.vm.findClass own = some m.cls) {v : Int32} (w : (Cond.constant own index v).before a0 Z = true) (hd : decode c.code pc = .ok (.ldc index, 2)) (q : Go p e below P (T.setTop (mkF m (pc + 2) Ls (.int v :: st)))) : Go p e below P (T.setTop (mkF m pc Ls st)) := q.by fun t r => X.ldcI hx hown (mvT hZ w) rfl hd r
theorem g_ldc2J (X : Stand p l e R s m args below meth c T locs cells slots) (hx : p.tables.exec = Jvm.exec) (hZ : Z.Warmed39 s.vm) (hown : s.vm.findClass own = some m.cls) {v : Int64} (w : (Cond.constantLong own index v).before a0 Z = true) (hd : decode c.code pc = .ok (.ldc2_w index, 3)) (q : Go p e below P (T.setTop (mkF m (pc + 3) Ls (.long v :: st)))) : Go p e below P (T.setTop (mkF m pc Ls st)) := q.by fun t r => X.ldc2J hx hown (mvT hZ w) rfl hd r
theorem g_ldc2D (X : Stand p l e R s m args below meth c T locs cells slots) (hx : p.tables.exec = Jvm.exec) (hZ : Z.Warmed39 s.vm) (hown : s.vm.findClass own = some m.cls) {v : UInt64} (w : (Cond.constantDouble own index v).before a0 Z = true) (hd : decode c.code pc = .ok (.ldc2_w index, 3)) (q : Go p e below P (T.setTop (mkF m (pc + 3) Ls (.double v :: st)))) : Go p e below P (T.setTop (mkF m pc Ls st)) := q.by fun t r => X.ldc2DoubleC hx hown (mvT hZ w) (g := mkF m pc Ls st) rfl hd t r
theorem g_ldcF (X : Stand p l e R s m args below meth c T locs cells slots) (hx : p.tables.exec = Jvm.exec) (hZ : Z.Warmed39 s.vm) (hown : s.vm.findClass own = some m.cls) {v : UInt32} (w : (Cond.constantFloat own index v).before a0 Z = true) (hd : decode c.code pc = .ok (.ldc index, 2)) (q : Go p e below P (T.setTop (mkF m (pc + 2) Ls (.float v :: st)))) : Go p e below P (T.setTop (mkF m pc Ls st)) := q.by fun t r => X.ldcFloatC hx hown (mvT hZ w) (g := mkF m pc Ls st) rfl hd t r
theorem Ret.end {Q : Option Value → Heap → List Loc → Prop} {C N : Nat} {g : JFrame} (X : Stand p l e R s m args below meth c T locs cells slots) (hx : p.tables.exec = Jvm.exec) (hlk : meth.locks = false) {v : Option Value} (hv : meth.sig.returnType = none → v = none) (stp : ∀ fs, (∀ (f : JFrame) (acts : List Action), f.method = m → f.locked = none → f.entered = [] → (doReturn e (T.setTop f) acts v).1 = T.setFrames fs) → Steps p.tables e below (T.setTop g) (T.setFrames fs)) (hC : cells ≤ C) (hN : slots ≤ N) (hq : Q v T.heap locs) : Go p e below (Ret s Q C N) (T.setTop g) := by
  obtain ⟨fs, hr, hrun, hended, hW, hsame⟩ := X.leave hv hlk
  exact ⟨_, _, stp fs hr, hrun, hended, _, _, rfl, hq, ⟨_, rfl⟩, hW, hsame.mono hC hN⟩
theorem g_ireturn {Q : Option Value → Heap → List Loc → Prop} {C N : Nat} (X : Stand p l e R s m args below meth c T locs cells slots) (hx : p.tables.exec = Jvm.exec) (hlk : meth.locks = false) {w : Int32} {t : FieldType} (hret : meth.sig.returnType = some t) (hn : narrow t (.int w) = .int w) (hti : t = .int ∨ t = .boolean ∨ t = .byte ∨ t = .char ∨ t = .short) (hd : decode c.code pc = .ok (.ireturn, 1)) (hC : cells ≤ C) (hN : slots ≤ N) (hq : Q (some (.int w)) T.heap locs) : Go p e below (Ret s Q C N) (T.setTop (mkF m pc Ls [.int w])) :=
  Ret.end X hx hlk (fun h => by rw [hret] at h; cases h) (fun fs hr => X.ireturnOut hx hret hn hti hd hr) hC hN hq
theorem g_lreturn {Q : Option Value → Heap → List Loc → Prop} {C N : Nat} (X : Stand p l e R s m args below meth c T locs cells slots) (hx : p.tables.exec = Jvm.exec) (hlk : meth.locks = false) {w : Int64} (hret : meth.sig.returnType = some .long) (hd : decode c.code pc = .ok (.lreturn, 1)) (hC : cells ≤ C) (hN : slots ≤ N) (hq : Q (some (.long w)) T.heap locs) : Go p e below (Ret s Q C N) (T.setTop (mkF m pc Ls [.long w])) :=
  Ret.end X hx hlk (fun h => by rw [hret] at h; cases h) (fun fs hr => X.lreturnOut hx hret hd hr) hC hN hq
theorem g_return {Q : Option Value → Heap → List Loc → Prop} {C N : Nat} (X : Stand p l e R s m args below meth c T locs cells slots) (hx : p.tables.exec = Jvm.exec) (hlk : meth.locks = false) (hret : meth.sig.returnType = none) (hd : decode c.code pc = .ok (.return_, 1)) (hC : cells ≤ C) (hN : slots ≤ N) (hq : Q none T.heap locs) : Go p e below (Ret s Q C N) (T.setTop (mkF m pc Ls [])) :=
  Ret.end X hx hlk (fun _ => rfl) (fun fs hr => X.returnOut hx hret hd hr) hC hN hq
theorem g_areturn {Q : Option Value → Heap → List Loc → Prop} {C N : Nat} (X : Stand p l e R s m args below meth c T locs cells slots) (hx : p.tables.exec = Jvm.exec) (hlk : meth.locks = false) {w : Value} {t : FieldType} (hret : meth.sig.returnType = some t) (ht : t.isReference = true) (hw : w.isRef = true) (hd : decode c.code pc = .ok (.areturn, 1)) (hC : cells ≤ C) (hN : slots ≤ N) (hq : Q (some w) T.heap locs) : Go p e below (Ret s Q C N) (T.setTop (mkF m pc Ls [w])) :=
  Ret.end X hx hlk (fun h => by rw [hret] at h; cases h) (fun fs hr => X.areturnOut hx hw hret ht hd hr) hC hN hq
theorem g_dreturn {Q : Option Value → Heap → List Loc → Prop} {C N : Nat} (X : Stand p l e R s m args below meth c T locs cells slots) (hx : p.tables.exec = Jvm.exec) (hlk : meth.locks = false) {w : UInt64} (hret : meth.sig.returnType = some .double) (hd : decode c.code pc = .ok (.dreturn, 1)) (hC : cells ≤ C) (hN : slots ≤ N) (hq : Q (some (.double w)) T.heap locs) : Go p e below (Ret s Q C N) (T.setTop (mkF m pc Ls [.double w])) :=
  Ret.end X hx hlk (fun h => by rw [hret] at h; cases h) (fun fs hr => by
    have hm' : T.vm.method? m = some meth := X.method'
    show Steps p.tables e below (T.setTop { method := m, pc := pc, locals := Ls, stack := [.double w], locked := none }) _
    jvm_step X.here [X.here.top, hx, hd, hm', hret]
    first | (intro acts; rw [hr _ acts rfl rfl rfl]) | rw [hr _ _ rfl rfl rfl]
    exact Steps.refl _) hC hN hq
theorem g_freturn {Q : Option Value → Heap → List Loc → Prop} {C N : Nat} (X : Stand p l e R s m args below meth c T locs cells slots) (hx : p.tables.exec = Jvm.exec) (hlk : meth.locks = false) {w : UInt32} (hret : meth.sig.returnType = some .float) (hd : decode c.code pc = .ok (.freturn, 1)) (hC : cells ≤ C) (hN : slots ≤ N) (hq : Q (some (.float w)) T.heap locs) : Go p e below (Ret s Q C N) (T.setTop (mkF m pc Ls [.float w])) :=
  Ret.end X hx hlk (fun h => by rw [hret] at h; cases h) (fun fs hr => retF X hx hret hd hr) hC hN hq
theorem g_callS (X : Stand p l e R s m args below meth c T locs cells slots) (hx : p.tables.exec = Jvm.exec) (hZ : Z.Warmed39 s.vm) (hown : s.vm.findClass own = some m.cls) {y : MethodName} {bytes : ByteArray} {maxL : Nat} {ret : Option FieldType} (w1 : (Cond.methodLink own index y).before a0 Z = true) (w2 : (Cond.static y).before a0 Z = true) (w3 : (Cond.initialized y.cls).before a0 Z = true) (w4 : (Cond.code y bytes maxL ret).before a0 Z = true) (hy : y.cls ≠ "java/lang/invoke/MethodHandle" ∧ y.cls ≠ "java/lang/invoke/VarHandle") {rm : Room} {as' : Array Value} {Q : Option Value → Heap → List Loc → Prop} (hM : MetFree l y (head1 [Cond.code y bytes maxL ret] rm) (fun a U => a = as' ∧ Z.Warmed39 U.vm ∧ U.heap = h) (fun _ _ _ _ _ => True) (fun _ U o U' => ∃ v L, o = .returned v ∧ Q v U'.heap L ∧ FrameEnd U o U' L rm.cells rm.slots)) (eT : T.heap = h) {W : Nat} (hf : rm.frames + 1 ≤ R.frames) (hlo : W + (maxL + 11) + rm.locals ≤ R.locals) (hsize : Ls.size = c.maxLocals) (argsL rest : List Value) (hlen : ∀ sig, parseMethodDescriptor y.desc = some sig → argsL.length = sig.parameters.length) (hst : st = argsL.reverse ++ rest) (has : argsL.toArray = as') (hW : (rest.map fun v => v.category).sum ≤ W) (hd : decode c.code pc = .ok (.invokestatic index, 3)) (hc : cells + rm.cells ≤ R.cells) (hs : slots + rm.slots ≤ R.slots) (k : ∀ (v : Option Value) (T' : State) (L : List Loc), Stand p l e R s m args below meth c T' (locs ++ L) (cells + rm.cells) (slots + rm.slots) → Q v T'.heap L → Go p e below P (T'.setTop (mkF m (pc + 3) Ls (v.toList ++ rest)))) : Go p e below P (T.setTop (mkF m pc Ls st)) := by
  obtain ⟨v, vm1, ⟨T', L', k', n'⟩, -, X', ⟨L, hQ, l1, y1, z1⟩, stp⟩ := Jvm.LawKit.callS X hx hown (mvT hZ w1) (mvT hZ w2) (mvT hZ w3) (mvT hZ w4) hy (backOf (W := W) hM hZ w4 w3 hf hlo) (g := mkF m pc Ls st) rfl hsize hlen hst (by show 2 * 0 + _ ≤ _; omega) hd (fun _ _ => ⟨has, eT, hc, hs⟩)
  dsimp only [Pt.U, Pt.locs, Pt.cells, Pt.slots] at X' l1 y1 z1 stp hQ
  subst l1 y1 z1
  exact (k v T' L X' hQ).by stp
theorem g_init (X : Stand p l e R s m args below meth c T locs cells slots) (hx : p.tables.exec = Jvm.exec) (hZ : Z.Warmed39 s.vm) (hown : s.vm.findClass own = some m.cls) {y : MethodName} {bytes : ByteArray} {maxL : Nat} (hy1 : y.name = "<init>") (w1 : (Cond.methodLink own index y).before a0 Z = true) (w2 : (Cond.instanceMethod y).before a0 Z = true) (w3 : (Cond.initialized y.cls).before a0 Z = true) (w4 : (Cond.code y bytes maxL none).before a0 Z = true) (hy : y.cls ≠ "java/lang/invoke/MethodHandle" ∧ y.cls ≠ "java/lang/invoke/VarHandle") {rm : Room} {as' : Array Value} {Q : Option Value → Heap → List Loc → Prop} (hM : MetFree l y (head1 [Cond.code y bytes maxL none] rm) (fun a U => a = as' ∧ Z.Warmed39 U.vm ∧ U.heap = h) (fun _ _ _ _ _ => True) (fun _ U o U' => ∃ v L, o = .returned v ∧ Q v U'.heap L ∧ FrameEnd U o U' L rm.cells rm.slots)) (eT : T.heap = h) {W : Nat} (hf : rm.frames + 1 ≤ R.frames) (hlo : W + (maxL + 11) + rm.locals ≤ R.locals) (hsize : Ls.size = c.maxLocals) (a : Addr) (argsL rest : List Value) (hlen : ∀ sig, parseMethodDescriptor y.desc = some sig → argsL.length = sig.parameters.length) (hst : st = argsL.reverse ++ .ref a :: rest) (has : (.ref a :: argsL).toArray = as') (hW : (rest.map fun v => v.category).sum ≤ W) (hd : decode c.code pc = .ok (.invokespecial index, 3)) (hc : cells + rm.cells ≤ R.cells) (hs : slots + rm.slots ≤ R.slots) (k : ∀ (v : Option Value) (T' : State) (L : List Loc), Stand p l e R s m args below meth c T' (locs ++ L) (cells + rm.cells) (slots + rm.slots) → Q v T'.heap L → Go p e below P (T'.setTop (mkF m (pc + 3) Ls (v.toList ++ rest)))) : Go p e below P (T.setTop (mkF m pc Ls st)) := by
  obtain ⟨v, vm1, ⟨T', L', k', n'⟩, -, X', ⟨L, hQ, l1, y1, z1⟩, stp⟩ := X.specialBack hx hy1 hown (mvT hZ w1) (mvT hZ w2) (mvT hZ w4) hy (backOf (W := W) hM hZ w4 w3 hf hlo) (g := mkF m pc Ls st) rfl hsize (Steps.refl _) hlen hst (by show 2 * 0 + _ ≤ _; omega) hd (fun _ _ => ⟨has, eT, hc, hs⟩)
  dsimp only [Pt.U, Pt.locs, Pt.cells, Pt.slots] at X' l1 y1 z1 stp hQ
  subst l1 y1 z1
  exact (k v T' L X' hQ).by fun t r => stp.trans r
theorem g_callV (X : Stand p l e R s m args below meth c T locs cells slots) (hx : p.tables.exec = Jvm.exec) (hZ : Z.Warmed39 s.vm) (hown : s.vm.findClass own = some m.cls) {y : MethodName} {bytes : ByteArray} {maxL : Nat} {ret : Option FieldType} {C : String} (w1 : (Cond.methodLink own index y).before a0 Z = true) (w2 : (Cond.declares y).before a0 Z = true) (w5 : (Cond.selects C y y).before a0 Z = true) (w6 : (Cond.instanceMethod y).before a0 Z = true) (w3 : (Cond.initialized y.cls).before a0 Z = true) (w4 : (Cond.code y bytes maxL ret).before a0 Z = true) (hy : y.cls ≠ "java/lang/invoke/MethodHandle" ∧ y.cls ≠ "java/lang/invoke/VarHandle") {rm : Room} {as' : Array Value} {Q : Option Value → Heap → List Loc → Prop} (hM : MetFree l y (head1 [Cond.code y bytes maxL ret] rm) (fun a U => a = as' ∧ Z.Warmed39 U.vm ∧ U.heap = h) (fun _ _ _ _ _ => True) (fun _ U o U' => ∃ v L, o = .returned v ∧ Q v U'.heap L ∧ FrameEnd U o U' L rm.cells rm.slots)) (eT : T.heap = h) {W : Nat} (hf : rm.frames + 1 ≤ R.frames) (hlo : W + (maxL + 11) + rm.locals ≤ R.locals) (hsize : Ls.size = c.maxLocals) (a : Addr) (E : Exa Z h a C) (argsL rest : List Value) (hlen : ∀ sig, parseMethodDescriptor y.desc = some sig → argsL.length = sig.parameters.length) (hst : st = argsL.reverse ++ .ref a :: rest) (has : (.ref a :: argsL).toArray = as') (hW : (rest.map fun v => v.category).sum ≤ W) (hd : decode c.code pc = .ok (.invokevirtual index, 3)) (hc : cells + rm.cells ≤ R.cells) (hs : slots + rm.slots ≤ R.slots) (k : ∀ (v : Option Value) (T' : State) (L : List Loc), Stand p l e R s m args below meth c T' (locs ++ L) (cells + rm.cells) (slots + rm.slots) → Q v T'.heap L → Go p e below P (T'.setTop (mkF m (pc + 3) Ls (v.toList ++ rest)))) : Go p e below P (T.setTop (mkF m pc Ls st)) := by
  obtain ⟨cq, kq, qa, qb, qc⟩ := isOf hZ eT E
  obtain ⟨v, vm1, ⟨T', L', k', n'⟩, -, X', ⟨L, hQ, l1, y1, z1⟩, stp⟩ := X.virtualBack hx (y := y) (z := y) hown (mvT hZ w1) (mvT hZ w2) (notFace_of_selects (args := #[]) (mvT hZ w5)) (mvT hZ w5) (mvT hZ w6) hy (backOf (W := W) hM hZ w4 w3 hf hlo) qa qc (g := mkF m pc Ls st) rfl hsize (Steps.refl _) hlen hst (by show 2 * 0 + _ ≤ _; omega) hd (fun _ _ => ⟨has, eT, hc, hs⟩)
  dsimp only [Pt.U, Pt.locs, Pt.cells, Pt.slots] at X' l1 y1 z1 stp hQ
  subst l1 y1 z1
  exact (k v T' L X' hQ).by fun t r => stp.trans r
theorem g_absD (X : Stand p l e R s m args below meth c T locs cells slots) (hx : p.tables.exec = Jvm.exec) (hZ : Z.Warmed39 s.vm) (hown : s.vm.findClass own = some m.cls) (w1 : (Cond.methodLink own index Jvm.Free.Fl.Abs.absDN).before a0 Z = true) (w2 : (Cond.static Jvm.Free.Fl.Abs.absDN).before a0 Z = true) (w3 : (Cond.initialized "java/lang/Math").before a0 Z = true) (w4 : (Cond.code Jvm.Free.Fl.Abs.absDN Jvm.Free.Fl.Abs.absDCode 2 (some .double)).before a0 Z = true) (eT : T.heap = h) (hsize : Ls.size = c.maxLocals) {a : UInt64} (hn : Jvm.Free.Fl.NoNaN64 a) (hfr : 1 ≤ R.frames) {W : Nat} (hW : (st.map fun v => v.category).sum ≤ W) (hlo : W + 13 ≤ R.locals) (hc : cells ≤ R.cells) (hs : slots ≤ R.slots) (hd : decode c.code pc = .ok (.invokestatic index, 3))
    (k : ∀ T', Stand p l e R s m args below meth c T' locs cells slots → T'.heap = h → Go p e below P (T'.setTop (mkF m (pc + 3) Ls (.double (a &&& 0x7fffffffffffffff) :: st)))) : Go p e below P (T.setTop (mkF m pc Ls (.double a :: st))) := by
  obtain ⟨T', X', e', stp⟩ := natS X hx hZ hown w1 w2 w3 w4 (by decide) eT (W := W) (F := fun a' => a' = #[.double a] ∧ Jvm.Free.Fl.NoNaN64 a) (val := .double (a &&& 0x7fffffffffffffff)) (val' := .double (a &&& 0x7fffffffffffffff)) (fun q => Jvm.Free.Fl.Abs.absD_pays a q hfr hlo) (g := mkF m pc Ls (.double a :: st)) rfl hsize (argsL := [.double a]) (rest := st) (lenOf (ps := [.double]) (r := some .double) (by decide +kernel) rfl) rfl (by show 2 * 0 + _ ≤ _; omega) hd hc hs ⟨rfl, hn⟩ rfl
  exact (k T' X' e').by stp
theorem g_objInit (X : Stand p l e R s m args below meth c T locs cells slots) (hx : p.tables.exec = Jvm.exec) (hZ : Z.Warmed39 s.vm) (hown : s.vm.findClass own = some m.cls) (w1 : (Cond.methodLink own index Lib.objectInit).before a0 Z = true) (w2 : (Cond.instanceMethod Lib.objectInit).before a0 Z = true) (w3 : (Cond.code Lib.objectInit ⟨#[0xb1]⟩ 1 none).before a0 Z = true) (eT : T.heap = h) (hsize : Ls.size = c.maxLocals) {a : Addr} (hd : decode c.code pc = .ok (.invokespecial index, 3)) (hf : 1 ≤ R.frames) {W : Nat} (hW : (st.map fun v => v.category).sum ≤ W) (hlo : W + 12 ≤ R.locals)
    (k : ∀ T', Stand p l e R s m args below meth c T' locs cells slots → T'.heap = h → Go p e below P (T'.setTop (mkF m (pc + 3) Ls st))) : Go p e below P (T.setTop (mkF m pc Ls (.ref a :: st))) := by
  obtain ⟨T', X', e', stp⟩ := initO X hx hZ hown w1 w2 w3 eT (g := mkF m pc Ls (.ref a :: st)) rfl hsize rfl hd hf (W := W) (by show 2 * 0 + _ ≤ _; omega) hlo
  exact (k T' X' e').by stp
theorem g_new (X : Stand p l e R s m args below meth c T locs cells slots) (hx : p.tables.exec = Jvm.exec) (hZ : Z.Warmed39 s.vm) (hown : s.vm.findClass own = some m.cls) {C : String} {n : Nat} (w : (Cond.classLink own index C).before a0 Z = true) (wi : (Cond.instantiable C n).before a0 Z = true) (wz : (Cond.initialized C).before a0 Z = true) (eT : T.heap = h) (hd : decode c.code pc = .ok (.new index, 3)) (hc : cells + 1 ≤ R.cells) (hl : slots + n ≤ R.slots)
    (k : ∀ T' h' a, a = h.size → Stand p l e R s m args below meth c T' locs (cells + 1) (slots + n) → T'.heap = h' → Ext h h' → Exa Z h' a C → (∀ {O nm d : String} {ty : FieldType}, Laid Z a0 C O nm d → parseFieldDescriptor d = some ty → Fld Z h' a O nm d (defaultValue ty)) → Go p e below P (T'.setTop (mkF m (pc + 3) Ls (.ref a :: st)))) : Go p e below P (T.setTop (mkF m pc Ls st)) := by
  obtain ⟨T', h', X', e', E, A, D, -, stp⟩ := newO X hx hZ hown w wi wz eT (g := mkF m pc Ls st) rfl hd hc hl
  exact (k T' h' _ rfl X' e' E A D).by stp
theorem g_getF (X : Stand p l e R s m args below meth c T locs cells slots) (hx : p.tables.exec = Jvm.exec) (hZ : Z.Warmed39 s.vm) (hown : s.vm.findClass own = some m.cls) {O n d : String} (w : (Cond.fieldLink own index O n d).before a0 Z = true) (eT : T.heap = h) {a : Addr} {v : Value} (F : Fld Z h a O n d v) (hd : decode c.code pc = .ok (.getfield index, 3))
    (k : ∀ T', Stand p l e R s m args below meth c T' locs cells slots → T'.heap = h → Go p e below P (T'.setTop (mkF m (pc + 3) Ls (v :: st)))) : Go p e below P (T.setTop (mkF m pc Ls (.ref a :: st))) := by
  obtain ⟨T', X', e', stp⟩ := getF X hx hZ hown (host := "") (Or.inl w) Via.refl eT F (g := mkF m pc Ls (.ref a :: st)) rfl rfl hd
  exact (k T' X' e').by stp
theorem g_getS (X : Stand p l e R s m args below meth c T locs cells slots) (hx : p.tables.exec = Jvm.exec) (hZ : Z.Warmed39 s.vm) (hown : s.vm.findClass own = some m.cls) {O n d : String} (w : (Cond.fieldLink own index O n d).before a0 Z = true) (eT : T.heap = h) {v : Value} (F : Sta Z h O n d v) (hd : decode c.code pc = .ok (.getstatic index, 3))
    (k : ∀ T', Stand p l e R s m args below meth c T' locs cells slots → T'.heap = h → Go p e below P (T'.setTop (mkF m (pc + 3) Ls (v :: st)))) : Go p e below P (T.setTop (mkF m pc Ls st)) := by
  obtain ⟨T', X', e', stp⟩ := getS X hx hZ hown (host := "") w Via.refl eT F (g := mkF m pc Ls st) rfl hd
  exact (k T' X' e').by stp
theorem g_putF (X : Stand p l e R s m args below meth c T locs cells slots) (hx : p.tables.exec = Jvm.exec) (hZ : Z.Warmed39 s.vm) (hown : s.vm.findClass own = some m.cls) {O n d C : String} {kk : Nat} {ty : FieldType} (w : (Cond.fieldLink own index O n d).before a0 Z = true) (eT : T.heap = h) {a : Addr} {v old : Value} (F : Fld Z h a O n d old) (E : Exa Z h a C) (L : (Cond.lays C O n d).before a0 Z = true ∨ ((Cond.laysFinal C O n d).before a0 Z = true ∧ own = O ∧ meth.name = "<init>")) (wi : (Cond.instantiable C kk).before a0 Z = true) (hty : parseFieldDescriptor d = some ty) (hn : narrow ty v = v) (hf : fits ty v = true) (hd : decode c.code pc = .ok (.putfield index, 3))
    (k : ∀ T' h', Stand p l e R s m args below meth c T' (locs ++ [⟨a, Jvm.RoadKit.slotOf Z O n d⟩]) cells slots → T'.heap = h' → Wr h h' a (Jvm.RoadKit.slotOf Z O n d) v → Go p e below P (T'.setTop (mkF m (pc + 3) Ls st))) : Go p e below P (T.setTop (mkF m pc Ls (v :: .ref a :: st))) := by
  obtain ⟨T', h', X', e', W, stp⟩ := putF X hx hZ hown (host := "") (Or.inl w) Via.refl eT F E L wi hty hn hf (g := mkF m pc Ls (v :: .ref a :: st)) rfl rfl hd
  exact (k T' h' X' e' W).by stp
theorem g_newP (X : Stand p l e R s m args below meth c T locs cells slots) (hx : p.tables.exec = Jvm.exec) (hZ : Z.Warmed39 s.vm) {aty : ArrayType} {ty : FieldType} (hty : newarray.typeOf aty = ty) (w : (Cond.arrayClass ty).before a0 Z = true) (eT : T.heap = h) (hd : decode c.code pc = .ok (.newarray aty, 2)) {n : Int32} (hn : ¬ n < 0) {cap : Nat} (hcap : n.toNatClampNeg ≤ cap) (hb : cap * 8 ≤ 536870912) (hc : cells + 1 ≤ R.cells) (hl : slots + cap ≤ R.slots)
    (k : ∀ T' h' a cA, a = h.size → Stand p l e R s m args below meth c T' locs (cells + 1) (slots + cap) → T'.heap = h' → Ext h h' → Arr Z h' a (newA cA ty n) ty → Go p e below P (T'.setTop (mkF m (pc + 2) Ls (.ref a :: st)))) : Go p e below P (T.setTop (mkF m pc Ls (.int n :: st))) := by
  subst hty
  obtain ⟨T', h', cA, X', e', E, A, stp⟩ := newP X hx hZ w eT (g := mkF m pc Ls (.int n :: st)) rfl hd rfl hn hcap hb hc hl
  exact (k T' h' _ cA rfl X' e' E A).by stp
theorem fld_any {C O O' n n' d d' : String} {v : Value} {a : Addr} {kk : Nat} (E : Exa Z h a C) (F : Fld Z h a O n d v) (wi : (Cond.instantiable C kk).before a0 Z = true) (L : Laid Z a0 C O' n' d') : ∃ w, Fld Z h a O' n' d' w := by
  obtain ⟨cell, k, h1, h2, h3, h4, h5⟩ := E
  obtain ⟨cell', cf, k', i, f, g1, g2, g3, g4, g5, g6, g7⟩ := F
  cases h1.symm.trans g1
  obtain ⟨c1, k1, cf1, kf1, i1, f1, l1, l2, l3, l4, l5, l6, -⟩ := L.spec
  obtain ⟨c2, k2, j1, j2, j3, -⟩ := Cond.instantiable_spec wi
  cases h2.symm.trans l1
  cases h3.symm.trans l2
  cases l1.symm.trans j1
  cases h3.symm.trans j2
  have hsz := h5 j3
  obtain ⟨hlt, -⟩ := Array.getElem?_eq_some_iff.mp l6
  exact ⟨_, cell, cf1, kf1, i1, f1, g1, l3, l4, g4, g5, l5, Array.getElem?_eq_getElem (by rw [hsz]; exact hlt)⟩
/-- an array by a function of the place -/
def Av (Z : State) (h : Heap) (a : Addr) (ty : FieldType) (n : Nat) (f : Nat → Value) : Prop := ∃ cl : Cell, Arr Z h a cl ty ∧ cl.slots.size = n ∧ ∀ i, i < n → cl.slots[i]? = some (f i)
theorem Av.lt {a : Addr} {ty : FieldType} {n : Nat} {f : Nat → Value} (F : Av Z h a ty n f) : a < h.size := by obtain ⟨cl, A, -⟩ := F; exact A.lt
theorem Av.ext {h' : Heap} {a : Addr} {ty : FieldType} {n : Nat} {f : Nat → Value} (F : Av Z h a ty n f) (E : Ext h h') : Av Z h' a ty n f := by obtain ⟨cl, A, B⟩ := F; exact ⟨cl, A.ext E, B⟩
theorem Av.other {h' : Heap} {a b : Addr} {sl : Nat} {v : Value} {ty : FieldType} {n : Nat} {f : Nat → Value} (F : Av Z h b ty n f) (W : Wr h h' a sl v) (q : b ≠ a) : Av Z h' b ty n f := by obtain ⟨cl, A, B⟩ := F; exact ⟨cl, A.other W q, B⟩
theorem Av.keep {h' : Heap} {a : Addr} {ws : List Addr} {ty : FieldType} {n : Nat} {f : Nat → Value} (F : Av Z h a ty n f) (K : Keep h h' ws) (q : a ∉ ws) : Av Z h' a ty n f := by obtain ⟨cl, A, B⟩ := F; exact ⟨cl, ⟨K.2.1 a cl A.1 q, A.2⟩, B⟩
theorem Av.new {a : Addr} {cA : ClassId} {ty : FieldType} {n : Int32} (A : Arr Z h a (newA cA ty n) ty) : Av Z h a ty n.toNatClampNeg (fun _ => defaultValue ty) := ⟨_, A, sz_new _ _ _, fun i hi => by simp [newA, hi]⟩
theorem Av.newK {a : Addr} {cA : ClassId} {ty : FieldType} {n : Int32} {k : Nat} (A : Arr Z h a (newA cA ty n) ty) (hk : n.toNatClampNeg = k) : Av Z h a ty k (fun _ => defaultValue ty) := hk ▸ Av.new A
theorem Av.congr {a : Addr} {ty : FieldType} {n : Nat} {f f' : Nat → Value} (F : Av Z h a ty n f) (q : ∀ i, i < n → f i = f' i) : Av Z h a ty n f' := by obtain ⟨cl, A, B, C⟩ := F; exact ⟨cl, A, B, fun i hi => by rw [C i hi, q i hi]⟩
theorem Av.same {h' : Heap} {a : Addr} {i : Nat} {v : Value} {ty : FieldType} {n : Nat} {f : Nat → Value} (F : Av Z h a ty n f) (W : Wr h h' a i v) : Av Z h' a ty n (fun j => if j = i then v else f j) := by
  obtain ⟨cl, A, B, C⟩ := F
  refine ⟨_, A.same W, by rw [sz_set]; exact B, fun j hj => ?_⟩
  obtain ⟨cb, hb1, -, -, -, -, hb2, hb3⟩ := wr_at W A.1
  have e1 := (A.same W).1
  have e2 : cb = cl.setSlot i v := Option.some.inj (hb1.symm.trans e1)
  by_cases q : j = i
  · subst q; rw [← e2, (hb3 rfl).2.1]; simp
  · rw [← e2, hb2 j q, C j hj]; simp [q]
theorem out_idx {j : Int32} {n : Nat} (h0 : 0 ≤ j.toInt) (h1 : j.toInt < n) : ¬ (j < 0 ∨ n ≤ j.toNatClampNeg) := by
  have e : (j.toNatClampNeg : Int) = j.toInt := by rw [Int32.toNatClampNeg]; omega
  intro q
  rcases q with q | q
  · have := Int32.lt_iff_toInt_lt.mp q; simp at this; omega
  · omega
theorem g_iaload (X : Stand p l e R s m args below meth c T locs cells slots) (hx : p.tables.exec = Jvm.exec) (hZ : Z.Warmed39 s.vm) (eT : T.heap = h) {a : Addr} {n : Nat} {f : Nat → Value} (F : Av Z h a .int n f) {j : Int32} {i : Nat} {v : Value} (hj0 : 0 ≤ j.toInt) (hj1 : j.toInt < n) (hi : j.toNatClampNeg = i) (hv : f i = v) (hd : decode c.code pc = .ok (.iaload, 1)) (q : Go p e below P (T.setTop (mkF m (pc + 1) Ls (v :: st)))) : Go p e below P (T.setTop (mkF m pc Ls (.int j :: .ref a :: st))) := by
  obtain ⟨cl, A, B, C⟩ := F
  have hin := out_idx hj0 hj1
  subst hi hv
  exact q.by fun t r => X.iaload hx (by rw [eT]; exact A.1) (State.isArrayOf_alike hZ.alike A.2.1) A.2.2 (by rw [B]; exact hin) (C _ (by omega)) (g := mkF m pc Ls (.int j :: .ref a :: st)) rfl rfl hd t r
theorem g_laload (X : Stand p l e R s m args below meth c T locs cells slots) (hx : p.tables.exec = Jvm.exec) (hZ : Z.Warmed39 s.vm) (eT : T.heap = h) {a : Addr} {n : Nat} {f : Nat → Value} (F : Av Z h a .long n f) {j : Int32} {i : Nat} {v : Value} (hj0 : 0 ≤ j.toInt) (hj1 : j.toInt < n) (hi : j.toNatClampNeg = i) (hv : f i = v) (hd : decode c.code pc = .ok (.laload, 1)) (q : Go p e below P (T.setTop (mkF m (pc + 1) Ls (v :: st)))) : Go p e below P (T.setTop (mkF m pc Ls (.int j :: .ref a :: st))) := by
  obtain ⟨cl, A, B, C⟩ := F
  have hin := out_idx hj0 hj1
  subst hi hv
  exact q.by fun t r => X.laload hx (by rw [eT]; exact A.1) (State.isArrayOf_alike hZ.alike A.2.1) A.2.2 (by rw [B]; exact hin) (C _ (by omega)) (g := mkF m pc Ls (.int j :: .ref a :: st)) rfl rfl hd t r
theorem g_daload (X : Stand p l e R s m args below meth c T locs cells slots) (hx : p.tables.exec = Jvm.exec) (hZ : Z.Warmed39 s.vm) (eT : T.heap = h) {a : Addr} {n : Nat} {f : Nat → Value} (F : Av Z h a .double n f) {j : Int32} {i : Nat} {v : Value} (hj0 : 0 ≤ j.toInt) (hj1 : j.toInt < n) (hi : j.toNatClampNeg = i) (hv : f i = v) (hd : decode c.code pc = .ok (.daload, 1)) (q : Go p e below P (T.setTop (mkF m (pc + 1) Ls (v :: st)))) : Go p e below P (T.setTop (mkF m pc Ls (.int j :: .ref a :: st))) := by
  obtain ⟨cl, A, B, C⟩ := F
  have hin := out_idx hj0 hj1
  subst hi hv
  exact q.by fun t r => X.daload hx (by rw [eT]; exact A.1) (State.isArrayOf_alike hZ.alike A.2.1) A.2.2 (by rw [B]; exact hin) (C _ (by omega)) (g := mkF m pc Ls (.int j :: .ref a :: st)) rfl rfl hd t r
theorem g_caload (X : Stand p l e R s m args below meth c T locs cells slots) (hx : p.tables.exec = Jvm.exec) (hZ : Z.Warmed39 s.vm) (eT : T.heap = h) {a : Addr} {n : Nat} {f : Nat → Value} (F : Av Z h a .char n f) {j : Int32} {i : Nat} {v : Value} (hj0 : 0 ≤ j.toInt) (hj1 : j.toInt < n) (hi : j.toNatClampNeg = i) (hv : f i = v) (hd : decode c.code pc = .ok (.caload, 1)) (q : Go p e below P (T.setTop (mkF m (pc + 1) Ls (v :: st)))) : Go p e below P (T.setTop (mkF m pc Ls (.int j :: .ref a :: st))) := by
  obtain ⟨cl, A, B, C⟩ := F
  have hin := out_idx hj0 hj1
  subst hi hv
  exact q.by fun t r => X.caload hx (by rw [eT]; exact A.1) (State.isArrayOf_alike hZ.alike A.2.1) A.2.2 (by rw [B]; exact hin) (C _ (by omega)) (g := mkF m pc Ls (.int j :: .ref a :: st)) rfl rfl hd t r
theorem g_baloadB (X : Stand p l e R s m args below meth c T locs cells slots) (hx : p.tables.exec = Jvm.exec) (hZ : Z.Warmed39 s.vm) (eT : T.heap = h) {a : Addr} {n : Nat} {f : Nat → Value} (F : Av Z h a .byte n f) {j : Int32} {i : Nat} {v : Value} (hj0 : 0 ≤ j.toInt) (hj1 : j.toInt < n) (hi : j.toNatClampNeg = i) (hv : f i = v) (hd : decode c.code pc = .ok (.baload, 1)) (q : Go p e below P (T.setTop (mkF m (pc + 1) Ls (v :: st)))) : Go p e below P (T.setTop (mkF m pc Ls (.int j :: .ref a :: st))) := by
  obtain ⟨cl, A, B, C⟩ := F
  have hin := out_idx hj0 hj1
  subst hi hv
  exact q.by fun t r => X.baloadBytes hx (by rw [eT]; exact A.1) (State.isArrayOf_alike hZ.alike A.2.1) A.2.2 (by rw [B]; exact hin) (C _ (by omega)) (g := mkF m pc Ls (.int j :: .ref a :: st)) rfl rfl hd t r
theorem g_baloadZ (X : Stand p l e R s m args below meth c T locs cells slots) (hx : p.tables.exec = Jvm.exec) (hZ : Z.Warmed39 s.vm) (eT : T.heap = h) {a : Addr} {n : Nat} {f : Nat → Value} (F : Av Z h a .boolean n f) {j : Int32} {i : Nat} {v : Value} (hj0 : 0 ≤ j.toInt) (hj1 : j.toInt < n) (hi : j.toNatClampNeg = i) (hv : f i = v) (hd : decode c.code pc = .ok (.baload, 1)) (q : Go p e below P (T.setTop (mkF m (pc + 1) Ls (v :: st)))) : Go p e below P (T.setTop (mkF m pc Ls (.int j :: .ref a :: st))) := by
  obtain ⟨cl, A, B, C⟩ := F
  have hin := out_idx hj0 hj1
  subst hi hv
  exact q.by fun t r => X.baloadBooleans hx (by rw [eT]; exact A.1) (State.isArrayOf_alike hZ.alike A.2.1) A.2.2 (by rw [B]; exact hin) (C _ (by omega)) (g := mkF m pc Ls (.int j :: .ref a :: st)) rfl rfl hd t r
theorem g_iastore (X : Stand p l e R s m args below meth c T locs cells slots) (hx : p.tables.exec = Jvm.exec) (hZ : Z.Warmed39 s.vm) (eT : T.heap = h) {a : Addr} {n : Nat} {f : Nat → Value} (F : Av Z h a .int n f) {j : Int32} {i : Nat} {x : Int32} (hj0 : 0 ≤ j.toInt) (hj1 : j.toInt < n) (hi : j.toNatClampNeg = i) (hd : decode c.code pc = .ok (.iastore, 1))
    (k : ∀ T' h', Stand p l e R s m args below meth c T' (locs ++ [⟨a, i⟩]) cells slots → T'.heap = h' → Wr h h' a i (.int x) → Go p e below P (T'.setTop (mkF m (pc + 1) Ls st))) : Go p e below P (T.setTop (mkF m pc Ls (.int x :: .int j :: .ref a :: st))) := by
  obtain ⟨cl, A, B, C⟩ := F
  have hin := out_idx hj0 hj1
  subst hi
  obtain ⟨T', h', X', e', W, stp⟩ := stI X hx hZ eT A (x := x) (by rw [B]; exact hin) (g := mkF m pc Ls (.int x :: .int j :: .ref a :: st)) rfl rfl hd
  exact (k T' h' X' e' W).by stp
theorem g_lastore (X : Stand p l e R s m args below meth c T locs cells slots) (hx : p.tables.exec = Jvm.exec) (hZ : Z.Warmed39 s.vm) (eT : T.heap = h) {a : Addr} {n : Nat} {f : Nat → Value} (F : Av Z h a .long n f) {j : Int32} {i : Nat} {x : Int64} (hj0 : 0 ≤ j.toInt) (hj1 : j.toInt < n) (hi : j.toNatClampNeg = i) (hd : decode c.code pc = .ok (.lastore, 1))
    (k : ∀ T' h', Stand p l e R s m args below meth c T' (locs ++ [⟨a, i⟩]) cells slots → T'.heap = h' → Wr h h' a i (.long x) → Go p e below P (T'.setTop (mkF m (pc + 1) Ls st))) : Go p e below P (T.setTop (mkF m pc Ls (.long x :: .int j :: .ref a :: st))) := by
  obtain ⟨cl, A, B, C⟩ := F
  have hin := out_idx hj0 hj1
  subst hi
  obtain ⟨T', h', X', e', W, stp⟩ := stJ X hx hZ eT A (x := x) (by rw [B]; exact hin) (g := mkF m pc Ls (.long x :: .int j :: .ref a :: st)) rfl rfl hd
  exact (k T' h' X' e' W).by stp
theorem g_dastore (X : Stand p l e R s m args below meth c T locs cells slots) (hx : p.tables.exec = Jvm.exec) (hZ : Z.Warmed39 s.vm) (eT : T.heap = h) {a : Addr} {n : Nat} {f : Nat → Value} (F : Av Z h a .double n f) {j : Int32} {i : Nat} {x : UInt64} (hj0 : 0 ≤ j.toInt) (hj1 : j.toInt < n) (hi : j.toNatClampNeg = i) (hd : decode c.code pc = .ok (.dastore, 1))
    (k : ∀ T' h', Stand p l e R s m args below meth c T' (locs ++ [⟨a, i⟩]) cells slots → T'.heap = h' → Wr h h' a i (.double x) → Go p e below P (T'.setTop (mkF m (pc + 1) Ls st))) : Go p e below P (T.setTop (mkF m pc Ls (.double x :: .int j :: .ref a :: st))) := by
  obtain ⟨cl, A, B, C⟩ := F
  have hin := out_idx hj0 hj1
  subst hi
  obtain ⟨T', h', X', e', W, stp⟩ := stD X hx hZ eT A (x := x) (by rw [B]; exact hin) (g := mkF m pc Ls (.double x :: .int j :: .ref a :: st)) rfl rfl hd
  exact (k T' h' X' e' W).by stp
theorem g_castore (X : Stand p l e R s m args below meth c T locs cells slots) (hx : p.tables.exec = Jvm.exec) (hZ : Z.Warmed39 s.vm) (eT : T.heap = h) {a : Addr} {n : Nat} {f : Nat → Value} (F : Av Z h a .char n f) {j : Int32} {i : Nat} {x : Int32} (hj0 : 0 ≤ j.toInt) (hj1 : j.toInt < n) (hi : j.toNatClampNeg = i) (hd : decode c.code pc = .ok (.castore, 1))
    (k : ∀ T' h', Stand p l e R s m args below meth c T' (locs ++ [⟨a, i⟩]) cells slots → T'.heap = h' → Wr h h' a i (.int (nar .char x)) → Go p e below P (T'.setTop (mkF m (pc + 1) Ls st))) : Go p e below P (T.setTop (mkF m pc Ls (.int x :: .int j :: .ref a :: st))) := by
  obtain ⟨cl, A, B, C⟩ := F
  have hin := out_idx hj0 hj1
  subst hi
  obtain ⟨T', h', X', e', W, stp⟩ := stC X hx hZ eT A (x := x) (by rw [B]; exact hin) (g := mkF m pc Ls (.int x :: .int j :: .ref a :: st)) rfl rfl hd
  exact (k T' h' X' e' W).by stp
theorem g_bastoreB (X : Stand p l e R s m args below meth c T locs cells slots) (hx : p.tables.exec = Jvm.exec) (hZ : Z.Warmed39 s.vm) (eT : T.heap = h) {a : Addr} {n : Nat} {f : Nat → Value} (F : Av Z h a .byte n f) {j : Int32} {i : Nat} {x : Int32} (hj0 : 0 ≤ j.toInt) (hj1 : j.toInt < n) (hi : j.toNatClampNeg = i) (hd : decode c.code pc = .ok (.bastore, 1))
    (k : ∀ T' h', Stand p l e R s m args below meth c T' (locs ++ [⟨a, i⟩]) cells slots → T'.heap = h' → Wr h h' a i (.int (nar .byte x)) → Go p e below P (T'.setTop (mkF m (pc + 1) Ls st))) : Go p e below P (T.setTop (mkF m pc Ls (.int x :: .int j :: .ref a :: st))) := by
  obtain ⟨cl, A, B, C⟩ := F
  have hin := out_idx hj0 hj1
  subst hi
  obtain ⟨T', h', X', e', W, stp⟩ := stB X hx hZ eT A (x := x) (by rw [B]; exact hin) (g := mkF m pc Ls (.int x :: .int j :: .ref a :: st)) rfl rfl hd
  exact (k T' h' X' e' W).by stp
theorem g_bastoreZ (X : Stand p l e R s m args below meth c T locs cells slots) (hx : p.tables.exec = Jvm.exec) (hZ : Z.Warmed39 s.vm) (eT : T.heap = h) {a : Addr} {n : Nat} {f : Nat → Value} (F : Av Z h a .boolean n f) {j : Int32} {i : Nat} {x : Int32} (hj0 : 0 ≤ j.toInt) (hj1 : j.toInt < n) (hi : j.toNatClampNeg = i) (hd : decode c.code pc = .ok (.bastore, 1))
    (k : ∀ T' h', Stand p l e R s m args below meth c T' (locs ++ [⟨a, i⟩]) cells slots → T'.heap = h' → Wr h h' a i (.int (nar .boolean x)) → Go p e below P (T'.setTop (mkF m (pc + 1) Ls st))) : Go p e below P (T.setTop (mkF m pc Ls (.int x :: .int j :: .ref a :: st))) := by
  obtain ⟨cl, A, B, C⟩ := F
  have hin := out_idx hj0 hj1
  subst hi
  obtain ⟨T', h', X', e', W, stp⟩ := stZ X hx hZ eT A (x := x) (by rw [B]; exact hin) (g := mkF m pc Ls (.int x :: .int j :: .ref a :: st)) rfl rfl hd
  exact (k T' h' X' e' W).by stp
theorem g_arraylength (X : Stand p l e R s m args below meth c T locs cells slots) (hx : p.tables.exec = Jvm.exec) (hZ : Z.Warmed39 s.vm) (eT : T.heap = h) {a : Addr} {ty : FieldType} {n : Nat} {f : Nat → Value} (F : Av Z h a ty n f) {v : Int32} (hv : n.toInt32 = v) (hd : decode c.code pc = .ok (.arraylength, 1)) (q : Go p e below P (T.setTop (mkF m (pc + 1) Ls (.int v :: st)))) : Go p e below P (T.setTop (mkF m pc Ls (.ref a :: st))) := by
  obtain ⟨cl, A, B, C⟩ := F
  subst hv B
  exact q.by fun t r => X.arraylength hx (by rw [eT]; exact A.1) (State.isArrayOf_alike hZ.alike A.2.1) (g := mkF m pc Ls (.ref a :: st)) rfl rfl hd t r
theorem cv_g_lt (r : Option Ordering) : cmpValue r .g < 0 ↔ r = some .lt := by rcases r with _ | (_ | _ | _) <;> decide
theorem cv_g_gt (r : Option Ordering) : 0 < cmpValue r .g ↔ (r = some .gt ∨ r = none) := by rcases r with _ | (_ | _ | _) <;> decide
theorem cv_l_lt (r : Option Ordering) : cmpValue r .l < 0 ↔ (r = some .lt ∨ r = none) := by rcases r with _ | (_ | _ | _) <;> decide
theorem cv_l_gt (r : Option Ordering) : 0 < cmpValue r .l ↔ r = some .gt := by rcases r with _ | (_ | _ | _) <;> decide
theorem cv_g_eq (r : Option Ordering) : cmpValue r .g = 0 ↔ r = some .eq := by rcases r with _ | (_ | _ | _) <;> decide
theorem cv_l_eq (r : Option Ordering) : cmpValue r .l = 0 ↔ r = some .eq := by rcases r with _ | (_ | _ | _) <;> decide
end OwnKit

theorem own_cmp (a b : Int32) : FP.dcmp (FP.i2d a) (FP.i2d b) = some (compare a.toInt b.toInt) := FP.Core.dcmp_int (FP.Core.i2d_int a) (FP.Core.i2d_int b)
theorem own_gt (a b : Int32) : (FP.dcmp (FP.i2d a) (FP.i2d b) = some .gt ∨ FP.dcmp (FP.i2d a) (FP.i2d b) = none) ↔ b.toInt < a.toInt := by
  rw [own_cmp]
  simp only [Option.some.injEq, reduceCtorEq, or_false]
  exact FP.Core.compare_gt_iff _ _
/-- the boundaries as a function of the place -/
def own_b (c0 c1 c2 c3 c4 c5 : Int32) (k : Nat) : Int32 := if k = 0 then c0 else if k = 1 then c1 else if k = 2 then c2 else if k = 3 then c3 else if k = 4 then c4 else c5
theorem own_mid {lo hi s m : Int32} (h : 0 ≤ lo.toInt ∧ lo.toInt < hi.toInt ∧ hi.toInt ≤ 4) (h1 : lo + hi = s) {t : Int32} (h2 : s + 1 = t) (h3 : (t.toUInt32 >>> ((1 : Int32) &&& 31).toUInt32).toInt32 = m) : m.toInt = (lo.toInt + hi.toInt + 1) / 2 := by
  have a := c_iadd lo hi; rw [h1] at a
  have b := c_iadd s 1; rw [h2] at b
  have d := c_iushr t 1 1 (by decide) (by decide); rw [h3] at d
  have z : (1 : Int32).toInt = 1 := rfl
  have r1 := rng32 s
  have r2 := rng32 t
  omega
theorem own_lt2 {k : Nat} (h : k < 2) : k = 0 ∨ k = 1 := by omega
theorem own_lt3 {k : Nat} (h : k < 3) : k = 0 ∨ k = 1 ∨ k = 2 := by omega
theorem own_lt4 {k : Nat} (h : k < 4) : k = 0 ∨ k = 1 ∨ k = 2 ∨ k = 3 := by omega
theorem own_lt5 {k : Nat} (h : k < 5) : k = 0 ∨ k = 1 ∨ k = 2 ∨ k = 3 ∨ k = 4 := by omega
theorem own_lt6 {k : Nat} (h : k < 6) : k = 0 ∨ k = 1 ∨ k = 2 ∨ k = 3 ∨ k = 4 ∨ k = 5 := by omega
theorem d1_0 : decode prog_29_method_2_code 0 = .ok (.iconst 0, 1) := by decide +kernel
theorem d1_1 : decode prog_29_method_2_code 1 = .ok (.istore_n 3, 1) := by decide +kernel
theorem d1_2 : decode prog_29_method_2_code 2 = .ok (.aload_n 0, 1) := by decide +kernel
theorem d1_3 : decode prog_29_method_2_code 3 = .ok (.arraylength, 1) := by decide +kernel
theorem d1_4 : decode prog_29_method_2_code 4 = .ok (.iconst 2, 1) := by decide +kernel
theorem d1_5 : decode prog_29_method_2_code 5 = .ok (.isub, 1) := by decide +kernel
theorem d1_6 : decode prog_29_method_2_code 6 = .ok (.istore 4, 2) := by decide +kernel
theorem d1_8 : decode prog_29_method_2_code 8 = .ok (.iload_n 3, 1) := by decide +kernel
theorem d1_9 : decode prog_29_method_2_code 9 = .ok (.iload 4, 2) := by decide +kernel
theorem d1_11 : decode prog_29_method_2_code 11 = .ok (.if_icmp .ge 37, 3) := by decide +kernel
theorem d1_14 : decode prog_29_method_2_code 14 = .ok (.iload_n 3, 1) := by decide +kernel
theorem d1_15 : decode prog_29_method_2_code 15 = .ok (.iload 4, 2) := by decide +kernel
theorem d1_17 : decode prog_29_method_2_code 17 = .ok (.iadd, 1) := by decide +kernel
theorem d1_18 : decode prog_29_method_2_code 18 = .ok (.iconst 1, 1) := by decide +kernel
theorem d1_19 : decode prog_29_method_2_code 19 = .ok (.iadd, 1) := by decide +kernel
theorem d1_20 : decode prog_29_method_2_code 20 = .ok (.iconst 1, 1) := by decide +kernel
theorem d1_21 : decode prog_29_method_2_code 21 = .ok (.iushr, 1) := by decide +kernel
theorem d1_22 : decode prog_29_method_2_code 22 = .ok (.istore 5, 2) := by decide +kernel
theorem d1_24 : decode prog_29_method_2_code 24 = .ok (.aload_n 0, 1) := by decide +kernel
theorem d1_25 : decode prog_29_method_2_code 25 = .ok (.iload 5, 2) := by decide +kernel
theorem d1_27 : decode prog_29_method_2_code 27 = .ok (.daload, 1) := by decide +kernel
theorem d1_28 : decode prog_29_method_2_code 28 = .ok (.dload_n 1, 1) := by decide +kernel
theorem d1_29 : decode prog_29_method_2_code 29 = .ok (.dcmp .g, 1) := by decide +kernel
theorem d1_30 : decode prog_29_method_2_code 30 = .ok (.ifCond .gt 9, 3) := by decide +kernel
theorem d1_33 : decode prog_29_method_2_code 33 = .ok (.iload 5, 2) := by decide +kernel
theorem d1_35 : decode prog_29_method_2_code 35 = .ok (.istore_n 3, 1) := by decide +kernel
theorem d1_36 : decode prog_29_method_2_code 36 = .ok (.goto 9, 3) := by decide +kernel
theorem d1_39 : decode prog_29_method_2_code 39 = .ok (.iload 5, 2) := by decide +kernel
theorem d1_41 : decode prog_29_method_2_code 41 = .ok (.iconst 1, 1) := by decide +kernel
theorem d1_42 : decode prog_29_method_2_code 42 = .ok (.isub, 1) := by decide +kernel
theorem d1_43 : decode prog_29_method_2_code 43 = .ok (.istore 4, 2) := by decide +kernel
theorem d1_45 : decode prog_29_method_2_code 45 = .ok (.goto (-37), 3) := by decide +kernel
theorem d1_48 : decode prog_29_method_2_code 48 = .ok (.iload_n 3, 1) := by decide +kernel
theorem d1_49 : decode prog_29_method_2_code 49 = .ok (.ireturn, 1) := by decide +kernel
theorem pn1 : plainName "com/example/choreon/choreon/Intervals" = true := by first | (simp [plainName, overriddenIn]; done) | decide +kernel
theorem ef1 (m : MethodId) (z0 : Addr) (z1 : UInt64) : entryFrame m #[(.ref z0), (.double z1)] 6 = mkF m 0 #[.val (.ref z0), .val (.double z1), .second, .unset, .unset, .unset] [] := by first | (simp [entryFrame, mkF, argsToLocals, Value.category]; done) | rfl
def Q1 (Z : State) (q1 : Addr) (q : Int32) (nn : Nat) (b : Nat → Int32) (h0 : Heap) (n0 : Nat) (v : Option Value) (h : Heap) (L : List Loc) : Prop := ∃ r : Int32, (v = some (.int r) ∧ 0 ≤ r.toInt ∧ r.toInt ≤ (nn : Int) - 2 ∧ (r.toInt = 0 ∨ (b r.toInt.toNat).toInt ≤ q.toInt) ∧ (r.toInt = (nn : Int) - 2 ∨ q.toInt < (b (r.toInt.toNat + 1)).toInt)) ∧ Fr n0 L ∧ h = h0
set_option maxRecDepth 65536 in
set_option maxHeartbeats 40000000 in
theorem rm1 (l : Launch) (Z : State) (a0 : Array Value) (hw : ∀ d ∈ tables_1, d.before a0 Z = true) (ws : List Jvm.Cond) (q1 : Addr) (q : Int32) (nn : Nat) (b : Nat → Int32) (h0 : Heap) (n0 : Nat) (Z0 : n0 ≤ h0.size) {nl : Int32} (hlen : nn.toInt32 = nl) (hnl : nl.toInt = nn) (hn : 2 ≤ nn ∧ nn ≤ 6) {f : Nat → Value} (F0 : Av Z h0 q1 .double nn f) (hf : ∀ k, k < nn → f k = .double (FP.i2d (b k))) :
    MetFree l (⟨"com/example/choreon/choreon/Intervals", "indexAt", "([DD)I"⟩ : MethodName) (head1 (Jvm.Cond.code (⟨"com/example/choreon/choreon/Intervals", "indexAt", "([DD)I"⟩ : MethodName) prog_29_method_2_code 6 (Option.some Jvm.ClassFile.FieldType.int) :: ws) ({ frames := 0, cells := 0, slots := 0, locals := 0 } : Room)) (fun a U => a = #[(.ref q1), (.double (FP.i2d q))] ∧ Z.Warmed39 U.vm ∧ U.heap = h0) (fun _ _ _ _ _ => True) (fun _ U o U' => ∃ v L, o = .returned v ∧ Q1 Z q1 q nn b h0 n0 v U'.heap L ∧ FrameEnd U o U' L ({ frames := 0, cells := 0, slots := 0, locals := 0 } : Room).cells ({ frames := 0, cells := 0, slots := 0, locals := 0 } : Room).slots) := by
  refine MetFree.of_bodySF (plainFor_of_name pn1) hisR ?_
  intro p e s m args below meth c s₁ Bd hml0 hP hK
  obtain ⟨rfl, hZ, hh⟩ := hP
  have hx := Bd.exec
  have hby := Bd.bytes
  have hml : c.maxLocals = 6 := hml0
  have hown : s.vm.findClass "com/example/choreon/choreon/Intervals" = some m.cls := findClass_of_methodNamed Bd.named
  have hnm := (name_of_methodNamed Bd.named Bd.method).1
  have X0 : Stand p l e ({ frames := 0, cells := 0, slots := 0, locals := 0 } : Room) s m #[(.ref q1), (.double (FP.i2d q))] below meth c s₁ [] 0 0 := Stand.of_body Bd
  have e0 : s₁.heap = h0 := by rw [← hh, Bd.state]; rfl
  have N0 := Fr.nil n0
  show Go p e below (Ret s (Q1 Z q1 q nn b h0 n0) ({ frames := 0, cells := 0, slots := 0, locals := 0 } : Room).cells ({ frames := 0, cells := 0, slots := 0, locals := 0 } : Room).slots) (s₁.setTop (entryFrame m #[(.ref q1), (.double (FP.i2d q))] 6))
  rw [ef1 m q1 (FP.i2d q)]
  refine g_iconst X0 hx (hb hby d1_0) (v := (0 : Int32)) (by decide) ?_
  refine g_istoreN X0 hx (hb hby d1_1) (L' := #[.val (.ref q1), .val (.double (FP.i2d q)), .second, .val (.int (0 : Int32)), .unset, .unset]) rfl ?_
  refine g_aloadN X0 hx (hb hby d1_2) rfl rfl ?_
  refine g_arraylength X0 hx hZ e0 F0 hlen (hb hby d1_3) ?_
  refine g_iconst X0 hx (hb hby d1_4) (v := (2 : Int32)) (by decide) ?_
  obtain ⟨i1, hi1⟩ : ∃ v : Int32, nl - (2 : Int32) = v := ⟨_, rfl⟩
  refine g_isub X0 hx (hb hby d1_5) hi1 ?_
  have t_hi : i1.toInt = (nn : Int) - 2 := by
    have a := c_isub nl 2; rw [hi1] at a
    have z : (2 : Int32).toInt = 2 := rfl
    have := rng32 i1
    omega
  refine g_istore X0 hx (hb hby d1_6) (L' := #[.val (.ref q1), .val (.double (FP.i2d q)), .second, .val (.int (0 : Int32)), .val (.int i1), .unset]) rfl ?_
  have L8 : ∀ (N : Nat) (lo : Int32) (hi : Int32) (md : Int32), (hi.toInt - lo.toInt).toNat ≤ N ∧ 0 ≤ lo.toInt ∧ lo.toInt ≤ hi.toInt ∧ hi.toInt ≤ (nn : Int) - 2 ∧ (lo.toInt = 0 ∨ (b lo.toInt.toNat).toInt ≤ q.toInt) ∧ (hi.toInt = (nn : Int) - 2 ∨ q.toInt < (b (hi.toInt.toNat + 1)).toInt) → Go p e below (Ret s (Q1 Z q1 q nn b h0 n0) ({ frames := 0, cells := 0, slots := 0, locals := 0 } : Room).cells ({ frames := 0, cells := 0, slots := 0, locals := 0 } : Room).slots) (s₁.setTop (mkF m 8 #[.val (.ref q1), .val (.double (FP.i2d q)), .second, .val (.int lo), .val (.int hi), .val (.int md)] [])) := by
    intro N
    induction N using Nat.strongRecOn with
    | ind N ih =>
      intro lo hi md hL8
      refine g_iloadN X0 hx (hb hby d1_8) rfl ?_
      refine g_iload X0 hx (hb hby d1_9) rfl ?_
      by_cases hc11_2 : lo < hi
      ·
        refine g_icmpNo X0 hx (hb hby d1_11) (tlt hc11_2).2.1 ?_
        refine g_iloadN X0 hx (hb hby d1_14) rfl ?_
        refine g_iload X0 hx (hb hby d1_15) rfl ?_
        obtain ⟨i3, hi3⟩ : ∃ v : Int32, lo + hi = v := ⟨_, rfl⟩
        refine g_iadd X0 hx (hb hby d1_17) hi3 ?_
        refine g_iconst X0 hx (hb hby d1_18) (v := (1 : Int32)) (by decide) ?_
        obtain ⟨i4, hi4⟩ : ∃ v : Int32, i3 + (1 : Int32) = v := ⟨_, rfl⟩
        refine g_iadd X0 hx (hb hby d1_19) hi4 ?_
        refine g_iconst X0 hx (hb hby d1_20) (v := (1 : Int32)) (by decide) ?_
        obtain ⟨i5, hi5⟩ : ∃ v : Int32, (i4.toUInt32 >>> ((1 : Int32) &&& 31).toUInt32).toInt32 = v := ⟨_, rfl⟩
        refine g_iushr X0 hx (hb hby d1_21) hi5 ?_
        refine g_istore X0 hx (hb hby d1_22) (L' := #[.val (.ref q1), .val (.double (FP.i2d q)), .second, .val (.int lo), .val (.int hi), .val (.int i5)]) rfl ?_
        have t_i5 : i5.toInt = (lo.toInt + hi.toInt + 1) / 2 := own_mid ⟨hL8.2.1, (by have := Int32.lt_iff_toInt_lt.mp hc11_2; omega), (by omega)⟩ hi3 hi4 hi5
        have l_i5 := Int32.lt_iff_toInt_lt.mp hc11_2
        refine g_aloadN X0 hx (hb hby d1_24) rfl rfl ?_
        refine g_iload X0 hx (hb hby d1_25) rfl ?_
        refine g_daload X0 hx hZ e0 F0 (by omega) (by omega) (i := i5.toInt.toNat) rfl (hf _ (by omega)) (hb hby d1_27) ?_
        refine g_dloadN X0 hx (hb hby d1_28) rfl ?_
        refine g_dcmp X0 hx (hb hby d1_29) ?_
        by_cases hc30_6 : FP.dcmp (FP.i2d (b i5.toInt.toNat)) (FP.i2d q) = some .gt ∨ FP.dcmp (FP.i2d (b i5.toInt.toNat)) (FP.i2d q) = none
        ·
          refine g_ifYes X0 hx (hb hby d1_30) (tlt ((cv_g_gt _).mpr hc30_6)).2.2.1 (by decide) (pc' := 39) (by decide) ?_
          have g_i5 := (own_gt (b i5.toInt.toNat) q).mp hc30_6
          refine g_iload X0 hx (hb hby d1_39) rfl ?_
          refine g_iconst X0 hx (hb hby d1_41) (v := (1 : Int32)) (by decide) ?_
          obtain ⟨i7, hi7⟩ : ∃ v : Int32, i5 - (1 : Int32) = v := ⟨_, rfl⟩
          refine g_isub X0 hx (hb hby d1_42) hi7 ?_
          have t_i7 : i7.toInt = i5.toInt - 1 := by
            have a := c_isub i5 1; rw [hi7] at a
            have z : (1 : Int32).toInt = 1 := rfl
            have := rng32 i7
            omega
          refine g_istore X0 hx (hb hby d1_43) (L' := #[.val (.ref q1), .val (.double (FP.i2d q)), .second, .val (.int lo), .val (.int i7), .val (.int i5)]) rfl ?_
          refine g_goto X0 hx (hb hby d1_45) (by decide) (pc' := 8) (by decide) ?_
          exact ih (i7.toInt - lo.toInt).toNat (by skip; omega) lo i7 i5 (by
            refine ⟨by omega, by omega, by omega, by omega, hL8.2.2.2.2.1, Or.inr ?_⟩
            rw [show i7.toInt.toNat + 1 = i5.toInt.toNat from by omega]; exact g_i5)
        ·
          refine g_ifNo X0 hx (hb hby d1_30) (flt (fun q => hc30_6 ((cv_g_gt _).mp q))).2.2.1 ?_
          have g_i5 : ¬ (q.toInt < (b i5.toInt.toNat).toInt) := fun z => hc30_6 ((own_gt (b i5.toInt.toNat) q).mpr z)
          refine g_iload X0 hx (hb hby d1_33) rfl ?_
          refine g_istoreN X0 hx (hb hby d1_35) (L' := #[.val (.ref q1), .val (.double (FP.i2d q)), .second, .val (.int i5), .val (.int hi), .val (.int i5)]) rfl ?_
          refine g_goto X0 hx (hb hby d1_36) (by decide) (pc' := 45) (by decide) ?_
          refine g_goto X0 hx (hb hby d1_45) (by decide) (pc' := 8) (by decide) ?_
          exact ih (hi.toInt - i5.toInt).toNat (by skip; omega) i5 hi i5 (by
            refine ⟨by omega, by omega, by omega, by omega, Or.inr (by omega), hL8.2.2.2.2.2⟩)
      ·
        refine g_icmpYes X0 hx (hb hby d1_11) (flt hc11_2).2.1 (by decide) (pc' := 48) (by decide) ?_
        refine g_iloadN X0 hx (hb hby d1_48) rfl ?_
        refine g_ireturn X0 hx Bd.notSynchronized Bd.returns rfl (by simp) (hb hby d1_49) (by decide) (by decide) ?_
        have g : ¬ (lo.toInt < hi.toInt) := fun z => hc11_2 (Int32.lt_iff_toInt_lt.mpr z)
        exact ⟨_, ⟨rfl, by omega, by omega, hL8.2.2.2.2.1, by
          have e : lo.toInt = hi.toInt := by omega
          rw [e]; exact hL8.2.2.2.2.2⟩, N0, e0⟩
  refine g_iloadN X0 hx (hb hby d1_8) rfl ?_
  refine g_iload X0 hx (hb hby d1_9) rfl ?_
  by_cases hc11_8 : (0 : Int32) < i1
  ·
    refine g_icmpNo X0 hx (hb hby d1_11) (tlt hc11_8).2.1 ?_
    refine g_iloadN X0 hx (hb hby d1_14) rfl ?_
    refine g_iload X0 hx (hb hby d1_15) rfl ?_
    obtain ⟨i9, hi9⟩ : ∃ v : Int32, (0 : Int32) + i1 = v := ⟨_, rfl⟩
    refine g_iadd X0 hx (hb hby d1_17) hi9 ?_
    refine g_iconst X0 hx (hb hby d1_18) (v := (1 : Int32)) (by decide) ?_
    obtain ⟨i10, hi10⟩ : ∃ v : Int32, i9 + (1 : Int32) = v := ⟨_, rfl⟩
    refine g_iadd X0 hx (hb hby d1_19) hi10 ?_
    refine g_iconst X0 hx (hb hby d1_20) (v := (1 : Int32)) (by decide) ?_
    obtain ⟨i11, hi11⟩ : ∃ v : Int32, (i10.toUInt32 >>> ((1 : Int32) &&& 31).toUInt32).toInt32 = v := ⟨_, rfl⟩
    refine g_iushr X0 hx (hb hby d1_21) hi11 ?_
    refine g_istore X0 hx (hb hby d1_22) (L' := #[.val (.ref q1), .val (.double (FP.i2d q)), .second, .val (.int (0 : Int32)), .val (.int i1), .val (.int i11)]) rfl ?_
    have t_i11 : i11.toInt = ((0 : Int32).toInt + i1.toInt + 1) / 2 := own_mid ⟨(by decide), (by have := Int32.lt_iff_toInt_lt.mp hc11_8; omega), (by omega)⟩ hi9 hi10 hi11
    have l_i11 := Int32.lt_iff_toInt_lt.mp hc11_8
    have z_lo : (0 : Int32).toInt = 0 := rfl
    refine g_aloadN X0 hx (hb hby d1_24) rfl rfl ?_
    refine g_iload X0 hx (hb hby d1_25) rfl ?_
    refine g_daload X0 hx hZ e0 F0 (by omega) (by omega) (i := i11.toInt.toNat) rfl (hf _ (by omega)) (hb hby d1_27) ?_
    refine g_dloadN X0 hx (hb hby d1_28) rfl ?_
    refine g_dcmp X0 hx (hb hby d1_29) ?_
    by_cases hc30_12 : FP.dcmp (FP.i2d (b i11.toInt.toNat)) (FP.i2d q) = some .gt ∨ FP.dcmp (FP.i2d (b i11.toInt.toNat)) (FP.i2d q) = none
    ·
      refine g_ifYes X0 hx (hb hby d1_30) (tlt ((cv_g_gt _).mpr hc30_12)).2.2.1 (by decide) (pc' := 39) (by decide) ?_
      have g_i11 := (own_gt (b i11.toInt.toNat) q).mp hc30_12
      refine g_iload X0 hx (hb hby d1_39) rfl ?_
      refine g_iconst X0 hx (hb hby d1_41) (v := (1 : Int32)) (by decide) ?_
      obtain ⟨i13, hi13⟩ : ∃ v : Int32, i11 - (1 : Int32) = v := ⟨_, rfl⟩
      refine g_isub X0 hx (hb hby d1_42) hi13 ?_
      have t_i13 : i13.toInt = i11.toInt - 1 := by
        have a := c_isub i11 1; rw [hi13] at a
        have z : (1 : Int32).toInt = 1 := rfl
        have := rng32 i13
        omega
      refine g_istore X0 hx (hb hby d1_43) (L' := #[.val (.ref q1), .val (.double (FP.i2d q)), .second, .val (.int (0 : Int32)), .val (.int i13), .val (.int i11)]) rfl ?_
      refine g_goto X0 hx (hb hby d1_45) (by decide) (pc' := 8) (by decide) ?_
      exact L8 (i13.toInt - (0 : Int32).toInt).toNat (0 : Int32) i13 i11 (by
        refine ⟨by omega, by omega, by omega, by omega, Or.inl rfl, Or.inr ?_⟩
        rw [show i13.toInt.toNat + 1 = i11.toInt.toNat from by omega]; exact g_i11)
    ·
      refine g_ifNo X0 hx (hb hby d1_30) (flt (fun q => hc30_12 ((cv_g_gt _).mp q))).2.2.1 ?_
      have g_i11 : ¬ (q.toInt < (b i11.toInt.toNat).toInt) := fun z => hc30_12 ((own_gt (b i11.toInt.toNat) q).mpr z)
      refine g_iload X0 hx (hb hby d1_33) rfl ?_
      refine g_istoreN X0 hx (hb hby d1_35) (L' := #[.val (.ref q1), .val (.double (FP.i2d q)), .second, .val (.int i11), .val (.int i1), .val (.int i11)]) rfl ?_
      refine g_goto X0 hx (hb hby d1_36) (by decide) (pc' := 45) (by decide) ?_
      refine g_goto X0 hx (hb hby d1_45) (by decide) (pc' := 8) (by decide) ?_
      exact L8 (i1.toInt - i11.toInt).toNat i11 i1 i11 (by
        refine ⟨by omega, by omega, by omega, by omega, Or.inr (by omega), Or.inl (by omega)⟩)
  ·
    refine g_icmpYes X0 hx (hb hby d1_11) (flt hc11_8).2.1 (by decide) (pc' := 48) (by decide) ?_
    refine g_iloadN X0 hx (hb hby d1_48) rfl ?_
    refine g_ireturn X0 hx Bd.notSynchronized Bd.returns rfl (by simp) (hb hby d1_49) (by decide) (by decide) ?_
    have g : ¬ ((0 : Int32).toInt < i1.toInt) := fun z => hc11_8 (Int32.lt_iff_toInt_lt.mpr z)
    have z_lo : (0 : Int32).toInt = 0 := rfl
    exact ⟨_, ⟨rfl, by omega, by omega, Or.inl rfl, Or.inl (by omega)⟩, N0, e0⟩
theorem pn0 : plainName "com/example/choreon/choreon/IntervalsIndexAtPinLaw" = true := by first | (simp [plainName, overriddenIn]; done) | decide +kernel
theorem pd0_0 : parseMethodDescriptor "([DD)I" = some ⟨[(.array .double), .double], some .int⟩ := by decide +kernel
theorem ef0 (m : MethodId) (z0 : Int32) (z1 : Int32) (z2 : Int32) (z3 : Int32) : entryFrame m #[(.int z0), (.int z1), (.int z2), (.int z3)] maxLocals = mkF m 0 #[.val (.int z0), .val (.int z1), .val (.int z2), .val (.int z3), .unset, .unset, .unset, .unset, .unset, .unset, .unset, .unset, .unset, .unset, .unset, .unset] [] := by first | (simp [entryFrame, mkF, argsToLocals, Value.category, maxLocals]; done) | rfl
def Q0 (Z : State) (q0 : Int32) (q1 : Int32) (q2 : Int32) (q3 : Int32) (h0 : Heap) (n0 : Nat) (v : Option Value) (h : Heap) (L : List Loc) : Prop := v = some (.int 1) ∧ Fr n0 L
set_option maxRecDepth 65536 in
set_option maxHeartbeats 40000000 in
theorem rm0 (l : Launch) (Z : State) (a0 : Array Value) (hw : ∀ d ∈ tables_1, d.before a0 Z = true) (ws : List Jvm.Cond) (q0 : Int32) (q1 : Int32) (q2 : Int32) (q3 : Int32) (h0 : Heap) (n0 : Nat) (Z0 : n0 ≤ h0.size)  :
    MetFree l x (head1 (Jvm.Cond.code x code maxLocals ret :: ws) room_1) (fun a U => a = #[(.int q0), (.int q1), (.int q2), (.int q3)] ∧ Z.Warmed39 U.vm ∧ U.heap = h0) (fun _ _ _ _ _ => True) (fun _ U o U' => ∃ v L, o = .returned v ∧ Q0 Z q0 q1 q2 q3 h0 n0 v U'.heap L ∧ FrameEnd U o U' L 16 128) := by
  refine MetFree.of_bodySF (plainFor_of_name pn0) hisR ?_
  intro p e s m args below meth c s₁ Bd hml0 hP hK
  obtain ⟨rfl, hZ, hh⟩ := hP
  have hx := Bd.exec
  have hby := Bd.bytes
  have hml : c.maxLocals = 16 := hml0
  have hown : s.vm.findClass "com/example/choreon/choreon/IntervalsIndexAtPinLaw" = some m.cls := findClass_of_methodNamed Bd.named
  have hnm := (name_of_methodNamed Bd.named Bd.method).1
  have X0 : Stand p l e room_1 s m #[(.int q0), (.int q1), (.int q2), (.int q3)] below meth c s₁ [] 0 0 := Stand.of_body Bd
  have e0 : s₁.heap = h0 := by rw [← hh, Bd.state]; rfl
  have N0 := Fr.nil n0
  show Go p e below (Ret s (Q0 Z q0 q1 q2 q3 h0 n0) 16 128) (s₁.setTop (entryFrame m #[(.int q0), (.int q1), (.int q2), (.int q3)] maxLocals))
  rw [ef0 m q0 q1 q2 q3]
  refine g_iconst X0 hx (hb hby at_0) (v := (2 : Int32)) (by decide) ?_
  refine g_iloadN X0 hx (hb hby at_1) rfl ?_
  refine g_ldcI X0 hx hZ hown (hw _ (List.mem_of_getElem? (i := 0) rfl)) (hb hby at_2) ?_
  obtain ⟨i1, hi1⟩ : ∃ v : Int32, q3 &&& (2147483647 : Int32) = v := ⟨_, rfl⟩
  refine g_iand X0 hx (hb hby at_4) hi1 ?_
  refine g_iconst X0 hx (hb hby at_5) (v := (5 : Int32)) (by decide) ?_
  obtain ⟨i2, hi2⟩ : ∃ v : Int32, i1 % (5 : Int32) = v := ⟨_, rfl⟩
  refine g_irem X0 hx (hb hby at_6) (by decide) hi2 ?_
  obtain ⟨nn, hnn⟩ : ∃ v : Int32, (2 : Int32) + i2 = v := ⟨_, rfl⟩
  refine g_iadd X0 hx (hb hby at_7) hnn ?_
  have b_nn : 2 ≤ nn.toInt ∧ nn.toInt ≤ 6 := by
    have a := c_and q3 (2147483647 : Int32) (by decide)
    rw [hi1] at a
    have b := (c_iremV i1 (5 : Int32)).1 a.1 (by decide)
    rw [hi2] at b
    have d := c_iadd (2 : Int32) i2
    rw [hnn] at d
    have z : (2 : Int32).toInt = 2 := rfl
    have z5 : (5 : Int32).toInt = 5 := rfl
    have := rng32 nn
    omega
  refine g_istore X0 hx (hb hby at_8) (L' := #[.val (.int q0), .val (.int q1), .val (.int q2), .val (.int q3), .val (.int nn), .unset, .unset, .unset, .unset, .unset, .unset, .unset, .unset, .unset, .unset, .unset]) rfl ?_
  refine g_iloadN X0 hx (hb hby at_10) rfl ?_
  refine g_bipush X0 hx (hb hby at_11) (v := (63 : Int32)) (by decide) ?_
  obtain ⟨i3, hi3⟩ : ∃ v : Int32, q0 &&& (63 : Int32) = v := ⟨_, rfl⟩
  refine g_iand X0 hx (hb hby at_13) hi3 ?_
  refine g_bipush X0 hx (hb hby at_14) (v := (32 : Int32)) (by decide) ?_
  obtain ⟨c0, hc0⟩ : ∃ v : Int32, i3 - (32 : Int32) = v := ⟨_, rfl⟩
  refine g_isub X0 hx (hb hby at_16) hc0 ?_
  have b_c0 : -32 ≤ c0.toInt ∧ c0.toInt ≤ 31 := by
    have a := c_mask q0 (63 : Int32) 6 (by decide) (by decide)
    rw [hi3] at a
    have b := c_isub i3 32
    rw [hc0] at b
    have z : (32 : Int32).toInt = 32 := rfl
    have := rng32 c0
    omega
  refine g_istore X0 hx (hb hby at_17) (L' := #[.val (.int q0), .val (.int q1), .val (.int q2), .val (.int q3), .val (.int nn), .val (.int c0), .unset, .unset, .unset, .unset, .unset, .unset, .unset, .unset, .unset, .unset]) rfl ?_
  refine g_iload X0 hx (hb hby at_19) rfl ?_
  refine g_iloadN X0 hx (hb hby at_21) rfl ?_
  refine g_iconst X0 hx (hb hby at_22) (v := (3 : Int32)) (by decide) ?_
  obtain ⟨i4, hi4⟩ : ∃ v : Int32, q1 &&& (3 : Int32) = v := ⟨_, rfl⟩
  refine g_iand X0 hx (hb hby at_23) hi4 ?_
  obtain ⟨c1, hc1⟩ : ∃ v : Int32, c0 + i4 = v := ⟨_, rfl⟩
  refine g_iadd X0 hx (hb hby at_24) hc1 ?_
  have b_c1 : c0.toInt ≤ c1.toInt ∧ c1.toInt ≤ c0.toInt + 3 := by
    have a := c_mask q1 (3 : Int32) 2 (by decide) (by decide)
    rw [hi4] at a
    have b := c_iadd c0 i4
    rw [hc1] at b
    have := rng32 c1
    omega
  refine g_istore X0 hx (hb hby at_25) (L' := #[.val (.int q0), .val (.int q1), .val (.int q2), .val (.int q3), .val (.int nn), .val (.int c0), .val (.int c1), .unset, .unset, .unset, .unset, .unset, .unset, .unset, .unset, .unset]) rfl ?_
  refine g_iload X0 hx (hb hby at_27) rfl ?_
  refine g_iloadN X0 hx (hb hby at_29) rfl ?_
  refine g_iconst X0 hx (hb hby at_30) (v := (2 : Int32)) (by decide) ?_
  obtain ⟨i5, hi5⟩ : ∃ v : Int32, (q1.toUInt32 >>> ((2 : Int32) &&& 31).toUInt32).toInt32 = v := ⟨_, rfl⟩
  refine g_iushr X0 hx (hb hby at_31) hi5 ?_
  refine g_iconst X0 hx (hb hby at_32) (v := (3 : Int32)) (by decide) ?_
  obtain ⟨i6, hi6⟩ : ∃ v : Int32, i5 &&& (3 : Int32) = v := ⟨_, rfl⟩
  refine g_iand X0 hx (hb hby at_33) hi6 ?_
  obtain ⟨c2, hc2⟩ : ∃ v : Int32, c1 + i6 = v := ⟨_, rfl⟩
  refine g_iadd X0 hx (hb hby at_34) hc2 ?_
  have b_c2 : c1.toInt ≤ c2.toInt ∧ c2.toInt ≤ c1.toInt + 3 := by
    have a := c_mask i5 (3 : Int32) 2 (by decide) (by decide)
    rw [hi6] at a
    have b := c_iadd c1 i6
    rw [hc2] at b
    have := rng32 c2
    omega
  refine g_istore X0 hx (hb hby at_35) (L' := #[.val (.int q0), .val (.int q1), .val (.int q2), .val (.int q3), .val (.int nn), .val (.int c0), .val (.int c1), .val (.int c2), .unset, .unset, .unset, .unset, .unset, .unset, .unset, .unset]) rfl ?_
  refine g_iload X0 hx (hb hby at_37) rfl ?_
  refine g_iloadN X0 hx (hb hby at_39) rfl ?_
  refine g_iconst X0 hx (hb hby at_40) (v := (4 : Int32)) (by decide) ?_
  obtain ⟨i7, hi7⟩ : ∃ v : Int32, (q1.toUInt32 >>> ((4 : Int32) &&& 31).toUInt32).toInt32 = v := ⟨_, rfl⟩
  refine g_iushr X0 hx (hb hby at_41) hi7 ?_
  refine g_iconst X0 hx (hb hby at_42) (v := (3 : Int32)) (by decide) ?_
  obtain ⟨i8, hi8⟩ : ∃ v : Int32, i7 &&& (3 : Int32) = v := ⟨_, rfl⟩
  refine g_iand X0 hx (hb hby at_43) hi8 ?_
  obtain ⟨c3, hc3⟩ : ∃ v : Int32, c2 + i8 = v := ⟨_, rfl⟩
  refine g_iadd X0 hx (hb hby at_44) hc3 ?_
  have b_c3 : c2.toInt ≤ c3.toInt ∧ c3.toInt ≤ c2.toInt + 3 := by
    have a := c_mask i7 (3 : Int32) 2 (by decide) (by decide)
    rw [hi8] at a
    have b := c_iadd c2 i8
    rw [hc3] at b
    have := rng32 c3
    omega
  refine g_istore X0 hx (hb hby at_45) (L' := #[.val (.int q0), .val (.int q1), .val (.int q2), .val (.int q3), .val (.int nn), .val (.int c0), .val (.int c1), .val (.int c2), .val (.int c3), .unset, .unset, .unset, .unset, .unset, .unset, .unset]) rfl ?_
  refine g_iload X0 hx (hb hby at_47) rfl ?_
  refine g_iloadN X0 hx (hb hby at_49) rfl ?_
  refine g_bipush X0 hx (hb hby at_50) (v := (6 : Int32)) (by decide) ?_
  obtain ⟨i9, hi9⟩ : ∃ v : Int32, (q1.toUInt32 >>> ((6 : Int32) &&& 31).toUInt32).toInt32 = v := ⟨_, rfl⟩
  refine g_iushr X0 hx (hb hby at_52) hi9 ?_
  refine g_iconst X0 hx (hb hby at_53) (v := (3 : Int32)) (by decide) ?_
  obtain ⟨i10, hi10⟩ : ∃ v : Int32, i9 &&& (3 : Int32) = v := ⟨_, rfl⟩
  refine g_iand X0 hx (hb hby at_54) hi10 ?_
  obtain ⟨c4, hc4⟩ : ∃ v : Int32, c3 + i10 = v := ⟨_, rfl⟩
  refine g_iadd X0 hx (hb hby at_55) hc4 ?_
  have b_c4 : c3.toInt ≤ c4.toInt ∧ c4.toInt ≤ c3.toInt + 3 := by
    have a := c_mask i9 (3 : Int32) 2 (by decide) (by decide)
    rw [hi10] at a
    have b := c_iadd c3 i10
    rw [hc4] at b
    have := rng32 c4
    omega
  refine g_istore X0 hx (hb hby at_56) (L' := #[.val (.int q0), .val (.int q1), .val (.int q2), .val (.int q3), .val (.int nn), .val (.int c0), .val (.int c1), .val (.int c2), .val (.int c3), .val (.int c4), .unset, .unset, .unset, .unset, .unset, .unset]) rfl ?_
  refine g_iload X0 hx (hb hby at_58) rfl ?_
  refine g_iloadN X0 hx (hb hby at_60) rfl ?_
  refine g_bipush X0 hx (hb hby at_61) (v := (8 : Int32)) (by decide) ?_
  obtain ⟨i11, hi11⟩ : ∃ v : Int32, (q1.toUInt32 >>> ((8 : Int32) &&& 31).toUInt32).toInt32 = v := ⟨_, rfl⟩
  refine g_iushr X0 hx (hb hby at_63) hi11 ?_
  refine g_iconst X0 hx (hb hby at_64) (v := (3 : Int32)) (by decide) ?_
  obtain ⟨i12, hi12⟩ : ∃ v : Int32, i11 &&& (3 : Int32) = v := ⟨_, rfl⟩
  refine g_iand X0 hx (hb hby at_65) hi12 ?_
  obtain ⟨c5, hc5⟩ : ∃ v : Int32, c4 + i12 = v := ⟨_, rfl⟩
  refine g_iadd X0 hx (hb hby at_66) hc5 ?_
  have b_c5 : c4.toInt ≤ c5.toInt ∧ c5.toInt ≤ c4.toInt + 3 := by
    have a := c_mask i11 (3 : Int32) 2 (by decide) (by decide)
    rw [hi12] at a
    have b := c_iadd c4 i12
    rw [hc5] at b
    have := rng32 c5
    omega
  refine g_istore X0 hx (hb hby at_67) (L' := #[.val (.int q0), .val (.int q1), .val (.int q2), .val (.int q3), .val (.int nn), .val (.int c0), .val (.int c1), .val (.int c2), .val (.int c3), .val (.int c4), .val (.int c5), .unset, .unset, .unset, .unset, .unset]) rfl ?_
  refine g_iloadN X0 hx (hb hby at_69) rfl ?_
  refine g_bipush X0 hx (hb hby at_70) (v := (127 : Int32)) (by decide) ?_
  obtain ⟨i13, hi13⟩ : ∃ v : Int32, q2 &&& (127 : Int32) = v := ⟨_, rfl⟩
  refine g_iand X0 hx (hb hby at_72) hi13 ?_
  refine g_bipush X0 hx (hb hby at_73) (v := (64 : Int32)) (by decide) ?_
  obtain ⟨vv, hvv⟩ : ∃ v : Int32, i13 - (64 : Int32) = v := ⟨_, rfl⟩
  refine g_isub X0 hx (hb hby at_75) hvv ?_
  refine g_istore X0 hx (hb hby at_76) (L' := #[.val (.int q0), .val (.int q1), .val (.int q2), .val (.int q3), .val (.int nn), .val (.int c0), .val (.int c1), .val (.int c2), .val (.int c3), .val (.int c4), .val (.int c5), .val (.int vv), .unset, .unset, .unset, .unset]) rfl ?_
  have J260 : ∀ (T14 : State) (lo18 : List Loc) (h19 : Heap) (ar : Addr) (f : Nat → Value) (_ : Stand p l e room_1 s m #[(.int q0), (.int q1), (.int q2), (.int q3)] below meth c T14 lo18 1 6) (_ : T14.heap = h19) (_ : Fr n0 lo18) (_ : n0 ≤ h19.size) (_ : Av Z h19 ar .double nn.toInt.toNat f) (_ : ∀ k, k < nn.toInt.toNat → f k = .double (FP.i2d (own_b c0 c1 c2 c3 c4 c5 k))), Go p e below (Ret s (Q0 Z q0 q1 q2 q3 h0 n0) 16 128) (T14.setTop (mkF m 260 #[.val (.int q0), .val (.int q1), .val (.int q2), .val (.int q3), .val (.int nn), .val (.int c0), .val (.int c1), .val (.int c2), .val (.int c3), .val (.int c4), .val (.int c5), .val (.int vv), .val (.ref ar), .unset, .unset, .unset] [])) := by
    intro T14 lo18 h19 ar f X15 e16 N17 Z20 FA hf
    refine g_aload X15 hx (hb hby at_260) rfl rfl ?_
    refine g_iload X15 hx (hb hby at_262) rfl ?_
    obtain ⟨d21, hd21⟩ : ∃ v : UInt64, FP.i2d vv = v := ⟨_, rfl⟩
    have fin_d21 : Jvm.Free.Fl.Fin64 d21 := by rw [← hd21]; exact Jvm.Free.Fl.i2d_fin _
    refine g_i2d X15 hx (hb hby at_264) hd21 ?_
    subst hd21
    refine g_callS X15 hx hZ hown (hw _ (List.mem_of_getElem? (i := 2) rfl)) (hw _ (List.mem_of_getElem? (i := 3) rfl)) (hw _ (List.mem_of_getElem? (i := 4) rfl)) (hw _ (List.mem_of_getElem? (i := 5) rfl)) (by decide) (rm1 l Z a0 hw [] ar vv nn.toInt.toNat (own_b c0 c1 c2 c3 c4 c5) h19 n0 Z20 (nl := nn) (by exact (back32 (fun z => by have := Int32.lt_iff_toInt_lt.mp z; have z0 : (0 : Int32).toInt = 0 := rfl; omega)).1) (by omega) (by omega) FA hf) e16 (W := 0) (by decide) (by decide) (by rw [hml]; rfl) [(.ref ar), (.double (FP.i2d vv))] [] (lenOf pd0_0 rfl) rfl rfl (Nat.le_of_eq rfl) (hb hby at_265) (by decide) (by decide) ?_
    intro v26 T22 L25 X23 hQ24
    obtain ⟨got, ⟨rfl, g1, g2, g3, g4⟩, N27, e28⟩ := hQ24
    have N29 := Fr.app N17 N27
    show Go p e below (Ret s (Q0 Z q0 q1 q2 q3 h0 n0) 16 128) (T22.setTop (mkF m 268 #[.val (.int q0), .val (.int q1), .val (.int q2), .val (.int q3), .val (.int nn), .val (.int c0), .val (.int c1), .val (.int c2), .val (.int c3), .val (.int c4), .val (.int c5), .val (.int vv), .val (.ref ar), .unset, .unset, .unset] [(.int got)]))
    have en : ((nn.toInt.toNat : Nat) : Int) = nn.toInt := by omega
    rw [en] at g2 g4
    refine g_istore X23 hx (hb hby at_268) (L' := #[.val (.int q0), .val (.int q1), .val (.int q2), .val (.int q3), .val (.int nn), .val (.int c0), .val (.int c1), .val (.int c2), .val (.int c3), .val (.int c4), .val (.int c5), .val (.int vv), .val (.ref ar), .val (.int got), .unset, .unset]) rfl ?_
    refine g_iload X23 hx (hb hby at_270) rfl ?_
    refine g_iconst X23 hx (hb hby at_272) (v := (2 : Int32)) (by decide) ?_
    obtain ⟨la, hla⟩ : ∃ v : Int32, nn - (2 : Int32) = v := ⟨_, rfl⟩
    refine g_isub X23 hx (hb hby at_273) hla ?_
    have t_la : la.toInt = nn.toInt - 2 := by
      have a := c_isub nn 2; rw [hla] at a
      have z : (2 : Int32).toInt = 2 := rfl
      have := rng32 la
      omega
    refine g_istore X23 hx (hb hby at_274) (L' := #[.val (.int q0), .val (.int q1), .val (.int q2), .val (.int q3), .val (.int nn), .val (.int c0), .val (.int c1), .val (.int c2), .val (.int c3), .val (.int c4), .val (.int c5), .val (.int vv), .val (.ref ar), .val (.int got), .val (.int la), .unset]) rfl ?_
    refine g_iconst X23 hx (hb hby at_276) (v := (0 : Int32)) (by decide) ?_
    refine g_istore X23 hx (hb hby at_277) (L' := #[.val (.int q0), .val (.int q1), .val (.int q2), .val (.int q3), .val (.int nn), .val (.int c0), .val (.int c1), .val (.int c2), .val (.int c3), .val (.int c4), .val (.int c5), .val (.int vv), .val (.ref ar), .val (.int got), .val (.int la), .val (.int (0 : Int32))]) rfl ?_
    refine g_iload X23 hx (hb hby at_279) rfl ?_
    refine g_iconst X23 hx (hb hby at_281) (v := (1 : Int32)) (by decide) ?_
    have J298 : ∀ (u1 : Int32), u1.toInt = 0 + (if 1 ≤ la.toInt ∧ c1.toInt ≤ vv.toInt then 1 else 0) → Go p e below (Ret s (Q0 Z q0 q1 q2 q3 h0 n0) 16 128) (T22.setTop (mkF m 298 #[.val (.int q0), .val (.int q1), .val (.int q2), .val (.int q3), .val (.int nn), .val (.int c0), .val (.int c1), .val (.int c2), .val (.int c3), .val (.int c4), .val (.int c5), .val (.int vv), .val (.ref ar), .val (.int got), .val (.int la), .val (.int u1)] [])) := by
      intro u1 hu1
      refine g_iload X23 hx (hb hby at_298) rfl ?_
      refine g_iconst X23 hx (hb hby at_300) (v := (2 : Int32)) (by decide) ?_
      have J317 : ∀ (u2 : Int32), u2.toInt = u1.toInt + (if 2 ≤ la.toInt ∧ c2.toInt ≤ vv.toInt then 1 else 0) → Go p e below (Ret s (Q0 Z q0 q1 q2 q3 h0 n0) 16 128) (T22.setTop (mkF m 317 #[.val (.int q0), .val (.int q1), .val (.int q2), .val (.int q3), .val (.int nn), .val (.int c0), .val (.int c1), .val (.int c2), .val (.int c3), .val (.int c4), .val (.int c5), .val (.int vv), .val (.ref ar), .val (.int got), .val (.int la), .val (.int u2)] [])) := by
        intro u2 hu2
        refine g_iload X23 hx (hb hby at_317) rfl ?_
        refine g_iconst X23 hx (hb hby at_319) (v := (3 : Int32)) (by decide) ?_
        have J336 : ∀ (u3 : Int32), u3.toInt = u2.toInt + (if 3 ≤ la.toInt ∧ c3.toInt ≤ vv.toInt then 1 else 0) → Go p e below (Ret s (Q0 Z q0 q1 q2 q3 h0 n0) 16 128) (T22.setTop (mkF m 336 #[.val (.int q0), .val (.int q1), .val (.int q2), .val (.int q3), .val (.int nn), .val (.int c0), .val (.int c1), .val (.int c2), .val (.int c3), .val (.int c4), .val (.int c5), .val (.int vv), .val (.ref ar), .val (.int got), .val (.int la), .val (.int u3)] [])) := by
          intro u3 hu3
          refine g_iload X23 hx (hb hby at_336) rfl ?_
          refine g_iconst X23 hx (hb hby at_338) (v := (4 : Int32)) (by decide) ?_
          have J355 : ∀ (u4 : Int32), u4.toInt = u3.toInt + (if 4 ≤ la.toInt ∧ c4.toInt ≤ vv.toInt then 1 else 0) → Go p e below (Ret s (Q0 Z q0 q1 q2 q3 h0 n0) 16 128) (T22.setTop (mkF m 355 #[.val (.int q0), .val (.int q1), .val (.int q2), .val (.int q3), .val (.int nn), .val (.int c0), .val (.int c1), .val (.int c2), .val (.int c3), .val (.int c4), .val (.int c5), .val (.int vv), .val (.ref ar), .val (.int got), .val (.int la), .val (.int u4)] [])) := by
            intro u4 hu4
            refine g_iload X23 hx (hb hby at_355) rfl ?_
            refine g_iload X23 hx (hb hby at_357) rfl ?_
            have hc359_30 : got = u4 := (by
              apply Int32.toInt_inj.mp
              have e1 : got.toInt = 0 ∨ got.toInt = 1 ∨ got.toInt = 2 ∨ got.toInt = 3 ∨ got.toInt = 4 := by omega
              rcases e1 with e1 | e1 | e1 | e1 | e1 <;> rw [e1] at g3 g4 <;> simp [own_b] at g3 g4 <;> omega)
            refine g_icmpNo X23 hx (hb hby at_359) (teq hc359_30).2 ?_
            refine g_iconst X23 hx (hb hby at_362) (v := (1 : Int32)) (by decide) ?_
            refine g_goto X23 hx (hb hby at_363) (by decide) (pc' := 367) (by decide) ?_
            refine g_ireturn X23 hx Bd.notSynchronized Bd.returns rfl (by simp) (hb hby at_367) (by decide) (by decide) ?_
            exact ⟨rfl, N29⟩
          by_cases hc339_31 : la < (4 : Int32)
          ·
            refine g_icmpYes X23 hx (hb hby at_339) (tlt hc339_31).1 (by decide) (pc' := 355) (by decide) ?_
            exact J355 _ (by
              have a := Int32.lt_iff_toInt_lt.mp hc339_31
              have z : (4 : Int32).toInt = 4 := rfl
              have z0 : (0 : Int32).toInt = 0 := rfl
              rw [if_neg (by omega)]; omega)
          ·
            refine g_icmpNo X23 hx (hb hby at_339) (flt hc339_31).1 ?_
            refine g_iload X23 hx (hb hby at_342) rfl ?_
            refine g_iload X23 hx (hb hby at_344) rfl ?_
            by_cases hc346_32 : vv < c4
            ·
              refine g_icmpYes X23 hx (hb hby at_346) (tlt hc346_32).2.2.1 (by decide) (pc' := 355) (by decide) ?_
              exact J355 _ (by
                have a := Int32.lt_iff_toInt_lt.mp hc346_32
                have z0 : (0 : Int32).toInt = 0 := rfl
                rw [if_neg (by omega)]; omega)
            ·
              refine g_icmpNo X23 hx (hb hby at_346) (flt hc346_32).2.2.1 ?_
              refine g_iload X23 hx (hb hby at_349) rfl ?_
              refine g_iconst X23 hx (hb hby at_351) (v := (1 : Int32)) (by decide) ?_
              obtain ⟨i33, hi33⟩ : ∃ v : Int32, u3 + (1 : Int32) = v := ⟨_, rfl⟩
              refine g_iadd X23 hx (hb hby at_352) hi33 ?_
              refine g_istore X23 hx (hb hby at_353) (L' := #[.val (.int q0), .val (.int q1), .val (.int q2), .val (.int q3), .val (.int nn), .val (.int c0), .val (.int c1), .val (.int c2), .val (.int c3), .val (.int c4), .val (.int c5), .val (.int vv), .val (.ref ar), .val (.int got), .val (.int la), .val (.int i33)]) rfl ?_
              exact J355 _ (by
                have a : ¬ la.toInt < (4 : Int32).toInt := fun z => hc339_31 (Int32.lt_iff_toInt_lt.mpr z)
                have b : ¬ vv.toInt < c4.toInt := fun z => hc346_32 (Int32.lt_iff_toInt_lt.mpr z)
                have z : (4 : Int32).toInt = 4 := rfl
                have z0 : (0 : Int32).toInt = 0 := rfl
                have z1 : (1 : Int32).toInt = 1 := rfl
                have d := c_iadd u3 1; rw [hi33] at d
                have r := rng32 i33
                rw [if_pos ⟨by omega, by omega⟩]
                omega)
        by_cases hc320_34 : la < (3 : Int32)
        ·
          refine g_icmpYes X23 hx (hb hby at_320) (tlt hc320_34).1 (by decide) (pc' := 336) (by decide) ?_
          exact J336 _ (by
            have a := Int32.lt_iff_toInt_lt.mp hc320_34
            have z : (3 : Int32).toInt = 3 := rfl
            have z0 : (0 : Int32).toInt = 0 := rfl
            rw [if_neg (by omega)]; omega)
        ·
          refine g_icmpNo X23 hx (hb hby at_320) (flt hc320_34).1 ?_
          refine g_iload X23 hx (hb hby at_323) rfl ?_
          refine g_iload X23 hx (hb hby at_325) rfl ?_
          by_cases hc327_35 : vv < c3
          ·
            refine g_icmpYes X23 hx (hb hby at_327) (tlt hc327_35).2.2.1 (by decide) (pc' := 336) (by decide) ?_
            exact J336 _ (by
              have a := Int32.lt_iff_toInt_lt.mp hc327_35
              have z0 : (0 : Int32).toInt = 0 := rfl
              rw [if_neg (by omega)]; omega)
          ·
            refine g_icmpNo X23 hx (hb hby at_327) (flt hc327_35).2.2.1 ?_
            refine g_iload X23 hx (hb hby at_330) rfl ?_
            refine g_iconst X23 hx (hb hby at_332) (v := (1 : Int32)) (by decide) ?_
            obtain ⟨i36, hi36⟩ : ∃ v : Int32, u2 + (1 : Int32) = v := ⟨_, rfl⟩
            refine g_iadd X23 hx (hb hby at_333) hi36 ?_
            refine g_istore X23 hx (hb hby at_334) (L' := #[.val (.int q0), .val (.int q1), .val (.int q2), .val (.int q3), .val (.int nn), .val (.int c0), .val (.int c1), .val (.int c2), .val (.int c3), .val (.int c4), .val (.int c5), .val (.int vv), .val (.ref ar), .val (.int got), .val (.int la), .val (.int i36)]) rfl ?_
            exact J336 _ (by
              have a : ¬ la.toInt < (3 : Int32).toInt := fun z => hc320_34 (Int32.lt_iff_toInt_lt.mpr z)
              have b : ¬ vv.toInt < c3.toInt := fun z => hc327_35 (Int32.lt_iff_toInt_lt.mpr z)
              have z : (3 : Int32).toInt = 3 := rfl
              have z0 : (0 : Int32).toInt = 0 := rfl
              have z1 : (1 : Int32).toInt = 1 := rfl
              have d := c_iadd u2 1; rw [hi36] at d
              have r := rng32 i36
              rw [if_pos ⟨by omega, by omega⟩]
              omega)
      by_cases hc301_37 : la < (2 : Int32)
      ·
        refine g_icmpYes X23 hx (hb hby at_301) (tlt hc301_37).1 (by decide) (pc' := 317) (by decide) ?_
        exact J317 _ (by
          have a := Int32.lt_iff_toInt_lt.mp hc301_37
          have z : (2 : Int32).toInt = 2 := rfl
          have z0 : (0 : Int32).toInt = 0 := rfl
          rw [if_neg (by omega)]; omega)
      ·
        refine g_icmpNo X23 hx (hb hby at_301) (flt hc301_37).1 ?_
        refine g_iload X23 hx (hb hby at_304) rfl ?_
        refine g_iload X23 hx (hb hby at_306) rfl ?_
        by_cases hc308_38 : vv < c2
        ·
          refine g_icmpYes X23 hx (hb hby at_308) (tlt hc308_38).2.2.1 (by decide) (pc' := 317) (by decide) ?_
          exact J317 _ (by
            have a := Int32.lt_iff_toInt_lt.mp hc308_38
            have z0 : (0 : Int32).toInt = 0 := rfl
            rw [if_neg (by omega)]; omega)
        ·
          refine g_icmpNo X23 hx (hb hby at_308) (flt hc308_38).2.2.1 ?_
          refine g_iload X23 hx (hb hby at_311) rfl ?_
          refine g_iconst X23 hx (hb hby at_313) (v := (1 : Int32)) (by decide) ?_
          obtain ⟨i39, hi39⟩ : ∃ v : Int32, u1 + (1 : Int32) = v := ⟨_, rfl⟩
          refine g_iadd X23 hx (hb hby at_314) hi39 ?_
          refine g_istore X23 hx (hb hby at_315) (L' := #[.val (.int q0), .val (.int q1), .val (.int q2), .val (.int q3), .val (.int nn), .val (.int c0), .val (.int c1), .val (.int c2), .val (.int c3), .val (.int c4), .val (.int c5), .val (.int vv), .val (.ref ar), .val (.int got), .val (.int la), .val (.int i39)]) rfl ?_
          exact J317 _ (by
            have a : ¬ la.toInt < (2 : Int32).toInt := fun z => hc301_37 (Int32.lt_iff_toInt_lt.mpr z)
            have b : ¬ vv.toInt < c2.toInt := fun z => hc308_38 (Int32.lt_iff_toInt_lt.mpr z)
            have z : (2 : Int32).toInt = 2 := rfl
            have z0 : (0 : Int32).toInt = 0 := rfl
            have z1 : (1 : Int32).toInt = 1 := rfl
            have d := c_iadd u1 1; rw [hi39] at d
            have r := rng32 i39
            rw [if_pos ⟨by omega, by omega⟩]
            omega)
    by_cases hc282_40 : la < (1 : Int32)
    ·
      refine g_icmpYes X23 hx (hb hby at_282) (tlt hc282_40).1 (by decide) (pc' := 298) (by decide) ?_
      exact J298 _ (by
        have a := Int32.lt_iff_toInt_lt.mp hc282_40
        have z : (1 : Int32).toInt = 1 := rfl
        have z0 : (0 : Int32).toInt = 0 := rfl
        rw [if_neg (by omega)]; omega)
    ·
      refine g_icmpNo X23 hx (hb hby at_282) (flt hc282_40).1 ?_
      refine g_iload X23 hx (hb hby at_285) rfl ?_
      refine g_iload X23 hx (hb hby at_287) rfl ?_
      by_cases hc289_41 : vv < c1
      ·
        refine g_icmpYes X23 hx (hb hby at_289) (tlt hc289_41).2.2.1 (by decide) (pc' := 298) (by decide) ?_
        exact J298 _ (by
          have a := Int32.lt_iff_toInt_lt.mp hc289_41
          have z0 : (0 : Int32).toInt = 0 := rfl
          rw [if_neg (by omega)]; omega)
      ·
        refine g_icmpNo X23 hx (hb hby at_289) (flt hc289_41).2.2.1 ?_
        refine g_iload X23 hx (hb hby at_292) rfl ?_
        refine g_iconst X23 hx (hb hby at_294) (v := (1 : Int32)) (by decide) ?_
        obtain ⟨i42, hi42⟩ : ∃ v : Int32, (0 : Int32) + (1 : Int32) = v := ⟨_, rfl⟩
        refine g_iadd X23 hx (hb hby at_295) hi42 ?_
        refine g_istore X23 hx (hb hby at_296) (L' := #[.val (.int q0), .val (.int q1), .val (.int q2), .val (.int q3), .val (.int nn), .val (.int c0), .val (.int c1), .val (.int c2), .val (.int c3), .val (.int c4), .val (.int c5), .val (.int vv), .val (.ref ar), .val (.int got), .val (.int la), .val (.int i42)]) rfl ?_
        exact J298 _ (by
          have a : ¬ la.toInt < (1 : Int32).toInt := fun z => hc282_40 (Int32.lt_iff_toInt_lt.mpr z)
          have b : ¬ vv.toInt < c1.toInt := fun z => hc289_41 (Int32.lt_iff_toInt_lt.mpr z)
          have z : (1 : Int32).toInt = 1 := rfl
          have z0 : (0 : Int32).toInt = 0 := rfl
          have z1 : (1 : Int32).toInt = 1 := rfl
          have d := c_iadd (0 : Int32) 1; rw [hi42] at d
          have r := rng32 i42
          rw [if_pos ⟨by omega, by omega⟩]
          omega)
  refine g_iload X0 hx (hb hby at_78) rfl ?_
  refine g_iconst X0 hx (hb hby at_80) (v := (2 : Int32)) (by decide) ?_
  by_cases hc81_43 : nn = (2 : Int32)
  ·
    refine g_icmpNo X0 hx (hb hby at_81) (teq hc81_43).2 ?_
    refine g_iconst X0 hx (hb hby at_84) (v := (2 : Int32)) (by decide) ?_
    refine g_newP X0 hx hZ (ty := .double) rfl (hw _ (List.mem_of_getElem? (i := 1) rfl)) e0 (hb hby at_85) (by decide) (cap := 6) (by decide) (by decide) (by decide) (by decide) ?_
    intro T44 h47 ar85 cA51 gar85 X45 e46 E48 F49
    have ge_ar85 : n0 ≤ ar85 := by rw [gar85]; exact Z0
    have Z53 : n0 ≤ h47.size := Nat.le_trans Z0 E48.1
    have F52 : Av Z h47 ar85 .double 2 (fun _ => .double 0) := Av.newK F49 (by decide)
    refine g_dup X45 hx (hb hby at_87) rfl ?_
    refine g_iconst X45 hx (hb hby at_88) (v := (0 : Int32)) (by decide) ?_
    refine g_iload X45 hx (hb hby at_89) rfl ?_
    obtain ⟨d55, hd55⟩ : ∃ v : UInt64, FP.i2d c0 = v := ⟨_, rfl⟩
    have fin_d55 : Jvm.Free.Fl.Fin64 d55 := by rw [← hd55]; exact Jvm.Free.Fl.i2d_fin _
    refine g_i2d X45 hx (hb hby at_91) hd55 ?_
    refine g_dastore X45 hx hZ e46 F52 (i := 0) (by decide) (by decide) (by decide) (hb hby at_92) ?_
    intro T56 h59 X57 e58 W60
    have F61 := F52.same W60
    have Z62 : n0 ≤ h59.size := by rw [W60.size]; exact Z53
    have N63 := Fr.snoc X57 N0 ge_ar85
    refine g_dup X57 hx (hb hby at_93) rfl ?_
    refine g_iconst X57 hx (hb hby at_94) (v := (1 : Int32)) (by decide) ?_
    refine g_iload X57 hx (hb hby at_95) rfl ?_
    obtain ⟨d64, hd64⟩ : ∃ v : UInt64, FP.i2d c1 = v := ⟨_, rfl⟩
    have fin_d64 : Jvm.Free.Fl.Fin64 d64 := by rw [← hd64]; exact Jvm.Free.Fl.i2d_fin _
    refine g_i2d X57 hx (hb hby at_97) hd64 ?_
    refine g_dastore X57 hx hZ e58 F61 (i := 1) (by decide) (by decide) (by decide) (hb hby at_98) ?_
    intro T65 h68 X66 e67 W69
    have F70 := F61.same W69
    have Z71 : n0 ≤ h68.size := by rw [W69.size]; exact Z62
    have N72 := Fr.snoc X66 N63 ge_ar85
    refine g_astore X66 hx (hb hby at_99) rfl (L' := #[.val (.int q0), .val (.int q1), .val (.int q2), .val (.int q3), .val (.int nn), .val (.int c0), .val (.int c1), .val (.int c2), .val (.int c3), .val (.int c4), .val (.int c5), .val (.int vv), .val (.ref ar85), .unset, .unset, .unset]) rfl ?_
    refine g_goto X66 hx (hb hby at_101) (by decide) (pc' := 260) (by decide) ?_
    have en : nn.toInt = 2 := by
      rw [hc81_43]; rfl
    exact J260 _ _ _ _ _ X66 e67 N72 Z71 (by rw [en]; exact F70) (by
      intro k hk
      rw [en] at hk
      have hk' : k < 2 := hk
      rcases own_lt2 hk' with rfl | rfl <;> simp [own_b, hd55, hd64])
  ·
    refine g_icmpYes X0 hx (hb hby at_81) (feq hc81_43).2 (by decide) (pc' := 104) (by decide) ?_
    refine g_iload X0 hx (hb hby at_104) rfl ?_
    refine g_iconst X0 hx (hb hby at_106) (v := (3 : Int32)) (by decide) ?_
    by_cases hc107_73 : nn = (3 : Int32)
    ·
      refine g_icmpNo X0 hx (hb hby at_107) (teq hc107_73).2 ?_
      refine g_iconst X0 hx (hb hby at_110) (v := (3 : Int32)) (by decide) ?_
      refine g_newP X0 hx hZ (ty := .double) rfl (hw _ (List.mem_of_getElem? (i := 1) rfl)) e0 (hb hby at_111) (by decide) (cap := 6) (by decide) (by decide) (by decide) (by decide) ?_
      intro T74 h77 ar111 cA81 gar111 X75 e76 E78 F79
      have ge_ar111 : n0 ≤ ar111 := by rw [gar111]; exact Z0
      have Z83 : n0 ≤ h77.size := Nat.le_trans Z0 E78.1
      have F82 : Av Z h77 ar111 .double 3 (fun _ => .double 0) := Av.newK F79 (by decide)
      refine g_dup X75 hx (hb hby at_113) rfl ?_
      refine g_iconst X75 hx (hb hby at_114) (v := (0 : Int32)) (by decide) ?_
      refine g_iload X75 hx (hb hby at_115) rfl ?_
      obtain ⟨d85, hd85⟩ : ∃ v : UInt64, FP.i2d c0 = v := ⟨_, rfl⟩
      have fin_d85 : Jvm.Free.Fl.Fin64 d85 := by rw [← hd85]; exact Jvm.Free.Fl.i2d_fin _
      refine g_i2d X75 hx (hb hby at_117) hd85 ?_
      refine g_dastore X75 hx hZ e76 F82 (i := 0) (by decide) (by decide) (by decide) (hb hby at_118) ?_
      intro T86 h89 X87 e88 W90
      have F91 := F82.same W90
      have Z92 : n0 ≤ h89.size := by rw [W90.size]; exact Z83
      have N93 := Fr.snoc X87 N0 ge_ar111
      refine g_dup X87 hx (hb hby at_119) rfl ?_
      refine g_iconst X87 hx (hb hby at_120) (v := (1 : Int32)) (by decide) ?_
      refine g_iload X87 hx (hb hby at_121) rfl ?_
      obtain ⟨d94, hd94⟩ : ∃ v : UInt64, FP.i2d c1 = v := ⟨_, rfl⟩
      have fin_d94 : Jvm.Free.Fl.Fin64 d94 := by rw [← hd94]; exact Jvm.Free.Fl.i2d_fin _
      refine g_i2d X87 hx (hb hby at_123) hd94 ?_
      refine g_dastore X87 hx hZ e88 F91 (i := 1) (by decide) (by decide) (by decide) (hb hby at_124) ?_
      intro T95 h98 X96 e97 W99
      have F100 := F91.same W99
      have Z101 : n0 ≤ h98.size := by rw [W99.size]; exact Z92
      have N102 := Fr.snoc X96 N93 ge_ar111
      refine g_dup X96 hx (hb hby at_125) rfl ?_
      refine g_iconst X96 hx (hb hby at_126) (v := (2 : Int32)) (by decide) ?_
      refine g_iload X96 hx (hb hby at_127) rfl ?_
      obtain ⟨d103, hd103⟩ : ∃ v : UInt64, FP.i2d c2 = v := ⟨_, rfl⟩
      have fin_d103 : Jvm.Free.Fl.Fin64 d103 := by rw [← hd103]; exact Jvm.Free.Fl.i2d_fin _
      refine g_i2d X96 hx (hb hby at_129) hd103 ?_
      refine g_dastore X96 hx hZ e97 F100 (i := 2) (by decide) (by decide) (by decide) (hb hby at_130) ?_
      intro T104 h107 X105 e106 W108
      have F109 := F100.same W108
      have Z110 : n0 ≤ h107.size := by rw [W108.size]; exact Z101
      have N111 := Fr.snoc X105 N102 ge_ar111
      refine g_astore X105 hx (hb hby at_131) rfl (L' := #[.val (.int q0), .val (.int q1), .val (.int q2), .val (.int q3), .val (.int nn), .val (.int c0), .val (.int c1), .val (.int c2), .val (.int c3), .val (.int c4), .val (.int c5), .val (.int vv), .val (.ref ar111), .unset, .unset, .unset]) rfl ?_
      refine g_goto X105 hx (hb hby at_133) (by decide) (pc' := 260) (by decide) ?_
      have en : nn.toInt = 3 := by
        rw [hc107_73]; rfl
      exact J260 _ _ _ _ _ X105 e106 N111 Z110 (by rw [en]; exact F109) (by
        intro k hk
        rw [en] at hk
        have hk' : k < 3 := hk
        rcases own_lt3 hk' with rfl | rfl | rfl <;> simp [own_b, hd85, hd94, hd103])
    ·
      refine g_icmpYes X0 hx (hb hby at_107) (feq hc107_73).2 (by decide) (pc' := 136) (by decide) ?_
      refine g_iload X0 hx (hb hby at_136) rfl ?_
      refine g_iconst X0 hx (hb hby at_138) (v := (4 : Int32)) (by decide) ?_
      by_cases hc139_112 : nn = (4 : Int32)
      ·
        refine g_icmpNo X0 hx (hb hby at_139) (teq hc139_112).2 ?_
        refine g_iconst X0 hx (hb hby at_142) (v := (4 : Int32)) (by decide) ?_
        refine g_newP X0 hx hZ (ty := .double) rfl (hw _ (List.mem_of_getElem? (i := 1) rfl)) e0 (hb hby at_143) (by decide) (cap := 6) (by decide) (by decide) (by decide) (by decide) ?_
        intro T113 h116 ar143 cA120 gar143 X114 e115 E117 F118
        have ge_ar143 : n0 ≤ ar143 := by rw [gar143]; exact Z0
        have Z122 : n0 ≤ h116.size := Nat.le_trans Z0 E117.1
        have F121 : Av Z h116 ar143 .double 4 (fun _ => .double 0) := Av.newK F118 (by decide)
        refine g_dup X114 hx (hb hby at_145) rfl ?_
        refine g_iconst X114 hx (hb hby at_146) (v := (0 : Int32)) (by decide) ?_
        refine g_iload X114 hx (hb hby at_147) rfl ?_
        obtain ⟨d124, hd124⟩ : ∃ v : UInt64, FP.i2d c0 = v := ⟨_, rfl⟩
        have fin_d124 : Jvm.Free.Fl.Fin64 d124 := by rw [← hd124]; exact Jvm.Free.Fl.i2d_fin _
        refine g_i2d X114 hx (hb hby at_149) hd124 ?_
        refine g_dastore X114 hx hZ e115 F121 (i := 0) (by decide) (by decide) (by decide) (hb hby at_150) ?_
        intro T125 h128 X126 e127 W129
        have F130 := F121.same W129
        have Z131 : n0 ≤ h128.size := by rw [W129.size]; exact Z122
        have N132 := Fr.snoc X126 N0 ge_ar143
        refine g_dup X126 hx (hb hby at_151) rfl ?_
        refine g_iconst X126 hx (hb hby at_152) (v := (1 : Int32)) (by decide) ?_
        refine g_iload X126 hx (hb hby at_153) rfl ?_
        obtain ⟨d133, hd133⟩ : ∃ v : UInt64, FP.i2d c1 = v := ⟨_, rfl⟩
        have fin_d133 : Jvm.Free.Fl.Fin64 d133 := by rw [← hd133]; exact Jvm.Free.Fl.i2d_fin _
        refine g_i2d X126 hx (hb hby at_155) hd133 ?_
        refine g_dastore X126 hx hZ e127 F130 (i := 1) (by decide) (by decide) (by decide) (hb hby at_156) ?_
        intro T134 h137 X135 e136 W138
        have F139 := F130.same W138
        have Z140 : n0 ≤ h137.size := by rw [W138.size]; exact Z131
        have N141 := Fr.snoc X135 N132 ge_ar143
        refine g_dup X135 hx (hb hby at_157) rfl ?_
        refine g_iconst X135 hx (hb hby at_158) (v := (2 : Int32)) (by decide) ?_
        refine g_iload X135 hx (hb hby at_159) rfl ?_
        obtain ⟨d142, hd142⟩ : ∃ v : UInt64, FP.i2d c2 = v := ⟨_, rfl⟩
        have fin_d142 : Jvm.Free.Fl.Fin64 d142 := by rw [← hd142]; exact Jvm.Free.Fl.i2d_fin _
        refine g_i2d X135 hx (hb hby at_161) hd142 ?_
        refine g_dastore X135 hx hZ e136 F139 (i := 2) (by decide) (by decide) (by decide) (hb hby at_162) ?_
        intro T143 h146 X144 e145 W147
        have F148 := F139.same W147
        have Z149 : n0 ≤ h146.size := by rw [W147.size]; exact Z140
        have N150 := Fr.snoc X144 N141 ge_ar143
        refine g_dup X144 hx (hb hby at_163) rfl ?_
        refine g_iconst X144 hx (hb hby at_164) (v := (3 : Int32)) (by decide) ?_
        refine g_iload X144 hx (hb hby at_165) rfl ?_
        obtain ⟨d151, hd151⟩ : ∃ v : UInt64, FP.i2d c3 = v := ⟨_, rfl⟩
        have fin_d151 : Jvm.Free.Fl.Fin64 d151 := by rw [← hd151]; exact Jvm.Free.Fl.i2d_fin _
        refine g_i2d X144 hx (hb hby at_167) hd151 ?_
        refine g_dastore X144 hx hZ e145 F148 (i := 3) (by decide) (by decide) (by decide) (hb hby at_168) ?_
        intro T152 h155 X153 e154 W156
        have F157 := F148.same W156
        have Z158 : n0 ≤ h155.size := by rw [W156.size]; exact Z149
        have N159 := Fr.snoc X153 N150 ge_ar143
        refine g_astore X153 hx (hb hby at_169) rfl (L' := #[.val (.int q0), .val (.int q1), .val (.int q2), .val (.int q3), .val (.int nn), .val (.int c0), .val (.int c1), .val (.int c2), .val (.int c3), .val (.int c4), .val (.int c5), .val (.int vv), .val (.ref ar143), .unset, .unset, .unset]) rfl ?_
        refine g_goto X153 hx (hb hby at_171) (by decide) (pc' := 260) (by decide) ?_
        have en : nn.toInt = 4 := by
          rw [hc139_112]; rfl
        exact J260 _ _ _ _ _ X153 e154 N159 Z158 (by rw [en]; exact F157) (by
          intro k hk
          rw [en] at hk
          have hk' : k < 4 := hk
          rcases own_lt4 hk' with rfl | rfl | rfl | rfl <;> simp [own_b, hd124, hd133, hd142, hd151])
      ·
        refine g_icmpYes X0 hx (hb hby at_139) (feq hc139_112).2 (by decide) (pc' := 174) (by decide) ?_
        refine g_iload X0 hx (hb hby at_174) rfl ?_
        refine g_iconst X0 hx (hb hby at_176) (v := (5 : Int32)) (by decide) ?_
        by_cases hc177_160 : nn = (5 : Int32)
        ·
          refine g_icmpNo X0 hx (hb hby at_177) (teq hc177_160).2 ?_
          refine g_iconst X0 hx (hb hby at_180) (v := (5 : Int32)) (by decide) ?_
          refine g_newP X0 hx hZ (ty := .double) rfl (hw _ (List.mem_of_getElem? (i := 1) rfl)) e0 (hb hby at_181) (by decide) (cap := 6) (by decide) (by decide) (by decide) (by decide) ?_
          intro T161 h164 ar181 cA168 gar181 X162 e163 E165 F166
          have ge_ar181 : n0 ≤ ar181 := by rw [gar181]; exact Z0
          have Z170 : n0 ≤ h164.size := Nat.le_trans Z0 E165.1
          have F169 : Av Z h164 ar181 .double 5 (fun _ => .double 0) := Av.newK F166 (by decide)
          refine g_dup X162 hx (hb hby at_183) rfl ?_
          refine g_iconst X162 hx (hb hby at_184) (v := (0 : Int32)) (by decide) ?_
          refine g_iload X162 hx (hb hby at_185) rfl ?_
          obtain ⟨d172, hd172⟩ : ∃ v : UInt64, FP.i2d c0 = v := ⟨_, rfl⟩
          have fin_d172 : Jvm.Free.Fl.Fin64 d172 := by rw [← hd172]; exact Jvm.Free.Fl.i2d_fin _
          refine g_i2d X162 hx (hb hby at_187) hd172 ?_
          refine g_dastore X162 hx hZ e163 F169 (i := 0) (by decide) (by decide) (by decide) (hb hby at_188) ?_
          intro T173 h176 X174 e175 W177
          have F178 := F169.same W177
          have Z179 : n0 ≤ h176.size := by rw [W177.size]; exact Z170
          have N180 := Fr.snoc X174 N0 ge_ar181
          refine g_dup X174 hx (hb hby at_189) rfl ?_
          refine g_iconst X174 hx (hb hby at_190) (v := (1 : Int32)) (by decide) ?_
          refine g_iload X174 hx (hb hby at_191) rfl ?_
          obtain ⟨d181, hd181⟩ : ∃ v : UInt64, FP.i2d c1 = v := ⟨_, rfl⟩
          have fin_d181 : Jvm.Free.Fl.Fin64 d181 := by rw [← hd181]; exact Jvm.Free.Fl.i2d_fin _
          refine g_i2d X174 hx (hb hby at_193) hd181 ?_
          refine g_dastore X174 hx hZ e175 F178 (i := 1) (by decide) (by decide) (by decide) (hb hby at_194) ?_
          intro T182 h185 X183 e184 W186
          have F187 := F178.same W186
          have Z188 : n0 ≤ h185.size := by rw [W186.size]; exact Z179
          have N189 := Fr.snoc X183 N180 ge_ar181
          refine g_dup X183 hx (hb hby at_195) rfl ?_
          refine g_iconst X183 hx (hb hby at_196) (v := (2 : Int32)) (by decide) ?_
          refine g_iload X183 hx (hb hby at_197) rfl ?_
          obtain ⟨d190, hd190⟩ : ∃ v : UInt64, FP.i2d c2 = v := ⟨_, rfl⟩
          have fin_d190 : Jvm.Free.Fl.Fin64 d190 := by rw [← hd190]; exact Jvm.Free.Fl.i2d_fin _
          refine g_i2d X183 hx (hb hby at_199) hd190 ?_
          refine g_dastore X183 hx hZ e184 F187 (i := 2) (by decide) (by decide) (by decide) (hb hby at_200) ?_
          intro T191 h194 X192 e193 W195
          have F196 := F187.same W195
          have Z197 : n0 ≤ h194.size := by rw [W195.size]; exact Z188
          have N198 := Fr.snoc X192 N189 ge_ar181
          refine g_dup X192 hx (hb hby at_201) rfl ?_
          refine g_iconst X192 hx (hb hby at_202) (v := (3 : Int32)) (by decide) ?_
          refine g_iload X192 hx (hb hby at_203) rfl ?_
          obtain ⟨d199, hd199⟩ : ∃ v : UInt64, FP.i2d c3 = v := ⟨_, rfl⟩
          have fin_d199 : Jvm.Free.Fl.Fin64 d199 := by rw [← hd199]; exact Jvm.Free.Fl.i2d_fin _
          refine g_i2d X192 hx (hb hby at_205) hd199 ?_
          refine g_dastore X192 hx hZ e193 F196 (i := 3) (by decide) (by decide) (by decide) (hb hby at_206) ?_
          intro T200 h203 X201 e202 W204
          have F205 := F196.same W204
          have Z206 : n0 ≤ h203.size := by rw [W204.size]; exact Z197
          have N207 := Fr.snoc X201 N198 ge_ar181
          refine g_dup X201 hx (hb hby at_207) rfl ?_
          refine g_iconst X201 hx (hb hby at_208) (v := (4 : Int32)) (by decide) ?_
          refine g_iload X201 hx (hb hby at_209) rfl ?_
          obtain ⟨d208, hd208⟩ : ∃ v : UInt64, FP.i2d c4 = v := ⟨_, rfl⟩
          have fin_d208 : Jvm.Free.Fl.Fin64 d208 := by rw [← hd208]; exact Jvm.Free.Fl.i2d_fin _
          refine g_i2d X201 hx (hb hby at_211) hd208 ?_
          refine g_dastore X201 hx hZ e202 F205 (i := 4) (by decide) (by decide) (by decide) (hb hby at_212) ?_
          intro T209 h212 X210 e211 W213
          have F214 := F205.same W213
          have Z215 : n0 ≤ h212.size := by rw [W213.size]; exact Z206
          have N216 := Fr.snoc X210 N207 ge_ar181
          refine g_astore X210 hx (hb hby at_213) rfl (L' := #[.val (.int q0), .val (.int q1), .val (.int q2), .val (.int q3), .val (.int nn), .val (.int c0), .val (.int c1), .val (.int c2), .val (.int c3), .val (.int c4), .val (.int c5), .val (.int vv), .val (.ref ar181), .unset, .unset, .unset]) rfl ?_
          refine g_goto X210 hx (hb hby at_215) (by decide) (pc' := 260) (by decide) ?_
          have en : nn.toInt = 5 := by
            rw [hc177_160]; rfl
          exact J260 _ _ _ _ _ X210 e211 N216 Z215 (by rw [en]; exact F214) (by
            intro k hk
            rw [en] at hk
            have hk' : k < 5 := hk
            rcases own_lt5 hk' with rfl | rfl | rfl | rfl | rfl <;> simp [own_b, hd172, hd181, hd190, hd199, hd208])
        ·
          refine g_icmpYes X0 hx (hb hby at_177) (feq hc177_160).2 (by decide) (pc' := 218) (by decide) ?_
          refine g_bipush X0 hx (hb hby at_218) (v := (6 : Int32)) (by decide) ?_
          refine g_newP X0 hx hZ (ty := .double) rfl (hw _ (List.mem_of_getElem? (i := 1) rfl)) e0 (hb hby at_220) (by decide) (cap := 6) (by decide) (by decide) (by decide) (by decide) ?_
          intro T217 h220 ar220 cA224 gar220 X218 e219 E221 F222
          have ge_ar220 : n0 ≤ ar220 := by rw [gar220]; exact Z0
          have Z226 : n0 ≤ h220.size := Nat.le_trans Z0 E221.1
          have F225 : Av Z h220 ar220 .double 6 (fun _ => .double 0) := Av.newK F222 (by decide)
          refine g_dup X218 hx (hb hby at_222) rfl ?_
          refine g_iconst X218 hx (hb hby at_223) (v := (0 : Int32)) (by decide) ?_
          refine g_iload X218 hx (hb hby at_224) rfl ?_
          obtain ⟨d228, hd228⟩ : ∃ v : UInt64, FP.i2d c0 = v := ⟨_, rfl⟩
          have fin_d228 : Jvm.Free.Fl.Fin64 d228 := by rw [← hd228]; exact Jvm.Free.Fl.i2d_fin _
          refine g_i2d X218 hx (hb hby at_226) hd228 ?_
          refine g_dastore X218 hx hZ e219 F225 (i := 0) (by decide) (by decide) (by decide) (hb hby at_227) ?_
          intro T229 h232 X230 e231 W233
          have F234 := F225.same W233
          have Z235 : n0 ≤ h232.size := by rw [W233.size]; exact Z226
          have N236 := Fr.snoc X230 N0 ge_ar220
          refine g_dup X230 hx (hb hby at_228) rfl ?_
          refine g_iconst X230 hx (hb hby at_229) (v := (1 : Int32)) (by decide) ?_
          refine g_iload X230 hx (hb hby at_230) rfl ?_
          obtain ⟨d237, hd237⟩ : ∃ v : UInt64, FP.i2d c1 = v := ⟨_, rfl⟩
          have fin_d237 : Jvm.Free.Fl.Fin64 d237 := by rw [← hd237]; exact Jvm.Free.Fl.i2d_fin _
          refine g_i2d X230 hx (hb hby at_232) hd237 ?_
          refine g_dastore X230 hx hZ e231 F234 (i := 1) (by decide) (by decide) (by decide) (hb hby at_233) ?_
          intro T238 h241 X239 e240 W242
          have F243 := F234.same W242
          have Z244 : n0 ≤ h241.size := by rw [W242.size]; exact Z235
          have N245 := Fr.snoc X239 N236 ge_ar220
          refine g_dup X239 hx (hb hby at_234) rfl ?_
          refine g_iconst X239 hx (hb hby at_235) (v := (2 : Int32)) (by decide) ?_
          refine g_iload X239 hx (hb hby at_236) rfl ?_
          obtain ⟨d246, hd246⟩ : ∃ v : UInt64, FP.i2d c2 = v := ⟨_, rfl⟩
          have fin_d246 : Jvm.Free.Fl.Fin64 d246 := by rw [← hd246]; exact Jvm.Free.Fl.i2d_fin _
          refine g_i2d X239 hx (hb hby at_238) hd246 ?_
          refine g_dastore X239 hx hZ e240 F243 (i := 2) (by decide) (by decide) (by decide) (hb hby at_239) ?_
          intro T247 h250 X248 e249 W251
          have F252 := F243.same W251
          have Z253 : n0 ≤ h250.size := by rw [W251.size]; exact Z244
          have N254 := Fr.snoc X248 N245 ge_ar220
          refine g_dup X248 hx (hb hby at_240) rfl ?_
          refine g_iconst X248 hx (hb hby at_241) (v := (3 : Int32)) (by decide) ?_
          refine g_iload X248 hx (hb hby at_242) rfl ?_
          obtain ⟨d255, hd255⟩ : ∃ v : UInt64, FP.i2d c3 = v := ⟨_, rfl⟩
          have fin_d255 : Jvm.Free.Fl.Fin64 d255 := by rw [← hd255]; exact Jvm.Free.Fl.i2d_fin _
          refine g_i2d X248 hx (hb hby at_244) hd255 ?_
          refine g_dastore X248 hx hZ e249 F252 (i := 3) (by decide) (by decide) (by decide) (hb hby at_245) ?_
          intro T256 h259 X257 e258 W260
          have F261 := F252.same W260
          have Z262 : n0 ≤ h259.size := by rw [W260.size]; exact Z253
          have N263 := Fr.snoc X257 N254 ge_ar220
          refine g_dup X257 hx (hb hby at_246) rfl ?_
          refine g_iconst X257 hx (hb hby at_247) (v := (4 : Int32)) (by decide) ?_
          refine g_iload X257 hx (hb hby at_248) rfl ?_
          obtain ⟨d264, hd264⟩ : ∃ v : UInt64, FP.i2d c4 = v := ⟨_, rfl⟩
          have fin_d264 : Jvm.Free.Fl.Fin64 d264 := by rw [← hd264]; exact Jvm.Free.Fl.i2d_fin _
          refine g_i2d X257 hx (hb hby at_250) hd264 ?_
          refine g_dastore X257 hx hZ e258 F261 (i := 4) (by decide) (by decide) (by decide) (hb hby at_251) ?_
          intro T265 h268 X266 e267 W269
          have F270 := F261.same W269
          have Z271 : n0 ≤ h268.size := by rw [W269.size]; exact Z262
          have N272 := Fr.snoc X266 N263 ge_ar220
          refine g_dup X266 hx (hb hby at_252) rfl ?_
          refine g_iconst X266 hx (hb hby at_253) (v := (5 : Int32)) (by decide) ?_
          refine g_iload X266 hx (hb hby at_254) rfl ?_
          obtain ⟨d273, hd273⟩ : ∃ v : UInt64, FP.i2d c5 = v := ⟨_, rfl⟩
          have fin_d273 : Jvm.Free.Fl.Fin64 d273 := by rw [← hd273]; exact Jvm.Free.Fl.i2d_fin _
          refine g_i2d X266 hx (hb hby at_256) hd273 ?_
          refine g_dastore X266 hx hZ e267 F270 (i := 5) (by decide) (by decide) (by decide) (hb hby at_257) ?_
          intro T274 h277 X275 e276 W278
          have F279 := F270.same W278
          have Z280 : n0 ≤ h277.size := by rw [W278.size]; exact Z271
          have N281 := Fr.snoc X275 N272 ge_ar220
          refine g_astore X275 hx (hb hby at_258) rfl (L' := #[.val (.int q0), .val (.int q1), .val (.int q2), .val (.int q3), .val (.int nn), .val (.int c0), .val (.int c1), .val (.int c2), .val (.int c3), .val (.int c4), .val (.int c5), .val (.int vv), .val (.ref ar220), .unset, .unset, .unset]) rfl ?_
          have en : nn.toInt = 6 := by
            have q1 := b_nn
            have k2 : nn.toInt ≠ 2 := fun z => hc81_43 (Int32.toInt_inj.mp z)
            have k3 : nn.toInt ≠ 3 := fun z => hc107_73 (Int32.toInt_inj.mp z)
            have k4 : nn.toInt ≠ 4 := fun z => hc139_112 (Int32.toInt_inj.mp z)
            have k5 : nn.toInt ≠ 5 := fun z => hc177_160 (Int32.toInt_inj.mp z)
            omega
          exact J260 _ _ _ _ _ X275 e276 N281 Z280 (by rw [en]; exact F279) (by
            intro k hk
            rw [en] at hk
            have hk' : k < 6 := hk
            rcases own_lt6 hk' with rfl | rfl | rfl | rfl | rfl | rfl <;> simp [own_b, hd228, hd237, hd246, hd255, hd264, hd273])
set_option maxRecDepth 65536 in
set_option maxHeartbeats 40000000 in
theorem comes_1 {Post : Tables → Env → Array Value → State → Outcome → State → Prop} (hpost : ∀ tb e args s v u, (limb_1_1.after args s (.returned v) u = true ∧ limb_1_2.after args s (.returned v) u = true ∧ True) → FrameEnd s (.returned v) u (Jvm.fieldLocs frame_1_writes args s ++ Jvm.arrayLocs frame_1_arrays args s ++ Jvm.staticLocs frame_1_statics s) 16 128 → Post tb e args s (.returned v) u) :
    ArmFor flags0 classFile x code maxLocals ret World_1 tables_1 room_1 Calls_1 rest_1 Pre_1 Post := by
  intro l hfl _ _ p e ha hc hk s m args below hf hA hF happ hP
  obtain ⟨hcalls, hrest, hpre⟩ := hP
  obtain ⟨-, -, -, hnamed, -, -, -, hat⟩ := (Spec.applies_iff hf).mp happ
  obtain ⟨hg, hn⟩ := and_e (Cond.before_iff.mp (show (Jvm.Cond.and given_1 narrow_1).before args s = true from hpre))
  obtain ⟨h1, g0⟩ := and_e hg
  obtain ⟨k0, g1⟩ := and_e g0
  obtain ⟨k1, g2⟩ := and_e g1
  obtain ⟨k2, g3⟩ := and_e g2
  obtain ⟨w0, w1, w2, w3, rfl⟩ : ∃ w0 w1 w2 w3 : Value, args = #[w0, w1, w2, w3] := by
    have hs : args.size = 4 := by simpa [Cond.value, given_1] using h1
    obtain ⟨L⟩ := args
    match L, hs with
    | [w0, w1, w2, w3], _ => exact ⟨w0, w1, w2, w3, rfl⟩
  have hw := fun d (hd : d ∈ tables_1) => atoms_spec (ws := Jvm.Cond.code x code maxLocals ret :: tables_1) hat d (List.mem_cons_of_mem _ hd)
  have hfit : Fit s := fun {y c} hc i hi => by
    obtain ⟨ha, rfl⟩ := Array.getElem?_eq_some_iff.mp hc
    have q := List.all_eq_true.mp ((Array.all_eq_true_iff_forall_mem.mp hF) _ (Array.getElem_mem ha)) i (List.mem_range.mpr hi)
    simpa [Array.getElem?_eq_getElem hi] using q
  obtain ⟨i0, e0⟩ := is_v k0
  obtain rfl : w0 = (.int i0) := Option.some.inj e0
  obtain ⟨i1, e1⟩ := is_v k1
  obtain rfl : w1 = (.int i1) := Option.some.inj e1
  obtain ⟨i2, e2⟩ := is_v k2
  obtain rfl : w2 = (.int i2) := Option.some.inj e2
  obtain ⟨i3, e3⟩ := is_v g3
  obtain rfl : w3 = (.int i3) := Option.some.inj e3
  obtain ⟨n, o, h1, h2, h3, _, L, rfl, ⟨rfl, N⟩, hq⟩ := rm0 l s _ hw tables_1 i0 i1 i2 i3 s.heap s.heap.size (Nat.le_refl _)  p e ha hc hk s m _ below hf ((Spec.applies_iff_loose hf).mp happ).1 ⟨rfl, State.Warmed39.refl s, rfl⟩ trivial
  refine ⟨n, _, h1, h2, h3, hpost _ _ _ _ _ _ ⟨Cond.after_iff.mpr rfl, Cond.after_iff.mpr (eq_i res_at (Term.int_eval (1)) rfl), trivial⟩ ⟨hq.1, hq.2.1, (hq.2.2.sift fun y hy => Or.inr (N y hy)).mono (by decide) (by decide)⟩⟩
theorem main_1_1 : Claimed_1_1 := comes_1 fun _ _ _ _ _ _ h hF => ⟨h.1, hF⟩
theorem main_1_2 : Claimed_1_2 := comes_1 fun _ _ _ _ _ _ h hF => ⟨h.2.1, hF⟩
end Jvm.Pilot.@@N@@
namespace Jvm.Pilot.@@N@@
open Jvm Jvm.ClassFile Sem Op Lib Jvm.Free Jvm.Stand Jvm.Pilot.@@N@@.Jvm.D
/-! MADE BY PROGRAM (witnessworld.py) out of the Statement's table words and the real class files: 11 classes; the members and pool entries that the words name. The judged class is class 1, her method 1. -/
namespace start1
open Jvm.ClassFile
def u (s : String) : CpInfo := .utf8 (stringToUtf16 s)
/-- a pool by its gaps: so many unusable entries, then the entry; so many at the end -/
def gap : Nat → List CpInfo → List CpInfo
  | 0, r => r
  | n + 1, r => .unusable :: gap n r
def poolList (es : List (Nat × CpInfo)) (last : Nat) : List CpInfo := es.foldr (fun e r => gap e.1 (e.2 :: r)) (gap last [])
def pool (es : List (Nat × CpInfo)) (last : Nat) : Array CpInfo := ⟨poolList es last⟩
def fileOf (pool : Array CpInfo) (this : Nat) (attrs : Array Attribute := #[]) (ms : Array MethodInfo := #[]) (fl : Nat := 33) (sup : Nat := 0) (ifs : Array Nat := #[]) (fds : Array FieldInfo := #[]) : ClassFile where
  minorVersion := 0
  majorVersion := 65
  constantPool := pool
  accessFlags := fl
  thisClass := this
  superClass := sup
  interfaces := ifs
  fields := fds
  methods := ms
  attributes := attrs
def plain (name : String) (sup : Option ClassId) : Class where
  name := name
  kind := .ordinary
  loader := none
  accessFlags := 33
  super := sup
  interfaces := #[]
  cf := none
  fields := #[]
  methods := #[]
  instanceTypes := #[]
  staticTypes := #[]
  resolved := #[]
  callSites := []
  init := .initialized
  statics := none
  mirror := none

def pool0 : Array CpInfo := pool [(5, u "<init>"), (0, u "()V"), (1, .class_ 10), (1, u "java/lang/Object")] 113

def k0m0 : Method := { name := "<init>", desc := "()V", sig := { parameters := [], returnType := none }, accessFlags := 1, code := none }
/-- java/lang/Object -/
def k0 : Class := { plain "java/lang/Object" none with
  accessFlags := 33
  interfaces := #[]
  cf := some (fileOf pool0 8 #[] #[{ accessFlags := 1, nameIndex := 5, descriptorIndex := 6, attributes := #[] }] 33 0 #[] #[])
  fields := #[]
  methods := #[k0m0]
  instanceTypes := #[]
  staticTypes := #[]
  resolved := Array.replicate 124 none
  statics := none }

def pool1 : Array CpInfo := pool [(2, .class_ 4), (1, u "java/lang/Object"), (0, u "<init>"), (0, u "()V"), (0, .integer 2147483647), (0, .methodref 9 10), (0, .class_ 11), (0, .nameAndType 12 13), (0, u "com/example/choreon/choreon/Intervals"), (0, u "indexAt"), (0, u "([DD)I"), (0, .class_ 15), (0, u "com/example/choreon/choreon/IntervalsIndexAtPinLaw"), (2, u "law"), (0, u "(IIII)Z")] 5

def k1m0 : Method := { name := "<init>", desc := "()V", sig := { parameters := [], returnType := none }, accessFlags := 2, code := none }
def k1c1 : Code := { maxStack := 5, maxLocals := 16, code := code, exceptionTable := #[], attributes := #[] }
def k1m1 : Method := { name := "law", desc := "(IIII)Z", sig := { parameters := [.int, .int, .int, .int], returnType := some .boolean }, accessFlags := 9, code := some k1c1 }
/-- com/example/choreon/choreon/IntervalsIndexAtPinLaw -/
def k1 : Class := { plain "com/example/choreon/choreon/IntervalsIndexAtPinLaw" (some 0) with
  accessFlags := 49
  interfaces := #[]
  cf := some (fileOf pool1 14 #[] #[{ accessFlags := 2, nameIndex := 5, descriptorIndex := 6, attributes := #[] }, { accessFlags := 9, nameIndex := 18, descriptorIndex := 19, attributes := #[] }] 49 2 #[] #[])
  fields := #[]
  methods := #[k1m0, k1m1]
  instanceTypes := #[]
  staticTypes := #[]
  resolved := Array.replicate 25 none
  statics := none }

def pool2 : Array CpInfo := pool [(2, .class_ 4), (1, u "java/lang/Object"), (0, u "<init>"), (0, u "()V"), (0, .class_ 8), (0, u "com/example/choreon/choreon/Intervals"), (2, u "indexAt"), (0, u "([DD)I")] 3

def k2m0 : Method := { name := "<init>", desc := "()V", sig := { parameters := [], returnType := none }, accessFlags := 2, code := none }
def k2c1 : Code := { maxStack := 4, maxLocals := 6, code := prog_29_method_2_code, exceptionTable := #[], attributes := #[] }
def k2m1 : Method := { name := "indexAt", desc := "([DD)I", sig := { parameters := [(.array .double), .double], returnType := some .int }, accessFlags := 8, code := some k2c1 }
/-- com/example/choreon/choreon/Intervals -/
def k2 : Class := { plain "com/example/choreon/choreon/Intervals" (some 0) with
  accessFlags := 48
  interfaces := #[]
  cf := some (fileOf pool2 7 #[] #[{ accessFlags := 2, nameIndex := 5, descriptorIndex := 6, attributes := #[] }, { accessFlags := 8, nameIndex := 11, descriptorIndex := 12, attributes := #[] }] 48 2 #[] #[])
  fields := #[]
  methods := #[k2m0, k2m1]
  instanceTypes := #[]
  staticTypes := #[]
  resolved := Array.replicate 16 none
  statics := none }

def pool3 : Array CpInfo := pool [(1, u "java/lang/Cloneable"), (0, .class_ 1), (0, u "java/lang/Object"), (0, .class_ 3)] 3

/-- java/lang/Cloneable -/
def k3 : Class := { plain "java/lang/Cloneable" (some 0) with
  accessFlags := 1537
  interfaces := #[]
  cf := some (fileOf pool3 2 #[] #[] 1537 4 #[] #[])
  fields := #[]
  methods := #[]
  instanceTypes := #[]
  staticTypes := #[]
  resolved := Array.replicate 8 none
  statics := none }

def pool4 : Array CpInfo := pool [(1, u "java/io/Serializable"), (0, .class_ 1), (0, u "java/lang/Object"), (0, .class_ 3)] 3

/-- java/io/Serializable -/
def k4 : Class := { plain "java/io/Serializable" (some 0) with
  accessFlags := 1537
  interfaces := #[]
  cf := some (fileOf pool4 2 #[] #[] 1537 4 #[] #[])
  fields := #[]
  methods := #[]
  instanceTypes := #[]
  staticTypes := #[]
  resolved := Array.replicate 8 none
  statics := none }

/-- the primitive byte -/
def k5 : Class := { plain "byte" none with kind := .primitive 'B', accessFlags := 0x411 }
/-- [B -/
def k6 : Class := { plain "[B" (some 0) with kind := .array 5 .byte, interfaces := #[3, 4], accessFlags := 1041 }

/-- the primitive double -/
def k7 : Class := { plain "double" none with kind := .primitive 'D', accessFlags := 0x411 }
/-- [D -/
def k8 : Class := { plain "[D" (some 0) with kind := .array 7 .double, interfaces := #[3, 4], accessFlags := 1041 }

/-- the primitive int -/
def k9 : Class := { plain "int" none with kind := .primitive 'I', accessFlags := 0x411 }
/-- [I -/
def k10 : Class := { plain "[I" (some 0) with kind := .array 9 .int, interfaces := #[3, 4], accessFlags := 1041 }

def heap : Heap := #[]
def classes : Array Class := #[k0, k1, k2, k3, k4, k5, k6, k7, k8, k9, k10]
def interned : List (Array UInt16 × Addr) := []
def slotsUsed : Nat := 0
def theMethod : MethodId := ⟨1, 1⟩
def args0 : Array Value := #[.int 5, .int 7, .int 0, .int 1]
def aboutOver (below : List Frame) : State where
  vm := { classes := classes, interned := interned.toArray }
  heap := heap
  slotsUsed := slotsUsed
  threads := #[{ frames := .invoking theMethod args0 :: below }]
def below0 : List Frame := [.native { method := ⟨0, 0⟩, args := #[] }]
def about1 : State := aboutOver below0
def p0 : Program := .bare "" "" ""
def e0 : Env := launch0.env 0 0 0
theorem w_frames : about1.frames = Frame.invoking theMethod args0 :: below0 := rfl
set_option maxRecDepth 65536 in
theorem w_args : argsFit about1.vm theMethod args0 = true := by decide +kernel
set_option maxRecDepth 65536 in
theorem w_heap : heapFits about1 = true := by decide +kernel
set_option maxRecDepth 65536 in
theorem w_runnable : about1.curStatus? = some .runnable := by decide +kernel
set_option maxRecDepth 65536 in
theorem w_alone : about1.alone = true := by decide +kernel
set_option maxRecDepth 65536 in
theorem w_named : about1.methodNamed? x = some theMethod := by decide +kernel
set_option maxRecDepth 65536 in
theorem w_hears : about1.hears theMethod below0 = true := by decide +kernel
set_option maxRecDepth 65536 in
theorem w_ripe : about1.ripe theMethod args0 below0 = true := by decide +kernel
theorem w_running : about1.status = .running := rfl
set_option maxRecDepth 65536 in
theorem w_room : about1.hasRoom e0.platform room_1 = true :=
  launch0.hasRoom_least _ room_1 (by decide +kernel) (by decide +kernel) (by decide +kernel) (by decide +kernel) (by decide +kernel) (by decide +kernel)
theorem allAtoms_all (ts : List Jvm.Cond) (a : Array Jvm.Value) (st : Jvm.State) : (allAtoms ts).before a st = ts.all (fun c => c.before a st) := by
  induction ts with
  | nil => rfl
  | cons c t ih =>
    show (Jvm.Cond.and c (allAtoms t)).before a st = _
    rw [Jvm.Cond.before_and, ih, List.all_cons]
def words1 : List Jvm.Cond := Jvm.Cond.code x code maxLocals ret :: tables_1
/-- a 'code' word, met by the world's own term for the bytes: nothing is compared byte by byte -/
theorem code_word {y : MethodName} {bytes : ByteArray} {mx : Nat} {rt : Option FieldType} {a : Array Value} {s : State} {m : MethodId} {meth : Method} {c : Code} (h1 : s.methodNamed? y = some m) (h2 : s.vm.method? m = some meth) (h3 : meth.code = some c) (h4 : c.code = bytes)
    (h5 : (c.maxLocals == mx && c.exceptionTable.isEmpty && decide (c.maxStack ≤ mostOperands) && decide (meth.sig.returnType = rt) && !meth.locks && decide (parseMethodDescriptor y.desc = some meth.sig)) = true) : (Jvm.Cond.code y bytes mx rt).before a s = true := by
  simp only [Bool.and_eq_true, beq_iff_eq, Bool.not_eq_true', decide_eq_true_eq] at h5
  obtain ⟨⟨⟨⟨⟨g1, g2⟩, g3⟩, g4⟩, g5⟩, g6⟩ := h5
  simp [Cond.before, Cond.holds, Cond.value, h1, h2, h3, h4, g1, g2, g3, g4, g5, g6]
def isCode : Jvm.Cond → Bool
  | .code _ _ _ _ => true
  | _ => false
theorem all_split {L : List Jvm.Cond} {P : Jvm.Cond → Bool} (h1 : L.all (fun c => isCode c || P c) = true) (h2 : ∀ c ∈ L.filter isCode, P c = true) : L.all P = true := by
  refine List.all_eq_true.mpr fun c hc => ?_
  have h := List.all_eq_true.mp h1 c hc
  rcases Bool.eq_false_or_eq_true (isCode c) with hi | hi
  · exact h2 c (List.mem_filter.mpr ⟨hc, hi⟩)
  · simpa [hi] using h
set_option maxRecDepth 65536 in
theorem w_c0 : (Jvm.Cond.code x code maxLocals ret).before args0 about1 = true := code_word (m := ⟨1, 1⟩) (meth := k1m1) (c := k1c1) (by decide +kernel) rfl rfl rfl (by decide +kernel)
set_option maxRecDepth 65536 in
theorem w_c1 : (Jvm.Cond.code ({ cls := "com/example/choreon/choreon/Intervals", name := "indexAt", desc := "([DD)I" } : Jvm.MethodName) prog_29_method_2_code (6 : Nat) (Option.some Jvm.ClassFile.FieldType.int)).before args0 about1 = true := code_word (m := ⟨2, 1⟩) (meth := k2m1) (c := k2c1) (by decide +kernel) rfl rfl rfl (by decide +kernel)
def codes1 : List Jvm.Cond := [Jvm.Cond.code x code maxLocals ret, Jvm.Cond.code ({ cls := "com/example/choreon/choreon/Intervals", name := "indexAt", desc := "([DD)I" } : Jvm.MethodName) prog_29_method_2_code (6 : Nat) (Option.some Jvm.ClassFile.FieldType.int)]
set_option maxRecDepth 65536 in
theorem codes_eq : words1.filter isCode = codes1 := rfl
theorem w_codes : ∀ c ∈ words1.filter isCode, c.before args0 about1 = true := by
  rw [codes_eq]
  intro c hc
  simp only [codes1, List.mem_cons, List.not_mem_nil, or_false] at hc
  rcases hc with rfl | rfl
  · exact w_c0
  · exact w_c1
set_option maxRecDepth 65536 in
theorem w_t1 : words1.all (fun c => isCode c || c.before args0 about1) = true := by decide +kernel
theorem w_tables : (allAtoms (Jvm.Cond.code x code maxLocals ret :: tables_1)).before args0 about1 = true := by
  rw [allAtoms_all]
  show words1.all (fun c => c.before args0 about1) = true
  refine all_split ?_ w_codes
  rw [w_t1]
set_option maxRecDepth 65536 in
theorem w_case : (Jvm.Cond.and given_1 narrow_1).before args0 about1 = true := by decide +kernel
theorem w_applies : (headSpec (Jvm.Cond.code x code maxLocals ret :: tables_1) room_1).applies x e0.platform about1 = true :=
  (Spec.applies_iff w_frames).mpr ⟨w_running, w_runnable, w_alone, w_named, w_hears, w_ripe, w_room, w_tables⟩
theorem atStart : AtStart classFile x code maxLocals ret World_1 tables_1 room_1 Calls_1 rest_1 Pre_1 launch0 p0 e0 about1 theMethod args0 below0 :=
  ⟨lists_1, trivial, launch0.admits_env _ _ _, launch0.least_env, fairChoices_fair.cas, fairChoices_fair.clock, w_frames, w_args, w_heap, w_applies, trivial, trivial, w_case⟩
end start1
theorem witness_1 : WitnessClaimed_1 := ⟨start1.p0, start1.e0, start1.about1, start1.theMethod, start1.args0, start1.below0, start1.atStart⟩
end Jvm.Pilot.@@N@@
