import JvmDerived
import JvmDerived.Pilot.@@N@@Statement
import JvmDerived.Pilot.@@N@@Code
set_option linter.unusedVariables false
set_option linter.unusedSimpArgs false
namespace Jvm.Pilot.@@N@@
open Jvm Jvm.ClassFile Sem Op Lib Jvm.Free Jvm.Stand Jvm.LawKit Jvm.RoadKit Bundle Jvm.Pilot.@@N@@.Jvm.D
section OwnKit
variable {p : Program} {l : Launch} {e : Env} {R : Room} {s : State} {m : MethodId} {args : Array Value} {below : List Frame} {meth : Method} {c : Code} {T : State} {locs : List Loc} {cells slots : Nat} {P : State → Outcome → Prop} {pc : Nat} {Ls : Array Slot} {st : List Value} {Z : State} {a0 : Array Value} {h : Heap} {own : String} {index : Nat}
/-- what is still owed from a state on -/
def Go (p : Program) (e : Env) (below : List Frame) (P : State → Outcome → Prop) (S : State) : Prop := ∃ s₂ o, Steps p.tables e below S s₂ ∧ s₂.status = .running ∧ Ended s₂ below o ∧ P s₂ o
theorem Go.by {S S' : State} (st : ∀ t, Steps p.tables e below S' t → Steps p.tables e below S t) (k : Go p e below P S') : Go p e below P S := by
  obtain ⟨a, b, h1, h2⟩ := k
  exact ⟨a, b, st _ h1, h2⟩
def Ret (s : State) (Q : Option Value → Heap → List Loc → Prop) (C N : Nat) (s₂ : State) (o : Outcome) : Prop := ∃ v L, o = .returned v ∧ Q v s₂.heap L ∧ FrameEnd s o s₂ L C N

theorem g_iloadN (X : Stand p l e R s m args below meth c T locs cells slots) (hx : p.tables.exec = Jvm.exec) {k : Fin 4} {v : Int32} (hd : decode c.code pc = .ok (.iload_n k, 1)) (hl : Ls[k.val]? = some (.val (.int v))) (q : Go p e below P (T.setTop (mkF m (pc + 1) Ls (.int v :: st)))) : Go p e below P (T.setTop (mkF m pc Ls st)) := q.by fun t r => XS.iloadN X.here hx rfl hd hl r
theorem g_iload (X : Stand p l e R s m args below meth c T locs cells slots) (hx : p.tables.exec = Jvm.exec) {k : Nat} {v : Int32} (hd : decode c.code pc = .ok (.iload k, 2)) (hl : Ls[k]? = some (.val (.int v))) (q : Go p e below P (T.setTop (mkF m (pc + 2) Ls (.int v :: st)))) : Go p e below P (T.setTop (mkF m pc Ls st)) := q.by fun t r => XS.iload X.here hx rfl hd hl r
theorem g_lloadN (X : Stand p l e R s m args below meth c T locs cells slots) (hx : p.tables.exec = Jvm.exec) {k : Fin 4} {v : Int64} (hd : decode c.code pc = .ok (.lload_n k, 1)) (hl : Ls[k.val]? = some (.val (.long v))) (q : Go p e below P (T.setTop (mkF m (pc + 1) Ls (.long v :: st)))) : Go p e below P (T.setTop (mkF m pc Ls st)) := q.by fun t r => XS.lloadN X.here hx rfl hd hl r
theorem g_lload (X : Stand p l e R s m args below meth c T locs cells slots) (hx : p.tables.exec = Jvm.exec) {k : Nat} {v : Int64} (hd : decode c.code pc = .ok (.lload k, 2)) (hl : Ls[k]? = some (.val (.long v))) (q : Go p e below P (T.setTop (mkF m (pc + 2) Ls (.long v :: st)))) : Go p e below P (T.setTop (mkF m pc Ls st)) := q.by fun t r => XS.lload X.here hx rfl hd hl r
theorem g_dloadN (X : Stand p l e R s m args below meth c T locs cells slots) (hx : p.tables.exec = Jvm.exec) {k : Fin 4} {v : UInt64} (hd : decode c.code pc = .ok (.dload_n k, 1)) (hl : Ls[k.val]? = some (.val (.double v))) (q : Go p e below P (T.setTop (mkF m (pc + 1) Ls (.double v :: st)))) : Go p e below P (T.setTop (mkF m pc Ls st)) := q.by fun t r => XS.dloadN X.here hx rfl hd hl r
theorem g_dload (X : Stand p l e R s m args below meth c T locs cells slots) (hx : p.tables.exec = Jvm.exec) {k : Nat} {v : UInt64} (hd : decode c.code pc = .ok (.dload k, 2)) (hl : Ls[k]? = some (.val (.double v))) (q : Go p e below P (T.setTop (mkF m (pc + 2) Ls (.double v :: st)))) : Go p e below P (T.setTop (mkF m pc Ls st)) := q.by fun t r => XS.dload X.here hx rfl hd hl r
theorem g_floadN (X : Stand p l e R s m args below meth c T locs cells slots) (hx : p.tables.exec = Jvm.exec) {k : Fin 4} {v : UInt32} (hd : decode c.code pc = .ok (.fload_n k, 1)) (hl : Ls[k.val]? = some (.val (.float v))) (q : Go p e below P (T.setTop (mkF m (pc + 1) Ls (.float v :: st)))) : Go p e below P (T.setTop (mkF m pc Ls st)) := q.by fun t r => XS.floadN X.here hx rfl hd hl r
theorem g_fload (X : Stand p l e R s m args below meth c T locs cells slots) (hx : p.tables.exec = Jvm.exec) {k : Nat} {v : UInt32} (hd : decode c.code pc = .ok (.fload k, 2)) (hl : Ls[k]? = some (.val (.float v))) (q : Go p e below P (T.setTop (mkF m (pc + 2) Ls (.float v :: st)))) : Go p e below P (T.setTop (mkF m pc Ls st)) := q.by fun t r => XS.fload X.here hx rfl hd hl r
theorem g_aloadN (X : Stand p l e R s m args below meth c T locs cells slots) (hx : p.tables.exec = Jvm.exec) {k : Fin 4} {v : Value} (hd : decode c.code pc = .ok (.aload_n k, 1)) (hl : Ls[k.val]? = some (.val v)) (hv : v.isRef = true) (q : Go p e below P (T.setTop (mkF m (pc + 1) Ls (v :: st)))) : Go p e below P (T.setTop (mkF m pc Ls st)) := q.by fun t r => XS.aloadN X.here hx rfl hd hl hv r
theorem g_aload (X : Stand p l e R s m args below meth c T locs cells slots) (hx : p.tables.exec = Jvm.exec) {k : Nat} {v : Value} (hd : decode c.code pc = .ok (.aload k, 2)) (hl : Ls[k]? = some (.val v)) (hv : v.isRef = true) (q : Go p e below P (T.setTop (mkF m (pc + 2) Ls (v :: st)))) : Go p e below P (T.setTop (mkF m pc Ls st)) := q.by fun t r => XS.aload X.here hx rfl hd hl hv r
theorem g_istoreN (X : Stand p l e R s m args below meth c T locs cells slots) (hx : p.tables.exec = Jvm.exec) {k : Fin 4} {v : Int32} {L' : Array Slot} (hd : decode c.code pc = .ok (.istore_n k, 1)) (hl : storeLocals Ls k.val (.int v) = some L') (q : Go p e below P (T.setTop (mkF m (pc + 1) L' st))) : Go p e below P (T.setTop (mkF m pc Ls (.int v :: st))) := q.by fun t r => XS.istoreN X.here hx rfl hd rfl hl r
theorem g_istore (X : Stand p l e R s m args below meth c T locs cells slots) (hx : p.tables.exec = Jvm.exec) {k : Nat} {v : Int32} {L' : Array Slot} (hd : decode c.code pc = .ok (.istore k, 2)) (hl : storeLocals Ls k (.int v) = some L') (q : Go p e below P (T.setTop (mkF m (pc + 2) L' st))) : Go p e below P (T.setTop (mkF m pc Ls (.int v :: st))) := q.by fun t r => XS.istore X.here hx rfl hd rfl hl r
theorem g_lstoreN (X : Stand p l e R s m args below meth c T locs cells slots) (hx : p.tables.exec = Jvm.exec) {k : Fin 4} {v : Int64} {L' : Array Slot} (hd : decode c.code pc = .ok (.lstore_n k, 1)) (hl : storeLocals Ls k.val (.long v) = some L') (q : Go p e below P (T.setTop (mkF m (pc + 1) L' st))) : Go p e below P (T.setTop (mkF m pc Ls (.long v :: st))) := q.by fun t r => XS.lstoreN X.here hx rfl hd rfl hl r
theorem g_lstore (X : Stand p l e R s m args below meth c T locs cells slots) (hx : p.tables.exec = Jvm.exec) {k : Nat} {v : Int64} {L' : Array Slot} (hd : decode c.code pc = .ok (.lstore k, 2)) (hl : storeLocals Ls k (.long v) = some L') (q : Go p e below P (T.setTop (mkF m (pc + 2) L' st))) : Go p e below P (T.setTop (mkF m pc Ls (.long v :: st))) := q.by fun t r => XS.lstore X.here hx rfl hd rfl hl r
theorem g_dstoreN (X : Stand p l e R s m args below meth c T locs cells slots) (hx : p.tables.exec = Jvm.exec) {k : Fin 4} {v : UInt64} {L' : Array Slot} (hd : decode c.code pc = .ok (.dstore_n k, 1)) (hl : storeLocals Ls k.val (.double v) = some L') (q : Go p e below P (T.setTop (mkF m (pc + 1) L' st))) : Go p e below P (T.setTop (mkF m pc Ls (.double v :: st))) := q.by fun t r => XS.dstoreN X.here hx rfl hd rfl hl r
theorem g_dstore (X : Stand p l e R s m args below meth c T locs cells slots) (hx : p.tables.exec = Jvm.exec) {k : Nat} {v : UInt64} {L' : Array Slot} (hd : decode c.code pc = .ok (.dstore k, 2)) (hl : storeLocals Ls k (.double v) = some L') (q : Go p e below P (T.setTop (mkF m (pc + 2) L' st))) : Go p e below P (T.setTop (mkF m pc Ls (.double v :: st))) := q.by fun t r => XS.dstore X.here hx rfl hd rfl hl r
theorem g_fstoreN (X : Stand p l e R s m args below meth c T locs cells slots) (hx : p.tables.exec = Jvm.exec) {k : Fin 4} {v : UInt32} {L' : Array Slot} (hd : decode c.code pc = .ok (.fstore_n k, 1)) (hl : storeLocals Ls k.val (.float v) = some L') (q : Go p e below P (T.setTop (mkF m (pc + 1) L' st))) : Go p e below P (T.setTop (mkF m pc Ls (.float v :: st))) := q.by fun t r => XS.fstoreN X.here hx rfl hd rfl hl r
theorem g_fstore (X : Stand p l e R s m args below meth c T locs cells slots) (hx : p.tables.exec = Jvm.exec) {k : Nat} {v : UInt32} {L' : Array Slot} (hd : decode c.code pc = .ok (.fstore k, 2)) (hl : storeLocals Ls k (.float v) = some L') (q : Go p e below P (T.setTop (mkF m (pc + 2) L' st))) : Go p e below P (T.setTop (mkF m pc Ls (.float v :: st))) := q.by fun t r => XS.fstore X.here hx rfl hd rfl hl r
theorem g_astoreN (X : Stand p l e R s m args below meth c T locs cells slots) (hx : p.tables.exec = Jvm.exec) {k : Fin 4} {v : Value} {L' : Array Slot} (hd : decode c.code pc = .ok (.astore_n k, 1)) (hv : v.isRef = true) (hl : storeLocals Ls k.val v = some L') (q : Go p e below P (T.setTop (mkF m (pc + 1) L' st))) : Go p e below P (T.setTop (mkF m pc Ls (v :: st))) := q.by fun t r => XS.astoreN X.here hx rfl hd rfl hv hl r
theorem g_astore (X : Stand p l e R s m args below meth c T locs cells slots) (hx : p.tables.exec = Jvm.exec) {k : Nat} {v : Value} {L' : Array Slot} (hd : decode c.code pc = .ok (.astore k, 2)) (hv : v.isRef = true) (hl : storeLocals Ls k v = some L') (q : Go p e below P (T.setTop (mkF m (pc + 2) L' st))) : Go p e below P (T.setTop (mkF m pc Ls (v :: st))) := q.by fun t r => XS.astore X.here hx rfl hd rfl hv hl r
theorem g_iconst (X : Stand p l e R s m args below meth c T locs cells slots) (hx : p.tables.exec = Jvm.exec) {i : Int} {v : Int32} (hd : decode c.code pc = .ok (.iconst i, 1)) (hv : Int32.ofInt i = v) (q : Go p e below P (T.setTop (mkF m (pc + 1) Ls (.int v :: st)))) : Go p e below P (T.setTop (mkF m pc Ls st)) := q.by fun t r => XS.iconst X.here hx rfl hd (hv ▸ r)
theorem g_bipush (X : Stand p l e R s m args below meth c T locs cells slots) (hx : p.tables.exec = Jvm.exec) {i : Int} {v : Int32} (hd : decode c.code pc = .ok (.bipush i, 2)) (hv : (Int8.ofInt i).toInt32 = v) (q : Go p e below P (T.setTop (mkF m (pc + 2) Ls (.int v :: st)))) : Go p e below P (T.setTop (mkF m pc Ls st)) := q.by fun t r => XS.bipush X.here hx rfl hd (hv ▸ r)
theorem g_sipush (X : Stand p l e R s m args below meth c T locs cells slots) (hx : p.tables.exec = Jvm.exec) {i : Int} {v : Int32} (hd : decode c.code pc = .ok (.sipush i, 3)) (hv : (Int16.ofInt i).toInt32 = v) (q : Go p e below P (T.setTop (mkF m (pc + 3) Ls (.int v :: st)))) : Go p e below P (T.setTop (mkF m pc Ls st)) := q.by fun t r => XS.sipush X.here hx rfl hd (hv ▸ r)
theorem g_lconst0 (X : Stand p l e R s m args below meth c T locs cells slots) (hx : p.tables.exec = Jvm.exec)  (hd : decode c.code pc = .ok (.lconst 0, 1))  (q : Go p e below P (T.setTop (mkF m (pc + 1) Ls (.long 0 :: st)))) : Go p e below P (T.setTop (mkF m pc Ls st)) := q.by fun t r => XS.lconst X.here hx rfl hd r
theorem g_lconst1 (X : Stand p l e R s m args below meth c T locs cells slots) (hx : p.tables.exec = Jvm.exec)  (hd : decode c.code pc = .ok (.lconst 1, 1))  (q : Go p e below P (T.setTop (mkF m (pc + 1) Ls (.long 1 :: st)))) : Go p e below P (T.setTop (mkF m pc Ls st)) := q.by fun t r => XS.lconst X.here hx rfl hd r
theorem g_aconst_null (X : Stand p l e R s m args below meth c T locs cells slots) (hx : p.tables.exec = Jvm.exec)  (hd : decode c.code pc = .ok (.aconst_null, 1))  (q : Go p e below P (T.setTop (mkF m (pc + 1) Ls (.null :: st)))) : Go p e below P (T.setTop (mkF m pc Ls st)) := q.by fun t r => XS.aconstNull X.here hx rfl hd r
theorem g_dconst0 (X : Stand p l e R s m args below meth c T locs cells slots) (hx : p.tables.exec = Jvm.exec)  (hd : decode c.code pc = .ok (.dconst 0, 1))  (q : Go p e below P (T.setTop (mkF m (pc + 1) Ls (.double 0 :: st)))) : Go p e below P (T.setTop (mkF m pc Ls st)) := q.by fun t r => XS.dconst0 X.here hx rfl hd rfl r
theorem g_dconst1 (X : Stand p l e R s m args below meth c T locs cells slots) (hx : p.tables.exec = Jvm.exec)  (hd : decode c.code pc = .ok (.dconst 1, 1))  (q : Go p e below P (T.setTop (mkF m (pc + 1) Ls (.double 4607182418800017408 :: st)))) : Go p e below P (T.setTop (mkF m pc Ls st)) := q.by fun t r => XS.dconst1 X.here hx rfl hd rfl r
theorem g_iadd (X : Stand p l e R s m args below meth c T locs cells slots) (hx : p.tables.exec = Jvm.exec) {x y v : Int32} (hd : decode c.code pc = .ok (.iadd, 1)) (hv : x + y = v) (q : Go p e below P (T.setTop (mkF m (pc + 1) Ls (.int v :: st)))) : Go p e below P (T.setTop (mkF m pc Ls (.int y :: .int x :: st))) := q.by fun t r => XS.iadd X.here hx rfl hd rfl (hv ▸ r)
theorem g_isub (X : Stand p l e R s m args below meth c T locs cells slots) (hx : p.tables.exec = Jvm.exec) {x y v : Int32} (hd : decode c.code pc = .ok (.isub, 1)) (hv : x - y = v) (q : Go p e below P (T.setTop (mkF m (pc + 1) Ls (.int v :: st)))) : Go p e below P (T.setTop (mkF m pc Ls (.int y :: .int x :: st))) := q.by fun t r => XS.isub X.here hx rfl hd rfl (hv ▸ r)
theorem g_imul (X : Stand p l e R s m args below meth c T locs cells slots) (hx : p.tables.exec = Jvm.exec) {x y v : Int32} (hd : decode c.code pc = .ok (.imul, 1)) (hv : x * y = v) (q : Go p e below P (T.setTop (mkF m (pc + 1) Ls (.int v :: st)))) : Go p e below P (T.setTop (mkF m pc Ls (.int y :: .int x :: st))) := q.by fun t r => XS.imul X.here hx rfl hd rfl (hv ▸ r)
theorem g_iand (X : Stand p l e R s m args below meth c T locs cells slots) (hx : p.tables.exec = Jvm.exec) {x y v : Int32} (hd : decode c.code pc = .ok (.iand, 1)) (hv : x &&& y = v) (q : Go p e below P (T.setTop (mkF m (pc + 1) Ls (.int v :: st)))) : Go p e below P (T.setTop (mkF m pc Ls (.int y :: .int x :: st))) := q.by fun t r => XS.iand X.here hx rfl hd rfl (hv ▸ r)
theorem g_ior (X : Stand p l e R s m args below meth c T locs cells slots) (hx : p.tables.exec = Jvm.exec) {x y v : Int32} (hd : decode c.code pc = .ok (.ior, 1)) (hv : x ||| y = v) (q : Go p e below P (T.setTop (mkF m (pc + 1) Ls (.int v :: st)))) : Go p e below P (T.setTop (mkF m pc Ls (.int y :: .int x :: st))) := q.by fun t r => XS.ior X.here hx rfl hd rfl (hv ▸ r)
theorem g_ixor (X : Stand p l e R s m args below meth c T locs cells slots) (hx : p.tables.exec = Jvm.exec) {x y v : Int32} (hd : decode c.code pc = .ok (.ixor, 1)) (hv : x ^^^ y = v) (q : Go p e below P (T.setTop (mkF m (pc + 1) Ls (.int v :: st)))) : Go p e below P (T.setTop (mkF m pc Ls (.int y :: .int x :: st))) := q.by fun t r => XS.ixor X.here hx rfl hd rfl (hv ▸ r)
theorem g_ladd (X : Stand p l e R s m args below meth c T locs cells slots) (hx : p.tables.exec = Jvm.exec) {x y v : Int64} (hd : decode c.code pc = .ok (.ladd, 1)) (hv : x + y = v) (q : Go p e below P (T.setTop (mkF m (pc + 1) Ls (.long v :: st)))) : Go p e below P (T.setTop (mkF m pc Ls (.long y :: .long x :: st))) := q.by fun t r => XS.ladd X.here hx rfl hd rfl (hv ▸ r)
theorem g_lsub (X : Stand p l e R s m args below meth c T locs cells slots) (hx : p.tables.exec = Jvm.exec) {x y v : Int64} (hd : decode c.code pc = .ok (.lsub, 1)) (hv : x - y = v) (q : Go p e below P (T.setTop (mkF m (pc + 1) Ls (.long v :: st)))) : Go p e below P (T.setTop (mkF m pc Ls (.long y :: .long x :: st))) := q.by fun t r => XS.lsub X.here hx rfl hd rfl (hv ▸ r)
theorem g_lmul (X : Stand p l e R s m args below meth c T locs cells slots) (hx : p.tables.exec = Jvm.exec) {x y v : Int64} (hd : decode c.code pc = .ok (.lmul, 1)) (hv : x * y = v) (q : Go p e below P (T.setTop (mkF m (pc + 1) Ls (.long v :: st)))) : Go p e below P (T.setTop (mkF m pc Ls (.long y :: .long x :: st))) := q.by fun t r => XS.lmul X.here hx rfl hd rfl (hv ▸ r)
theorem g_land (X : Stand p l e R s m args below meth c T locs cells slots) (hx : p.tables.exec = Jvm.exec) {x y v : Int64} (hd : decode c.code pc = .ok (.land, 1)) (hv : x &&& y = v) (q : Go p e below P (T.setTop (mkF m (pc + 1) Ls (.long v :: st)))) : Go p e below P (T.setTop (mkF m pc Ls (.long y :: .long x :: st))) := q.by fun t r => XS.land X.here hx rfl hd rfl (hv ▸ r)
theorem g_lor (X : Stand p l e R s m args below meth c T locs cells slots) (hx : p.tables.exec = Jvm.exec) {x y v : Int64} (hd : decode c.code pc = .ok (.lor, 1)) (hv : x ||| y = v) (q : Go p e below P (T.setTop (mkF m (pc + 1) Ls (.long v :: st)))) : Go p e below P (T.setTop (mkF m pc Ls (.long y :: .long x :: st))) := q.by fun t r => XS.lor X.here hx rfl hd rfl (hv ▸ r)
theorem g_ishl (X : Stand p l e R s m args below meth c T locs cells slots) (hx : p.tables.exec = Jvm.exec) {x y v : Int32} (hd : decode c.code pc = .ok (.ishl, 1)) (hv : x <<< (y &&& 31) = v) (q : Go p e below P (T.setTop (mkF m (pc + 1) Ls (.int v :: st)))) : Go p e below P (T.setTop (mkF m pc Ls (.int y :: .int x :: st))) := q.by fun t r => XS.ishl X.here hx rfl hd rfl (hv ▸ r)
theorem g_ishr (X : Stand p l e R s m args below meth c T locs cells slots) (hx : p.tables.exec = Jvm.exec) {x y v : Int32} (hd : decode c.code pc = .ok (.ishr, 1)) (hv : x >>> (y &&& 31) = v) (q : Go p e below P (T.setTop (mkF m (pc + 1) Ls (.int v :: st)))) : Go p e below P (T.setTop (mkF m pc Ls (.int y :: .int x :: st))) := q.by fun t r => XS.ishr X.here hx rfl hd rfl (hv ▸ r)
theorem g_iushr (X : Stand p l e R s m args below meth c T locs cells slots) (hx : p.tables.exec = Jvm.exec) {x y v : Int32} (hd : decode c.code pc = .ok (.iushr, 1)) (hv : (x.toUInt32 >>> (y &&& 31).toUInt32).toInt32 = v) (q : Go p e below P (T.setTop (mkF m (pc + 1) Ls (.int v :: st)))) : Go p e below P (T.setTop (mkF m pc Ls (.int y :: .int x :: st))) := q.by fun t r => XS.iushr X.here hx rfl hd rfl (hv ▸ r)
theorem g_idiv (X : Stand p l e R s m args below meth c T locs cells slots) (hx : p.tables.exec = Jvm.exec) {x y v : Int32} (hd : decode c.code pc = .ok (.idiv, 1)) (hy : y ≠ 0) (hv : x / y = v) (q : Go p e below P (T.setTop (mkF m (pc + 1) Ls (.int v :: st)))) : Go p e below P (T.setTop (mkF m pc Ls (.int y :: .int x :: st))) := q.by fun t r => XS.idiv X.here hx rfl hd rfl hy (hv ▸ r)
theorem g_irem (X : Stand p l e R s m args below meth c T locs cells slots) (hx : p.tables.exec = Jvm.exec) {x y v : Int32} (hd : decode c.code pc = .ok (.irem, 1)) (hy : y ≠ 0) (hv : x % y = v) (q : Go p e below P (T.setTop (mkF m (pc + 1) Ls (.int v :: st)))) : Go p e below P (T.setTop (mkF m pc Ls (.int y :: .int x :: st))) := q.by fun t r => XS.irem X.here hx rfl hd rfl hy (irem_eq_mod x y ▸ hv ▸ r)
theorem g_ldiv (X : Stand p l e R s m args below meth c T locs cells slots) (hx : p.tables.exec = Jvm.exec) {x y v : Int64} (hd : decode c.code pc = .ok (.ldiv, 1)) (hy : y ≠ 0) (hv : x / y = v) (q : Go p e below P (T.setTop (mkF m (pc + 1) Ls (.long v :: st)))) : Go p e below P (T.setTop (mkF m pc Ls (.long y :: .long x :: st))) := q.by fun t r => XS.ldiv X.here hx rfl hd rfl hy (hv ▸ r)
theorem g_lshl (X : Stand p l e R s m args below meth c T locs cells slots) (hx : p.tables.exec = Jvm.exec) {x v : Int64} {y : Int32} (hd : decode c.code pc = .ok (.lshl, 1)) (hv : x <<< (y &&& 0x3f).toInt64 = v) (q : Go p e below P (T.setTop (mkF m (pc + 1) Ls (.long v :: st)))) : Go p e below P (T.setTop (mkF m pc Ls (.int y :: .long x :: st))) := q.by fun t r => XS.lshl X.here hx rfl hd rfl (hv ▸ r)
theorem g_lshr (X : Stand p l e R s m args below meth c T locs cells slots) (hx : p.tables.exec = Jvm.exec) {x v : Int64} {y : Int32} (hd : decode c.code pc = .ok (.lshr, 1)) (hv : x >>> (y &&& 0x3f).toInt64 = v) (q : Go p e below P (T.setTop (mkF m (pc + 1) Ls (.long v :: st)))) : Go p e below P (T.setTop (mkF m pc Ls (.int y :: .long x :: st))) := q.by fun t r => XS.lshr X.here hx rfl hd rfl (hv ▸ r)
theorem g_lushr (X : Stand p l e R s m args below meth c T locs cells slots) (hx : p.tables.exec = Jvm.exec) {x v : Int64} {y : Int32} (hd : decode c.code pc = .ok (.lushr, 1)) (hv : (x.toUInt64 >>> (y &&& 0x3f).toInt64.toUInt64).toInt64 = v) (q : Go p e below P (T.setTop (mkF m (pc + 1) Ls (.long v :: st)))) : Go p e below P (T.setTop (mkF m pc Ls (.int y :: .long x :: st))) := q.by fun t r => XS.lushr X.here hx rfl hd rfl (hv ▸ r)
theorem g_lcmp (X : Stand p l e R s m args below meth c T locs cells slots) (hx : p.tables.exec = Jvm.exec) {x y : Int64} (hd : decode c.code pc = .ok (.lcmp, 1))  (q : Go p e below P (T.setTop (mkF m (pc + 1) Ls (.int (lcmpW x y) :: st)))) : Go p e below P (T.setTop (mkF m pc Ls (.long y :: .long x :: st))) := q.by fun t r => XS.lcmp X.here hx rfl hd rfl r
theorem g_ineg (X : Stand p l e R s m args below meth c T locs cells slots) (hx : p.tables.exec = Jvm.exec) {x : Int32} {v : Int32} (hd : decode c.code pc = .ok (.ineg, 1)) (hv : -x = v) (q : Go p e below P (T.setTop (mkF m (pc + 1) Ls (.int v :: st)))) : Go p e below P (T.setTop (mkF m pc Ls (.int x :: st))) := q.by fun t r => XS.ineg X.here hx rfl hd rfl (hv ▸ r)
theorem g_lneg (X : Stand p l e R s m args below meth c T locs cells slots) (hx : p.tables.exec = Jvm.exec) {x : Int64} {v : Int64} (hd : decode c.code pc = .ok (.lneg, 1)) (hv : -x = v) (q : Go p e below P (T.setTop (mkF m (pc + 1) Ls (.long v :: st)))) : Go p e below P (T.setTop (mkF m pc Ls (.long x :: st))) := q.by fun t r => XS.lneg X.here hx rfl hd rfl (hv ▸ r)
theorem g_i2l (X : Stand p l e R s m args below meth c T locs cells slots) (hx : p.tables.exec = Jvm.exec) {x : Int32} {v : Int64} (hd : decode c.code pc = .ok (.i2l, 1)) (hv : x.toInt64 = v) (q : Go p e below P (T.setTop (mkF m (pc + 1) Ls (.long v :: st)))) : Go p e below P (T.setTop (mkF m pc Ls (.int x :: st))) := q.by fun t r => XS.i2l X.here hx rfl hd rfl (hv ▸ r)
theorem g_l2i (X : Stand p l e R s m args below meth c T locs cells slots) (hx : p.tables.exec = Jvm.exec) {x : Int64} {v : Int32} (hd : decode c.code pc = .ok (.l2i, 1)) (hv : x.toInt32 = v) (q : Go p e below P (T.setTop (mkF m (pc + 1) Ls (.int v :: st)))) : Go p e below P (T.setTop (mkF m pc Ls (.long x :: st))) := q.by fun t r => XS.l2i X.here hx rfl hd rfl (hv ▸ r)
theorem g_i2b (X : Stand p l e R s m args below meth c T locs cells slots) (hx : p.tables.exec = Jvm.exec) {x : Int32} {v : Int32} (hd : decode c.code pc = .ok (.i2b, 1)) (hv : x.toInt8.toInt32 = v) (q : Go p e below P (T.setTop (mkF m (pc + 1) Ls (.int v :: st)))) : Go p e below P (T.setTop (mkF m pc Ls (.int x :: st))) := q.by fun t r => XS.i2b X.here hx rfl hd rfl (hv ▸ r)
theorem g_i2c (X : Stand p l e R s m args below meth c T locs cells slots) (hx : p.tables.exec = Jvm.exec) {x : Int32} {v : Int32} (hd : decode c.code pc = .ok (.i2c, 1)) (hv : x.toUInt32.toUInt16.toUInt32.toInt32 = v) (q : Go p e below P (T.setTop (mkF m (pc + 1) Ls (.int v :: st)))) : Go p e below P (T.setTop (mkF m pc Ls (.int x :: st))) := q.by fun t r => XS.i2c X.here hx rfl hd rfl (hv ▸ r)
theorem g_i2s (X : Stand p l e R s m args below meth c T locs cells slots) (hx : p.tables.exec = Jvm.exec) {x : Int32} {v : Int32} (hd : decode c.code pc = .ok (.i2s, 1)) (hv : x.toInt16.toInt32 = v) (q : Go p e below P (T.setTop (mkF m (pc + 1) Ls (.int v :: st)))) : Go p e below P (T.setTop (mkF m pc Ls (.int x :: st))) := q.by fun t r => XS.i2s X.here hx rfl hd rfl (hv ▸ r)
theorem g_i2d (X : Stand p l e R s m args below meth c T locs cells slots) (hx : p.tables.exec = Jvm.exec) {x : Int32} {v : UInt64} (hd : decode c.code pc = .ok (.i2d, 1)) (hv : FP.i2d x = v) (q : Go p e below P (T.setTop (mkF m (pc + 1) Ls (.double v :: st)))) : Go p e below P (T.setTop (mkF m pc Ls (.int x :: st))) := q.by fun t r => XS.i2dS X.here hx rfl hd rfl hv r
theorem g_l2d (X : Stand p l e R s m args below meth c T locs cells slots) (hx : p.tables.exec = Jvm.exec) {x : Int64} {v : UInt64} (hd : decode c.code pc = .ok (.l2d, 1)) (hv : FP.l2d x = v) (q : Go p e below P (T.setTop (mkF m (pc + 1) Ls (.double v :: st)))) : Go p e below P (T.setTop (mkF m pc Ls (.long x :: st))) := q.by fun t r => XS.l2dS X.here hx rfl hd rfl hv r
theorem g_d2i (X : Stand p l e R s m args below meth c T locs cells slots) (hx : p.tables.exec = Jvm.exec) {x : UInt64} {v : Int32} (hd : decode c.code pc = .ok (.d2i, 1)) (hv : FP.d2i x = v) (q : Go p e below P (T.setTop (mkF m (pc + 1) Ls (.int v :: st)))) : Go p e below P (T.setTop (mkF m pc Ls (.double x :: st))) := q.by fun t r => XS.d2iS X.here hx rfl hd rfl hv r
theorem g_d2l (X : Stand p l e R s m args below meth c T locs cells slots) (hx : p.tables.exec = Jvm.exec) {x : UInt64} {v : Int64} (hd : decode c.code pc = .ok (.d2l, 1)) (hv : FP.d2l x = v) (q : Go p e below P (T.setTop (mkF m (pc + 1) Ls (.long v :: st)))) : Go p e below P (T.setTop (mkF m pc Ls (.double x :: st))) := q.by fun t r => XS.d2lS X.here hx rfl hd rfl hv r
theorem g_dneg (X : Stand p l e R s m args below meth c T locs cells slots) (hx : p.tables.exec = Jvm.exec) {x : UInt64} {v : UInt64} (hd : decode c.code pc = .ok (.dneg, 1)) (hv : FP.dneg x = v) (q : Go p e below P (T.setTop (mkF m (pc + 1) Ls (.double v :: st)))) : Go p e below P (T.setTop (mkF m pc Ls (.double x :: st))) := q.by fun t r => XS.dnegS X.here hx rfl hd rfl hv r
theorem g_i2f (X : Stand p l e R s m args below meth c T locs cells slots) (hx : p.tables.exec = Jvm.exec) {x : Int32} {v : UInt32} (hd : decode c.code pc = .ok (.i2f, 1)) (hv : FP.i2f x = v) (q : Go p e below P (T.setTop (mkF m (pc + 1) Ls (.float v :: st)))) : Go p e below P (T.setTop (mkF m pc Ls (.int x :: st))) := q.by fun t r => XS.i2fS X.here hx rfl hd rfl hv r
theorem g_l2f (X : Stand p l e R s m args below meth c T locs cells slots) (hx : p.tables.exec = Jvm.exec) {x : Int64} {v : UInt32} (hd : decode c.code pc = .ok (.l2f, 1)) (hv : FP.l2f x = v) (q : Go p e below P (T.setTop (mkF m (pc + 1) Ls (.float v :: st)))) : Go p e below P (T.setTop (mkF m pc Ls (.long x :: st))) := q.by fun t r => XS.l2fS X.here hx rfl hd rfl hv r
theorem g_fneg (X : Stand p l e R s m args below meth c T locs cells slots) (hx : p.tables.exec = Jvm.exec) {x : UInt32} {v : UInt32} (hd : decode c.code pc = .ok (.fneg, 1)) (hv : FP.fneg x = v) (q : Go p e below P (T.setTop (mkF m (pc + 1) Ls (.float v :: st)))) : Go p e below P (T.setTop (mkF m pc Ls (.float x :: st))) := q.by fun t r => XS.fnegS X.here hx rfl hd rfl hv r
theorem g_dadd (X : Stand p l e R s m args below meth c T locs cells slots) (hx : p.tables.exec = Jvm.exec) {x y v : UInt64} (hd : decode c.code pc = .ok (.dadd, 1)) (hn : Jvm.Free.Fl.NoNaN64 (FP.dadd x y)) (hv : FP.dadd x y = v) (q : Go p e below P (T.setTop (mkF m (pc + 1) Ls (.double v :: st)))) : Go p e below P (T.setTop (mkF m pc Ls (.double y :: .double x :: st))) := q.by fun t r => XS.daddS X.here hx rfl hd rfl hn hv r
theorem g_dsub (X : Stand p l e R s m args below meth c T locs cells slots) (hx : p.tables.exec = Jvm.exec) {x y v : UInt64} (hd : decode c.code pc = .ok (.dsub, 1)) (hn : Jvm.Free.Fl.NoNaN64 (FP.dsub x y)) (hv : FP.dsub x y = v) (q : Go p e below P (T.setTop (mkF m (pc + 1) Ls (.double v :: st)))) : Go p e below P (T.setTop (mkF m pc Ls (.double y :: .double x :: st))) := q.by fun t r => XS.dsubS X.here hx rfl hd rfl hn hv r
theorem g_dmul (X : Stand p l e R s m args below meth c T locs cells slots) (hx : p.tables.exec = Jvm.exec) {x y v : UInt64} (hd : decode c.code pc = .ok (.dmul, 1)) (hn : Jvm.Free.Fl.NoNaN64 (FP.dmul x y)) (hv : FP.dmul x y = v) (q : Go p e below P (T.setTop (mkF m (pc + 1) Ls (.double v :: st)))) : Go p e below P (T.setTop (mkF m pc Ls (.double y :: .double x :: st))) := q.by fun t r => XS.dmulS X.here hx rfl hd rfl hn hv r
theorem g_ddiv (X : Stand p l e R s m args below meth c T locs cells slots) (hx : p.tables.exec = Jvm.exec) {x y v : UInt64} (hd : decode c.code pc = .ok (.ddiv, 1)) (hn : Jvm.Free.Fl.NoNaN64 (FP.ddiv x y)) (hv : FP.ddiv x y = v) (q : Go p e below P (T.setTop (mkF m (pc + 1) Ls (.double v :: st)))) : Go p e below P (T.setTop (mkF m pc Ls (.double y :: .double x :: st))) := q.by fun t r => XS.ddivS X.here hx rfl hd rfl hn hv r
theorem g_dcmp (X : Stand p l e R s m args below meth c T locs cells slots) (hx : p.tables.exec = Jvm.exec) {o : CmpOp} {x y : UInt64} (hd : decode c.code pc = .ok (.dcmp o, 1))  (q : Go p e below P (T.setTop (mkF m (pc + 1) Ls (.int (cmpValue (FP.dcmp x y) o) :: st)))) : Go p e below P (T.setTop (mkF m pc Ls (.double y :: .double x :: st))) := q.by fun t r => XS.dcmpS X.here hx rfl hd rfl rfl r
theorem g_fcmp (X : Stand p l e R s m args below meth c T locs cells slots) (hx : p.tables.exec = Jvm.exec) {o : CmpOp} {x y : UInt32} (hd : decode c.code pc = .ok (.fcmp o, 1))  (q : Go p e below P (T.setTop (mkF m (pc + 1) Ls (.int (cmpValue (FP.fcmp x y) o) :: st)))) : Go p e below P (T.setTop (mkF m pc Ls (.float y :: .float x :: st))) := q.by fun t r => XS.fcmpS X.here hx rfl hd rfl rfl r
theorem g_dup (X : Stand p l e R s m args below meth c T locs cells slots) (hx : p.tables.exec = Jvm.exec) {x : Value} (hd : decode c.code pc = .ok (.dup, 1)) (hc : x.category = 1) (q : Go p e below P (T.setTop (mkF m (pc + 1) Ls (x :: x :: st)))) : Go p e below P (T.setTop (mkF m pc Ls (x :: st))) := q.by fun t r => XS.dup X.here hx rfl hd rfl hc r
theorem g_pop (X : Stand p l e R s m args below meth c T locs cells slots) (hx : p.tables.exec = Jvm.exec) {x : Value} (hd : decode c.code pc = .ok (.pop, 1)) (hc : x.category = 1) (q : Go p e below P (T.setTop (mkF m (pc + 1) Ls st))) : Go p e below P (T.setTop (mkF m pc Ls (x :: st))) := q.by fun t r => XS.pop X.here hx rfl hd rfl hc r
theorem g_dup2 (X : Stand p l e R s m args below meth c T locs cells slots) (hx : p.tables.exec = Jvm.exec) {x y : Value} (hd : decode c.code pc = .ok (.dup2, 1)) (hc : x.category = 1) (hc' : y.category = 1) (q : Go p e below P (T.setTop (mkF m (pc + 1) Ls (x :: y :: x :: y :: st)))) : Go p e below P (T.setTop (mkF m pc Ls (x :: y :: st))) := q.by fun t r => XT.dup2 X.here hx rfl hd rfl hc hc' r
theorem g_iinc (X : Stand p l e R s m args below meth c T locs cells slots) (hx : p.tables.exec = Jvm.exec) {k : Nat} {d : Int} {x : Int32} {L' : Array Slot} (hd : decode c.code pc = .ok (.iinc k d, 3)) (hl : Ls[k]? = some (.val (.int x))) (hs : storeLocals Ls k (.int (x + Int32.ofInt d)) = some L') (q : Go p e below P (T.setTop (mkF m (pc + 3) L' st))) : Go p e below P (T.setTop (mkF m pc Ls st)) := q.by fun t r => XS.iinc X.here hx rfl hd hl hs r
theorem g_goto (X : Stand p l e R s m args below meth c T locs cells slots) (hx : p.tables.exec = Jvm.exec)  {o : Int} {pc' : Nat} (hd : decode c.code pc = .ok (.goto o, 3))  (ho : 0 ≤ (pc : Int) + o) (hp : ((pc : Int) + o).toNat = pc') (q : Go p e below P (T.setTop (mkF m pc' Ls st))) : Go p e below P (T.setTop (mkF m pc Ls st)) := q.by fun t r => XS.goto X.here hx rfl rfl hd ho hp r
theorem g_ifYes (X : Stand p l e R s m args below meth c T locs cells slots) (hx : p.tables.exec = Jvm.exec) {cd : ClassFile.Cond} {x : Int32} {o : Int} {pc' : Nat} (hd : decode c.code pc = .ok (.ifCond cd o, 3)) (hc : if_icmp.holds cd x 0 = true) (ho : 0 ≤ (pc : Int) + o) (hp : ((pc : Int) + o).toNat = pc') (q : Go p e below P (T.setTop (mkF m pc' Ls st))) : Go p e below P (T.setTop (mkF m pc Ls (.int x :: st))) := q.by fun t r => XS.ifYes X.here hx rfl rfl hd rfl ((if0 _ _).trans hc) ho hp r
theorem g_icmpYes (X : Stand p l e R s m args below meth c T locs cells slots) (hx : p.tables.exec = Jvm.exec) {cd : ClassFile.Cond} {x y : Int32} {o : Int} {pc' : Nat} (hd : decode c.code pc = .ok (.if_icmp cd o, 3)) (hc : if_icmp.holds cd x y = true) (ho : 0 ≤ (pc : Int) + o) (hp : ((pc : Int) + o).toNat = pc') (q : Go p e below P (T.setTop (mkF m pc' Ls st))) : Go p e below P (T.setTop (mkF m pc Ls (.int y :: .int x :: st))) := q.by fun t r => XS.icmpYes X.here hx rfl rfl hd rfl hc ho hp r
theorem g_ifNo (X : Stand p l e R s m args below meth c T locs cells slots) (hx : p.tables.exec = Jvm.exec) {cd : ClassFile.Cond} {o : Int} {x : Int32} (hd : decode c.code pc = .ok (.ifCond cd o, 3)) (hc : if_icmp.holds cd x 0 = false) (q : Go p e below P (T.setTop (mkF m (pc + 3) Ls st))) : Go p e below P (T.setTop (mkF m pc Ls (.int x :: st))) := q.by fun t r => XS.ifNo X.here hx rfl hd rfl ((if0 _ _).trans hc) r
theorem g_icmpNo (X : Stand p l e R s m args below meth c T locs cells slots) (hx : p.tables.exec = Jvm.exec) {cd : ClassFile.Cond} {o : Int} {x y : Int32} (hd : decode c.code pc = .ok (.if_icmp cd o, 3)) (hc : if_icmp.holds cd x y = false) (q : Go p e below P (T.setTop (mkF m (pc + 3) Ls st))) : Go p e below P (T.setTop (mkF m pc Ls (.int y :: .int x :: st))) := q.by fun t r => XS.icmpNo X.here hx rfl hd rfl hc r
theorem g_ifnonnullYes (X : Stand p l e R s m args below meth c T locs cells slots) (hx : p.tables.exec = Jvm.exec) {b : Addr} {o : Int} {pc' : Nat} (hd : decode c.code pc = .ok (.ifnonnull o, 3))  (ho : 0 ≤ (pc : Int) + o) (hp : ((pc : Int) + o).toNat = pc') (q : Go p e below P (T.setTop (mkF m pc' Ls st))) : Go p e below P (T.setTop (mkF m pc Ls (.ref b :: st))) := q.by fun t r => XS.ifnonnullYes X.here hx rfl rfl hd rfl ho hp r
theorem g_ifnonnullNo (X : Stand p l e R s m args below meth c T locs cells slots) (hx : p.tables.exec = Jvm.exec) {o : Int} (hd : decode c.code pc = .ok (.ifnonnull o, 3))  (q : Go p e below P (T.setTop (mkF m (pc + 3) Ls st))) : Go p e below P (T.setTop (mkF m pc Ls (.null :: st))) := q.by fun t r => XS.ifnonnullNo X.here hx rfl hd rfl r
theorem g_ifnullYes (X : Stand p l e R s m args below meth c T locs cells slots) (hx : p.tables.exec = Jvm.exec)  {o : Int} {pc' : Nat} (hd : decode c.code pc = .ok (.ifnull o, 3))  (ho : 0 ≤ (pc : Int) + o) (hp : ((pc : Int) + o).toNat = pc') (q : Go p e below P (T.setTop (mkF m pc' Ls st))) : Go p e below P (T.setTop (mkF m pc Ls (.null :: st))) := q.by fun t r => XS.ifnullYes X.here hx rfl rfl hd rfl ho hp r
theorem g_ifnullNo (X : Stand p l e R s m args below meth c T locs cells slots) (hx : p.tables.exec = Jvm.exec) {o : Int} {b : Addr} (hd : decode c.code pc = .ok (.ifnull o, 3))  (q : Go p e below P (T.setTop (mkF m (pc + 3) Ls st))) : Go p e below P (T.setTop (mkF m pc Ls (.ref b :: st))) := q.by fun t r => XS.ifnullNo X.here hx rfl hd rfl r
theorem g_drem (X : Stand p l e R s m args below meth c T locs cells slots) (hx : p.tables.exec = Jvm.exec) {x y v : UInt64} (hd : decode c.code pc = .ok (.drem, 1)) (hn : Jvm.Free.Fl.NoNaN64 (FP.drem x y)) (hv : FP.drem x y = v) (q : Go p e below P (T.setTop (mkF m (pc + 1) Ls (.double v :: st)))) : Go p e below P (T.setTop (mkF m pc Ls (.double y :: .double x :: st))) := q.by fun t r => by
  subst hv
  have ht := X.here
  show Steps p.tables e below (T.setTop { method := m, pc := pc, locals := Ls, stack := .double y :: .double x :: st, locked := none }) t
  jvm_step ht [ht.top, hx, hd, Op.drem.at_number ht.top hn]
  exact r
theorem g_dup_x2 (X : Stand p l e R s m args below meth c T locs cells slots) (hx : p.tables.exec = Jvm.exec) {x y z : Value} (hd : decode c.code pc = .ok (.dup_x2, 1)) (h1 : x.category = 1) (h2 : y.category = 1) (h3 : z.category = 1) (q : Go p e below P (T.setTop (mkF m (pc + 1) Ls (x :: y :: z :: x :: st)))) : Go p e below P (T.setTop (mkF m pc Ls (x :: y :: z :: st))) := q.by fun t r => by
  have ht := X.here
  show Steps p.tables e below (T.setTop { method := m, pc := pc, locals := Ls, stack := x :: y :: z :: st, locked := none }) t
  jvm_step ht [ht.top, hx, hd, h1, h2, h3]
  exact r
theorem g_ldcI (X : Stand p l e R s m args below meth c T locs cells slots) (hx : p.tables.exec = Jvm.exec) (hZ : Z.Warmed39 s.vm) (hown : s.vm.findClass own = some m.cls) {v : Int32} (w : (Cond.constant own index v).before a0 Z = true) (hd : decode c.code pc = .ok (.ldc index, 2)) (q : Go p e below P (T.setTop (mkF m (pc + 2) Ls (.int v :: st)))) : Go p e below P (T.setTop (mkF m pc Ls st)) := q.by fun t r => X.ldcI hx hown (mvT hZ w) rfl hd r
theorem g_ldc2J (X : Stand p l e R s m args below meth c T locs cells slots) (hx : p.tables.exec = Jvm.exec) (hZ : Z.Warmed39 s.vm) (hown : s.vm.findClass own = some m.cls) {v : Int64} (w : (Cond.constantLong own index v).before a0 Z = true) (hd : decode c.code pc = .ok (.ldc2_w index, 3)) (q : Go p e below P (T.setTop (mkF m (pc + 3) Ls (.long v :: st)))) : Go p e below P (T.setTop (mkF m pc Ls st)) := q.by fun t r => X.ldc2J hx hown (mvT hZ w) rfl hd r
theorem g_ldc2D (X : Stand p l e R s m args below meth c T locs cells slots) (hx : p.tables.exec = Jvm.exec) (hZ : Z.Warmed39 s.vm) (hown : s.vm.findClass own = some m.cls) {v : UInt64} (w : (Cond.constantDouble own index v).before a0 Z = true) (hd : decode c.code pc = .ok (.ldc2_w index, 3)) (q : Go p e below P (T.setTop (mkF m (pc + 3) Ls (.double v :: st)))) : Go p e below P (T.setTop (mkF m pc Ls st)) := q.by fun t r => X.ldc2DoubleC hx hown (mvT hZ w) (g := mkF m pc Ls st) rfl hd t r
theorem g_ldcF (X : Stand p l e R s m args below meth c T locs cells slots) (hx : p.tables.exec = Jvm.exec) (hZ : Z.Warmed39 s.vm) (hown : s.vm.findClass own = some m.cls) {v : UInt32} (w : (Cond.constantFloat own index v).before a0 Z = true) (hd : decode c.code pc = .ok (.ldc index, 2)) (q : Go p e below P (T.setTop (mkF m (pc + 2) Ls (.float v :: st)))) : Go p e below P (T.setTop (mkF m pc Ls st)) := q.by fun t r => X.ldcFloatC hx hown (mvT hZ w) (g := mkF m pc Ls st) rfl hd t r
theorem Ret.end {Q : Option Value → Heap → List Loc → Prop} {C N : Nat} {g : JFrame} (X : Stand p l e R s m args below meth c T locs cells slots) (hx : p.tables.exec = Jvm.exec) (hlk : meth.locks = false) {v : Option Value} (hv : meth.sig.returnType = none → v = none) (stp : ∀ fs, (∀ (f : JFrame) (acts : List Action), f.method = m → f.locked = none → f.entered = [] → (doReturn e (T.setTop f) acts v).1 = T.setFrames fs) → Steps p.tables e below (T.setTop g) (T.setFrames fs)) (hC : cells ≤ C) (hN : slots ≤ N) (hq : Q v T.heap locs) : Go p e below (Ret s Q C N) (T.setTop g) := by
  obtain ⟨fs, hr, hrun, hended, hW, hsame⟩ := X.leave hv hlk
  exact ⟨_, _, stp fs hr, hrun, hended, _, _, rfl, hq, ⟨_, rfl⟩, hW, hsame.mono hC hN⟩
theorem g_ireturn {Q : Option Value → Heap → List Loc → Prop} {C N : Nat} (X : Stand p l e R s m args below meth c T locs cells slots) (hx : p.tables.exec = Jvm.exec) (hlk : meth.locks = false) {w : Int32} {t : FieldType} (hret : meth.sig.returnType = some t) (hn : narrow t (.int w) = .int w) (hti : t = .int ∨ t = .boolean ∨ t = .byte ∨ t = .char ∨ t = .short) (hd : decode c.code pc = .ok (.ireturn, 1)) (hC : cells ≤ C) (hN : slots ≤ N) (hq : Q (some (.int w)) T.heap locs) : Go p e below (Ret s Q C N) (T.setTop (mkF m pc Ls [.int w])) :=
  Ret.end X hx hlk (fun h => by rw [hret] at h; cases h) (fun fs hr => X.ireturnOut hx hret hn hti hd hr) hC hN hq
theorem g_lreturn {Q : Option Value → Heap → List Loc → Prop} {C N : Nat} (X : Stand p l e R s m args below meth c T locs cells slots) (hx : p.tables.exec = Jvm.exec) (hlk : meth.locks = false) {w : Int64} (hret : meth.sig.returnType = some .long) (hd : decode c.code pc = .ok (.lreturn, 1)) (hC : cells ≤ C) (hN : slots ≤ N) (hq : Q (some (.long w)) T.heap locs) : Go p e below (Ret s Q C N) (T.setTop (mkF m pc Ls [.long w])) :=
  Ret.end X hx hlk (fun h => by rw [hret] at h; cases h) (fun fs hr => X.lreturnOut hx hret hd hr) hC hN hq
theorem g_return {Q : Option Value → Heap → List Loc → Prop} {C N : Nat} (X : Stand p l e R s m args below meth c T locs cells slots) (hx : p.tables.exec = Jvm.exec) (hlk : meth.locks = false) (hret : meth.sig.returnType = none) (hd : decode c.code pc = .ok (.return_, 1)) (hC : cells ≤ C) (hN : slots ≤ N) (hq : Q none T.heap locs) : Go p e below (Ret s Q C N) (T.setTop (mkF m pc Ls [])) :=
  Ret.end X hx hlk (fun _ => rfl) (fun fs hr => X.returnOut hx hret hd hr) hC hN hq
theorem g_areturn {Q : Option Value → Heap → List Loc → Prop} {C N : Nat} (X : Stand p l e R s m args below meth c T locs cells slots) (hx : p.tables.exec = Jvm.exec) (hlk : meth.locks = false) {w : Value} {t : FieldType} (hret : meth.sig.returnType = some t) (ht : t.isReference = true) (hw : w.isRef = true) (hd : decode c.code pc = .ok (.areturn, 1)) (hC : cells ≤ C) (hN : slots ≤ N) (hq : Q (some w) T.heap locs) : Go p e below (Ret s Q C N) (T.setTop (mkF m pc Ls [w])) :=
  Ret.end X hx hlk (fun h => by rw [hret] at h; cases h) (fun fs hr => X.areturnOut hx hw hret ht hd hr) hC hN hq
theorem g_dreturn {Q : Option Value → Heap → List Loc → Prop} {C N : Nat} (X : Stand p l e R s m args below meth c T locs cells slots) (hx : p.tables.exec = Jvm.exec) (hlk : meth.locks = false) {w : UInt64} (hret : meth.sig.returnType = some .double) (hd : decode c.code pc = .ok (.dreturn, 1)) (hC : cells ≤ C) (hN : slots ≤ N) (hq : Q (some (.double w)) T.heap locs) : Go p e below (Ret s Q C N) (T.setTop (mkF m pc Ls [.double w])) :=
  Ret.end X hx hlk (fun h => by rw [hret] at h; cases h) (fun fs hr => by
    have hm' : T.vm.method? m = some meth := X.method'
    show Steps p.tables e below (T.setTop { method := m, pc := pc, locals := Ls, stack := [.double w], locked := none }) _
    jvm_step X.here [X.here.top, hx, hd, hm', hret]
    first | (intro acts; rw [hr _ acts rfl rfl rfl]) | rw [hr _ _ rfl rfl rfl]
    exact Steps.refl _) hC hN hq
theorem g_freturn {Q : Option Value → Heap → List Loc → Prop} {C N : Nat} (X : Stand p l e R s m args below meth c T locs cells slots) (hx : p.tables.exec = Jvm.exec) (hlk : meth.locks = false) {w : UInt32} (hret : meth.sig.returnType = some .float) (hd : decode c.code pc = .ok (.freturn, 1)) (hC : cells ≤ C) (hN : slots ≤ N) (hq : Q (some (.float w)) T.heap locs) : Go p e below (Ret s Q C N) (T.setTop (mkF m pc Ls [.float w])) :=
  Ret.end X hx hlk (fun h => by rw [hret] at h; cases h) (fun fs hr => retF X hx hret hd hr) hC hN hq
theorem g_callS (X : Stand p l e R s m args below meth c T locs cells slots) (hx : p.tables.exec = Jvm.exec) (hZ : Z.Warmed39 s.vm) (hown : s.vm.findClass own = some m.cls) {y : MethodName} {bytes : ByteArray} {maxL : Nat} {ret : Option FieldType} (w1 : (Cond.methodLink own index y).before a0 Z = true) (w2 : (Cond.static y).before a0 Z = true) (w3 : (Cond.initialized y.cls).before a0 Z = true) (w4 : (Cond.code y bytes maxL ret).before a0 Z = true) (hy : y.cls ≠ "java/lang/invoke/MethodHandle" ∧ y.cls ≠ "java/lang/invoke/VarHandle") {rm : Room} {as' : Array Value} {Q : Option Value → Heap → List Loc → Prop} (hM : MetFree l y (head1 [Cond.code y bytes maxL ret] rm) (fun a U => a = as' ∧ Z.Warmed39 U.vm ∧ U.heap = h) (fun _ _ _ _ _ => True) (fun _ U o U' => ∃ v L, o = .returned v ∧ Q v U'.heap L ∧ FrameEnd U o U' L rm.cells rm.slots)) (eT : T.heap = h) {W : Nat} (hf : rm.frames + 1 ≤ R.frames) (hlo : W + (maxL + 11) + rm.locals ≤ R.locals) (hsize : Ls.size = c.maxLocals) (argsL rest : List Value) (hlen : ∀ sig, parseMethodDescriptor y.desc = some sig → argsL.length = sig.parameters.length) (hst : st = argsL.reverse ++ rest) (has : argsL.toArray = as') (hW : (rest.map fun v => v.category).sum ≤ W) (hd : decode c.code pc = .ok (.invokestatic index, 3)) (hc : cells + rm.cells ≤ R.cells) (hs : slots + rm.slots ≤ R.slots) (k : ∀ (v : Option Value) (T' : State) (L : List Loc), Stand p l e R s m args below meth c T' (locs ++ L) (cells + rm.cells) (slots + rm.slots) → Q v T'.heap L → Go p e below P (T'.setTop (mkF m (pc + 3) Ls (v.toList ++ rest)))) : Go p e below P (T.setTop (mkF m pc Ls st)) := by
  obtain ⟨v, vm1, ⟨T', L', k', n'⟩, -, X', ⟨L, hQ, l1, y1, z1⟩, stp⟩ := Jvm.LawKit.callS X hx hown (mvT hZ w1) (mvT hZ w2) (mvT hZ w3) (mvT hZ w4) hy (backOf (W := W) hM hZ w4 w3 hf hlo) (g := mkF m pc Ls st) rfl hsize hlen hst (by show 2 * 0 + _ ≤ _; omega) hd (fun _ _ => ⟨has, eT, hc, hs⟩)
  dsimp only [Pt.U, Pt.locs, Pt.cells, Pt.slots] at X' l1 y1 z1 stp hQ
  subst l1 y1 z1
  exact (k v T' L X' hQ).by stp
theorem g_init (X : Stand p l e R s m args below meth c T locs cells slots) (hx : p.tables.exec = Jvm.exec) (hZ : Z.Warmed39 s.vm) (hown : s.vm.findClass own = some m.cls) {y : MethodName} {bytes : ByteArray} {maxL : Nat} (hy1 : y.name = "<init>") (w1 : (Cond.methodLink own index y).before a0 Z = true) (w2 : (Cond.instanceMethod y).before a0 Z = true) (w3 : (Cond.initialized y.cls).before a0 Z = true) (w4 : (Cond.code y bytes maxL none).before a0 Z = true) (hy : y.cls ≠ "java/lang/invoke/MethodHandle" ∧ y.cls ≠ "java/lang/invoke/VarHandle") {rm : Room} {as' : Array Value} {Q : Option Value → Heap → List Loc → Prop} (hM : MetFree l y (head1 [Cond.code y bytes maxL none] rm) (fun a U => a = as' ∧ Z.Warmed39 U.vm ∧ U.heap = h) (fun _ _ _ _ _ => True) (fun _ U o U' => ∃ v L, o = .returned v ∧ Q v U'.heap L ∧ FrameEnd U o U' L rm.cells rm.slots)) (eT : T.heap = h) {W : Nat} (hf : rm.frames + 1 ≤ R.frames) (hlo : W + (maxL + 11) + rm.locals ≤ R.locals) (hsize : Ls.size = c.maxLocals) (a : Addr) (argsL rest : List Value) (hlen : ∀ sig, parseMethodDescriptor y.desc = some sig → argsL.length = sig.parameters.length) (hst : st = argsL.reverse ++ .ref a :: rest) (has : (.ref a :: argsL).toArray = as') (hW : (rest.map fun v => v.category).sum ≤ W) (hd : decode c.code pc = .ok (.invokespecial index, 3)) (hc : cells + rm.cells ≤ R.cells) (hs : slots + rm.slots ≤ R.slots) (k : ∀ (v : Option Value) (T' : State) (L : List Loc), Stand p l e R s m args below meth c T' (locs ++ L) (cells + rm.cells) (slots + rm.slots) → Q v T'.heap L → Go p e below P (T'.setTop (mkF m (pc + 3) Ls (v.toList ++ rest)))) : Go p e below P (T.setTop (mkF m pc Ls st)) := by
  obtain ⟨v, vm1, ⟨T', L', k', n'⟩, -, X', ⟨L, hQ, l1, y1, z1⟩, stp⟩ := X.specialBack hx hy1 hown (mvT hZ w1) (mvT hZ w2) (mvT hZ w4) hy (backOf (W := W) hM hZ w4 w3 hf hlo) (g := mkF m pc Ls st) rfl hsize (Steps.refl _) hlen hst (by show 2 * 0 + _ ≤ _; omega) hd (fun _ _ => ⟨has, eT, hc, hs⟩)
  dsimp only [Pt.U, Pt.locs, Pt.cells, Pt.slots] at X' l1 y1 z1 stp hQ
  subst l1 y1 z1
  exact (k v T' L X' hQ).by fun t r => stp.trans r
theorem g_callV (X : Stand p l e R s m args below meth c T locs cells slots) (hx : p.tables.exec = Jvm.exec) (hZ : Z.Warmed39 s.vm) (hown : s.vm.findClass own = some m.cls) {y : MethodName} {bytes : ByteArray} {maxL : Nat} {ret : Option FieldType} {C : String} (w1 : (Cond.methodLink own index y).before a0 Z = true) (w2 : (Cond.declares y).before a0 Z = true) (w5 : (Cond.selects C y y).before a0 Z = true) (w6 : (Cond.instanceMethod y).before a0 Z = true) (w3 : (Cond.initialized y.cls).before a0 Z = true) (w4 : (Cond.code y bytes maxL ret).before a0 Z = true) (hy : y.cls ≠ "java/lang/invoke/MethodHandle" ∧ y.cls ≠ "java/lang/invoke/VarHandle") {rm : Room} {as' : Array Value} {Q : Option Value → Heap → List Loc → Prop} (hM : MetFree l y (head1 [Cond.code y bytes maxL ret] rm) (fun a U => a = as' ∧ Z.Warmed39 U.vm ∧ U.heap = h) (fun _ _ _ _ _ => True) (fun _ U o U' => ∃ v L, o = .returned v ∧ Q v U'.heap L ∧ FrameEnd U o U' L rm.cells rm.slots)) (eT : T.heap = h) {W : Nat} (hf : rm.frames + 1 ≤ R.frames) (hlo : W + (maxL + 11) + rm.locals ≤ R.locals) (hsize : Ls.size = c.maxLocals) (a : Addr) (E : Exa Z h a C) (argsL rest : List Value) (hlen : ∀ sig, parseMethodDescriptor y.desc = some sig → argsL.length = sig.parameters.length) (hst : st = argsL.reverse ++ .ref a :: rest) (has : (.ref a :: argsL).toArray = as') (hW : (rest.map fun v => v.category).sum ≤ W) (hd : decode c.code pc = .ok (.invokevirtual index, 3)) (hc : cells + rm.cells ≤ R.cells) (hs : slots + rm.slots ≤ R.slots) (k : ∀ (v : Option Value) (T' : State) (L : List Loc), Stand p l e R s m args below meth c T' (locs ++ L) (cells + rm.cells) (slots + rm.slots) → Q v T'.heap L → Go p e below P (T'.setTop (mkF m (pc + 3) Ls (v.toList ++ rest)))) : Go p e below P (T.setTop (mkF m pc Ls st)) := by
  obtain ⟨cq, kq, qa, qb, qc⟩ := isOf hZ eT E
  obtain ⟨v, vm1, ⟨T', L', k', n'⟩, -, X', ⟨L, hQ, l1, y1, z1⟩, stp⟩ := X.virtualBack hx (y := y) (z := y) hown (mvT hZ w1) (mvT hZ w2) (notFace_of_selects (args := #[]) (mvT hZ w5)) (mvT hZ w5) (mvT hZ w6) hy (backOf (W := W) hM hZ w4 w3 hf hlo) qa qc (g := mkF m pc Ls st) rfl hsize (Steps.refl _) hlen hst (by show 2 * 0 + _ ≤ _; omega) hd (fun _ _ => ⟨has, eT, hc, hs⟩)
  dsimp only [Pt.U, Pt.locs, Pt.cells, Pt.slots] at X' l1 y1 z1 stp hQ
  subst l1 y1 z1
  exact (k v T' L X' hQ).by fun t r => stp.trans r
theorem g_absD (X : Stand p l e R s m args below meth c T locs cells slots) (hx : p.tables.exec = Jvm.exec) (hZ : Z.Warmed39 s.vm) (hown : s.vm.findClass own = some m.cls) (w1 : (Cond.methodLink own index Jvm.Free.Fl.Abs.absDN).before a0 Z = true) (w2 : (Cond.static Jvm.Free.Fl.Abs.absDN).before a0 Z = true) (w3 : (Cond.initialized "java/lang/Math").before a0 Z = true) (w4 : (Cond.code Jvm.Free.Fl.Abs.absDN Jvm.Free.Fl.Abs.absDCode 2 (some .double)).before a0 Z = true) (eT : T.heap = h) (hsize : Ls.size = c.maxLocals) {a : UInt64} (hn : Jvm.Free.Fl.NoNaN64 a) (hfr : 1 ≤ R.frames) {W : Nat} (hW : (st.map fun v => v.category).sum ≤ W) (hlo : W + 13 ≤ R.locals) (hc : cells ≤ R.cells) (hs : slots ≤ R.slots) (hd : decode c.code pc = .ok (.invokestatic index, 3))
    (k : ∀ T', Stand p l e R s m args below meth c T' locs cells slots → T'.heap = h → Go p e below P (T'.setTop (mkF m (pc + 3) Ls (.double (a &&& 0x7fffffffffffffff) :: st)))) : Go p e below P (T.setTop (mkF m pc Ls (.double a :: st))) := by
  obtain ⟨T', X', e', stp⟩ := natS X hx hZ hown w1 w2 w3 w4 (by decide) eT (W := W) (F := fun a' => a' = #[.double a] ∧ Jvm.Free.Fl.NoNaN64 a) (val := .double (a &&& 0x7fffffffffffffff)) (val' := .double (a &&& 0x7fffffffffffffff)) (fun q => Jvm.Free.Fl.Abs.absD_pays a q hfr hlo) (g := mkF m pc Ls (.double a :: st)) rfl hsize (argsL := [.double a]) (rest := st) (lenOf (ps := [.double]) (r := some .double) (by decide +kernel) rfl) rfl (by show 2 * 0 + _ ≤ _; omega) hd hc hs ⟨rfl, hn⟩ rfl
  exact (k T' X' e').by stp
theorem g_objInit (X : Stand p l e R s m args below meth c T locs cells slots) (hx : p.tables.exec = Jvm.exec) (hZ : Z.Warmed39 s.vm) (hown : s.vm.findClass own = some m.cls) (w1 : (Cond.methodLink own index Lib.objectInit).before a0 Z = true) (w2 : (Cond.instanceMethod Lib.objectInit).before a0 Z = true) (w3 : (Cond.code Lib.objectInit ⟨#[0xb1]⟩ 1 none).before a0 Z = true) (eT : T.heap = h) (hsize : Ls.size = c.maxLocals) {a : Addr} (hd : decode c.code pc = .ok (.invokespecial index, 3)) (hf : 1 ≤ R.frames) {W : Nat} (hW : (st.map fun v => v.category).sum ≤ W) (hlo : W + 12 ≤ R.locals)
    (k : ∀ T', Stand p l e R s m args below meth c T' locs cells slots → T'.heap = h → Go p e below P (T'.setTop (mkF m (pc + 3) Ls st))) : Go p e below P (T.setTop (mkF m pc Ls (.ref a :: st))) := by
  obtain ⟨T', X', e', stp⟩ := initO X hx hZ hown w1 w2 w3 eT (g := mkF m pc Ls (.ref a :: st)) rfl hsize rfl hd hf (W := W) (by show 2 * 0 + _ ≤ _; omega) hlo
  exact (k T' X' e').by stp
theorem g_new (X : Stand p l e R s m args below meth c T locs cells slots) (hx : p.tables.exec = Jvm.exec) (hZ : Z.Warmed39 s.vm) (hown : s.vm.findClass own = some m.cls) {C : String} {n : Nat} (w : (Cond.classLink own index C).before a0 Z = true) (wi : (Cond.instantiable C n).before a0 Z = true) (wz : (Cond.initialized C).before a0 Z = true) (eT : T.heap = h) (hd : decode c.code pc = .ok (.new index, 3)) (hc : cells + 1 ≤ R.cells) (hl : slots + n ≤ R.slots)
    (k : ∀ T' h' a, a = h.size → Stand p l e R s m args below meth c T' locs (cells + 1) (slots + n) → T'.heap = h' → Ext h h' → Exa Z h' a C → (∀ {O nm d : String} {ty : FieldType}, Laid Z a0 C O nm d → parseFieldDescriptor d = some ty → Fld Z h' a O nm d (defaultValue ty)) → Go p e below P (T'.setTop (mkF m (pc + 3) Ls (.ref a :: st)))) : Go p e below P (T.setTop (mkF m pc Ls st)) := by
  obtain ⟨T', h', X', e', E, A, D, -, stp⟩ := newO X hx hZ hown w wi wz eT (g := mkF m pc Ls st) rfl hd hc hl
  exact (k T' h' _ rfl X' e' E A D).by stp
theorem g_getF (X : Stand p l e R s m args below meth c T locs cells slots) (hx : p.tables.exec = Jvm.exec) (hZ : Z.Warmed39 s.vm) (hown : s.vm.findClass own = some m.cls) {O n d : String} (w : (Cond.fieldLink own index O n d).before a0 Z = true) (eT : T.heap = h) {a : Addr} {v : Value} (F : Fld Z h a O n d v) (hd : decode c.code pc = .ok (.getfield index, 3))
    (k : ∀ T', Stand p l e R s m args below meth c T' locs cells slots → T'.heap = h → Go p e below P (T'.setTop (mkF m (pc + 3) Ls (v :: st)))) : Go p e below P (T.setTop (mkF m pc Ls (.ref a :: st))) := by
  obtain ⟨T', X', e', stp⟩ := getF X hx hZ hown (host := "") (Or.inl w) Via.refl eT F (g := mkF m pc Ls (.ref a :: st)) rfl rfl hd
  exact (k T' X' e').by stp
theorem g_getS (X : Stand p l e R s m args below meth c T locs cells slots) (hx : p.tables.exec = Jvm.exec) (hZ : Z.Warmed39 s.vm) (hown : s.vm.findClass own = some m.cls) {O n d : String} (w : (Cond.fieldLink own index O n d).before a0 Z = true) (eT : T.heap = h) {v : Value} (F : Sta Z h O n d v) (hd : decode c.code pc = .ok (.getstatic index, 3))
    (k : ∀ T', Stand p l e R s m args below meth c T' locs cells slots → T'.heap = h → Go p e below P (T'.setTop (mkF m (pc + 3) Ls (v :: st)))) : Go p e below P (T.setTop (mkF m pc Ls st)) := by
  obtain ⟨T', X', e', stp⟩ := getS X hx hZ hown (host := "") w Via.refl eT F (g := mkF m pc Ls st) rfl hd
  exact (k T' X' e').by stp
theorem g_putF (X : Stand p l e R s m args below meth c T locs cells slots) (hx : p.tables.exec = Jvm.exec) (hZ : Z.Warmed39 s.vm) (hown : s.vm.findClass own = some m.cls) {O n d C : String} {kk : Nat} {ty : FieldType} (w : (Cond.fieldLink own index O n d).before a0 Z = true) (eT : T.heap = h) {a : Addr} {v old : Value} (F : Fld Z h a O n d old) (E : Exa Z h a C) (L : (Cond.lays C O n d).before a0 Z = true ∨ ((Cond.laysFinal C O n d).before a0 Z = true ∧ own = O ∧ meth.name = "<init>")) (wi : (Cond.instantiable C kk).before a0 Z = true) (hty : parseFieldDescriptor d = some ty) (hn : narrow ty v = v) (hf : fits ty v = true) (hd : decode c.code pc = .ok (.putfield index, 3))
    (k : ∀ T' h', Stand p l e R s m args below meth c T' (locs ++ [⟨a, Jvm.RoadKit.slotOf Z O n d⟩]) cells slots → T'.heap = h' → Wr h h' a (Jvm.RoadKit.slotOf Z O n d) v → Go p e below P (T'.setTop (mkF m (pc + 3) Ls st))) : Go p e below P (T.setTop (mkF m pc Ls (v :: .ref a :: st))) := by
  obtain ⟨T', h', X', e', W, stp⟩ := putF X hx hZ hown (host := "") (Or.inl w) Via.refl eT F E L wi hty hn hf (g := mkF m pc Ls (v :: .ref a :: st)) rfl rfl hd
  exact (k T' h' X' e' W).by stp
theorem g_newP (X : Stand p l e R s m args below meth c T locs cells slots) (hx : p.tables.exec = Jvm.exec) (hZ : Z.Warmed39 s.vm) {aty : ArrayType} {ty : FieldType} (hty : newarray.typeOf aty = ty) (w : (Cond.arrayClass ty).before a0 Z = true) (eT : T.heap = h) (hd : decode c.code pc = .ok (.newarray aty, 2)) {n : Int32} (hn : ¬ n < 0) {cap : Nat} (hcap : n.toNatClampNeg ≤ cap) (hb : cap * 8 ≤ 536870912) (hc : cells + 1 ≤ R.cells) (hl : slots + cap ≤ R.slots)
    (k : ∀ T' h' a cA, a = h.size → Stand p l e R s m args below meth c T' locs (cells + 1) (slots + cap) → T'.heap = h' → Ext h h' → Arr Z h' a (newA cA ty n) ty → Go p e below P (T'.setTop (mkF m (pc + 2) Ls (.ref a :: st)))) : Go p e below P (T.setTop (mkF m pc Ls (.int n :: st))) := by
  subst hty
  obtain ⟨T', h', cA, X', e', E, A, stp⟩ := newP X hx hZ w eT (g := mkF m pc Ls (.int n :: st)) rfl hd rfl hn hcap hb hc hl
  exact (k T' h' _ cA rfl X' e' E A).by stp
theorem fld_any {C O O' n n' d d' : String} {v : Value} {a : Addr} {kk : Nat} (E : Exa Z h a C) (F : Fld Z h a O n d v) (wi : (Cond.instantiable C kk).before a0 Z = true) (L : Laid Z a0 C O' n' d') : ∃ w, Fld Z h a O' n' d' w := by
  obtain ⟨cell, k, h1, h2, h3, h4, h5⟩ := E
  obtain ⟨cell', cf, k', i, f, g1, g2, g3, g4, g5, g6, g7⟩ := F
  cases h1.symm.trans g1
  obtain ⟨c1, k1, cf1, kf1, i1, f1, l1, l2, l3, l4, l5, l6, -⟩ := L.spec
  obtain ⟨c2, k2, j1, j2, j3, -⟩ := Cond.instantiable_spec wi
  cases h2.symm.trans l1
  cases h3.symm.trans l2
  cases l1.symm.trans j1
  cases h3.symm.trans j2
  have hsz := h5 j3
  obtain ⟨hlt, -⟩ := Array.getElem?_eq_some_iff.mp l6
  exact ⟨_, cell, cf1, kf1, i1, f1, g1, l3, l4, g4, g5, l5, Array.getElem?_eq_getElem (by rw [hsz]; exact hlt)⟩
/-- an array by a function of the place -/
def Av (Z : State) (h : Heap) (a : Addr) (ty : FieldType) (n : Nat) (f : Nat → Value) : Prop := ∃ cl : Cell, Arr Z h a cl ty ∧ cl.slots.size = n ∧ ∀ i, i < n → cl.slots[i]? = some (f i)
theorem Av.lt {a : Addr} {ty : FieldType} {n : Nat} {f : Nat → Value} (F : Av Z h a ty n f) : a < h.size := by obtain ⟨cl, A, -⟩ := F; exact A.lt
theorem Av.ext {h' : Heap} {a : Addr} {ty : FieldType} {n : Nat} {f : Nat → Value} (F : Av Z h a ty n f) (E : Ext h h') : Av Z h' a ty n f := by obtain ⟨cl, A, B⟩ := F; exact ⟨cl, A.ext E, B⟩
theorem Av.other {h' : Heap} {a b : Addr} {sl : Nat} {v : Value} {ty : FieldType} {n : Nat} {f : Nat → Value} (F : Av Z h b ty n f) (W : Wr h h' a sl v) (q : b ≠ a) : Av Z h' b ty n f := by obtain ⟨cl, A, B⟩ := F; exact ⟨cl, A.other W q, B⟩
theorem Av.keep {h' : Heap} {a : Addr} {ws : List Addr} {ty : FieldType} {n : Nat} {f : Nat → Value} (F : Av Z h a ty n f) (K : Keep h h' ws) (q : a ∉ ws) : Av Z h' a ty n f := by obtain ⟨cl, A, B⟩ := F; exact ⟨cl, ⟨K.2.1 a cl A.1 q, A.2⟩, B⟩
theorem Av.new {a : Addr} {cA : ClassId} {ty : FieldType} {n : Int32} (A : Arr Z h a (newA cA ty n) ty) : Av Z h a ty n.toNatClampNeg (fun _ => defaultValue ty) := ⟨_, A, sz_new _ _ _, fun i hi => by simp [newA, hi]⟩
theorem Av.newK {a : Addr} {cA : ClassId} {ty : FieldType} {n : Int32} {k : Nat} (A : Arr Z h a (newA cA ty n) ty) (hk : n.toNatClampNeg = k) : Av Z h a ty k (fun _ => defaultValue ty) := hk ▸ Av.new A
theorem Av.congr {a : Addr} {ty : FieldType} {n : Nat} {f f' : Nat → Value} (F : Av Z h a ty n f) (q : ∀ i, i < n → f i = f' i) : Av Z h a ty n f' := by obtain ⟨cl, A, B, C⟩ := F; exact ⟨cl, A, B, fun i hi => by rw [C i hi, q i hi]⟩
theorem Av.same {h' : Heap} {a : Addr} {i : Nat} {v : Value} {ty : FieldType} {n : Nat} {f : Nat → Value} (F : Av Z h a ty n f) (W : Wr h h' a i v) : Av Z h' a ty n (fun j => if j = i then v else f j) := by
  obtain ⟨cl, A, B, C⟩ := F
  refine ⟨_, A.same W, by rw [sz_set]; exact B, fun j hj => ?_⟩
  obtain ⟨cb, hb1, -, -, -, -, hb2, hb3⟩ := wr_at W A.1
  have e1 := (A.same W).1
  have e2 : cb = cl.setSlot i v := Option.some.inj (hb1.symm.trans e1)
  by_cases q : j = i
  · subst q; rw [← e2, (hb3 rfl).2.1]; simp
  · rw [← e2, hb2 j q, C j hj]; simp [q]
theorem out_idx {j : Int32} {n : Nat} (h0 : 0 ≤ j.toInt) (h1 : j.toInt < n) : ¬ (j < 0 ∨ n ≤ j.toNatClampNeg) := by
  have e : (j.toNatClampNeg : Int) = j.toInt := by rw [Int32.toNatClampNeg]; omega
  intro q
  rcases q with q | q
  · have := Int32.lt_iff_toInt_lt.mp q; simp at this; omega
  · omega
theorem g_iaload (X : Stand p l e R s m args below meth c T locs cells slots) (hx : p.tables.exec = Jvm.exec) (hZ : Z.Warmed39 s.vm) (eT : T.heap = h) {a : Addr} {n : Nat} {f : Nat → Value} (F : Av Z h a .int n f) {j : Int32} {i : Nat} {v : Value} (hj0 : 0 ≤ j.toInt) (hj1 : j.toInt < n) (hi : j.toNatClampNeg = i) (hv : f i = v) (hd : decode c.code pc = .ok (.iaload, 1)) (q : Go p e below P (T.setTop (mkF m (pc + 1) Ls (v :: st)))) : Go p e below P (T.setTop (mkF m pc Ls (.int j :: .ref a :: st))) := by
  obtain ⟨cl, A, B, C⟩ := F
  have hin := out_idx hj0 hj1
  subst hi hv
  exact q.by fun t r => X.iaload hx (by rw [eT]; exact A.1) (State.isArrayOf_alike hZ.alike A.2.1) A.2.2 (by rw [B]; exact hin) (C _ (by omega)) (g := mkF m pc Ls (.int j :: .ref a :: st)) rfl rfl hd t r
theorem g_laload (X : Stand p l e R s m args below meth c T locs cells slots) (hx : p.tables.exec = Jvm.exec) (hZ : Z.Warmed39 s.vm) (eT : T.heap = h) {a : Addr} {n : Nat} {f : Nat → Value} (F : Av Z h a .long n f) {j : Int32} {i : Nat} {v : Value} (hj0 : 0 ≤ j.toInt) (hj1 : j.toInt < n) (hi : j.toNatClampNeg = i) (hv : f i = v) (hd : decode c.code pc = .ok (.laload, 1)) (q : Go p e below P (T.setTop (mkF m (pc + 1) Ls (v :: st)))) : Go p e below P (T.setTop (mkF m pc Ls (.int j :: .ref a :: st))) := by
  obtain ⟨cl, A, B, C⟩ := F
  have hin := out_idx hj0 hj1
  subst hi hv
  exact q.by fun t r => X.laload hx (by rw [eT]; exact A.1) (State.isArrayOf_alike hZ.alike A.2.1) A.2.2 (by rw [B]; exact hin) (C _ (by omega)) (g := mkF m pc Ls (.int j :: .ref a :: st)) rfl rfl hd t r
theorem g_daload (X : Stand p l e R s m args below meth c T locs cells slots) (hx : p.tables.exec = Jvm.exec) (hZ : Z.Warmed39 s.vm) (eT : T.heap = h) {a : Addr} {n : Nat} {f : Nat → Value} (F : Av Z h a .double n f) {j : Int32} {i : Nat} {v : Value} (hj0 : 0 ≤ j.toInt) (hj1 : j.toInt < n) (hi : j.toNatClampNeg = i) (hv : f i = v) (hd : decode c.code pc = .ok (.daload, 1)) (q : Go p e below P (T.setTop (mkF m (pc + 1) Ls (v :: st)))) : Go p e below P (T.setTop (mkF m pc Ls (.int j :: .ref a :: st))) := by
  obtain ⟨cl, A, B, C⟩ := F
  have hin := out_idx hj0 hj1
  subst hi hv
  exact q.by fun t r => X.daload hx (by rw [eT]; exact A.1) (State.isArrayOf_alike hZ.alike A.2.1) A.2.2 (by rw [B]; exact hin) (C _ (by omega)) (g := mkF m pc Ls (.int j :: .ref a :: st)) rfl rfl hd t r
theorem g_caload (X : Stand p l e R s m args below meth c T locs cells slots) (hx : p.tables.exec = Jvm.exec) (hZ : Z.Warmed39 s.vm) (eT : T.heap = h) {a : Addr} {n : Nat} {f : Nat → Value} (F : Av Z h a .char n f) {j : Int32} {i : Nat} {v : Value} (hj0 : 0 ≤ j.toInt) (hj1 : j.toInt < n) (hi : j.toNatClampNeg = i) (hv : f i = v) (hd : decode c.code pc = .ok (.caload, 1)) (q : Go p e below P (T.setTop (mkF m (pc + 1) Ls (v :: st)))) : Go p e below P (T.setTop (mkF m pc Ls (.int j :: .ref a :: st))) := by
  obtain ⟨cl, A, B, C⟩ := F
  have hin := out_idx hj0 hj1
  subst hi hv
  exact q.by fun t r => X.caload hx (by rw [eT]; exact A.1) (State.isArrayOf_alike hZ.alike A.2.1) A.2.2 (by rw [B]; exact hin) (C _ (by omega)) (g := mkF m pc Ls (.int j :: .ref a :: st)) rfl rfl hd t r
theorem g_baloadB (X : Stand p l e R s m args below meth c T locs cells slots) (hx : p.tables.exec = Jvm.exec) (hZ : Z.Warmed39 s.vm) (eT : T.heap = h) {a : Addr} {n : Nat} {f : Nat → Value} (F : Av Z h a .byte n f) {j : Int32} {i : Nat} {v : Value} (hj0 : 0 ≤ j.toInt) (hj1 : j.toInt < n) (hi : j.toNatClampNeg = i) (hv : f i = v) (hd : decode c.code pc = .ok (.baload, 1)) (q : Go p e below P (T.setTop (mkF m (pc + 1) Ls (v :: st)))) : Go p e below P (T.setTop (mkF m pc Ls (.int j :: .ref a :: st))) := by
  obtain ⟨cl, A, B, C⟩ := F
  have hin := out_idx hj0 hj1
  subst hi hv
  exact q.by fun t r => X.baloadBytes hx (by rw [eT]; exact A.1) (State.isArrayOf_alike hZ.alike A.2.1) A.2.2 (by rw [B]; exact hin) (C _ (by omega)) (g := mkF m pc Ls (.int j :: .ref a :: st)) rfl rfl hd t r
theorem g_baloadZ (X : Stand p l e R s m args below meth c T locs cells slots) (hx : p.tables.exec = Jvm.exec) (hZ : Z.Warmed39 s.vm) (eT : T.heap = h) {a : Addr} {n : Nat} {f : Nat → Value} (F : Av Z h a .boolean n f) {j : Int32} {i : Nat} {v : Value} (hj0 : 0 ≤ j.toInt) (hj1 : j.toInt < n) (hi : j.toNatClampNeg = i) (hv : f i = v) (hd : decode c.code pc = .ok (.baload, 1)) (q : Go p e below P (T.setTop (mkF m (pc + 1) Ls (v :: st)))) : Go p e below P (T.setTop (mkF m pc Ls (.int j :: .ref a :: st))) := by
  obtain ⟨cl, A, B, C⟩ := F
  have hin := out_idx hj0 hj1
  subst hi hv
  exact q.by fun t r => X.baloadBooleans hx (by rw [eT]; exact A.1) (State.isArrayOf_alike hZ.alike A.2.1) A.2.2 (by rw [B]; exact hin) (C _ (by omega)) (g := mkF m pc Ls (.int j :: .ref a :: st)) rfl rfl hd t r
theorem g_iastore (X : Stand p l e R s m args below meth c T locs cells slots) (hx : p.tables.exec = Jvm.exec) (hZ : Z.Warmed39 s.vm) (eT : T.heap = h) {a : Addr} {n : Nat} {f : Nat → Value} (F : Av Z h a .int n f) {j : Int32} {i : Nat} {x : Int32} (hj0 : 0 ≤ j.toInt) (hj1 : j.toInt < n) (hi : j.toNatClampNeg = i) (hd : decode c.code pc = .ok (.iastore, 1))
    (k : ∀ T' h', Stand p l e R s m args below meth c T' (locs ++ [⟨a, i⟩]) cells slots → T'.heap = h' → Wr h h' a i (.int x) → Go p e below P (T'.setTop (mkF m (pc + 1) Ls st))) : Go p e below P (T.setTop (mkF m pc Ls (.int x :: .int j :: .ref a :: st))) := by
  obtain ⟨cl, A, B, C⟩ := F
  have hin := out_idx hj0 hj1
  subst hi
  obtain ⟨T', h', X', e', W, stp⟩ := stI X hx hZ eT A (x := x) (by rw [B]; exact hin) (g := mkF m pc Ls (.int x :: .int j :: .ref a :: st)) rfl rfl hd
  exact (k T' h' X' e' W).by stp
theorem g_lastore (X : Stand p l e R s m args below meth c T locs cells slots) (hx : p.tables.exec = Jvm.exec) (hZ : Z.Warmed39 s.vm) (eT : T.heap = h) {a : Addr} {n : Nat} {f : Nat → Value} (F : Av Z h a .long n f) {j : Int32} {i : Nat} {x : Int64} (hj0 : 0 ≤ j.toInt) (hj1 : j.toInt < n) (hi : j.toNatClampNeg = i) (hd : decode c.code pc = .ok (.lastore, 1))
    (k : ∀ T' h', Stand p l e R s m args below meth c T' (locs ++ [⟨a, i⟩]) cells slots → T'.heap = h' → Wr h h' a i (.long x) → Go p e below P (T'.setTop (mkF m (pc + 1) Ls st))) : Go p e below P (T.setTop (mkF m pc Ls (.long x :: .int j :: .ref a :: st))) := by
  obtain ⟨cl, A, B, C⟩ := F
  have hin := out_idx hj0 hj1
  subst hi
  obtain ⟨T', h', X', e', W, stp⟩ := stJ X hx hZ eT A (x := x) (by rw [B]; exact hin) (g := mkF m pc Ls (.long x :: .int j :: .ref a :: st)) rfl rfl hd
  exact (k T' h' X' e' W).by stp
theorem g_dastore (X : Stand p l e R s m args below meth c T locs cells slots) (hx : p.tables.exec = Jvm.exec) (hZ : Z.Warmed39 s.vm) (eT : T.heap = h) {a : Addr} {n : Nat} {f : Nat → Value} (F : Av Z h a .double n f) {j : Int32} {i : Nat} {x : UInt64} (hj0 : 0 ≤ j.toInt) (hj1 : j.toInt < n) (hi : j.toNatClampNeg = i) (hd : decode c.code pc = .ok (.dastore, 1))
    (k : ∀ T' h', Stand p l e R s m args below meth c T' (locs ++ [⟨a, i⟩]) cells slots → T'.heap = h' → Wr h h' a i (.double x) → Go p e below P (T'.setTop (mkF m (pc + 1) Ls st))) : Go p e below P (T.setTop (mkF m pc Ls (.double x :: .int j :: .ref a :: st))) := by
  obtain ⟨cl, A, B, C⟩ := F
  have hin := out_idx hj0 hj1
  subst hi
  obtain ⟨T', h', X', e', W, stp⟩ := stD X hx hZ eT A (x := x) (by rw [B]; exact hin) (g := mkF m pc Ls (.double x :: .int j :: .ref a :: st)) rfl rfl hd
  exact (k T' h' X' e' W).by stp
theorem g_castore (X : Stand p l e R s m args below meth c T locs cells slots) (hx : p.tables.exec = Jvm.exec) (hZ : Z.Warmed39 s.vm) (eT : T.heap = h) {a : Addr} {n : Nat} {f : Nat → Value} (F : Av Z h a .char n f) {j : Int32} {i : Nat} {x : Int32} (hj0 : 0 ≤ j.toInt) (hj1 : j.toInt < n) (hi : j.toNatClampNeg = i) (hd : decode c.code pc = .ok (.castore, 1))
    (k : ∀ T' h', Stand p l e R s m args below meth c T' (locs ++ [⟨a, i⟩]) cells slots → T'.heap = h' → Wr h h' a i (.int (nar .char x)) → Go p e below P (T'.setTop (mkF m (pc + 1) Ls st))) : Go p e below P (T.setTop (mkF m pc Ls (.int x :: .int j :: .ref a :: st))) := by
  obtain ⟨cl, A, B, C⟩ := F
  have hin := out_idx hj0 hj1
  subst hi
  obtain ⟨T', h', X', e', W, stp⟩ := stC X hx hZ eT A (x := x) (by rw [B]; exact hin) (g := mkF m pc Ls (.int x :: .int j :: .ref a :: st)) rfl rfl hd
  exact (k T' h' X' e' W).by stp
theorem g_bastoreB (X : Stand p l e R s m args below meth c T locs cells slots) (hx : p.tables.exec = Jvm.exec) (hZ : Z.Warmed39 s.vm) (eT : T.heap = h) {a : Addr} {n : Nat} {f : Nat → Value} (F : Av Z h a .byte n f) {j : Int32} {i : Nat} {x : Int32} (hj0 : 0 ≤ j.toInt) (hj1 : j.toInt < n) (hi : j.toNatClampNeg = i) (hd : decode c.code pc = .ok (.bastore, 1))
    (k : ∀ T' h', Stand p l e R s m args below meth c T' (locs ++ [⟨a, i⟩]) cells slots → T'.heap = h' → Wr h h' a i (.int (nar .byte x)) → Go p e below P (T'.setTop (mkF m (pc + 1) Ls st))) : Go p e below P (T.setTop (mkF m pc Ls (.int x :: .int j :: .ref a :: st))) := by
  obtain ⟨cl, A, B, C⟩ := F
  have hin := out_idx hj0 hj1
  subst hi
  obtain ⟨T', h', X', e', W, stp⟩ := stB X hx hZ eT A (x := x) (by rw [B]; exact hin) (g := mkF m pc Ls (.int x :: .int j :: .ref a :: st)) rfl rfl hd
  exact (k T' h' X' e' W).by stp
theorem g_bastoreZ (X : Stand p l e R s m args below meth c T locs cells slots) (hx : p.tables.exec = Jvm.exec) (hZ : Z.Warmed39 s.vm) (eT : T.heap = h) {a : Addr} {n : Nat} {f : Nat → Value} (F : Av Z h a .boolean n f) {j : Int32} {i : Nat} {x : Int32} (hj0 : 0 ≤ j.toInt) (hj1 : j.toInt < n) (hi : j.toNatClampNeg = i) (hd : decode c.code pc = .ok (.bastore, 1))
    (k : ∀ T' h', Stand p l e R s m args below meth c T' (locs ++ [⟨a, i⟩]) cells slots → T'.heap = h' → Wr h h' a i (.int (nar .boolean x)) → Go p e below P (T'.setTop (mkF m (pc + 1) Ls st))) : Go p e below P (T.setTop (mkF m pc Ls (.int x :: .int j :: .ref a :: st))) := by
  obtain ⟨cl, A, B, C⟩ := F
  have hin := out_idx hj0 hj1
  subst hi
  obtain ⟨T', h', X', e', W, stp⟩ := stZ X hx hZ eT A (x := x) (by rw [B]; exact hin) (g := mkF m pc Ls (.int x :: .int j :: .ref a :: st)) rfl rfl hd
  exact (k T' h' X' e' W).by stp
theorem g_arraylength (X : Stand p l e R s m args below meth c T locs cells slots) (hx : p.tables.exec = Jvm.exec) (hZ : Z.Warmed39 s.vm) (eT : T.heap = h) {a : Addr} {ty : FieldType} {n : Nat} {f : Nat → Value} (F : Av Z h a ty n f) {v : Int32} (hv : n.toInt32 = v) (hd : decode c.code pc = .ok (.arraylength, 1)) (q : Go p e below P (T.setTop (mkF m (pc + 1) Ls (.int v :: st)))) : Go p e below P (T.setTop (mkF m pc Ls (.ref a :: st))) := by
  obtain ⟨cl, A, B, C⟩ := F
  subst hv B
  exact q.by fun t r => X.arraylength hx (by rw [eT]; exact A.1) (State.isArrayOf_alike hZ.alike A.2.1) (g := mkF m pc Ls (.ref a :: st)) rfl rfl hd t r
theorem cv_g_lt (r : Option Ordering) : cmpValue r .g < 0 ↔ r = some .lt := by rcases r with _ | (_ | _ | _) <;> decide
theorem cv_g_gt (r : Option Ordering) : 0 < cmpValue r .g ↔ (r = some .gt ∨ r = none) := by rcases r with _ | (_ | _ | _) <;> decide
theorem cv_l_lt (r : Option Ordering) : cmpValue r .l < 0 ↔ (r = some .lt ∨ r = none) := by rcases r with _ | (_ | _ | _) <;> decide
theorem cv_l_gt (r : Option Ordering) : 0 < cmpValue r .l ↔ r = some .gt := by rcases r with _ | (_ | _ | _) <;> decide
theorem cv_g_eq (r : Option Ordering) : cmpValue r .g = 0 ↔ r = some .eq := by rcases r with _ | (_ | _ | _) <;> decide
theorem cv_l_eq (r : Option Ordering) : cmpValue r .l = 0 ↔ r = some .eq := by rcases r with _ | (_ | _ | _) <;> decide
end OwnKit

def own_P (k : Nat) : UInt64 := ([4607182418800017408, 4621819117588971520, 4636737291354636288, 4652007308841189376, 4666723172467343360, 4681608360884174848, 4696837146684686336, 4711630319722168320, 4726483295884279808, 4741671816366391296, 4756540486875873280, 4771362005757984768, 4786511204640096256, 4801453603149578240, 4816244402031689728, 4831355200913801216, 4846369599423283200, 4861130398305394688, 4876203697187506176, 4891288408196988160, 4906019910204099648, 4921056587992461136, 4936209963552724370] : List UInt64).getD k 0
def own_pw (k : Nat) : Int64 := ([1, 10, 100, 1000, 10000, 100000, 1000000, 10000000, 100000000, 1000000000, 10000000000, 100000000000, 1000000000000, 10000000000000, 100000000000000, 1000000000000000] : List Int64).getD k 0
theorem own_Pfin : ∀ k : Fin 23, (own_P k.1 &&& 0x7fffffffffffffff) < 0x7ff0000000000000 := by decide
theorem own_Pl : ∀ k : Fin 16, own_P k.1 = FP.Core.l2d (own_pw k.1) := by decide +kernel
theorem own_pwI : ∀ k : Fin 16, 1 ≤ (own_pw k.1).toInt ∧ (own_pw k.1).toInt ≤ 1000000000000000 := by decide
section OwnRes
open Jvm.FP.Core
theorem own_c53 : DInt 9007199254740992 4845873199050653696 := by
  have h := l2d_int (a := 9007199254740992) (by decide)
  have e : l2d 9007199254740992 = 4845873199050653696 := by decide +kernel
  rw [e] at h; exact h
theorem own_big : ∀ k : Fin 23, 16 ≤ k.1 → zval b64 (val64 4845873199050653696) ≤ zval b64 (val64 (own_P k.1)) := by decide +kernel
theorem own_4 (a c b d : Int) : a * c * (b * d) = (a * b) * (c * d) := by ac_rfl
/-- a product that is great enough stays so when it is rounded -/
theorem own_mulge {a b V : UInt64} (ha : DFin a) (hb : DFin b) (hV : val64 V ≠ .nan) (h : zval b64 (val64 V) * ((2 ^ 1074 : Nat) : Int) ≤ zval b64 (val64 a) * zval b64 (val64 b)) : zval b64 (val64 V) ≤ zval b64 (val64 (dmul a b)) := by
  obtain ⟨s, c, q, ea⟩ := ha
  obtain ⟨t, d, r, eb⟩ := hb
  have fa := val64_fits a
  have fb := val64_fits b
  rw [ea] at fa
  rw [eb] at fb
  obtain ⟨p1, p2, p3⟩ := product_units fa fb
  have hq : (b64.qmin - 2 * b64.qmin).toNat = 1074 := by rw [qmin_b64]; decide
  have h0 : 2 * b64.qmin ≤ b64.qmin := by rw [qmin_b64]; decide
  have g1 := zval_round_ge good_b64 (s := s != t) (c := c * d) (q := q + r) (val64_fits V) hV h0 p2 (by
    rw [p3, signed_xor, hq]
    rw [ea, eb] at h
    exact h)
  have ev : val64 (dmul a b) = round b64 (.fin (s != t) (c * d) (q + r)) := by rw [val64_dmul, ea, eb, p1]
  rw [ev]; exact g1
theorem own_notlt {a : UInt64} (h : zval b64 (val64 4845873199050653696) ≤ zval b64 (val64 a)) : ¬ (FP.dcmp a 4845873199050653696 = some .lt) := by
  intro q
  have := (dcmp_lt.mp q).2.2
  have k : zval b64 (val64 a) < zval b64 (val64 4845873199050653696) := this
  omega
theorem own_zu {u : Int64} (hu : 0 ≤ u.toInt ∧ u.toInt < 9007199254740992) : zval b64 (val64 (l2d u)) = u.toInt * (one64 : Int) := DInt_zval (l2d_int (by omega))
/-- k from 16 on -/
theorem own_far {u : Int64} (hu : 1 ≤ u.toInt ∧ u.toInt < 9007199254740992) {k : Nat} (hk : 16 ≤ k ∧ k < 23) : ¬ (FP.dcmp (FP.dmul (FP.l2d u) (own_P k)) 4845873199050653696 = some .lt) := by
  apply own_notlt
  refine own_mulge (l2d_fin u) (Jvm.Free.Fl.fin64_core.mp (own_Pfin ⟨k, hk.2⟩)) (DInt_ne_nan own_c53) ?_
  have zb := own_big ⟨k, hk.2⟩ hk.1
  have zc : 0 ≤ zval b64 (val64 4845873199050653696) := by rw [DInt_zval own_c53]; exact Int.mul_nonneg (by decide) (Int.natCast_nonneg _)
  rw [own_zu ⟨by omega, hu.2⟩]
  have e : ((2 ^ 1074 : Nat) : Int) = (one64 : Int) := rfl
  rw [e, Int.mul_comm (zval b64 (val64 4845873199050653696))]
  have o : (0 : Int) ≤ (one64 : Int) := Int.natCast_nonneg _
  have k1 : (one64 : Int) * zval b64 (val64 4845873199050653696) ≤ (one64 : Int) * zval b64 (val64 (own_P k)) := Int.mul_le_mul_of_nonneg_left zb o
  have k2 : (one64 : Int) * zval b64 (val64 (own_P k)) ≤ u.toInt * (one64 : Int) * zval b64 (val64 (own_P k)) := by
    have zp : 0 ≤ zval b64 (val64 (own_P k)) := Int.le_trans zc zb
    refine Int.mul_le_mul_of_nonneg_right ?_ zp
    have := Int.mul_le_mul_of_nonneg_right hu.1 o
    rw [Int.one_mul] at this; exact this
  exact Int.le_trans k1 k2
/-- k below 16 -/
theorem own_near {u : Int64} (hu : 0 ≤ u.toInt ∧ u.toInt < 9007199254740992) {k : Nat} (hk : k < 16) :
    (u.toInt * (own_pw k).toInt < 9007199254740992 → FP.dcmp (FP.dmul (FP.l2d u) (own_P k)) 4845873199050653696 = some .lt ∧ FP.d2l (FP.dmul (FP.l2d u) (own_P k)) = u * own_pw k) ∧
    (¬ u.toInt * (own_pw k).toInt < 9007199254740992 → ¬ (FP.dcmp (FP.dmul (FP.l2d u) (own_P k)) 4845873199050653696 = some .lt)) := by
  have hp := own_pwI ⟨k, hk⟩
  simp only at hp
  have eP := own_Pl ⟨k, hk⟩
  simp only at eP
  have du := l2d_int (a := u) (by omega)
  have dp := l2d_int (a := own_pw k) (by omega)
  have nn : 0 ≤ u.toInt * (own_pw k).toInt := Int.mul_nonneg hu.1 (by omega)
  rw [eP]
  constructor
  · intro h
    have dm := dmul_int du dp (by omega)
    constructor
    · have q : FP.dcmp (FP.dmul (FP.l2d u) (l2d (own_pw k))) 4845873199050653696 = some (compare (u.toInt * (own_pw k).toInt) 9007199254740992) := dcmp_int dm own_c53
      rw [q]; simp only [Option.some.injEq]; exact (compare_lt_iff _ _).mpr h
    · have e : (u * own_pw k).toInt = u.toInt * (own_pw k).toInt := int64_mul (by omega) (by omega)
      rw [← e] at dm
      exact d2l_int dm
  · intro h
    apply own_notlt
    refine own_mulge (l2d_fin u) (l2d_fin _) (DInt_ne_nan own_c53) ?_
    rw [DInt_zval own_c53, DInt_zval du, DInt_zval dp]
    have e : ((2 ^ 1074 : Nat) : Int) = (one64 : Int) := rfl
    have o : (0 : Int) ≤ (one64 : Int) := Int.natCast_nonneg _
    rw [e, show u.toInt * (one64 : Int) * ((own_pw k).toInt * (one64 : Int)) = (u.toInt * (own_pw k).toInt) * ((one64 : Int) * (one64 : Int)) from own_4 .., Int.mul_assoc]
    exact Int.mul_le_mul_of_nonneg_right (by omega) (Int.mul_nonneg o o)
theorem own_zero : ∀ k : Fin 23, FP.dcmp (FP.dmul (FP.l2d 0) (own_P k.1)) 4845873199050653696 = some .lt ∧ FP.d2l (FP.dmul (FP.l2d 0) (own_P k.1)) = 0 := by decide +kernel
end OwnRes
def own_res (u : Int64) (k : Nat) : Int64 := if u < 0 then -1 else if FP.dcmp (FP.dmul (FP.l2d u) (own_P k)) 4845873199050653696 = some .lt then FP.d2l (FP.dmul (FP.l2d u) (own_P k)) else -1
theorem own_mask (a : Int64) : 0 ≤ (a &&& ((9007199254740992 : Int64) - (1 : Int64))).toInt ∧ (a &&& ((9007199254740992 : Int64) - (1 : Int64))).toInt < 9007199254740992 := by
  have h := c_maskL a ((9007199254740992 : Int64) - (1 : Int64)) 53 (by decide) (by decide)
  exact ⟨by rw [h]; omega, by rw [h]; omega⟩
theorem own_shr {x r : Int64} {q : Int32} (hx : 0 ≤ x.toInt ∧ x.toInt < 9007199254740992) (h : (x.toUInt64 >>> (q &&& 0x3f).toInt64.toUInt64).toInt64 = r) : 0 ≤ r.toInt ∧ r.toInt < 9007199254740992 := by
  have e1 : x.toUInt64.toNat = x.toInt.toNat := by
    have : x.toInt = x.toBitVec.toInt := rfl
    have k : x.toUInt64.toNat = x.toBitVec.toNat := rfl
    rw [k]
    rw [this] at hx
    rw [this, BitVec.toInt_eq_toNat_cond]
    have := x.toBitVec.isLt
    rw [BitVec.toInt_eq_toNat_cond] at hx
    split at hx <;> rename_i z <;> simp only [z, if_true, if_false] <;> omega
  have e2 : (x.toUInt64 >>> (q &&& 0x3f).toInt64.toUInt64).toNat ≤ x.toUInt64.toNat := by
    rw [UInt64.toNat_shiftRight]; exact Nat.shiftRight_le _ _
  generalize x.toUInt64 >>> (q &&& 0x3f).toInt64.toUInt64 = y at *
  subst h
  have e3 : y.toInt64.toInt = y.toNat := by
    have : y.toInt64.toInt = y.toBitVec.toInt := rfl
    have k : y.toNat = y.toBitVec.toNat := rfl
    rw [this, BitVec.toInt_eq_toNat_cond, ← k]
    rw [if_pos (by omega)]
  rw [e3]; omega
theorem own_lt16 {k : Nat} (h : k < 16) : k = 0 ∨ k = 1 ∨ k = 2 ∨ k = 3 ∨ k = 4 ∨ k = 5 ∨ k = 6 ∨ k = 7 ∨ k = 8 ∨ k = 9 ∨ k = 10 ∨ k = 11 ∨ k = 12 ∨ k = 13 ∨ k = 14 ∨ k = 15 := by omega

theorem own_lt23 {k : Nat} (h : k < 23) : k = 0 ∨ k = 1 ∨ k = 2 ∨ k = 3 ∨ k = 4 ∨ k = 5 ∨ k = 6 ∨ k = 7 ∨ k = 8 ∨ k = 9 ∨ k = 10 ∨ k = 11 ∨ k = 12 ∨ k = 13 ∨ k = 14 ∨ k = 15 ∨ k = 16 ∨ k = 17 ∨ k = 18 ∨ k = 19 ∨ k = 20 ∨ k = 21 ∨ k = 22 := by omega
theorem own_len {s : State} {args : Array Value} {t : Term} {a : Addr} {cl : Cell} (ev : t.eval args s none [] s = some (.ref a)) (A : Arr s s.heap a cl .double) (h : (Jvm.Cond.eq (.length t) (.int 23)).value args s none s [] = some true) : cl.slots.size = 23 := by
  obtain ⟨x, y, e1, e2, -, k2⟩ := cmp_v (Or.inl h)
  cases (Term.int_eval 23).symm.trans e2
  obtain ⟨z, rfl⟩ : ∃ z, x = .int z := k2
  have q : z = 23 := gotT (Cond.eq_ints e1 (Term.int_eval 23)) h
  subst q
  obtain ⟨a', cell, ha', hat, hv, hs⟩ := Jvm.Free.SB.Term.length_small e1
  cases ev.symm.trans ha'
  have hc := (State.arrayAt?_spec hat).1
  cases A.1.symm.trans hc
  have hz : cl.slots.size.toInt32 = 23 := (Value.int.inj hv).symm
  have h3 : (cl.slots.size.toInt32).toInt = cl.slots.size := by
    have := idx_in (i := cl.slots.size) (n := cl.slots.size + 1) (by omega)
    rw [show cl.slots.size.toInt32 = Int32.ofNat cl.slots.size from rfl, Int32.toInt_ofNat_of_lt (by omega)]
  rw [hz] at h3
  have : (23 : Int32).toInt = 23 := rfl
  omega
theorem own_elem {s : State} {args : Array Value} {t : Term} {a : Addr} {cl : Cell} {j : Int32} {k : Nat} {c : Int64} {u : UInt64} (ev : t.eval args s none [] s = some (.ref a)) (A : Arr s s.heap a cl .double) (hj : j.toNatClampNeg = k) (h : (Jvm.Cond.eq (.elem t (.int j)) (.op1 .bitsD (.long c))).value args s none s [] = some true) (hu : c.toUInt64 = u) : cl.slots[k]? = some (.double u) := by
  obtain ⟨x, y, e1, e2, -, k2⟩ := cmp_v (Or.inl h)
  have e3 : (Jvm.Term.op1 .bitsD (.long c)).eval args s none [] s = some (.double c.toUInt64) := rfl
  cases e3.symm.trans e2
  obtain ⟨z, rfl⟩ : ∃ z, x = .double z := k2
  have q : z = c.toUInt64 := by
    simp only [Cond.value, e1, e3] at h
    simpa using h
  obtain ⟨-, g⟩ := elem_in e1 ev (Term.int_eval j) A.1
  rw [hj, q, hu] at g
  exact g
theorem d1_0 : decode prog_17_method_9_code 0 = .ok (.lload_n 0, 1) := by decide +kernel
theorem d1_1 : decode prog_17_method_9_code 1 = .ok (.l2d, 1) := by decide +kernel
theorem d1_2 : decode prog_17_method_9_code 2 = .ok (.getstatic 113, 3) := by decide +kernel
theorem d1_5 : decode prog_17_method_9_code 5 = .ok (.iload_n 3, 1) := by decide +kernel
theorem d1_6 : decode prog_17_method_9_code 6 = .ok (.iload_n 2, 1) := by decide +kernel
theorem d1_7 : decode prog_17_method_9_code 7 = .ok (.isub, 1) := by decide +kernel
theorem d1_8 : decode prog_17_method_9_code 8 = .ok (.daload, 1) := by decide +kernel
theorem d1_9 : decode prog_17_method_9_code 9 = .ok (.dmul, 1) := by decide +kernel
theorem d1_10 : decode prog_17_method_9_code 10 = .ok (.dstore 4, 2) := by decide +kernel
theorem d1_12 : decode prog_17_method_9_code 12 = .ok (.lload_n 0, 1) := by decide +kernel
theorem d1_13 : decode prog_17_method_9_code 13 = .ok (.lconst 0, 1) := by decide +kernel
theorem d1_14 : decode prog_17_method_9_code 14 = .ok (.lcmp, 1) := by decide +kernel
theorem d1_15 : decode prog_17_method_9_code 15 = .ok (.ifCond .lt 18, 3) := by decide +kernel
theorem d1_18 : decode prog_17_method_9_code 18 = .ok (.dload 4, 2) := by decide +kernel
theorem d1_20 : decode prog_17_method_9_code 20 = .ok (.ldc2_w 129, 3) := by decide +kernel
theorem d1_23 : decode prog_17_method_9_code 23 = .ok (.dcmp .g, 1) := by decide +kernel
theorem d1_24 : decode prog_17_method_9_code 24 = .ok (.ifCond .ge 9, 3) := by decide +kernel
theorem d1_27 : decode prog_17_method_9_code 27 = .ok (.dload 4, 2) := by decide +kernel
theorem d1_29 : decode prog_17_method_9_code 29 = .ok (.d2l, 1) := by decide +kernel
theorem d1_30 : decode prog_17_method_9_code 30 = .ok (.goto 6, 3) := by decide +kernel
theorem d1_33 : decode prog_17_method_9_code 33 = .ok (.ldc2_w 123, 3) := by decide +kernel
theorem d1_36 : decode prog_17_method_9_code 36 = .ok (.lreturn, 1) := by decide +kernel
theorem pn1 : plainName "com/example/choreon/choreon/DecimalTime" = true := by first | (simp [plainName, overriddenIn]; done) | decide +kernel
theorem ef1 (m : MethodId) (z0 : Int64) (z1 : Int32) (z2 : Int32) : entryFrame m #[(.long z0), (.int z1), (.int z2)] 6 = mkF m 0 #[.val (.long z0), .second, .val (.int z1), .val (.int z2), .unset, .unset] [] := by first | (simp [entryFrame, mkF, argsToLocals, Value.category]; done) | rfl
def Q1 (Z : State) (q1 : Int64) (q2 : Int32) (q3 : Int32) (h0 : Heap) (n0 : Nat) (v : Option Value) (h : Heap) (L : List Loc) : Prop := v = some (.long (own_res q1 (q3.toInt - q2.toInt).toNat)) ∧ Fr n0 L ∧ h = h0
set_option maxRecDepth 65536 in
set_option maxHeartbeats 40000000 in
theorem rm1 (l : Launch) (Z : State) (a0 : Array Value) (hw : ∀ d ∈ tables_1, d.before a0 Z = true) (ws : List Jvm.Cond) (q1 : Int64) (q2 : Int32) (q3 : Int32) (h0 : Heap) (n0 : Nat) (Z0 : n0 ≤ h0.size) {pt : Addr} {f : Nat → Value} (S0 : Sta Z h0 "com/example/choreon/choreon/DecimalTime" "POWERS_OF_TEN" "[D" (.ref pt)) (A0 : Av Z h0 pt .double 23 f) (hf : ∀ k, k < 23 → f k = .double (own_P k)) (hr : 0 ≤ q2.toInt ∧ q2.toInt ≤ q3.toInt ∧ q3.toInt ≤ 22) :
    MetFree l (⟨"com/example/choreon/choreon/DecimalTime", "rescaled", "(JII)J"⟩ : MethodName) (head1 (Jvm.Cond.code (⟨"com/example/choreon/choreon/DecimalTime", "rescaled", "(JII)J"⟩ : MethodName) prog_17_method_9_code 6 (Option.some Jvm.ClassFile.FieldType.long) :: ws) ({ frames := 0, cells := 0, slots := 0, locals := 0 } : Room)) (fun a U => a = #[(.long q1), (.int q2), (.int q3)] ∧ Z.Warmed39 U.vm ∧ U.heap = h0) (fun _ _ _ _ _ => True) (fun _ U o U' => ∃ v L, o = .returned v ∧ Q1 Z q1 q2 q3 h0 n0 v U'.heap L ∧ FrameEnd U o U' L ({ frames := 0, cells := 0, slots := 0, locals := 0 } : Room).cells ({ frames := 0, cells := 0, slots := 0, locals := 0 } : Room).slots) := by
  refine MetFree.of_bodySF (plainFor_of_name pn1) hisR ?_
  intro p e s m args below meth c s₁ Bd hml0 hP hK
  obtain ⟨rfl, hZ, hh⟩ := hP
  have hx := Bd.exec
  have hby := Bd.bytes
  have hml : c.maxLocals = 6 := hml0
  have hown : s.vm.findClass "com/example/choreon/choreon/DecimalTime" = some m.cls := findClass_of_methodNamed Bd.named
  have hnm := (name_of_methodNamed Bd.named Bd.method).1
  have X0 : Stand p l e ({ frames := 0, cells := 0, slots := 0, locals := 0 } : Room) s m #[(.long q1), (.int q2), (.int q3)] below meth c s₁ [] 0 0 := Stand.of_body Bd
  have e0 : s₁.heap = h0 := by rw [← hh, Bd.state]; rfl
  have N0 := Fr.nil n0
  show Go p e below (Ret s (Q1 Z q1 q2 q3 h0 n0) ({ frames := 0, cells := 0, slots := 0, locals := 0 } : Room).cells ({ frames := 0, cells := 0, slots := 0, locals := 0 } : Room).slots) (s₁.setTop (entryFrame m #[(.long q1), (.int q2), (.int q3)] 6))
  rw [ef1 m q1 q2 q3]
  refine g_lloadN X0 hx (hb hby d1_0) rfl ?_
  obtain ⟨d1, hd1⟩ : ∃ v : UInt64, FP.l2d q1 = v := ⟨_, rfl⟩
  have fin_d1 : Jvm.Free.Fl.Fin64 d1 := by rw [← hd1]; exact Jvm.Free.Fl.l2d_fin _
  refine g_l2d X0 hx (hb hby d1_1) hd1 ?_
  refine g_getS X0 hx hZ hown (hw _ (List.mem_of_getElem? (i := 23) rfl)) e0 S0 (hb hby d1_2) ?_
  intro T2 X3 e4
  refine g_iloadN X3 hx (hb hby d1_5) rfl ?_
  refine g_iloadN X3 hx (hb hby d1_6) rfl ?_
  obtain ⟨kk, hkk⟩ : ∃ v : Int32, q3 - q2 = v := ⟨_, rfl⟩
  refine g_isub X3 hx (hb hby d1_7) hkk ?_
  have t_k : kk.toInt = q3.toInt - q2.toInt := by
    have a := c_isub q3 q2; rw [hkk] at a
    have := rng32 kk
    omega
  refine g_daload X3 hx hZ e4 A0 (by omega) (by omega) (i := (q3.toInt - q2.toInt).toNat) (by show kk.toInt.toNat = _; rw [t_k]) (hf _ (by omega)) (hb hby d1_8) ?_
  have n5 : Jvm.Free.Fl.NoNaN64 (FP.dmul d1 (own_P (q3.toInt - q2.toInt).toNat)) := Jvm.Free.Fl.dmul_out fin_d1 (own_Pfin ⟨(q3.toInt - q2.toInt).toNat, by omega⟩)
  obtain ⟨dm, hdm⟩ : ∃ v : UInt64, FP.dmul d1 (own_P (q3.toInt - q2.toInt).toNat) = v := ⟨_, rfl⟩
  have nn_dm : Jvm.Free.Fl.NoNaN64 dm := by rw [← hdm]; exact n5
  refine g_dmul X3 hx (hb hby d1_9) n5 hdm ?_
  refine g_dstore X3 hx (hb hby d1_10) (L' := #[.val (.long q1), .second, .val (.int q2), .val (.int q3), .val (.double dm), .second]) rfl ?_
  refine g_lloadN X3 hx (hb hby d1_12) rfl ?_
  refine g_lconst0 X3 hx (hb hby d1_13) ?_
  refine g_lcmp X3 hx (hb hby d1_14) ?_
  by_cases hc15_6 : q1 < (0 : Int64)
  ·
    refine g_ifYes X3 hx (hb hby d1_15) (tlt ((lw_lt _ _).mpr hc15_6)).1 (by decide) (pc' := 33) (by decide) ?_
    refine g_ldc2J X3 hx hZ hown (hw _ (List.mem_of_getElem? (i := 25) rfl)) (hb hby d1_33) ?_
    refine g_lreturn X3 hx Bd.notSynchronized Bd.returns (hb hby d1_36) (by decide) (by decide) ?_
    refine ⟨?_, N0, e4⟩
    subst hd1 hdm
    simp only [own_res, hc15_6, if_true, if_false]
  ·
    refine g_ifNo X3 hx (hb hby d1_15) (flt (fun q => hc15_6 ((lw_lt _ _).mp q))).1 ?_
    refine g_dload X3 hx (hb hby d1_18) rfl ?_
    refine g_ldc2D X3 hx hZ hown (hw _ (List.mem_of_getElem? (i := 26) rfl)) (hb hby d1_20) ?_
    refine g_dcmp X3 hx (hb hby d1_23) ?_
    by_cases hc24_7 : FP.dcmp dm (4845873199050653696 : UInt64) = some .lt
    ·
      refine g_ifNo X3 hx (hb hby d1_24) (tlt ((cv_g_lt _).mpr hc24_7)).2.1 ?_
      refine g_dload X3 hx (hb hby d1_27) rfl ?_
      obtain ⟨l8, hl8⟩ : ∃ v : Int64, FP.d2l dm = v := ⟨_, rfl⟩
      refine g_d2l X3 hx (hb hby d1_29) hl8 ?_
      refine g_goto X3 hx (hb hby d1_30) (by decide) (pc' := 36) (by decide) ?_
      refine g_lreturn X3 hx Bd.notSynchronized Bd.returns (hb hby d1_36) (by decide) (by decide) ?_
      refine ⟨?_, N0, e4⟩
      subst hd1 hdm hl8
      simp only [own_res, hc15_6, hc24_7, if_true, if_false]
    ·
      refine g_ifYes X3 hx (hb hby d1_24) (flt (fun q => hc24_7 ((cv_g_lt _).mp q))).2.1 (by decide) (pc' := 33) (by decide) ?_
      refine g_ldc2J X3 hx hZ hown (hw _ (List.mem_of_getElem? (i := 25) rfl)) (hb hby d1_33) ?_
      refine g_lreturn X3 hx Bd.notSynchronized Bd.returns (hb hby d1_36) (by decide) (by decide) ?_
      refine ⟨?_, N0, e4⟩
      subst hd1 hdm
      simp only [own_res, hc15_6, hc24_7, if_true, if_false]
theorem pn0 : plainName "com/example/choreon/choreon/DecimalTimeRescaledPinLaw" = true := by first | (simp [plainName, overriddenIn]; done) | decide +kernel
theorem pd0_0 : parseMethodDescriptor "(JII)J" = some ⟨[.long, .int, .int], some .long⟩ := by decide +kernel
theorem ef0 (m : MethodId) (z0 : Int64) (z1 : Int32) (z2 : Int32) (z3 : Int32) (z4 : Int32) : entryFrame m #[(.long z0), (.int z1), (.int z2), (.int z3), (.int z4)] maxLocals = mkF m 0 #[.val (.long z0), .second, .val (.int z1), .val (.int z2), .val (.int z3), .val (.int z4), .unset, .unset, .unset, .unset, .unset, .unset, .unset, .unset, .unset, .unset, .unset, .unset, .unset] [] := by first | (simp [entryFrame, mkF, argsToLocals, Value.category, maxLocals]; done) | rfl
def Q0 (Z : State) (q0 : Int64) (q1 : Int32) (q2 : Int32) (q3 : Int32) (q4 : Int32) (h0 : Heap) (n0 : Nat) (v : Option Value) (h : Heap) (L : List Loc) : Prop := v = some (.int 1) ∧ Fr n0 L
set_option maxRecDepth 65536 in
set_option maxHeartbeats 40000000 in
theorem rm0 (l : Launch) (Z : State) (a0 : Array Value) (hw : ∀ d ∈ tables_1, d.before a0 Z = true) (ws : List Jvm.Cond) (q0 : Int64) (q1 : Int32) (q2 : Int32) (q3 : Int32) (q4 : Int32) (h0 : Heap) (n0 : Nat) (Z0 : n0 ≤ h0.size) {pt : Addr} {f : Nat → Value} (S0 : Sta Z h0 "com/example/choreon/choreon/DecimalTime" "POWERS_OF_TEN" "[D" (.ref pt)) (A0 : Av Z h0 pt .double 23 f) (hf : ∀ k, k < 23 → f k = .double (own_P k)) :
    MetFree l x (head1 (Jvm.Cond.code x code maxLocals ret :: ws) room_1) (fun a U => a = #[(.long q0), (.int q1), (.int q2), (.int q3), (.int q4)] ∧ Z.Warmed39 U.vm ∧ U.heap = h0) (fun _ _ _ _ _ => True) (fun _ U o U' => ∃ v L, o = .returned v ∧ Q0 Z q0 q1 q2 q3 q4 h0 n0 v U'.heap L ∧ FrameEnd U o U' L 16 128) := by
  refine MetFree.of_bodySF (plainFor_of_name pn0) hisR ?_
  intro p e s m args below meth c s₁ Bd hml0 hP hK
  obtain ⟨rfl, hZ, hh⟩ := hP
  have hx := Bd.exec
  have hby := Bd.bytes
  have hml : c.maxLocals = 19 := hml0
  have hown : s.vm.findClass "com/example/choreon/choreon/DecimalTimeRescaledPinLaw" = some m.cls := findClass_of_methodNamed Bd.named
  have hnm := (name_of_methodNamed Bd.named Bd.method).1
  have X0 : Stand p l e room_1 s m #[(.long q0), (.int q1), (.int q2), (.int q3), (.int q4)] below meth c s₁ [] 0 0 := Stand.of_body Bd
  have e0 : s₁.heap = h0 := by rw [← hh, Bd.state]; rfl
  have N0 := Fr.nil n0
  show Go p e below (Ret s (Q0 Z q0 q1 q2 q3 q4 h0 n0) 16 128) (s₁.setTop (entryFrame m #[(.long q0), (.int q1), (.int q2), (.int q3), (.int q4)] maxLocals))
  rw [ef0 m q0 q1 q2 q3 q4]
  refine g_bipush X0 hx (hb hby at_0) (v := (16 : Int32)) (by decide) ?_
  refine g_newP X0 hx hZ (ty := .long) rfl (hw _ (List.mem_of_getElem? (i := 0) rfl)) e0 (hb hby at_2) (by decide) (cap := 16) (by decide) (by decide) (by decide) (by decide) ?_
  intro T1 h4 pw cA8 gpw X2 e3 E5 F6
  have ne_pt_pw : pt ≠ pw := fun q => absurd A0.lt (by rw [q, gpw]; exact Nat.lt_irrefl _)
  have ge_pw : n0 ≤ pw := by rw [gpw]; exact Z0
  have F10 := S0.ext E5
  have F11 := A0.ext E5
  have Z12 : n0 ≤ h4.size := Nat.le_trans Z0 E5.1
  have F9 : Av Z h4 pw .long 16 (fun _ => .long 0) := Av.newK F6 (by decide)
  refine g_dup X2 hx (hb hby at_4) rfl ?_
  refine g_iconst X2 hx (hb hby at_5) (v := (0 : Int32)) (by decide) ?_
  refine g_lconst1 X2 hx (hb hby at_6) ?_
  refine g_lastore X2 hx hZ e3 F9 (i := 0) (by decide) (by decide) (by decide) (hb hby at_7) ?_
  intro T14 h17 X15 e16 W18
  have F19 := F10.wr W18
  have F20 := F11.other W18 ne_pt_pw
  have F21 := F9.same W18
  have Z22 : n0 ≤ h17.size := by rw [W18.size]; exact Z12
  have N23 := Fr.snoc X15 N0 ge_pw
  refine g_dup X15 hx (hb hby at_8) rfl ?_
  refine g_iconst X15 hx (hb hby at_9) (v := (1 : Int32)) (by decide) ?_
  refine g_ldc2J X15 hx hZ hown (hw _ (List.mem_of_getElem? (i := 1) rfl)) (hb hby at_10) ?_
  refine g_lastore X15 hx hZ e16 F21 (i := 1) (by decide) (by decide) (by decide) (hb hby at_13) ?_
  intro T24 h27 X25 e26 W28
  have F29 := F19.wr W28
  have F30 := F20.other W28 ne_pt_pw
  have F31 := F21.same W28
  have Z32 : n0 ≤ h27.size := by rw [W28.size]; exact Z22
  have N33 := Fr.snoc X25 N23 ge_pw
  refine g_dup X25 hx (hb hby at_14) rfl ?_
  refine g_iconst X25 hx (hb hby at_15) (v := (2 : Int32)) (by decide) ?_
  refine g_ldc2J X25 hx hZ hown (hw _ (List.mem_of_getElem? (i := 2) rfl)) (hb hby at_16) ?_
  refine g_lastore X25 hx hZ e26 F31 (i := 2) (by decide) (by decide) (by decide) (hb hby at_19) ?_
  intro T34 h37 X35 e36 W38
  have F39 := F29.wr W38
  have F40 := F30.other W38 ne_pt_pw
  have F41 := F31.same W38
  have Z42 : n0 ≤ h37.size := by rw [W38.size]; exact Z32
  have N43 := Fr.snoc X35 N33 ge_pw
  refine g_dup X35 hx (hb hby at_20) rfl ?_
  refine g_iconst X35 hx (hb hby at_21) (v := (3 : Int32)) (by decide) ?_
  refine g_ldc2J X35 hx hZ hown (hw _ (List.mem_of_getElem? (i := 3) rfl)) (hb hby at_22) ?_
  refine g_lastore X35 hx hZ e36 F41 (i := 3) (by decide) (by decide) (by decide) (hb hby at_25) ?_
  intro T44 h47 X45 e46 W48
  have F49 := F39.wr W48
  have F50 := F40.other W48 ne_pt_pw
  have F51 := F41.same W48
  have Z52 : n0 ≤ h47.size := by rw [W48.size]; exact Z42
  have N53 := Fr.snoc X45 N43 ge_pw
  refine g_dup X45 hx (hb hby at_26) rfl ?_
  refine g_iconst X45 hx (hb hby at_27) (v := (4 : Int32)) (by decide) ?_
  refine g_ldc2J X45 hx hZ hown (hw _ (List.mem_of_getElem? (i := 4) rfl)) (hb hby at_28) ?_
  refine g_lastore X45 hx hZ e46 F51 (i := 4) (by decide) (by decide) (by decide) (hb hby at_31) ?_
  intro T54 h57 X55 e56 W58
  have F59 := F49.wr W58
  have F60 := F50.other W58 ne_pt_pw
  have F61 := F51.same W58
  have Z62 : n0 ≤ h57.size := by rw [W58.size]; exact Z52
  have N63 := Fr.snoc X55 N53 ge_pw
  refine g_dup X55 hx (hb hby at_32) rfl ?_
  refine g_iconst X55 hx (hb hby at_33) (v := (5 : Int32)) (by decide) ?_
  refine g_ldc2J X55 hx hZ hown (hw _ (List.mem_of_getElem? (i := 5) rfl)) (hb hby at_34) ?_
  refine g_lastore X55 hx hZ e56 F61 (i := 5) (by decide) (by decide) (by decide) (hb hby at_37) ?_
  intro T64 h67 X65 e66 W68
  have F69 := F59.wr W68
  have F70 := F60.other W68 ne_pt_pw
  have F71 := F61.same W68
  have Z72 : n0 ≤ h67.size := by rw [W68.size]; exact Z62
  have N73 := Fr.snoc X65 N63 ge_pw
  refine g_dup X65 hx (hb hby at_38) rfl ?_
  refine g_bipush X65 hx (hb hby at_39) (v := (6 : Int32)) (by decide) ?_
  refine g_ldc2J X65 hx hZ hown (hw _ (List.mem_of_getElem? (i := 6) rfl)) (hb hby at_41) ?_
  refine g_lastore X65 hx hZ e66 F71 (i := 6) (by decide) (by decide) (by decide) (hb hby at_44) ?_
  intro T74 h77 X75 e76 W78
  have F79 := F69.wr W78
  have F80 := F70.other W78 ne_pt_pw
  have F81 := F71.same W78
  have Z82 : n0 ≤ h77.size := by rw [W78.size]; exact Z72
  have N83 := Fr.snoc X75 N73 ge_pw
  refine g_dup X75 hx (hb hby at_45) rfl ?_
  refine g_bipush X75 hx (hb hby at_46) (v := (7 : Int32)) (by decide) ?_
  refine g_ldc2J X75 hx hZ hown (hw _ (List.mem_of_getElem? (i := 7) rfl)) (hb hby at_48) ?_
  refine g_lastore X75 hx hZ e76 F81 (i := 7) (by decide) (by decide) (by decide) (hb hby at_51) ?_
  intro T84 h87 X85 e86 W88
  have F89 := F79.wr W88
  have F90 := F80.other W88 ne_pt_pw
  have F91 := F81.same W88
  have Z92 : n0 ≤ h87.size := by rw [W88.size]; exact Z82
  have N93 := Fr.snoc X85 N83 ge_pw
  refine g_dup X85 hx (hb hby at_52) rfl ?_
  refine g_bipush X85 hx (hb hby at_53) (v := (8 : Int32)) (by decide) ?_
  refine g_ldc2J X85 hx hZ hown (hw _ (List.mem_of_getElem? (i := 8) rfl)) (hb hby at_55) ?_
  refine g_lastore X85 hx hZ e86 F91 (i := 8) (by decide) (by decide) (by decide) (hb hby at_58) ?_
  intro T94 h97 X95 e96 W98
  have F99 := F89.wr W98
  have F100 := F90.other W98 ne_pt_pw
  have F101 := F91.same W98
  have Z102 : n0 ≤ h97.size := by rw [W98.size]; exact Z92
  have N103 := Fr.snoc X95 N93 ge_pw
  refine g_dup X95 hx (hb hby at_59) rfl ?_
  refine g_bipush X95 hx (hb hby at_60) (v := (9 : Int32)) (by decide) ?_
  refine g_ldc2J X95 hx hZ hown (hw _ (List.mem_of_getElem? (i := 9) rfl)) (hb hby at_62) ?_
  refine g_lastore X95 hx hZ e96 F101 (i := 9) (by decide) (by decide) (by decide) (hb hby at_65) ?_
  intro T104 h107 X105 e106 W108
  have F109 := F99.wr W108
  have F110 := F100.other W108 ne_pt_pw
  have F111 := F101.same W108
  have Z112 : n0 ≤ h107.size := by rw [W108.size]; exact Z102
  have N113 := Fr.snoc X105 N103 ge_pw
  refine g_dup X105 hx (hb hby at_66) rfl ?_
  refine g_bipush X105 hx (hb hby at_67) (v := (10 : Int32)) (by decide) ?_
  refine g_ldc2J X105 hx hZ hown (hw _ (List.mem_of_getElem? (i := 10) rfl)) (hb hby at_69) ?_
  refine g_lastore X105 hx hZ e106 F111 (i := 10) (by decide) (by decide) (by decide) (hb hby at_72) ?_
  intro T114 h117 X115 e116 W118
  have F119 := F109.wr W118
  have F120 := F110.other W118 ne_pt_pw
  have F121 := F111.same W118
  have Z122 : n0 ≤ h117.size := by rw [W118.size]; exact Z112
  have N123 := Fr.snoc X115 N113 ge_pw
  refine g_dup X115 hx (hb hby at_73) rfl ?_
  refine g_bipush X115 hx (hb hby at_74) (v := (11 : Int32)) (by decide) ?_
  refine g_ldc2J X115 hx hZ hown (hw _ (List.mem_of_getElem? (i := 11) rfl)) (hb hby at_76) ?_
  refine g_lastore X115 hx hZ e116 F121 (i := 11) (by decide) (by decide) (by decide) (hb hby at_79) ?_
  intro T124 h127 X125 e126 W128
  have F129 := F119.wr W128
  have F130 := F120.other W128 ne_pt_pw
  have F131 := F121.same W128
  have Z132 : n0 ≤ h127.size := by rw [W128.size]; exact Z122
  have N133 := Fr.snoc X125 N123 ge_pw
  refine g_dup X125 hx (hb hby at_80) rfl ?_
  refine g_bipush X125 hx (hb hby at_81) (v := (12 : Int32)) (by decide) ?_
  refine g_ldc2J X125 hx hZ hown (hw _ (List.mem_of_getElem? (i := 12) rfl)) (hb hby at_83) ?_
  refine g_lastore X125 hx hZ e126 F131 (i := 12) (by decide) (by decide) (by decide) (hb hby at_86) ?_
  intro T134 h137 X135 e136 W138
  have F139 := F129.wr W138
  have F140 := F130.other W138 ne_pt_pw
  have F141 := F131.same W138
  have Z142 : n0 ≤ h137.size := by rw [W138.size]; exact Z132
  have N143 := Fr.snoc X135 N133 ge_pw
  refine g_dup X135 hx (hb hby at_87) rfl ?_
  refine g_bipush X135 hx (hb hby at_88) (v := (13 : Int32)) (by decide) ?_
  refine g_ldc2J X135 hx hZ hown (hw _ (List.mem_of_getElem? (i := 13) rfl)) (hb hby at_90) ?_
  refine g_lastore X135 hx hZ e136 F141 (i := 13) (by decide) (by decide) (by decide) (hb hby at_93) ?_
  intro T144 h147 X145 e146 W148
  have F149 := F139.wr W148
  have F150 := F140.other W148 ne_pt_pw
  have F151 := F141.same W148
  have Z152 : n0 ≤ h147.size := by rw [W148.size]; exact Z142
  have N153 := Fr.snoc X145 N143 ge_pw
  refine g_dup X145 hx (hb hby at_94) rfl ?_
  refine g_bipush X145 hx (hb hby at_95) (v := (14 : Int32)) (by decide) ?_
  refine g_ldc2J X145 hx hZ hown (hw _ (List.mem_of_getElem? (i := 14) rfl)) (hb hby at_97) ?_
  refine g_lastore X145 hx hZ e146 F151 (i := 14) (by decide) (by decide) (by decide) (hb hby at_100) ?_
  intro T154 h157 X155 e156 W158
  have F159 := F149.wr W158
  have F160 := F150.other W158 ne_pt_pw
  have F161 := F151.same W158
  have Z162 : n0 ≤ h157.size := by rw [W158.size]; exact Z152
  have N163 := Fr.snoc X155 N153 ge_pw
  refine g_dup X155 hx (hb hby at_101) rfl ?_
  refine g_bipush X155 hx (hb hby at_102) (v := (15 : Int32)) (by decide) ?_
  refine g_ldc2J X155 hx hZ hown (hw _ (List.mem_of_getElem? (i := 15) rfl)) (hb hby at_104) ?_
  refine g_lastore X155 hx hZ e156 F161 (i := 15) (by decide) (by decide) (by decide) (hb hby at_107) ?_
  intro T164 h167 X165 e166 W168
  have F169 := F159.wr W168
  have F170 := F160.other W168 ne_pt_pw
  have F171 := F161.same W168
  have Z172 : n0 ≤ h167.size := by rw [W168.size]; exact Z162
  have N173 := Fr.snoc X165 N163 ge_pw
  have F174 : Av Z h167 pw .long 16 (fun k => .long (own_pw k)) := F171.congr (by
    intro k hk
    rcases own_lt16 hk with rfl | rfl | rfl | rfl | rfl | rfl | rfl | rfl | rfl | rfl | rfl | rfl | rfl | rfl | rfl | rfl <;> rfl)
  refine g_astore X165 hx (hb hby at_108) rfl (L' := #[.val (.long q0), .second, .val (.int q1), .val (.int q2), .val (.int q3), .val (.int q4), .val (.ref pw), .unset, .unset, .unset, .unset, .unset, .unset, .unset, .unset, .unset, .unset, .unset, .unset]) rfl ?_
  refine g_ldc2J X165 hx hZ hown (hw _ (List.mem_of_getElem? (i := 16) rfl)) (hb hby at_110) ?_
  refine g_lstore X165 hx (hb hby at_113) (L' := #[.val (.long q0), .second, .val (.int q1), .val (.int q2), .val (.int q3), .val (.int q4), .val (.ref pw), .val (.long (9007199254740992 : Int64)), .second, .unset, .unset, .unset, .unset, .unset, .unset, .unset, .unset, .unset, .unset]) rfl ?_
  refine g_iload X165 hx (hb hby at_115) rfl ?_
  refine g_iconst X165 hx (hb hby at_117) (v := (1 : Int32)) (by decide) ?_
  obtain ⟨fg, hfg⟩ : ∃ v : Int32, q4 &&& (1 : Int32) = v := ⟨_, rfl⟩
  refine g_iand X165 hx (hb hby at_118) hfg ?_
  by_cases hc119_175 : fg = (0 : Int32)
  ·
    refine g_ifYes X165 hx (hb hby at_119) (teq hc119_175).1 (by decide) (pc' := 126) (by decide) ?_
    refine g_iconst X165 hx (hb hby at_126) (v := (0 : Int32)) (by decide) ?_
    refine g_istore X165 hx (hb hby at_127) (L' := #[.val (.long q0), .second, .val (.int q1), .val (.int q2), .val (.int q3), .val (.int q4), .val (.ref pw), .val (.long (9007199254740992 : Int64)), .second, .val (.int (0 : Int32)), .unset, .unset, .unset, .unset, .unset, .unset, .unset, .unset, .unset]) rfl ?_
    refine g_iload X165 hx (hb hby at_129) rfl ?_
    have hc131_176 : (0 : Int32) = (0 : Int32) := (by decide)
    refine g_ifYes X165 hx (hb hby at_131) (teq hc131_176).1 (by decide) (pc' := 140) (by decide) ?_
    refine g_lloadN X165 hx (hb hby at_140) rfl ?_
    refine g_lload X165 hx (hb hby at_141) rfl ?_
    refine g_lconst1 X165 hx (hb hby at_143) ?_
    obtain ⟨l177, hl177⟩ : ∃ v : Int64, (9007199254740992 : Int64) - (1 : Int64) = v := ⟨_, rfl⟩
    refine g_lsub X165 hx (hb hby at_144) hl177 ?_
    obtain ⟨l178, hl178⟩ : ∃ v : Int64, q0 &&& l177 = v := ⟨_, rfl⟩
    refine g_land X165 hx (hb hby at_145) hl178 ?_
    refine g_iloadN X165 hx (hb hby at_146) rfl ?_
    refine g_bipush X165 hx (hb hby at_147) (v := (63 : Int32)) (by decide) ?_
    obtain ⟨i179, hi179⟩ : ∃ v : Int32, q1 &&& (63 : Int32) = v := ⟨_, rfl⟩
    refine g_iand X165 hx (hb hby at_149) hi179 ?_
    obtain ⟨un0, hun0⟩ : ∃ v : Int64, (l178.toUInt64 >>> (i179 &&& 0x3f).toInt64.toUInt64).toInt64 = v := ⟨_, rfl⟩
    refine g_lushr X165 hx (hb hby at_150) hun0 ?_
    have b_un : 0 ≤ un0.toInt ∧ un0.toInt < 9007199254740992 := own_shr (by subst hl177 hl178; exact own_mask _) hun0
    refine g_lstore X165 hx (hb hby at_151) (L' := #[.val (.long q0), .second, .val (.int q1), .val (.int q2), .val (.int q3), .val (.int q4), .val (.ref pw), .val (.long (9007199254740992 : Int64)), .second, .val (.int (0 : Int32)), .val (.long un0), .second, .unset, .unset, .unset, .unset, .unset, .unset, .unset]) rfl ?_
    refine g_iloadN X165 hx (hb hby at_153) rfl ?_
    refine g_ldcI X165 hx hZ hown (hw _ (List.mem_of_getElem? (i := 18) rfl)) (hb hby at_154) ?_
    obtain ⟨i180, hi180⟩ : ∃ v : Int32, q2 &&& (2147483647 : Int32) = v := ⟨_, rfl⟩
    refine g_iand X165 hx (hb hby at_156) hi180 ?_
    refine g_bipush X165 hx (hb hby at_157) (v := (23 : Int32)) (by decide) ?_
    obtain ⟨fm, hfm⟩ : ∃ v : Int32, i180 % (23 : Int32) = v := ⟨_, rfl⟩
    refine g_irem X165 hx (hb hby at_159) (by decide) hfm ?_
    have b_fm : 0 ≤ fm.toInt ∧ fm.toInt ≤ 22 := by
      have a := c_and q2 (2147483647 : Int32) (by decide)
      rw [hi180] at a
      have b := (c_iremV i180 (23 : Int32)).1 a.1 (by decide)
      rw [hfm] at b
      have z : (23 : Int32).toInt = 23 := rfl
      omega
    refine g_istore X165 hx (hb hby at_160) (L' := #[.val (.long q0), .second, .val (.int q1), .val (.int q2), .val (.int q3), .val (.int q4), .val (.ref pw), .val (.long (9007199254740992 : Int64)), .second, .val (.int (0 : Int32)), .val (.long un0), .second, .val (.int fm), .unset, .unset, .unset, .unset, .unset, .unset]) rfl ?_
    refine g_iload X165 hx (hb hby at_162) rfl ?_
    refine g_iload X165 hx (hb hby at_164) rfl ?_
    refine g_ldcI X165 hx hZ hown (hw _ (List.mem_of_getElem? (i := 18) rfl)) (hb hby at_166) ?_
    obtain ⟨i181, hi181⟩ : ∃ v : Int32, q3 &&& (2147483647 : Int32) = v := ⟨_, rfl⟩
    refine g_iand X165 hx (hb hby at_168) hi181 ?_
    refine g_bipush X165 hx (hb hby at_169) (v := (23 : Int32)) (by decide) ?_
    refine g_iload X165 hx (hb hby at_171) rfl ?_
    obtain ⟨i182, hi182⟩ : ∃ v : Int32, (23 : Int32) - fm = v := ⟨_, rfl⟩
    refine g_isub X165 hx (hb hby at_173) hi182 ?_
    have t_i182 : i182.toInt = 23 - fm.toInt := by
      have a := c_isub 23 fm; rw [hi182] at a
      have z : (23 : Int32).toInt = 23 := rfl
      have := rng32 i182
      omega
    have z_i182 : i182 ≠ 0 := by intro q; rw [q] at t_i182; have z : (0 : Int32).toInt = 0 := rfl; omega
    obtain ⟨i183, hi183⟩ : ∃ v : Int32, i181 % i182 = v := ⟨_, rfl⟩
    refine g_irem X165 hx (hb hby at_174) z_i182 hi183 ?_
    obtain ⟨to, hto⟩ : ∃ v : Int32, fm + i183 = v := ⟨_, rfl⟩
    refine g_iadd X165 hx (hb hby at_175) hto ?_
    have b_i183 : 0 ≤ i183.toInt ∧ i183.toInt < i182.toInt := by
      have a := c_and q3 (2147483647 : Int32) (by decide)
      rw [hi181] at a
      have b := (c_iremV i181 i182).1 a.1 (by omega)
      rw [hi183] at b
      omega
    have b_to : fm.toInt ≤ to.toInt ∧ to.toInt ≤ 22 := by
      have a := c_iadd fm i183; rw [hto] at a
      have := rng32 to
      omega
    refine g_istore X165 hx (hb hby at_176) (L' := #[.val (.long q0), .second, .val (.int q1), .val (.int q2), .val (.int q3), .val (.int q4), .val (.ref pw), .val (.long (9007199254740992 : Int64)), .second, .val (.int (0 : Int32)), .val (.long un0), .second, .val (.int fm), .val (.int to), .unset, .unset, .unset, .unset, .unset]) rfl ?_
    refine g_iload X165 hx (hb hby at_178) rfl ?_
    refine g_iload X165 hx (hb hby at_180) rfl ?_
    obtain ⟨kk, hkk⟩ : ∃ v : Int32, to - fm = v := ⟨_, rfl⟩
    refine g_isub X165 hx (hb hby at_182) hkk ?_
    have t_kk : kk.toInt = to.toInt - fm.toInt := by
      have a := c_isub to fm; rw [hkk] at a
      have := rng32 kk
      omega
    refine g_istore X165 hx (hb hby at_183) (L' := #[.val (.long q0), .second, .val (.int q1), .val (.int q2), .val (.int q3), .val (.int q4), .val (.ref pw), .val (.long (9007199254740992 : Int64)), .second, .val (.int (0 : Int32)), .val (.long un0), .second, .val (.int fm), .val (.int to), .val (.int kk), .unset, .unset, .unset, .unset]) rfl ?_
    refine g_iload X165 hx (hb hby at_185) rfl ?_
    have hc187_184 : (0 : Int32) = (0 : Int32) := (by decide)
    refine g_ifYes X165 hx (hb hby at_187) (teq hc187_184).1 (by decide) (pc' := 198) (by decide) ?_
    refine g_lload X165 hx (hb hby at_198) rfl ?_
    refine g_lconst0 X165 hx (hb hby at_200) ?_
    refine g_lcmp X165 hx (hb hby at_201) ?_
    by_cases hc202_185 : un0 = (0 : Int64)
    ·
      refine g_ifNo X165 hx (hb hby at_202) (teq ((lw_eq _ _).mpr hc202_185)).2 ?_
      refine g_lconst0 X165 hx (hb hby at_205) ?_
      refine g_lstore X165 hx (hb hby at_206) (L' := #[.val (.long q0), .second, .val (.int q1), .val (.int q2), .val (.int q3), .val (.int q4), .val (.ref pw), .val (.long (9007199254740992 : Int64)), .second, .val (.int (0 : Int32)), .val (.long un0), .second, .val (.int fm), .val (.int to), .val (.int kk), .val (.long (0 : Int64)), .second, .unset, .unset]) rfl ?_
      refine g_goto X165 hx (hb hby at_208) (by decide) (pc' := 259) (by decide) ?_
      refine g_lload X165 hx (hb hby at_259) rfl ?_
      refine g_iload X165 hx (hb hby at_261) rfl ?_
      refine g_iload X165 hx (hb hby at_263) rfl ?_
      refine g_callS X165 hx hZ hown (hw _ (List.mem_of_getElem? (i := 19) rfl)) (hw _ (List.mem_of_getElem? (i := 20) rfl)) (hw _ (List.mem_of_getElem? (i := 21) rfl)) (hw _ (List.mem_of_getElem? (i := 22) rfl)) (by decide) (rm1 l Z a0 hw [] un0 fm to h167 n0 Z172 F169 F170 hf ⟨b_fm.1, b_to.1, b_to.2⟩) e166 (W := 0) (by decide) (by decide) (by rw [hml]; rfl) [(.long un0), (.int fm), (.int to)] [] (lenOf pd0_0 rfl) rfl rfl (Nat.le_of_eq rfl) (hb hby at_265) (by decide) (by decide) ?_
      intro v190 T186 L189 X187 hQ188
      obtain ⟨rfl, N191, e192⟩ := hQ188
      have N193 := Fr.app N173 N191
      show Go p e below (Ret s (Q0 Z q0 q1 q2 q3 q4 h0 n0) 16 128) (T186.setTop (mkF m 268 #[.val (.long q0), .second, .val (.int q1), .val (.int q2), .val (.int q3), .val (.int q4), .val (.ref pw), .val (.long (9007199254740992 : Int64)), .second, .val (.int (0 : Int32)), .val (.long un0), .second, .val (.int fm), .val (.int to), .val (.int kk), .val (.long (0 : Int64)), .second, .unset, .unset] [(.long (own_res un0 (to.toInt - fm.toInt).toNat))]))
      generalize hgot : (own_res un0 (to.toInt - fm.toInt).toNat) = got
      refine g_lload X187 hx (hb hby at_268) rfl ?_
      refine g_lcmp X187 hx (hb hby at_270) ?_
      have hc271_194 : got = (0 : Int64) := (by rw [← hgot, hc202_185]; unfold own_res; rw [if_neg (by decide), if_pos (own_zero ⟨(to.toInt - fm.toInt).toNat, by omega⟩).1]; exact (own_zero ⟨(to.toInt - fm.toInt).toNat, by omega⟩).2)
      refine g_ifNo X187 hx (hb hby at_271) (teq ((lw_eq _ _).mpr hc271_194)).2 ?_
      refine g_iconst X187 hx (hb hby at_274) (v := (1 : Int32)) (by decide) ?_
      refine g_goto X187 hx (hb hby at_275) (by decide) (pc' := 279) (by decide) ?_
      refine g_ireturn X187 hx Bd.notSynchronized Bd.returns rfl (by simp) (hb hby at_279) (by decide) (by decide) ?_
      exact ⟨rfl, N193⟩
    ·
      refine g_ifYes X165 hx (hb hby at_202) (feq (fun q => hc202_185 ((lw_eq _ _).mp q))).2 (by decide) (pc' := 211) (by decide) ?_
      refine g_iload X165 hx (hb hby at_211) rfl ?_
      refine g_bipush X165 hx (hb hby at_213) (v := (16 : Int32)) (by decide) ?_
      by_cases hc215_195 : kk < (16 : Int32)
      ·
        refine g_icmpYes X165 hx (hb hby at_215) (tlt hc215_195).1 (by decide) (pc' := 226) (by decide) ?_
        refine g_aload X165 hx (hb hby at_226) rfl rfl ?_
        refine g_iload X165 hx (hb hby at_228) rfl ?_
        refine g_laload X165 hx hZ e166 F174 (by omega) (by have q := Int32.lt_iff_toInt_lt.mp hc215_195; have z : (16 : Int32).toInt = 16 := rfl; omega) (i := kk.toInt.toNat) rfl rfl (hb hby at_230) ?_
        have hk16 : kk.toInt.toNat < 16 := by have q := Int32.lt_iff_toInt_lt.mp hc215_195; have z : (16 : Int32).toInt = 16 := rfl; omega
        have hp := own_pwI ⟨_, hk16⟩
        simp only at hp
        have hpz : own_pw kk.toInt.toNat ≠ 0 := by intro q; rw [q] at hp; simp at hp
        refine g_lstore X165 hx (hb hby at_231) (L' := #[.val (.long q0), .second, .val (.int q1), .val (.int q2), .val (.int q3), .val (.int q4), .val (.ref pw), .val (.long (9007199254740992 : Int64)), .second, .val (.int (0 : Int32)), .val (.long un0), .second, .val (.int fm), .val (.int to), .val (.int kk), .unset, .unset, .val (.long (own_pw kk.toInt.toNat)), .second]) rfl ?_
        refine g_lload X165 hx (hb hby at_233) rfl ?_
        refine g_lload X165 hx (hb hby at_235) rfl ?_
        refine g_lconst1 X165 hx (hb hby at_237) ?_
        obtain ⟨l196, hl196⟩ : ∃ v : Int64, (9007199254740992 : Int64) - (1 : Int64) = v := ⟨_, rfl⟩
        refine g_lsub X165 hx (hb hby at_238) hl196 ?_
        refine g_lload X165 hx (hb hby at_239) rfl ?_
        obtain ⟨qd, hqd⟩ : ∃ v : Int64, l196 / (own_pw kk.toInt.toNat) = v := ⟨_, rfl⟩
        refine g_ldiv X165 hx (hb hby at_241) hpz hqd ?_
        refine g_lcmp X165 hx (hb hby at_242) ?_
        have t_qd : qd.toInt = 9007199254740991 / (own_pw kk.toInt.toNat).toInt := by
          have d := (c_ldiv l196 (own_pw kk.toInt.toNat) _ rfl (by intro q; rw [q] at hp; revert hp; decide)).1 (by rw [← hl196]; decide)
          rw [hqd, ← hl196] at d
          exact d
        have hiff : un0.toInt ≤ qd.toInt ↔ un0.toInt * (own_pw kk.toInt.toNat).toInt < 9007199254740992 := by
          rw [t_qd, Int.le_ediv_iff_mul_le (by omega)]; omega
        have hnear := own_near b_un hk16
        have ekk : kk.toInt.toNat = (to.toInt - fm.toInt).toNat := by rw [t_kk]
        by_cases hc243_197 : qd < un0
        ·
          refine g_ifYes X165 hx (hb hby at_243) (tlt ((lw_gt _ _).mpr hc243_197)).2.2.1 (by decide) (pc' := 254) (by decide) ?_
          refine g_ldc2J X165 hx hZ hown (hw _ (List.mem_of_getElem? (i := 17) rfl)) (hb hby at_254) ?_
          refine g_lstore X165 hx (hb hby at_257) (L' := #[.val (.long q0), .second, .val (.int q1), .val (.int q2), .val (.int q3), .val (.int q4), .val (.ref pw), .val (.long (9007199254740992 : Int64)), .second, .val (.int (0 : Int32)), .val (.long un0), .second, .val (.int fm), .val (.int to), .val (.int kk), .val (.long (-1 : Int64)), .second, .val (.long (own_pw kk.toInt.toNat)), .second]) rfl ?_
          refine g_lload X165 hx (hb hby at_259) rfl ?_
          refine g_iload X165 hx (hb hby at_261) rfl ?_
          refine g_iload X165 hx (hb hby at_263) rfl ?_
          refine g_callS X165 hx hZ hown (hw _ (List.mem_of_getElem? (i := 19) rfl)) (hw _ (List.mem_of_getElem? (i := 20) rfl)) (hw _ (List.mem_of_getElem? (i := 21) rfl)) (hw _ (List.mem_of_getElem? (i := 22) rfl)) (by decide) (rm1 l Z a0 hw [] un0 fm to h167 n0 Z172 F169 F170 hf ⟨b_fm.1, b_to.1, b_to.2⟩) e166 (W := 0) (by decide) (by decide) (by rw [hml]; rfl) [(.long un0), (.int fm), (.int to)] [] (lenOf pd0_0 rfl) rfl rfl (Nat.le_of_eq rfl) (hb hby at_265) (by decide) (by decide) ?_
          intro v202 T198 L201 X199 hQ200
          obtain ⟨rfl, N203, e204⟩ := hQ200
          have N205 := Fr.app N173 N203
          show Go p e below (Ret s (Q0 Z q0 q1 q2 q3 q4 h0 n0) 16 128) (T198.setTop (mkF m 268 #[.val (.long q0), .second, .val (.int q1), .val (.int q2), .val (.int q3), .val (.int q4), .val (.ref pw), .val (.long (9007199254740992 : Int64)), .second, .val (.int (0 : Int32)), .val (.long un0), .second, .val (.int fm), .val (.int to), .val (.int kk), .val (.long (-1 : Int64)), .second, .val (.long (own_pw kk.toInt.toNat)), .second] [(.long (own_res un0 (to.toInt - fm.toInt).toNat))]))
          generalize hgot : (own_res un0 (to.toInt - fm.toInt).toNat) = got
          refine g_lload X199 hx (hb hby at_268) rfl ?_
          refine g_lcmp X199 hx (hb hby at_270) ?_
          have hc271_206 : got = (-1 : Int64) := (by
            have q := Int64.lt_iff_toInt_lt.mp hc243_197
            have k := hnear.2 (fun z => by have := hiff.mpr z; omega)
            rw [ekk] at k
            rw [← hgot]; unfold own_res; rw [if_neg (fun q => by have := Int64.lt_iff_toInt_lt.mp q; have z : (0 : Int64).toInt = 0 := rfl; omega), if_neg k])
          refine g_ifNo X199 hx (hb hby at_271) (teq ((lw_eq _ _).mpr hc271_206)).2 ?_
          refine g_iconst X199 hx (hb hby at_274) (v := (1 : Int32)) (by decide) ?_
          refine g_goto X199 hx (hb hby at_275) (by decide) (pc' := 279) (by decide) ?_
          refine g_ireturn X199 hx Bd.notSynchronized Bd.returns rfl (by simp) (hb hby at_279) (by decide) (by decide) ?_
          exact ⟨rfl, N205⟩
        ·
          refine g_ifNo X165 hx (hb hby at_243) (flt (fun q => hc243_197 ((lw_gt _ _).mp q))).2.2.1 ?_
          refine g_lload X165 hx (hb hby at_246) rfl ?_
          refine g_lload X165 hx (hb hby at_248) rfl ?_
          obtain ⟨pr, hpr⟩ : ∃ v : Int64, un0 * (own_pw kk.toInt.toNat) = v := ⟨_, rfl⟩
          refine g_lmul X165 hx (hb hby at_250) hpr ?_
          refine g_goto X165 hx (hb hby at_251) (by decide) (pc' := 257) (by decide) ?_
          refine g_lstore X165 hx (hb hby at_257) (L' := #[.val (.long q0), .second, .val (.int q1), .val (.int q2), .val (.int q3), .val (.int q4), .val (.ref pw), .val (.long (9007199254740992 : Int64)), .second, .val (.int (0 : Int32)), .val (.long un0), .second, .val (.int fm), .val (.int to), .val (.int kk), .val (.long pr), .second, .val (.long (own_pw kk.toInt.toNat)), .second]) rfl ?_
          refine g_lload X165 hx (hb hby at_259) rfl ?_
          refine g_iload X165 hx (hb hby at_261) rfl ?_
          refine g_iload X165 hx (hb hby at_263) rfl ?_
          refine g_callS X165 hx hZ hown (hw _ (List.mem_of_getElem? (i := 19) rfl)) (hw _ (List.mem_of_getElem? (i := 20) rfl)) (hw _ (List.mem_of_getElem? (i := 21) rfl)) (hw _ (List.mem_of_getElem? (i := 22) rfl)) (by decide) (rm1 l Z a0 hw [] un0 fm to h167 n0 Z172 F169 F170 hf ⟨b_fm.1, b_to.1, b_to.2⟩) e166 (W := 0) (by decide) (by decide) (by rw [hml]; rfl) [(.long un0), (.int fm), (.int to)] [] (lenOf pd0_0 rfl) rfl rfl (Nat.le_of_eq rfl) (hb hby at_265) (by decide) (by decide) ?_
          intro v211 T207 L210 X208 hQ209
          obtain ⟨rfl, N212, e213⟩ := hQ209
          have N214 := Fr.app N173 N212
          show Go p e below (Ret s (Q0 Z q0 q1 q2 q3 q4 h0 n0) 16 128) (T207.setTop (mkF m 268 #[.val (.long q0), .second, .val (.int q1), .val (.int q2), .val (.int q3), .val (.int q4), .val (.ref pw), .val (.long (9007199254740992 : Int64)), .second, .val (.int (0 : Int32)), .val (.long un0), .second, .val (.int fm), .val (.int to), .val (.int kk), .val (.long pr), .second, .val (.long (own_pw kk.toInt.toNat)), .second] [(.long (own_res un0 (to.toInt - fm.toInt).toNat))]))
          generalize hgot : (own_res un0 (to.toInt - fm.toInt).toNat) = got
          refine g_lload X208 hx (hb hby at_268) rfl ?_
          refine g_lcmp X208 hx (hb hby at_270) ?_
          have hc271_215 : got = pr := (by
            have q : ¬ qd.toInt < un0.toInt := fun z => hc243_197 (Int64.lt_iff_toInt_lt.mpr z)
            have k := hnear.1 (hiff.mp (by omega))
            rw [ekk] at k
            rw [← hgot]; unfold own_res; rw [if_neg (fun q => by have := Int64.lt_iff_toInt_lt.mp q; have z : (0 : Int64).toInt = 0 := rfl; omega), if_pos k.1, k.2, ← hpr, ekk])
          refine g_ifNo X208 hx (hb hby at_271) (teq ((lw_eq _ _).mpr hc271_215)).2 ?_
          refine g_iconst X208 hx (hb hby at_274) (v := (1 : Int32)) (by decide) ?_
          refine g_goto X208 hx (hb hby at_275) (by decide) (pc' := 279) (by decide) ?_
          refine g_ireturn X208 hx Bd.notSynchronized Bd.returns rfl (by simp) (hb hby at_279) (by decide) (by decide) ?_
          exact ⟨rfl, N214⟩
      ·
        refine g_icmpNo X165 hx (hb hby at_215) (flt hc215_195).1 ?_
        refine g_ldc2J X165 hx hZ hown (hw _ (List.mem_of_getElem? (i := 17) rfl)) (hb hby at_218) ?_
        refine g_lstore X165 hx (hb hby at_221) (L' := #[.val (.long q0), .second, .val (.int q1), .val (.int q2), .val (.int q3), .val (.int q4), .val (.ref pw), .val (.long (9007199254740992 : Int64)), .second, .val (.int (0 : Int32)), .val (.long un0), .second, .val (.int fm), .val (.int to), .val (.int kk), .val (.long (-1 : Int64)), .second, .unset, .unset]) rfl ?_
        refine g_goto X165 hx (hb hby at_223) (by decide) (pc' := 259) (by decide) ?_
        refine g_lload X165 hx (hb hby at_259) rfl ?_
        refine g_iload X165 hx (hb hby at_261) rfl ?_
        refine g_iload X165 hx (hb hby at_263) rfl ?_
        refine g_callS X165 hx hZ hown (hw _ (List.mem_of_getElem? (i := 19) rfl)) (hw _ (List.mem_of_getElem? (i := 20) rfl)) (hw _ (List.mem_of_getElem? (i := 21) rfl)) (hw _ (List.mem_of_getElem? (i := 22) rfl)) (by decide) (rm1 l Z a0 hw [] un0 fm to h167 n0 Z172 F169 F170 hf ⟨b_fm.1, b_to.1, b_to.2⟩) e166 (W := 0) (by decide) (by decide) (by rw [hml]; rfl) [(.long un0), (.int fm), (.int to)] [] (lenOf pd0_0 rfl) rfl rfl (Nat.le_of_eq rfl) (hb hby at_265) (by decide) (by decide) ?_
        intro v220 T216 L219 X217 hQ218
        obtain ⟨rfl, N221, e222⟩ := hQ218
        have N223 := Fr.app N173 N221
        show Go p e below (Ret s (Q0 Z q0 q1 q2 q3 q4 h0 n0) 16 128) (T216.setTop (mkF m 268 #[.val (.long q0), .second, .val (.int q1), .val (.int q2), .val (.int q3), .val (.int q4), .val (.ref pw), .val (.long (9007199254740992 : Int64)), .second, .val (.int (0 : Int32)), .val (.long un0), .second, .val (.int fm), .val (.int to), .val (.int kk), .val (.long (-1 : Int64)), .second, .unset, .unset] [(.long (own_res un0 (to.toInt - fm.toInt).toNat))]))
        generalize hgot : (own_res un0 (to.toInt - fm.toInt).toNat) = got
        refine g_lload X217 hx (hb hby at_268) rfl ?_
        refine g_lcmp X217 hx (hb hby at_270) ?_
        have hc271_224 : got = (-1 : Int64) := (by
          have q : ¬ kk.toInt < (16 : Int32).toInt := fun z => hc215_195 (Int32.lt_iff_toInt_lt.mpr z)
          have z : (16 : Int32).toInt = 16 := rfl
          have u1 : un0.toInt ≠ 0 := fun z => hc202_185 (Int64.toInt_inj.mp z)
          rw [← hgot]; unfold own_res; rw [if_neg (fun q => by have := Int64.lt_iff_toInt_lt.mp q; have z : (0 : Int64).toInt = 0 := rfl; omega), if_neg (own_far ⟨by omega, b_un.2⟩ ⟨by omega, by omega⟩)])
        refine g_ifNo X217 hx (hb hby at_271) (teq ((lw_eq _ _).mpr hc271_224)).2 ?_
        refine g_iconst X217 hx (hb hby at_274) (v := (1 : Int32)) (by decide) ?_
        refine g_goto X217 hx (hb hby at_275) (by decide) (pc' := 279) (by decide) ?_
        refine g_ireturn X217 hx Bd.notSynchronized Bd.returns rfl (by simp) (hb hby at_279) (by decide) (by decide) ?_
        exact ⟨rfl, N223⟩
  ·
    refine g_ifNo X165 hx (hb hby at_119) (feq hc119_175).1 ?_
    refine g_iconst X165 hx (hb hby at_122) (v := (1 : Int32)) (by decide) ?_
    refine g_goto X165 hx (hb hby at_123) (by decide) (pc' := 127) (by decide) ?_
    refine g_istore X165 hx (hb hby at_127) (L' := #[.val (.long q0), .second, .val (.int q1), .val (.int q2), .val (.int q3), .val (.int q4), .val (.ref pw), .val (.long (9007199254740992 : Int64)), .second, .val (.int (1 : Int32)), .unset, .unset, .unset, .unset, .unset, .unset, .unset, .unset, .unset]) rfl ?_
    refine g_iload X165 hx (hb hby at_129) rfl ?_
    have hc131_225 : ¬ ((1 : Int32) = (0 : Int32)) := (by decide)
    refine g_ifNo X165 hx (hb hby at_131) (feq hc131_225).1 ?_
    refine g_ldc2J X165 hx hZ hown (hw _ (List.mem_of_getElem? (i := 17) rfl)) (hb hby at_134) ?_
    refine g_goto X165 hx (hb hby at_137) (by decide) (pc' := 151) (by decide) ?_
    refine g_lstore X165 hx (hb hby at_151) (L' := #[.val (.long q0), .second, .val (.int q1), .val (.int q2), .val (.int q3), .val (.int q4), .val (.ref pw), .val (.long (9007199254740992 : Int64)), .second, .val (.int (1 : Int32)), .val (.long (-1 : Int64)), .second, .unset, .unset, .unset, .unset, .unset, .unset, .unset]) rfl ?_
    refine g_iloadN X165 hx (hb hby at_153) rfl ?_
    refine g_ldcI X165 hx hZ hown (hw _ (List.mem_of_getElem? (i := 18) rfl)) (hb hby at_154) ?_
    obtain ⟨i226, hi226⟩ : ∃ v : Int32, q2 &&& (2147483647 : Int32) = v := ⟨_, rfl⟩
    refine g_iand X165 hx (hb hby at_156) hi226 ?_
    refine g_bipush X165 hx (hb hby at_157) (v := (23 : Int32)) (by decide) ?_
    obtain ⟨fm, hfm⟩ : ∃ v : Int32, i226 % (23 : Int32) = v := ⟨_, rfl⟩
    refine g_irem X165 hx (hb hby at_159) (by decide) hfm ?_
    have b_fm : 0 ≤ fm.toInt ∧ fm.toInt ≤ 22 := by
      have a := c_and q2 (2147483647 : Int32) (by decide)
      rw [hi226] at a
      have b := (c_iremV i226 (23 : Int32)).1 a.1 (by decide)
      rw [hfm] at b
      have z : (23 : Int32).toInt = 23 := rfl
      omega
    refine g_istore X165 hx (hb hby at_160) (L' := #[.val (.long q0), .second, .val (.int q1), .val (.int q2), .val (.int q3), .val (.int q4), .val (.ref pw), .val (.long (9007199254740992 : Int64)), .second, .val (.int (1 : Int32)), .val (.long (-1 : Int64)), .second, .val (.int fm), .unset, .unset, .unset, .unset, .unset, .unset]) rfl ?_
    refine g_iload X165 hx (hb hby at_162) rfl ?_
    refine g_iload X165 hx (hb hby at_164) rfl ?_
    refine g_ldcI X165 hx hZ hown (hw _ (List.mem_of_getElem? (i := 18) rfl)) (hb hby at_166) ?_
    obtain ⟨i227, hi227⟩ : ∃ v : Int32, q3 &&& (2147483647 : Int32) = v := ⟨_, rfl⟩
    refine g_iand X165 hx (hb hby at_168) hi227 ?_
    refine g_bipush X165 hx (hb hby at_169) (v := (23 : Int32)) (by decide) ?_
    refine g_iload X165 hx (hb hby at_171) rfl ?_
    obtain ⟨i228, hi228⟩ : ∃ v : Int32, (23 : Int32) - fm = v := ⟨_, rfl⟩
    refine g_isub X165 hx (hb hby at_173) hi228 ?_
    have t_i228 : i228.toInt = 23 - fm.toInt := by
      have a := c_isub 23 fm; rw [hi228] at a
      have z : (23 : Int32).toInt = 23 := rfl
      have := rng32 i228
      omega
    have z_i228 : i228 ≠ 0 := by intro q; rw [q] at t_i228; have z : (0 : Int32).toInt = 0 := rfl; omega
    obtain ⟨i229, hi229⟩ : ∃ v : Int32, i227 % i228 = v := ⟨_, rfl⟩
    refine g_irem X165 hx (hb hby at_174) z_i228 hi229 ?_
    obtain ⟨to, hto⟩ : ∃ v : Int32, fm + i229 = v := ⟨_, rfl⟩
    refine g_iadd X165 hx (hb hby at_175) hto ?_
    have b_i229 : 0 ≤ i229.toInt ∧ i229.toInt < i228.toInt := by
      have a := c_and q3 (2147483647 : Int32) (by decide)
      rw [hi227] at a
      have b := (c_iremV i227 i228).1 a.1 (by omega)
      rw [hi229] at b
      omega
    have b_to : fm.toInt ≤ to.toInt ∧ to.toInt ≤ 22 := by
      have a := c_iadd fm i229; rw [hto] at a
      have := rng32 to
      omega
    refine g_istore X165 hx (hb hby at_176) (L' := #[.val (.long q0), .second, .val (.int q1), .val (.int q2), .val (.int q3), .val (.int q4), .val (.ref pw), .val (.long (9007199254740992 : Int64)), .second, .val (.int (1 : Int32)), .val (.long (-1 : Int64)), .second, .val (.int fm), .val (.int to), .unset, .unset, .unset, .unset, .unset]) rfl ?_
    refine g_iload X165 hx (hb hby at_178) rfl ?_
    refine g_iload X165 hx (hb hby at_180) rfl ?_
    obtain ⟨kk, hkk⟩ : ∃ v : Int32, to - fm = v := ⟨_, rfl⟩
    refine g_isub X165 hx (hb hby at_182) hkk ?_
    have t_kk : kk.toInt = to.toInt - fm.toInt := by
      have a := c_isub to fm; rw [hkk] at a
      have := rng32 kk
      omega
    refine g_istore X165 hx (hb hby at_183) (L' := #[.val (.long q0), .second, .val (.int q1), .val (.int q2), .val (.int q3), .val (.int q4), .val (.ref pw), .val (.long (9007199254740992 : Int64)), .second, .val (.int (1 : Int32)), .val (.long (-1 : Int64)), .second, .val (.int fm), .val (.int to), .val (.int kk), .unset, .unset, .unset, .unset]) rfl ?_
    refine g_iload X165 hx (hb hby at_185) rfl ?_
    have hc187_230 : ¬ ((1 : Int32) = (0 : Int32)) := (by decide)
    refine g_ifNo X165 hx (hb hby at_187) (feq hc187_230).1 ?_
    refine g_ldc2J X165 hx hZ hown (hw _ (List.mem_of_getElem? (i := 17) rfl)) (hb hby at_190) ?_
    refine g_lstore X165 hx (hb hby at_193) (L' := #[.val (.long q0), .second, .val (.int q1), .val (.int q2), .val (.int q3), .val (.int q4), .val (.ref pw), .val (.long (9007199254740992 : Int64)), .second, .val (.int (1 : Int32)), .val (.long (-1 : Int64)), .second, .val (.int fm), .val (.int to), .val (.int kk), .val (.long (-1 : Int64)), .second, .unset, .unset]) rfl ?_
    refine g_goto X165 hx (hb hby at_195) (by decide) (pc' := 259) (by decide) ?_
    refine g_lload X165 hx (hb hby at_259) rfl ?_
    refine g_iload X165 hx (hb hby at_261) rfl ?_
    refine g_iload X165 hx (hb hby at_263) rfl ?_
    refine g_callS X165 hx hZ hown (hw _ (List.mem_of_getElem? (i := 19) rfl)) (hw _ (List.mem_of_getElem? (i := 20) rfl)) (hw _ (List.mem_of_getElem? (i := 21) rfl)) (hw _ (List.mem_of_getElem? (i := 22) rfl)) (by decide) (rm1 l Z a0 hw [] (-1 : Int64) fm to h167 n0 Z172 F169 F170 hf ⟨b_fm.1, b_to.1, b_to.2⟩) e166 (W := 0) (by decide) (by decide) (by rw [hml]; rfl) [(.long (-1 : Int64)), (.int fm), (.int to)] [] (lenOf pd0_0 rfl) rfl rfl (Nat.le_of_eq rfl) (hb hby at_265) (by decide) (by decide) ?_
    intro v235 T231 L234 X232 hQ233
    obtain ⟨rfl, N236, e237⟩ := hQ233
    have N238 := Fr.app N173 N236
    show Go p e below (Ret s (Q0 Z q0 q1 q2 q3 q4 h0 n0) 16 128) (T231.setTop (mkF m 268 #[.val (.long q0), .second, .val (.int q1), .val (.int q2), .val (.int q3), .val (.int q4), .val (.ref pw), .val (.long (9007199254740992 : Int64)), .second, .val (.int (1 : Int32)), .val (.long (-1 : Int64)), .second, .val (.int fm), .val (.int to), .val (.int kk), .val (.long (-1 : Int64)), .second, .unset, .unset] [(.long (own_res (-1 : Int64) (to.toInt - fm.toInt).toNat))]))
    generalize hgot : (own_res (-1 : Int64) (to.toInt - fm.toInt).toNat) = got
    refine g_lload X232 hx (hb hby at_268) rfl ?_
    refine g_lcmp X232 hx (hb hby at_270) ?_
    have hc271_239 : got = (-1 : Int64) := (by rw [← hgot]; unfold own_res; rw [if_pos (by decide)])
    refine g_ifNo X232 hx (hb hby at_271) (teq ((lw_eq _ _).mpr hc271_239)).2 ?_
    refine g_iconst X232 hx (hb hby at_274) (v := (1 : Int32)) (by decide) ?_
    refine g_goto X232 hx (hb hby at_275) (by decide) (pc' := 279) (by decide) ?_
    refine g_ireturn X232 hx Bd.notSynchronized Bd.returns rfl (by simp) (hb hby at_279) (by decide) (by decide) ?_
    exact ⟨rfl, N238⟩
set_option maxRecDepth 65536 in
set_option maxHeartbeats 40000000 in
theorem comes_1 {Post : Tables → Env → Array Value → State → Outcome → State → Prop} (hpost : ∀ tb e args s v u, (limb_1_1.after args s (.returned v) u = true ∧ limb_1_2.after args s (.returned v) u = true ∧ True) → FrameEnd s (.returned v) u (Jvm.fieldLocs frame_1_writes args s ++ Jvm.arrayLocs frame_1_arrays args s ++ Jvm.staticLocs frame_1_statics s) 16 128 → Post tb e args s (.returned v) u) :
    ArmFor flags0 classFile x code maxLocals ret World_1 tables_1 room_1 Calls_1 rest_1 Pre_1 Post := by
  intro l hfl _ _ p e ha hc hk s m args below hf hA hF happ hP
  obtain ⟨hcalls, hrest, hpre⟩ := hP
  obtain ⟨-, -, -, hnamed, -, -, -, hat⟩ := (Spec.applies_iff hf).mp happ
  obtain ⟨hg, hn⟩ := and_e (Cond.before_iff.mp (show (Jvm.Cond.and given_1 narrow_1).before args s = true from hpre))
  obtain ⟨h1, g0⟩ := and_e hg
  obtain ⟨k0, g1⟩ := and_e g0
  obtain ⟨k1, g2⟩ := and_e g1
  obtain ⟨k2, g3⟩ := and_e g2
  obtain ⟨k3, g4⟩ := and_e g3
  obtain ⟨w0, w1, w2, w3, w4, rfl⟩ : ∃ w0 w1 w2 w3 w4 : Value, args = #[w0, w1, w2, w3, w4] := by
    have hs : args.size = 5 := by simpa [Cond.value, given_1] using h1
    obtain ⟨L⟩ := args
    match L, hs with
    | [w0, w1, w2, w3, w4], _ => exact ⟨w0, w1, w2, w3, w4, rfl⟩
  have hw := fun d (hd : d ∈ tables_1) => atoms_spec (ws := Jvm.Cond.code x code maxLocals ret :: tables_1) hat d (List.mem_cons_of_mem _ hd)
  have hfit : Fit s := fun {y c} hc i hi => by
    obtain ⟨ha, rfl⟩ := Array.getElem?_eq_some_iff.mp hc
    have q := List.all_eq_true.mp ((Array.all_eq_true_iff_forall_mem.mp hF) _ (Array.getElem_mem ha)) i (List.mem_range.mpr hi)
    simpa [Array.getElem?_eq_getElem hi] using q
  obtain ⟨i0, e0⟩ := isL_v k0
  obtain rfl : w0 = (.long i0) := Option.some.inj e0
  obtain ⟨i1, e1⟩ := is_v k1
  obtain rfl : w1 = (.int i1) := Option.some.inj e1
  obtain ⟨i2, e2⟩ := is_v k2
  obtain rfl : w2 = (.int i2) := Option.some.inj e2
  obtain ⟨i3, e3⟩ := is_v k3
  obtain rfl : w3 = (.int i3) := Option.some.inj e3
  obtain ⟨i4, e4⟩ := is_v g4
  obtain rfl : w4 = (.int i4) := Option.some.inj e4
  obtain ⟨m0, hn⟩ := and_e hn
  obtain ⟨m1, hn⟩ := and_e hn
  obtain ⟨p0, hn⟩ := and_e hn
  obtain ⟨p1, hn⟩ := and_e hn
  obtain ⟨p2, hn⟩ := and_e hn
  obtain ⟨p3, hn⟩ := and_e hn
  obtain ⟨p4, hn⟩ := and_e hn
  obtain ⟨p5, hn⟩ := and_e hn
  obtain ⟨p6, hn⟩ := and_e hn
  obtain ⟨p7, hn⟩ := and_e hn
  obtain ⟨p8, hn⟩ := and_e hn
  obtain ⟨p9, hn⟩ := and_e hn
  obtain ⟨p10, hn⟩ := and_e hn
  obtain ⟨p11, hn⟩ := and_e hn
  obtain ⟨p12, hn⟩ := and_e hn
  obtain ⟨p13, hn⟩ := and_e hn
  obtain ⟨p14, hn⟩ := and_e hn
  obtain ⟨p15, hn⟩ := and_e hn
  obtain ⟨p16, hn⟩ := and_e hn
  obtain ⟨p17, hn⟩ := and_e hn
  obtain ⟨p18, hn⟩ := and_e hn
  obtain ⟨p19, hn⟩ := and_e hn
  obtain ⟨p20, hn⟩ := and_e hn
  obtain ⟨p21, hn⟩ := and_e hn
  have p22 := hn
  obtain ⟨pt, ev⟩ := arr_v m0
  obtain ⟨cl, A⟩ := Arr.start ev m0
  have S0 := Sta.start (C := "com/example/choreon/choreon/DecimalTime") (n := "POWERS_OF_TEN") (d := "[D") ev (Or.inr ⟨(hw _ (List.mem_of_getElem? (i := 21) rfl)), (hw _ (List.mem_of_getElem? (i := 24) rfl))⟩)
  have hlen : cl.slots.size = 23 := own_len ev A m1
  have A0 : Av s s.heap pt .double 23 (fun k => .double (own_P k)) := ⟨cl, A, hlen, fun i hi => by
    rcases own_lt23 hi with rfl | rfl | rfl | rfl | rfl | rfl | rfl | rfl | rfl | rfl | rfl | rfl | rfl | rfl | rfl | rfl | rfl | rfl | rfl | rfl | rfl | rfl | rfl
    · exact own_elem ev A (j := 0) (k := 0) rfl p0 (by decide)
    · exact own_elem ev A (j := 1) (k := 1) rfl p1 (by decide)
    · exact own_elem ev A (j := 2) (k := 2) rfl p2 (by decide)
    · exact own_elem ev A (j := 3) (k := 3) rfl p3 (by decide)
    · exact own_elem ev A (j := 4) (k := 4) rfl p4 (by decide)
    · exact own_elem ev A (j := 5) (k := 5) rfl p5 (by decide)
    · exact own_elem ev A (j := 6) (k := 6) rfl p6 (by decide)
    · exact own_elem ev A (j := 7) (k := 7) rfl p7 (by decide)
    · exact own_elem ev A (j := 8) (k := 8) rfl p8 (by decide)
    · exact own_elem ev A (j := 9) (k := 9) rfl p9 (by decide)
    · exact own_elem ev A (j := 10) (k := 10) rfl p10 (by decide)
    · exact own_elem ev A (j := 11) (k := 11) rfl p11 (by decide)
    · exact own_elem ev A (j := 12) (k := 12) rfl p12 (by decide)
    · exact own_elem ev A (j := 13) (k := 13) rfl p13 (by decide)
    · exact own_elem ev A (j := 14) (k := 14) rfl p14 (by decide)
    · exact own_elem ev A (j := 15) (k := 15) rfl p15 (by decide)
    · exact own_elem ev A (j := 16) (k := 16) rfl p16 (by decide)
    · exact own_elem ev A (j := 17) (k := 17) rfl p17 (by decide)
    · exact own_elem ev A (j := 18) (k := 18) rfl p18 (by decide)
    · exact own_elem ev A (j := 19) (k := 19) rfl p19 (by decide)
    · exact own_elem ev A (j := 20) (k := 20) rfl p20 (by decide)
    · exact own_elem ev A (j := 21) (k := 21) rfl p21 (by decide)
    · exact own_elem ev A (j := 22) (k := 22) rfl p22 (by decide)⟩
  obtain ⟨n, o, h1, h2, h3, _, L, rfl, ⟨rfl, N⟩, hq⟩ := rm0 l s _ hw tables_1 i0 i1 i2 i3 i4 s.heap s.heap.size (Nat.le_refl _) S0 A0 (fun k _ => rfl) p e ha hc hk s m _ below hf ((Spec.applies_iff_loose hf).mp happ).1 ⟨rfl, State.Warmed39.refl s, rfl⟩ trivial
  refine ⟨n, _, h1, h2, h3, hpost _ _ _ _ _ _ ⟨Cond.after_iff.mpr rfl, Cond.after_iff.mpr (eq_i res_at (Term.int_eval (1)) rfl), trivial⟩ ⟨hq.1, hq.2.1, (hq.2.2.sift fun y hy => Or.inr (N y hy)).mono (by decide) (by decide)⟩⟩
theorem main_1_1 : Claimed_1_1 := comes_1 fun _ _ _ _ _ _ h hF => ⟨h.1, hF⟩
theorem main_1_2 : Claimed_1_2 := comes_1 fun _ _ _ _ _ _ h hF => ⟨h.2.1, hF⟩
end Jvm.Pilot.@@N@@
namespace Jvm.Pilot.@@N@@
open Jvm Jvm.ClassFile Sem Op Lib Jvm.Free Jvm.Stand Jvm.Pilot.@@N@@.Jvm.D
/-! MADE BY PROGRAM (witnessworld.py) out of the Statement's table words and the real class files: 13 classes; the members and pool entries that the words name. The judged class is class 1, her method 1. -/
namespace start1
open Jvm.ClassFile
def u (s : String) : CpInfo := .utf8 (stringToUtf16 s)
/-- a pool by its gaps: so many unusable entries, then the entry; so many at the end -/
def gap : Nat → List CpInfo → List CpInfo
  | 0, r => r
  | n + 1, r => .unusable :: gap n r
def poolList (es : List (Nat × CpInfo)) (last : Nat) : List CpInfo := es.foldr (fun e r => gap e.1 (e.2 :: r)) (gap last [])
def pool (es : List (Nat × CpInfo)) (last : Nat) : Array CpInfo := ⟨poolList es last⟩
def fileOf (pool : Array CpInfo) (this : Nat) (attrs : Array Attribute := #[]) (ms : Array MethodInfo := #[]) (fl : Nat := 33) (sup : Nat := 0) (ifs : Array Nat := #[]) (fds : Array FieldInfo := #[]) : ClassFile where
  minorVersion := 0
  majorVersion := 65
  constantPool := pool
  accessFlags := fl
  thisClass := this
  superClass := sup
  interfaces := ifs
  fields := fds
  methods := ms
  attributes := attrs
def plain (name : String) (sup : Option ClassId) : Class where
  name := name
  kind := .ordinary
  loader := none
  accessFlags := 33
  super := sup
  interfaces := #[]
  cf := none
  fields := #[]
  methods := #[]
  instanceTypes := #[]
  staticTypes := #[]
  resolved := #[]
  callSites := []
  init := .initialized
  statics := none
  mirror := none

def pool0 : Array CpInfo := pool [(5, u "<init>"), (0, u "()V"), (1, .class_ 10), (1, u "java/lang/Object")] 113

def k0m0 : Method := { name := "<init>", desc := "()V", sig := { parameters := [], returnType := none }, accessFlags := 1, code := none }
/-- java/lang/Object -/
def k0 : Class := { plain "java/lang/Object" none with
  accessFlags := 33
  interfaces := #[]
  cf := some (fileOf pool0 8 #[] #[{ accessFlags := 1, nameIndex := 5, descriptorIndex := 6, attributes := #[] }] 33 0 #[] #[])
  fields := #[]
  methods := #[k0m0]
  instanceTypes := #[]
  staticTypes := #[]
  resolved := Array.replicate 124 none
  statics := none }

def pool1 : Array CpInfo := pool [(2, .class_ 4), (1, u "java/lang/Object"), (0, u "<init>"), (0, u "()V"), (0, .long 10), (1, .long 100), (1, .long 1000), (1, .long 10000), (1, .long 100000), (1, .long 1000000), (1, .long 10000000), (1, .long 100000000), (1, .long 1000000000), (1, .long 10000000000), (1, .long 100000000000), (1, .long 1000000000000), (1, .long 10000000000000), (1, .long 100000000000000), (1, .long 1000000000000000), (1, .long 9007199254740992), (1, .long 18446744073709551615), (1, .integer 2147483647), (0, .methodref 43 44), (0, .class_ 45), (0, .nameAndType 46 47), (0, u "com/example/choreon/choreon/DecimalTime"), (0, u "rescaled"), (0, u "(JII)J"), (0, .class_ 49), (0, u "com/example/choreon/choreon/DecimalTimeRescaledPinLaw"), (2, u "law"), (0, u "(JIIII)Z")] 5

def k1m0 : Method := { name := "<init>", desc := "()V", sig := { parameters := [], returnType := none }, accessFlags := 1, code := none }
def k1c1 : Code := { maxStack := 6, maxLocals := 19, code := code, exceptionTable := #[], attributes := #[] }
def k1m1 : Method := { name := "law", desc := "(JIIII)Z", sig := { parameters := [.long, .int, .int, .int, .int], returnType := some .boolean }, accessFlags := 9, code := some k1c1 }
/-- com/example/choreon/choreon/DecimalTimeRescaledPinLaw -/
def k1 : Class := { plain "com/example/choreon/choreon/DecimalTimeRescaledPinLaw" (some 0) with
  accessFlags := 49
  interfaces := #[]
  cf := some (fileOf pool1 48 #[] #[{ accessFlags := 1, nameIndex := 5, descriptorIndex := 6, attributes := #[] }, { accessFlags := 9, nameIndex := 52, descriptorIndex := 53, attributes := #[] }] 49 2 #[] #[])
  fields := #[]
  methods := #[k1m0, k1m1]
  instanceTypes := #[]
  staticTypes := #[]
  resolved := Array.replicate 59 none
  statics := none }

def pool2 : Array CpInfo := pool [(2, .class_ 4), (1, u "java/lang/Object"), (3, .class_ 10), (1, u "com/example/choreon/choreon/DecimalTime"), (0, u "units"), (0, u "J"), (2, u "places"), (0, u "I"), (2, u "exact"), (0, u "Ljava/math/BigDecimal;"), (6, u "nearest"), (0, u "D"), (5, u "remainder"), (41, u "BIG_MAX_UNITS"), (20, u "INFINITE"), (0, u "Lcom/example/choreon/choreon/DecimalTime;"), (14, .fieldref 8 114), (0, .nameAndType 115 116), (0, u "POWERS_OF_TEN"), (0, u "[D"), (6, .long 18446744073709551615), (3, u "rescaled"), (0, u "(JII)J"), (0, .double 4845873199050653696), (31, u "ZERO"), (9, u "MAX_PLACES"), (2, u "MAX_WRITTEN_UNITS"), (0, u "MAX_UNITS")] 14

def k2c0 : Code := { maxStack := 5, maxLocals := 6, code := prog_17_method_9_code, exceptionTable := #[], attributes := #[] }
def k2m0 : Method := { name := "rescaled", desc := "(JII)J", sig := { parameters := [.long, .int, .int], returnType := some .long }, accessFlags := 8, code := some k2c0 }
/-- com/example/choreon/choreon/DecimalTime -/
def k2 : Class := { plain "com/example/choreon/choreon/DecimalTime" (some 0) with
  accessFlags := 48
  interfaces := #[]
  cf := some (fileOf pool2 8 #[] #[{ accessFlags := 8, nameIndex := 127, descriptorIndex := 128, attributes := #[] }] 48 2 #[] #[{ accessFlags := 26, nameIndex := 171, descriptorIndex := 16, attributes := #[] }, { accessFlags := 26, nameIndex := 115, descriptorIndex := 116, attributes := #[] }, { accessFlags := 26, nameIndex := 174, descriptorIndex := 28, attributes := #[] }, { accessFlags := 26, nameIndex := 175, descriptorIndex := 28, attributes := #[] }, { accessFlags := 26, nameIndex := 76, descriptorIndex := 20, attributes := #[] }, { accessFlags := 24, nameIndex := 161, descriptorIndex := 98, attributes := #[] }, { accessFlags := 24, nameIndex := 97, descriptorIndex := 98, attributes := #[] }, { accessFlags := 18, nameIndex := 11, descriptorIndex := 12, attributes := #[] }, { accessFlags := 18, nameIndex := 15, descriptorIndex := 16, attributes := #[] }, { accessFlags := 18, nameIndex := 19, descriptorIndex := 20, attributes := #[] }, { accessFlags := 18, nameIndex := 27, descriptorIndex := 28, attributes := #[] }, { accessFlags := 18, nameIndex := 34, descriptorIndex := 28, attributes := #[] }])
  fields := #[{ name := "MAX_PLACES", type := .int, accessFlags := 26, slot := 0, constantValue := 0 }, { name := "POWERS_OF_TEN", type := (.array .double), accessFlags := 26, slot := 1, constantValue := 0 }, { name := "MAX_WRITTEN_UNITS", type := .double, accessFlags := 26, slot := 2, constantValue := 0 }, { name := "MAX_UNITS", type := .double, accessFlags := 26, slot := 3, constantValue := 0 }, { name := "BIG_MAX_UNITS", type := (.object "java/math/BigDecimal"), accessFlags := 26, slot := 4, constantValue := 0 }, { name := "ZERO", type := (.object "com/example/choreon/choreon/DecimalTime"), accessFlags := 24, slot := 5, constantValue := 0 }, { name := "INFINITE", type := (.object "com/example/choreon/choreon/DecimalTime"), accessFlags := 24, slot := 6, constantValue := 0 }, { name := "units", type := .long, accessFlags := 18, slot := 0, constantValue := 0 }, { name := "places", type := .int, accessFlags := 18, slot := 1, constantValue := 0 }, { name := "exact", type := (.object "java/math/BigDecimal"), accessFlags := 18, slot := 2, constantValue := 0 }, { name := "nearest", type := .double, accessFlags := 18, slot := 3, constantValue := 0 }, { name := "remainder", type := .double, accessFlags := 18, slot := 4, constantValue := 0 }]
  methods := #[k2m0]
  instanceTypes := #[.long, .int, (.object "java/math/BigDecimal"), .double, .double]
  staticTypes := #[.int, (.array .double), .double, .double, (.object "java/math/BigDecimal"), (.object "com/example/choreon/choreon/DecimalTime"), (.object "com/example/choreon/choreon/DecimalTime")]
  resolved := Array.replicate 190 none
  statics := some 0 }

def pool3 : Array CpInfo := pool [(1, u "java/lang/Cloneable"), (0, .class_ 1), (0, u "java/lang/Object"), (0, .class_ 3)] 3

/-- java/lang/Cloneable -/
def k3 : Class := { plain "java/lang/Cloneable" (some 0) with
  accessFlags := 1537
  interfaces := #[]
  cf := some (fileOf pool3 2 #[] #[] 1537 4 #[] #[])
  fields := #[]
  methods := #[]
  instanceTypes := #[]
  staticTypes := #[]
  resolved := Array.replicate 8 none
  statics := none }

def pool4 : Array CpInfo := pool [(1, u "java/io/Serializable"), (0, .class_ 1), (0, u "java/lang/Object"), (0, .class_ 3)] 3

/-- java/io/Serializable -/
def k4 : Class := { plain "java/io/Serializable" (some 0) with
  accessFlags := 1537
  interfaces := #[]
  cf := some (fileOf pool4 2 #[] #[] 1537 4 #[] #[])
  fields := #[]
  methods := #[]
  instanceTypes := #[]
  staticTypes := #[]
  resolved := Array.replicate 8 none
  statics := none }

/-- the primitive byte -/
def k5 : Class := { plain "byte" none with kind := .primitive 'B', accessFlags := 0x411 }
/-- [B -/
def k6 : Class := { plain "[B" (some 0) with kind := .array 5 .byte, interfaces := #[3, 4], accessFlags := 1041 }

/-- the primitive double -/
def k7 : Class := { plain "double" none with kind := .primitive 'D', accessFlags := 0x411 }
/-- [D -/
def k8 : Class := { plain "[D" (some 0) with kind := .array 7 .double, interfaces := #[3, 4], accessFlags := 1041 }

/-- the primitive int -/
def k9 : Class := { plain "int" none with kind := .primitive 'I', accessFlags := 0x411 }
/-- [I -/
def k10 : Class := { plain "[I" (some 0) with kind := .array 9 .int, interfaces := #[3, 4], accessFlags := 1041 }

/-- the primitive long -/
def k11 : Class := { plain "long" none with kind := .primitive 'J', accessFlags := 0x411 }
/-- [J -/
def k12 : Class := { plain "[J" (some 0) with kind := .array 11 .long, interfaces := #[3, 4], accessFlags := 1041 }

def heap : Heap := #[{ cls := 2, slots := #[.int 0, .ref 1, .double 0, .double 0, .null, .null, .null], vm := .statics 2 },
  { cls := 8, slots := #[.double 4607182418800017408, .double 4621819117588971520, .double 4636737291354636288, .double 4652007308841189376, .double 4666723172467343360, .double 4681608360884174848, .double 4696837146684686336, .double 4711630319722168320, .double 4726483295884279808, .double 4741671816366391296, .double 4756540486875873280, .double 4771362005757984768, .double 4786511204640096256, .double 4801453603149578240, .double 4816244402031689728, .double 4831355200913801216, .double 4846369599423283200, .double 4861130398305394688, .double 4876203697187506176, .double 4891288408196988160, .double 4906019910204099648, .double 4921056587992461136, .double 4936209963552724370], vm := .none }]
def classes : Array Class := #[k0, k1, k2, k3, k4, k5, k6, k7, k8, k9, k10, k11, k12]
def interned : List (Array UInt16 × Addr) := []
def slotsUsed : Nat := 30
def theMethod : MethodId := ⟨1, 1⟩
def args0 : Array Value := #[.long 5, .int 1, .int 2, .int 3, .int 0]
def aboutOver (below : List Frame) : State where
  vm := { classes := classes, interned := interned.toArray }
  heap := heap
  slotsUsed := slotsUsed
  threads := #[{ frames := .invoking theMethod args0 :: below }]
def below0 : List Frame := [.native { method := ⟨0, 0⟩, args := #[] }]
def about1 : State := aboutOver below0
def p0 : Program := .bare "" "" ""
def e0 : Env := launch0.env 0 0 0
theorem w_frames : about1.frames = Frame.invoking theMethod args0 :: below0 := rfl
set_option maxRecDepth 65536 in
theorem w_args : argsFit about1.vm theMethod args0 = true := by decide +kernel
set_option maxRecDepth 65536 in
theorem w_heap : heapFits about1 = true := by decide +kernel
set_option maxRecDepth 65536 in
theorem w_runnable : about1.curStatus? = some .runnable := by decide +kernel
set_option maxRecDepth 65536 in
theorem w_alone : about1.alone = true := by decide +kernel
set_option maxRecDepth 65536 in
theorem w_named : about1.methodNamed? x = some theMethod := by decide +kernel
set_option maxRecDepth 65536 in
theorem w_hears : about1.hears theMethod below0 = true := by decide +kernel
set_option maxRecDepth 65536 in
theorem w_ripe : about1.ripe theMethod args0 below0 = true := by decide +kernel
theorem w_running : about1.status = .running := rfl
set_option maxRecDepth 65536 in
theorem w_room : about1.hasRoom e0.platform room_1 = true :=
  launch0.hasRoom_least _ room_1 (by decide +kernel) (by decide +kernel) (by decide +kernel) (by decide +kernel) (by decide +kernel) (by decide +kernel)
theorem allAtoms_all (ts : List Jvm.Cond) (a : Array Jvm.Value) (st : Jvm.State) : (allAtoms ts).before a st = ts.all (fun c => c.before a st) := by
  induction ts with
  | nil => rfl
  | cons c t ih =>
    show (Jvm.Cond.and c (allAtoms t)).before a st = _
    rw [Jvm.Cond.before_and, ih, List.all_cons]
def words1 : List Jvm.Cond := Jvm.Cond.code x code maxLocals ret :: tables_1
/-- a 'code' word, met by the world's own term for the bytes: nothing is compared byte by byte -/
theorem code_word {y : MethodName} {bytes : ByteArray} {mx : Nat} {rt : Option FieldType} {a : Array Value} {s : State} {m : MethodId} {meth : Method} {c : Code} (h1 : s.methodNamed? y = some m) (h2 : s.vm.method? m = some meth) (h3 : meth.code = some c) (h4 : c.code = bytes)
    (h5 : (c.maxLocals == mx && c.exceptionTable.isEmpty && decide (c.maxStack ≤ mostOperands) && decide (meth.sig.returnType = rt) && !meth.locks && decide (parseMethodDescriptor y.desc = some meth.sig)) = true) : (Jvm.Cond.code y bytes mx rt).before a s = true := by
  simp only [Bool.and_eq_true, beq_iff_eq, Bool.not_eq_true', decide_eq_true_eq] at h5
  obtain ⟨⟨⟨⟨⟨g1, g2⟩, g3⟩, g4⟩, g5⟩, g6⟩ := h5
  simp [Cond.before, Cond.holds, Cond.value, h1, h2, h3, h4, g1, g2, g3, g4, g5, g6]
def isCode : Jvm.Cond → Bool
  | .code _ _ _ _ => true
  | _ => false
theorem all_split {L : List Jvm.Cond} {P : Jvm.Cond → Bool} (h1 : L.all (fun c => isCode c || P c) = true) (h2 : ∀ c ∈ L.filter isCode, P c = true) : L.all P = true := by
  refine List.all_eq_true.mpr fun c hc => ?_
  have h := List.all_eq_true.mp h1 c hc
  rcases Bool.eq_false_or_eq_true (isCode c) with hi | hi
  · exact h2 c (List.mem_filter.mpr ⟨hc, hi⟩)
  · simpa [hi] using h
set_option maxRecDepth 65536 in
theorem w_c0 : (Jvm.Cond.code x code maxLocals ret).before args0 about1 = true := code_word (m := ⟨1, 1⟩) (meth := k1m1) (c := k1c1) (by decide +kernel) rfl rfl rfl (by decide +kernel)
set_option maxRecDepth 65536 in
theorem w_c1 : (Jvm.Cond.code ({ cls := "com/example/choreon/choreon/DecimalTime", name := "rescaled", desc := "(JII)J" } : Jvm.MethodName) prog_17_method_9_code (6 : Nat) (Option.some Jvm.ClassFile.FieldType.long)).before args0 about1 = true := code_word (m := ⟨2, 0⟩) (meth := k2m0) (c := k2c0) (by decide +kernel) rfl rfl rfl (by decide +kernel)
def codes1 : List Jvm.Cond := [Jvm.Cond.code x code maxLocals ret, Jvm.Cond.code ({ cls := "com/example/choreon/choreon/DecimalTime", name := "rescaled", desc := "(JII)J" } : Jvm.MethodName) prog_17_method_9_code (6 : Nat) (Option.some Jvm.ClassFile.FieldType.long)]
set_option maxRecDepth 65536 in
theorem codes_eq : words1.filter isCode = codes1 := rfl
theorem w_codes : ∀ c ∈ words1.filter isCode, c.before args0 about1 = true := by
  rw [codes_eq]
  intro c hc
  simp only [codes1, List.mem_cons, List.not_mem_nil, or_false] at hc
  rcases hc with rfl | rfl
  · exact w_c0
  · exact w_c1
set_option maxRecDepth 65536 in
theorem w_t1 : (words1.take 24).all (fun c => isCode c || c.before args0 about1) = true := by decide +kernel
set_option maxRecDepth 65536 in
theorem w_t2 : (words1.drop 24).all (fun c => isCode c || c.before args0 about1) = true := by decide +kernel
theorem w_tables : (allAtoms (Jvm.Cond.code x code maxLocals ret :: tables_1)).before args0 about1 = true := by
  rw [allAtoms_all]
  show words1.all (fun c => c.before args0 about1) = true
  refine all_split ?_ w_codes
  rw [← List.take_append_drop 24 words1, List.all_append, w_t1, w_t2]
  rfl
set_option maxRecDepth 65536 in
theorem w_case : (Jvm.Cond.and given_1 narrow_1).before args0 about1 = true := by decide +kernel
theorem w_applies : (headSpec (Jvm.Cond.code x code maxLocals ret :: tables_1) room_1).applies x e0.platform about1 = true :=
  (Spec.applies_iff w_frames).mpr ⟨w_running, w_runnable, w_alone, w_named, w_hears, w_ripe, w_room, w_tables⟩
theorem atStart : AtStart classFile x code maxLocals ret World_1 tables_1 room_1 Calls_1 rest_1 Pre_1 launch0 p0 e0 about1 theMethod args0 below0 :=
  ⟨lists_1, trivial, launch0.admits_env _ _ _, launch0.least_env, fairChoices_fair.cas, fairChoices_fair.clock, w_frames, w_args, w_heap, w_applies, trivial, trivial, w_case⟩
end start1
theorem witness_1 : WitnessClaimed_1 := ⟨start1.p0, start1.e0, start1.about1, start1.theMethod, start1.args0, start1.below0, start1.atStart⟩
end Jvm.Pilot.@@N@@
