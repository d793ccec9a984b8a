import JvmDerived
import JvmDerived.Pilot.@@N@@Statement
import JvmDerived.Pilot.@@N@@Code
set_option linter.unusedVariables false
set_option linter.unusedSimpArgs false
namespace Jvm.Pilot.@@N@@
open Jvm Jvm.ClassFile Sem Op Lib Jvm.Free Jvm.Stand Jvm.LawKit Jvm.RoadKit Bundle Jvm.Pilot.@@N@@.Jvm.D
section OwnKit
variable {p : Program} {l : Launch} {e : Env} {R : Room} {s : State} {m : MethodId} {args : Array Value} {below : List Frame} {meth : Method} {c : Code} {T : State} {locs : List Loc} {cells slots : Nat} {P : State → Outcome → Prop} {pc : Nat} {Ls : Array Slot} {st : List Value} {Z : State} {a0 : Array Value} {h : Heap} {own : String} {index : Nat}
/-- what is still owed from a state on -/
def Go (p : Program) (e : Env) (below : List Frame) (P : State → Outcome → Prop) (S : State) : Prop := ∃ s₂ o, Steps p.tables e below S s₂ ∧ s₂.status = .running ∧ Ended s₂ below o ∧ P s₂ o
theorem Go.by {S S' : State} (st : ∀ t, Steps p.tables e below S' t → Steps p.tables e below S t) (k : Go p e below P S') : Go p e below P S := by
  obtain ⟨a, b, h1, h2⟩ := k
  exact ⟨a, b, st _ h1, h2⟩
def Ret (s : State) (Q : Option Value → Heap → List Loc → Prop) (C N : Nat) (s₂ : State) (o : Outcome) : Prop := ∃ v L, o = .returned v ∧ Q v s₂.heap L ∧ FrameEnd s o s₂ L C N

theorem g_iloadN (X : Stand p l e R s m args below meth c T locs cells slots) (hx : p.tables.exec = Jvm.exec) {k : Fin 4} {v : Int32} (hd : decode c.code pc = .ok (.iload_n k, 1)) (hl : Ls[k.val]? = some (.val (.int v))) (q : Go p e below P (T.setTop (mkF m (pc + 1) Ls (.int v :: st)))) : Go p e below P (T.setTop (mkF m pc Ls st)) := q.by fun t r => XS.iloadN X.here hx rfl hd hl r
theorem g_iload (X : Stand p l e R s m args below meth c T locs cells slots) (hx : p.tables.exec = Jvm.exec) {k : Nat} {v : Int32} (hd : decode c.code pc = .ok (.iload k, 2)) (hl : Ls[k]? = some (.val (.int v))) (q : Go p e below P (T.setTop (mkF m (pc + 2) Ls (.int v :: st)))) : Go p e below P (T.setTop (mkF m pc Ls st)) := q.by fun t r => XS.iload X.here hx rfl hd hl r
theorem g_lloadN (X : Stand p l e R s m args below meth c T locs cells slots) (hx : p.tables.exec = Jvm.exec) {k : Fin 4} {v : Int64} (hd : decode c.code pc = .ok (.lload_n k, 1)) (hl : Ls[k.val]? = some (.val (.long v))) (q : Go p e below P (T.setTop (mkF m (pc + 1) Ls (.long v :: st)))) : Go p e below P (T.setTop (mkF m pc Ls st)) := q.by fun t r => XS.lloadN X.here hx rfl hd hl r
theorem g_lload (X : Stand p l e R s m args below meth c T locs cells slots) (hx : p.tables.exec = Jvm.exec) {k : Nat} {v : Int64} (hd : decode c.code pc = .ok (.lload k, 2)) (hl : Ls[k]? = some (.val (.long v))) (q : Go p e below P (T.setTop (mkF m (pc + 2) Ls (.long v :: st)))) : Go p e below P (T.setTop (mkF m pc Ls st)) := q.by fun t r => XS.lload X.here hx rfl hd hl r
theorem g_dloadN (X : Stand p l e R s m args below meth c T locs cells slots) (hx : p.tables.exec = Jvm.exec) {k : Fin 4} {v : UInt64} (hd : decode c.code pc = .ok (.dload_n k, 1)) (hl : Ls[k.val]? = some (.val (.double v))) (q : Go p e below P (T.setTop (mkF m (pc + 1) Ls (.double v :: st)))) : Go p e below P (T.setTop (mkF m pc Ls st)) := q.by fun t r => XS.dloadN X.here hx rfl hd hl r
theorem g_dload (X : Stand p l e R s m args below meth c T locs cells slots) (hx : p.tables.exec = Jvm.exec) {k : Nat} {v : UInt64} (hd : decode c.code pc = .ok (.dload k, 2)) (hl : Ls[k]? = some (.val (.double v))) (q : Go p e below P (T.setTop (mkF m (pc + 2) Ls (.double v :: st)))) : Go p e below P (T.setTop (mkF m pc Ls st)) := q.by fun t r => XS.dload X.here hx rfl hd hl r
theorem g_floadN (X : Stand p l e R s m args below meth c T locs cells slots) (hx : p.tables.exec = Jvm.exec) {k : Fin 4} {v : UInt32} (hd : decode c.code pc = .ok (.fload_n k, 1)) (hl : Ls[k.val]? = some (.val (.float v))) (q : Go p e below P (T.setTop (mkF m (pc + 1) Ls (.float v :: st)))) : Go p e below P (T.setTop (mkF m pc Ls st)) := q.by fun t r => XS.floadN X.here hx rfl hd hl r
theorem g_fload (X : Stand p l e R s m args below meth c T locs cells slots) (hx : p.tables.exec = Jvm.exec) {k : Nat} {v : UInt32} (hd : decode c.code pc = .ok (.fload k, 2)) (hl : Ls[k]? = some (.val (.float v))) (q : Go p e below P (T.setTop (mkF m (pc + 2) Ls (.float v :: st)))) : Go p e below P (T.setTop (mkF m pc Ls st)) := q.by fun t r => XS.fload X.here hx rfl hd hl r
theorem g_aloadN (X : Stand p l e R s m args below meth c T locs cells slots) (hx : p.tables.exec = Jvm.exec) {k : Fin 4} {v : Value} (hd : decode c.code pc = .ok (.aload_n k, 1)) (hl : Ls[k.val]? = some (.val v)) (hv : v.isRef = true) (q : Go p e below P (T.setTop (mkF m (pc + 1) Ls (v :: st)))) : Go p e below P (T.setTop (mkF m pc Ls st)) := q.by fun t r => XS.aloadN X.here hx rfl hd hl hv r
theorem g_aload (X : Stand p l e R s m args below meth c T locs cells slots) (hx : p.tables.exec = Jvm.exec) {k : Nat} {v : Value} (hd : decode c.code pc = .ok (.aload k, 2)) (hl : Ls[k]? = some (.val v)) (hv : v.isRef = true) (q : Go p e below P (T.setTop (mkF m (pc + 2) Ls (v :: st)))) : Go p e below P (T.setTop (mkF m pc Ls st)) := q.by fun t r => XS.aload X.here hx rfl hd hl hv r
theorem g_istoreN (X : Stand p l e R s m args below meth c T locs cells slots) (hx : p.tables.exec = Jvm.exec) {k : Fin 4} {v : Int32} {L' : Array Slot} (hd : decode c.code pc = .ok (.istore_n k, 1)) (hl : storeLocals Ls k.val (.int v) = some L') (q : Go p e below P (T.setTop (mkF m (pc + 1) L' st))) : Go p e below P (T.setTop (mkF m pc Ls (.int v :: st))) := q.by fun t r => XS.istoreN X.here hx rfl hd rfl hl r
theorem g_istore (X : Stand p l e R s m args below meth c T locs cells slots) (hx : p.tables.exec = Jvm.exec) {k : Nat} {v : Int32} {L' : Array Slot} (hd : decode c.code pc = .ok (.istore k, 2)) (hl : storeLocals Ls k (.int v) = some L') (q : Go p e below P (T.setTop (mkF m (pc + 2) L' st))) : Go p e below P (T.setTop (mkF m pc Ls (.int v :: st))) := q.by fun t r => XS.istore X.here hx rfl hd rfl hl r
theorem g_lstoreN (X : Stand p l e R s m args below meth c T locs cells slots) (hx : p.tables.exec = Jvm.exec) {k : Fin 4} {v : Int64} {L' : Array Slot} (hd : decode c.code pc = .ok (.lstore_n k, 1)) (hl : storeLocals Ls k.val (.long v) = some L') (q : Go p e below P (T.setTop (mkF m (pc + 1) L' st))) : Go p e below P (T.setTop (mkF m pc Ls (.long v :: st))) := q.by fun t r => XS.lstoreN X.here hx rfl hd rfl hl r
theorem g_lstore (X : Stand p l e R s m args below meth c T locs cells slots) (hx : p.tables.exec = Jvm.exec) {k : Nat} {v : Int64} {L' : Array Slot} (hd : decode c.code pc = .ok (.lstore k, 2)) (hl : storeLocals Ls k (.long v) = some L') (q : Go p e below P (T.setTop (mkF m (pc + 2) L' st))) : Go p e below P (T.setTop (mkF m pc Ls (.long v :: st))) := q.by fun t r => XS.lstore X.here hx rfl hd rfl hl r
theorem g_dstoreN (X : Stand p l e R s m args below meth c T locs cells slots) (hx : p.tables.exec = Jvm.exec) {k : Fin 4} {v : UInt64} {L' : Array Slot} (hd : decode c.code pc = .ok (.dstore_n k, 1)) (hl : storeLocals Ls k.val (.double v) = some L') (q : Go p e below P (T.setTop (mkF m (pc + 1) L' st))) : Go p e below P (T.setTop (mkF m pc Ls (.double v :: st))) := q.by fun t r => XS.dstoreN X.here hx rfl hd rfl hl r
theorem g_dstore (X : Stand p l e R s m args below meth c T locs cells slots) (hx : p.tables.exec = Jvm.exec) {k : Nat} {v : UInt64} {L' : Array Slot} (hd : decode c.code pc = .ok (.dstore k, 2)) (hl : storeLocals Ls k (.double v) = some L') (q : Go p e below P (T.setTop (mkF m (pc + 2) L' st))) : Go p e below P (T.setTop (mkF m pc Ls (.double v :: st))) := q.by fun t r => XS.dstore X.here hx rfl hd rfl hl r
theorem g_fstoreN (X : Stand p l e R s m args below meth c T locs cells slots) (hx : p.tables.exec = Jvm.exec) {k : Fin 4} {v : UInt32} {L' : Array Slot} (hd : decode c.code pc = .ok (.fstore_n k, 1)) (hl : storeLocals Ls k.val (.float v) = some L') (q : Go p e below P (T.setTop (mkF m (pc + 1) L' st))) : Go p e below P (T.setTop (mkF m pc Ls (.float v :: st))) := q.by fun t r => XS.fstoreN X.here hx rfl hd rfl hl r
theorem g_fstore (X : Stand p l e R s m args below meth c T locs cells slots) (hx : p.tables.exec = Jvm.exec) {k : Nat} {v : UInt32} {L' : Array Slot} (hd : decode c.code pc = .ok (.fstore k, 2)) (hl : storeLocals Ls k (.float v) = some L') (q : Go p e below P (T.setTop (mkF m (pc + 2) L' st))) : Go p e below P (T.setTop (mkF m pc Ls (.float v :: st))) := q.by fun t r => XS.fstore X.here hx rfl hd rfl hl r
theorem g_astoreN (X : Stand p l e R s m args below meth c T locs cells slots) (hx : p.tables.exec = Jvm.exec) {k : Fin 4} {v : Value} {L' : Array Slot} (hd : decode c.code pc = .ok (.astore_n k, 1)) (hv : v.isRef = true) (hl : storeLocals Ls k.val v = some L') (q : Go p e below P (T.setTop (mkF m (pc + 1) L' st))) : Go p e below P (T.setTop (mkF m pc Ls (v :: st))) := q.by fun t r => XS.astoreN X.here hx rfl hd rfl hv hl r
theorem g_astore (X : Stand p l e R s m args below meth c T locs cells slots) (hx : p.tables.exec = Jvm.exec) {k : Nat} {v : Value} {L' : Array Slot} (hd : decode c.code pc = .ok (.astore k, 2)) (hv : v.isRef = true) (hl : storeLocals Ls k v = some L') (q : Go p e below P (T.setTop (mkF m (pc + 2) L' st))) : Go p e below P (T.setTop (mkF m pc Ls (v :: st))) := q.by fun t r => XS.astore X.here hx rfl hd rfl hv hl r
theorem g_iconst (X : Stand p l e R s m args below meth c T locs cells slots) (hx : p.tables.exec = Jvm.exec) {i : Int} {v : Int32} (hd : decode c.code pc = .ok (.iconst i, 1)) (hv : Int32.ofInt i = v) (q : Go p e below P (T.setTop (mkF m (pc + 1) Ls (.int v :: st)))) : Go p e below P (T.setTop (mkF m pc Ls st)) := q.by fun t r => XS.iconst X.here hx rfl hd (hv ▸ r)
theorem g_bipush (X : Stand p l e R s m args below meth c T locs cells slots) (hx : p.tables.exec = Jvm.exec) {i : Int} {v : Int32} (hd : decode c.code pc = .ok (.bipush i, 2)) (hv : (Int8.ofInt i).toInt32 = v) (q : Go p e below P (T.setTop (mkF m (pc + 2) Ls (.int v :: st)))) : Go p e below P (T.setTop (mkF m pc Ls st)) := q.by fun t r => XS.bipush X.here hx rfl hd (hv ▸ r)
theorem g_sipush (X : Stand p l e R s m args below meth c T locs cells slots) (hx : p.tables.exec = Jvm.exec) {i : Int} {v : Int32} (hd : decode c.code pc = .ok (.sipush i, 3)) (hv : (Int16.ofInt i).toInt32 = v) (q : Go p e below P (T.setTop (mkF m (pc + 3) Ls (.int v :: st)))) : Go p e below P (T.setTop (mkF m pc Ls st)) := q.by fun t r => XS.sipush X.here hx rfl hd (hv ▸ r)
theorem g_lconst0 (X : Stand p l e R s m args below meth c T locs cells slots) (hx : p.tables.exec = Jvm.exec)  (hd : decode c.code pc = .ok (.lconst 0, 1))  (q : Go p e below P (T.setTop (mkF m (pc + 1) Ls (.long 0 :: st)))) : Go p e below P (T.setTop (mkF m pc Ls st)) := q.by fun t r => XS.lconst X.here hx rfl hd r
theorem g_lconst1 (X : Stand p l e R s m args below meth c T locs cells slots) (hx : p.tables.exec = Jvm.exec)  (hd : decode c.code pc = .ok (.lconst 1, 1))  (q : Go p e below P (T.setTop (mkF m (pc + 1) Ls (.long 1 :: st)))) : Go p e below P (T.setTop (mkF m pc Ls st)) := q.by fun t r => XS.lconst X.here hx rfl hd r
theorem g_aconst_null (X : Stand p l e R s m args below meth c T locs cells slots) (hx : p.tables.exec = Jvm.exec)  (hd : decode c.code pc = .ok (.aconst_null, 1))  (q : Go p e below P (T.setTop (mkF m (pc + 1) Ls (.null :: st)))) : Go p e below P (T.setTop (mkF m pc Ls st)) := q.by fun t r => XS.aconstNull X.here hx rfl hd r
theorem g_dconst0 (X : Stand p l e R s m args below meth c T locs cells slots) (hx : p.tables.exec = Jvm.exec)  (hd : decode c.code pc = .ok (.dconst 0, 1))  (q : Go p e below P (T.setTop (mkF m (pc + 1) Ls (.double 0 :: st)))) : Go p e below P (T.setTop (mkF m pc Ls st)) := q.by fun t r => XS.dconst0 X.here hx rfl hd rfl r
theorem g_dconst1 (X : Stand p l e R s m args below meth c T locs cells slots) (hx : p.tables.exec = Jvm.exec)  (hd : decode c.code pc = .ok (.dconst 1, 1))  (q : Go p e below P (T.setTop (mkF m (pc + 1) Ls (.double 4607182418800017408 :: st)))) : Go p e below P (T.setTop (mkF m pc Ls st)) := q.by fun t r => XS.dconst1 X.here hx rfl hd rfl r
theorem g_iadd (X : Stand p l e R s m args below meth c T locs cells slots) (hx : p.tables.exec = Jvm.exec) {x y v : Int32} (hd : decode c.code pc = .ok (.iadd, 1)) (hv : x + y = v) (q : Go p e below P (T.setTop (mkF m (pc + 1) Ls (.int v :: st)))) : Go p e below P (T.setTop (mkF m pc Ls (.int y :: .int x :: st))) := q.by fun t r => XS.iadd X.here hx rfl hd rfl (hv ▸ r)
theorem g_isub (X : Stand p l e R s m args below meth c T locs cells slots) (hx : p.tables.exec = Jvm.exec) {x y v : Int32} (hd : decode c.code pc = .ok (.isub, 1)) (hv : x - y = v) (q : Go p e below P (T.setTop (mkF m (pc + 1) Ls (.int v :: st)))) : Go p e below P (T.setTop (mkF m pc Ls (.int y :: .int x :: st))) := q.by fun t r => XS.isub X.here hx rfl hd rfl (hv ▸ r)
theorem g_imul (X : Stand p l e R s m args below meth c T locs cells slots) (hx : p.tables.exec = Jvm.exec) {x y v : Int32} (hd : decode c.code pc = .ok (.imul, 1)) (hv : x * y = v) (q : Go p e below P (T.setTop (mkF m (pc + 1) Ls (.int v :: st)))) : Go p e below P (T.setTop (mkF m pc Ls (.int y :: .int x :: st))) := q.by fun t r => XS.imul X.here hx rfl hd rfl (hv ▸ r)
theorem g_iand (X : Stand p l e R s m args below meth c T locs cells slots) (hx : p.tables.exec = Jvm.exec) {x y v : Int32} (hd : decode c.code pc = .ok (.iand, 1)) (hv : x &&& y = v) (q : Go p e below P (T.setTop (mkF m (pc + 1) Ls (.int v :: st)))) : Go p e below P (T.setTop (mkF m pc Ls (.int y :: .int x :: st))) := q.by fun t r => XS.iand X.here hx rfl hd rfl (hv ▸ r)
theorem g_ior (X : Stand p l e R s m args below meth c T locs cells slots) (hx : p.tables.exec = Jvm.exec) {x y v : Int32} (hd : decode c.code pc = .ok (.ior, 1)) (hv : x ||| y = v) (q : Go p e below P (T.setTop (mkF m (pc + 1) Ls (.int v :: st)))) : Go p e below P (T.setTop (mkF m pc Ls (.int y :: .int x :: st))) := q.by fun t r => XS.ior X.here hx rfl hd rfl (hv ▸ r)
theorem g_ixor (X : Stand p l e R s m args below meth c T locs cells slots) (hx : p.tables.exec = Jvm.exec) {x y v : Int32} (hd : decode c.code pc = .ok (.ixor, 1)) (hv : x ^^^ y = v) (q : Go p e below P (T.setTop (mkF m (pc + 1) Ls (.int v :: st)))) : Go p e below P (T.setTop (mkF m pc Ls (.int y :: .int x :: st))) := q.by fun t r => XS.ixor X.here hx rfl hd rfl (hv ▸ r)
theorem g_ladd (X : Stand p l e R s m args below meth c T locs cells slots) (hx : p.tables.exec = Jvm.exec) {x y v : Int64} (hd : decode c.code pc = .ok (.ladd, 1)) (hv : x + y = v) (q : Go p e below P (T.setTop (mkF m (pc + 1) Ls (.long v :: st)))) : Go p e below P (T.setTop (mkF m pc Ls (.long y :: .long x :: st))) := q.by fun t r => XS.ladd X.here hx rfl hd rfl (hv ▸ r)
theorem g_lsub (X : Stand p l e R s m args below meth c T locs cells slots) (hx : p.tables.exec = Jvm.exec) {x y v : Int64} (hd : decode c.code pc = .ok (.lsub, 1)) (hv : x - y = v) (q : Go p e below P (T.setTop (mkF m (pc + 1) Ls (.long v :: st)))) : Go p e below P (T.setTop (mkF m pc Ls (.long y :: .long x :: st))) := q.by fun t r => XS.lsub X.here hx rfl hd rfl (hv ▸ r)
theorem g_lmul (X : Stand p l e R s m args below meth c T locs cells slots) (hx : p.tables.exec = Jvm.exec) {x y v : Int64} (hd : decode c.code pc = .ok (.lmul, 1)) (hv : x * y = v) (q : Go p e below P (T.setTop (mkF m (pc + 1) Ls (.long v :: st)))) : Go p e below P (T.setTop (mkF m pc Ls (.long y :: .long x :: st))) := q.by fun t r => XS.lmul X.here hx rfl hd rfl (hv ▸ r)
theorem g_land (X : Stand p l e R s m args below meth c T locs cells slots) (hx : p.tables.exec = Jvm.exec) {x y v : Int64} (hd : decode c.code pc = .ok (.land, 1)) (hv : x &&& y = v) (q : Go p e below P (T.setTop (mkF m (pc + 1) Ls (.long v :: st)))) : Go p e below P (T.setTop (mkF m pc Ls (.long y :: .long x :: st))) := q.by fun t r => XS.land X.here hx rfl hd rfl (hv ▸ r)
theorem g_lor (X : Stand p l e R s m args below meth c T locs cells slots) (hx : p.tables.exec = Jvm.exec) {x y v : Int64} (hd : decode c.code pc = .ok (.lor, 1)) (hv : x ||| y = v) (q : Go p e below P (T.setTop (mkF m (pc + 1) Ls (.long v :: st)))) : Go p e below P (T.setTop (mkF m pc Ls (.long y :: .long x :: st))) := q.by fun t r => XS.lor X.here hx rfl hd rfl (hv ▸ r)
theorem g_ishl (X : Stand p l e R s m args below meth c T locs cells slots) (hx : p.tables.exec = Jvm.exec) {x y v : Int32} (hd : decode c.code pc = .ok (.ishl, 1)) (hv : x <<< (y &&& 31) = v) (q : Go p e below P (T.setTop (mkF m (pc + 1) Ls (.int v :: st)))) : Go p e below P (T.setTop (mkF m pc Ls (.int y :: .int x :: st))) := q.by fun t r => XS.ishl X.here hx rfl hd rfl (hv ▸ r)
theorem g_ishr (X : Stand p l e R s m args below meth c T locs cells slots) (hx : p.tables.exec = Jvm.exec) {x y v : Int32} (hd : decode c.code pc = .ok (.ishr, 1)) (hv : x >>> (y &&& 31) = v) (q : Go p e below P (T.setTop (mkF m (pc + 1) Ls (.int v :: st)))) : Go p e below P (T.setTop (mkF m pc Ls (.int y :: .int x :: st))) := q.by fun t r => XS.ishr X.here hx rfl hd rfl (hv ▸ r)
theorem g_iushr (X : Stand p l e R s m args below meth c T locs cells slots) (hx : p.tables.exec = Jvm.exec) {x y v : Int32} (hd : decode c.code pc = .ok (.iushr, 1)) (hv : (x.toUInt32 >>> (y &&& 31).toUInt32).toInt32 = v) (q : Go p e below P (T.setTop (mkF m (pc + 1) Ls (.int v :: st)))) : Go p e below P (T.setTop (mkF m pc Ls (.int y :: .int x :: st))) := q.by fun t r => XS.iushr X.here hx rfl hd rfl (hv ▸ r)
theorem g_idiv (X : Stand p l e R s m args below meth c T locs cells slots) (hx : p.tables.exec = Jvm.exec) {x y v : Int32} (hd : decode c.code pc = .ok (.idiv, 1)) (hy : y ≠ 0) (hv : x / y = v) (q : Go p e below P (T.setTop (mkF m (pc + 1) Ls (.int v :: st)))) : Go p e below P (T.setTop (mkF m pc Ls (.int y :: .int x :: st))) := q.by fun t r => XS.idiv X.here hx rfl hd rfl hy (hv ▸ r)
theorem g_irem (X : Stand p l e R s m args below meth c T locs cells slots) (hx : p.tables.exec = Jvm.exec) {x y v : Int32} (hd : decode c.code pc = .ok (.irem, 1)) (hy : y ≠ 0) (hv : x % y = v) (q : Go p e below P (T.setTop (mkF m (pc + 1) Ls (.int v :: st)))) : Go p e below P (T.setTop (mkF m pc Ls (.int y :: .int x :: st))) := q.by fun t r => XS.irem X.here hx rfl hd rfl hy (irem_eq_mod x y ▸ hv ▸ r)
theorem g_ldiv (X : Stand p l e R s m args below meth c T locs cells slots) (hx : p.tables.exec = Jvm.exec) {x y v : Int64} (hd : decode c.code pc = .ok (.ldiv, 1)) (hy : y ≠ 0) (hv : x / y = v) (q : Go p e below P (T.setTop (mkF m (pc + 1) Ls (.long v :: st)))) : Go p e below P (T.setTop (mkF m pc Ls (.long y :: .long x :: st))) := q.by fun t r => XS.ldiv X.here hx rfl hd rfl hy (hv ▸ r)
theorem g_lshl (X : Stand p l e R s m args below meth c T locs cells slots) (hx : p.tables.exec = Jvm.exec) {x v : Int64} {y : Int32} (hd : decode c.code pc = .ok (.lshl, 1)) (hv : x <<< (y &&& 0x3f).toInt64 = v) (q : Go p e below P (T.setTop (mkF m (pc + 1) Ls (.long v :: st)))) : Go p e below P (T.setTop (mkF m pc Ls (.int y :: .long x :: st))) := q.by fun t r => XS.lshl X.here hx rfl hd rfl (hv ▸ r)
theorem g_lshr (X : Stand p l e R s m args below meth c T locs cells slots) (hx : p.tables.exec = Jvm.exec) {x v : Int64} {y : Int32} (hd : decode c.code pc = .ok (.lshr, 1)) (hv : x >>> (y &&& 0x3f).toInt64 = v) (q : Go p e below P (T.setTop (mkF m (pc + 1) Ls (.long v :: st)))) : Go p e below P (T.setTop (mkF m pc Ls (.int y :: .long x :: st))) := q.by fun t r => XS.lshr X.here hx rfl hd rfl (hv ▸ r)
theorem g_lushr (X : Stand p l e R s m args below meth c T locs cells slots) (hx : p.tables.exec = Jvm.exec) {x v : Int64} {y : Int32} (hd : decode c.code pc = .ok (.lushr, 1)) (hv : (x.toUInt64 >>> (y &&& 0x3f).toInt64.toUInt64).toInt64 = v) (q : Go p e below P (T.setTop (mkF m (pc + 1) Ls (.long v :: st)))) : Go p e below P (T.setTop (mkF m pc Ls (.int y :: .long x :: st))) := q.by fun t r => XS.lushr X.here hx rfl hd rfl (hv ▸ r)
theorem g_lcmp (X : Stand p l e R s m args below meth c T locs cells slots) (hx : p.tables.exec = Jvm.exec) {x y : Int64} (hd : decode c.code pc = .ok (.lcmp, 1))  (q : Go p e below P (T.setTop (mkF m (pc + 1) Ls (.int (lcmpW x y) :: st)))) : Go p e below P (T.setTop (mkF m pc Ls (.long y :: .long x :: st))) := q.by fun t r => XS.lcmp X.here hx rfl hd rfl r
theorem g_ineg (X : Stand p l e R s m args below meth c T locs cells slots) (hx : p.tables.exec = Jvm.exec) {x : Int32} {v : Int32} (hd : decode c.code pc = .ok (.ineg, 1)) (hv : -x = v) (q : Go p e below P (T.setTop (mkF m (pc + 1) Ls (.int v :: st)))) : Go p e below P (T.setTop (mkF m pc Ls (.int x :: st))) := q.by fun t r => XS.ineg X.here hx rfl hd rfl (hv ▸ r)
theorem g_lneg (X : Stand p l e R s m args below meth c T locs cells slots) (hx : p.tables.exec = Jvm.exec) {x : Int64} {v : Int64} (hd : decode c.code pc = .ok (.lneg, 1)) (hv : -x = v) (q : Go p e below P (T.setTop (mkF m (pc + 1) Ls (.long v :: st)))) : Go p e below P (T.setTop (mkF m pc Ls (.long x :: st))) := q.by fun t r => XS.lneg X.here hx rfl hd rfl (hv ▸ r)
theorem g_i2l (X : Stand p l e R s m args below meth c T locs cells slots) (hx : p.tables.exec = Jvm.exec) {x : Int32} {v : Int64} (hd : decode c.code pc = .ok (.i2l, 1)) (hv : x.toInt64 = v) (q : Go p e below P (T.setTop (mkF m (pc + 1) Ls (.long v :: st)))) : Go p e below P (T.setTop (mkF m pc Ls (.int x :: st))) := q.by fun t r => XS.i2l X.here hx rfl hd rfl (hv ▸ r)
theorem g_l2i (X : Stand p l e R s m args below meth c T locs cells slots) (hx : p.tables.exec = Jvm.exec) {x : Int64} {v : Int32} (hd : decode c.code pc = .ok (.l2i, 1)) (hv : x.toInt32 = v) (q : Go p e below P (T.setTop (mkF m (pc + 1) Ls (.int v :: st)))) : Go p e below P (T.setTop (mkF m pc Ls (.long x :: st))) := q.by fun t r => XS.l2i X.here hx rfl hd rfl (hv ▸ r)
theorem g_i2b (X : Stand p l e R s m args below meth c T locs cells slots) (hx : p.tables.exec = Jvm.exec) {x : Int32} {v : Int32} (hd : decode c.code pc = .ok (.i2b, 1)) (hv : x.toInt8.toInt32 = v) (q : Go p e below P (T.setTop (mkF m (pc + 1) Ls (.int v :: st)))) : Go p e below P (T.setTop (mkF m pc Ls (.int x :: st))) := q.by fun t r => XS.i2b X.here hx rfl hd rfl (hv ▸ r)
theorem g_i2c (X : Stand p l e R s m args below meth c T locs cells slots) (hx : p.tables.exec = Jvm.exec) {x : Int32} {v : Int32} (hd : decode c.code pc = .ok (.i2c, 1)) (hv : x.toUInt32.toUInt16.toUInt32.toInt32 = v) (q : Go p e below P (T.setTop (mkF m (pc + 1) Ls (.int v :: st)))) : Go p e below P (T.setTop (mkF m pc Ls (.int x :: st))) := q.by fun t r => XS.i2c X.here hx rfl hd rfl (hv ▸ r)
theorem g_i2s (X : Stand p l e R s m args below meth c T locs cells slots) (hx : p.tables.exec = Jvm.exec) {x : Int32} {v : Int32} (hd : decode c.code pc = .ok (.i2s, 1)) (hv : x.toInt16.toInt32 = v) (q : Go p e below P (T.setTop (mkF m (pc + 1) Ls (.int v :: st)))) : Go p e below P (T.setTop (mkF m pc Ls (.int x :: st))) := q.by fun t r => XS.i2s X.here hx rfl hd rfl (hv ▸ r)
theorem g_i2d (X : Stand p l e R s m args below meth c T locs cells slots) (hx : p.tables.exec = Jvm.exec) {x : Int32} {v : UInt64} (hd : decode c.code pc = .ok (.i2d, 1)) (hv : FP.i2d x = v) (q : Go p e below P (T.setTop (mkF m (pc + 1) Ls (.double v :: st)))) : Go p e below P (T.setTop (mkF m pc Ls (.int x :: st))) := q.by fun t r => XS.i2dS X.here hx rfl hd rfl hv r
theorem g_l2d (X : Stand p l e R s m args below meth c T locs cells slots) (hx : p.tables.exec = Jvm.exec) {x : Int64} {v : UInt64} (hd : decode c.code pc = .ok (.l2d, 1)) (hv : FP.l2d x = v) (q : Go p e below P (T.setTop (mkF m (pc + 1) Ls (.double v :: st)))) : Go p e below P (T.setTop (mkF m pc Ls (.long x :: st))) := q.by fun t r => XS.l2dS X.here hx rfl hd rfl hv r
theorem g_d2i (X : Stand p l e R s m args below meth c T locs cells slots) (hx : p.tables.exec = Jvm.exec) {x : UInt64} {v : Int32} (hd : decode c.code pc = .ok (.d2i, 1)) (hv : FP.d2i x = v) (q : Go p e below P (T.setTop (mkF m (pc + 1) Ls (.int v :: st)))) : Go p e below P (T.setTop (mkF m pc Ls (.double x :: st))) := q.by fun t r => XS.d2iS X.here hx rfl hd rfl hv r
theorem g_d2l (X : Stand p l e R s m args below meth c T locs cells slots) (hx : p.tables.exec = Jvm.exec) {x : UInt64} {v : Int64} (hd : decode c.code pc = .ok (.d2l, 1)) (hv : FP.d2l x = v) (q : Go p e below P (T.setTop (mkF m (pc + 1) Ls (.long v :: st)))) : Go p e below P (T.setTop (mkF m pc Ls (.double x :: st))) := q.by fun t r => XS.d2lS X.here hx rfl hd rfl hv r
theorem g_dneg (X : Stand p l e R s m args below meth c T locs cells slots) (hx : p.tables.exec = Jvm.exec) {x : UInt64} {v : UInt64} (hd : decode c.code pc = .ok (.dneg, 1)) (hv : FP.dneg x = v) (q : Go p e below P (T.setTop (mkF m (pc + 1) Ls (.double v :: st)))) : Go p e below P (T.setTop (mkF m pc Ls (.double x :: st))) := q.by fun t r => XS.dnegS X.here hx rfl hd rfl hv r
theorem g_i2f (X : Stand p l e R s m args below meth c T locs cells slots) (hx : p.tables.exec = Jvm.exec) {x : Int32} {v : UInt32} (hd : decode c.code pc = .ok (.i2f, 1)) (hv : FP.i2f x = v) (q : Go p e below P (T.setTop (mkF m (pc + 1) Ls (.float v :: st)))) : Go p e below P (T.setTop (mkF m pc Ls (.int x :: st))) := q.by fun t r => XS.i2fS X.here hx rfl hd rfl hv r
theorem g_l2f (X : Stand p l e R s m args below meth c T locs cells slots) (hx : p.tables.exec = Jvm.exec) {x : Int64} {v : UInt32} (hd : decode c.code pc = .ok (.l2f, 1)) (hv : FP.l2f x = v) (q : Go p e below P (T.setTop (mkF m (pc + 1) Ls (.float v :: st)))) : Go p e below P (T.setTop (mkF m pc Ls (.long x :: st))) := q.by fun t r => XS.l2fS X.here hx rfl hd rfl hv r
theorem g_fneg (X : Stand p l e R s m args below meth c T locs cells slots) (hx : p.tables.exec = Jvm.exec) {x : UInt32} {v : UInt32} (hd : decode c.code pc = .ok (.fneg, 1)) (hv : FP.fneg x = v) (q : Go p e below P (T.setTop (mkF m (pc + 1) Ls (.float v :: st)))) : Go p e below P (T.setTop (mkF m pc Ls (.float x :: st))) := q.by fun t r => XS.fnegS X.here hx rfl hd rfl hv r
theorem g_dadd (X : Stand p l e R s m args below meth c T locs cells slots) (hx : p.tables.exec = Jvm.exec) {x y v : UInt64} (hd : decode c.code pc = .ok (.dadd, 1)) (hn : Jvm.Free.Fl.NoNaN64 (FP.dadd x y)) (hv : FP.dadd x y = v) (q : Go p e below P (T.setTop (mkF m (pc + 1) Ls (.double v :: st)))) : Go p e below P (T.setTop (mkF m pc Ls (.double y :: .double x :: st))) := q.by fun t r => XS.daddS X.here hx rfl hd rfl hn hv r
theorem g_dsub (X : Stand p l e R s m args below meth c T locs cells slots) (hx : p.tables.exec = Jvm.exec) {x y v : UInt64} (hd : decode c.code pc = .ok (.dsub, 1)) (hn : Jvm.Free.Fl.NoNaN64 (FP.dsub x y)) (hv : FP.dsub x y = v) (q : Go p e below P (T.setTop (mkF m (pc + 1) Ls (.double v :: st)))) : Go p e below P (T.setTop (mkF m pc Ls (.double y :: .double x :: st))) := q.by fun t r => XS.dsubS X.here hx rfl hd rfl hn hv r
theorem g_dmul (X : Stand p l e R s m args below meth c T locs cells slots) (hx : p.tables.exec = Jvm.exec) {x y v : UInt64} (hd : decode c.code pc = .ok (.dmul, 1)) (hn : Jvm.Free.Fl.NoNaN64 (FP.dmul x y)) (hv : FP.dmul x y = v) (q : Go p e below P (T.setTop (mkF m (pc + 1) Ls (.double v :: st)))) : Go p e below P (T.setTop (mkF m pc Ls (.double y :: .double x :: st))) := q.by fun t r => XS.dmulS X.here hx rfl hd rfl hn hv r
theorem g_ddiv (X : Stand p l e R s m args below meth c T locs cells slots) (hx : p.tables.exec = Jvm.exec) {x y v : UInt64} (hd : decode c.code pc = .ok (.ddiv, 1)) (hn : Jvm.Free.Fl.NoNaN64 (FP.ddiv x y)) (hv : FP.ddiv x y = v) (q : Go p e below P (T.setTop (mkF m (pc + 1) Ls (.double v :: st)))) : Go p e below P (T.setTop (mkF m pc Ls (.double y :: .double x :: st))) := q.by fun t r => XS.ddivS X.here hx rfl hd rfl hn hv r
theorem g_dcmp (X : Stand p l e R s m args below meth c T locs cells slots) (hx : p.tables.exec = Jvm.exec) {o : CmpOp} {x y : UInt64} (hd : decode c.code pc = .ok (.dcmp o, 1))  (q : Go p e below P (T.setTop (mkF m (pc + 1) Ls (.int (cmpValue (FP.dcmp x y) o) :: st)))) : Go p e below P (T.setTop (mkF m pc Ls (.double y :: .double x :: st))) := q.by fun t r => XS.dcmpS X.here hx rfl hd rfl rfl r
theorem g_fcmp (X : Stand p l e R s m args below meth c T locs cells slots) (hx : p.tables.exec = Jvm.exec) {o : CmpOp} {x y : UInt32} (hd : decode c.code pc = .ok (.fcmp o, 1))  (q : Go p e below P (T.setTop (mkF m (pc + 1) Ls (.int (cmpValue (FP.fcmp x y) o) :: st)))) : Go p e below P (T.setTop (mkF m pc Ls (.float y :: .float x :: st))) := q.by fun t r => XS.fcmpS X.here hx rfl hd rfl rfl r
theorem g_dup (X : Stand p l e R s m args below meth c T locs cells slots) (hx : p.tables.exec = Jvm.exec) {x : Value} (hd : decode c.code pc = .ok (.dup, 1)) (hc : x.category = 1) (q : Go p e below P (T.setTop (mkF m (pc + 1) Ls (x :: x :: st)))) : Go p e below P (T.setTop (mkF m pc Ls (x :: st))) := q.by fun t r => XS.dup X.here hx rfl hd rfl hc r
theorem g_pop (X : Stand p l e R s m args below meth c T locs cells slots) (hx : p.tables.exec = Jvm.exec) {x : Value} (hd : decode c.code pc = .ok (.pop, 1)) (hc : x.category = 1) (q : Go p e below P (T.setTop (mkF m (pc + 1) Ls st))) : Go p e below P (T.setTop (mkF m pc Ls (x :: st))) := q.by fun t r => XS.pop X.here hx rfl hd rfl hc r
theorem g_dup2 (X : Stand p l e R s m args below meth c T locs cells slots) (hx : p.tables.exec = Jvm.exec) {x y : Value} (hd : decode c.code pc = .ok (.dup2, 1)) (hc : x.category = 1) (hc' : y.category = 1) (q : Go p e below P (T.setTop (mkF m (pc + 1) Ls (x :: y :: x :: y :: st)))) : Go p e below P (T.setTop (mkF m pc Ls (x :: y :: st))) := q.by fun t r => XT.dup2 X.here hx rfl hd rfl hc hc' r
theorem g_iinc (X : Stand p l e R s m args below meth c T locs cells slots) (hx : p.tables.exec = Jvm.exec) {k : Nat} {d : Int} {x : Int32} {L' : Array Slot} (hd : decode c.code pc = .ok (.iinc k d, 3)) (hl : Ls[k]? = some (.val (.int x))) (hs : storeLocals Ls k (.int (x + Int32.ofInt d)) = some L') (q : Go p e below P (T.setTop (mkF m (pc + 3) L' st))) : Go p e below P (T.setTop (mkF m pc Ls st)) := q.by fun t r => XS.iinc X.here hx rfl hd hl hs r
theorem g_goto (X : Stand p l e R s m args below meth c T locs cells slots) (hx : p.tables.exec = Jvm.exec)  {o : Int} {pc' : Nat} (hd : decode c.code pc = .ok (.goto o, 3))  (ho : 0 ≤ (pc : Int) + o) (hp : ((pc : Int) + o).toNat = pc') (q : Go p e below P (T.setTop (mkF m pc' Ls st))) : Go p e below P (T.setTop (mkF m pc Ls st)) := q.by fun t r => XS.goto X.here hx rfl rfl hd ho hp r
theorem g_ifYes (X : Stand p l e R s m args below meth c T locs cells slots) (hx : p.tables.exec = Jvm.exec) {cd : ClassFile.Cond} {x : Int32} {o : Int} {pc' : Nat} (hd : decode c.code pc = .ok (.ifCond cd o, 3)) (hc : if_icmp.holds cd x 0 = true) (ho : 0 ≤ (pc : Int) + o) (hp : ((pc : Int) + o).toNat = pc') (q : Go p e below P (T.setTop (mkF m pc' Ls st))) : Go p e below P (T.setTop (mkF m pc Ls (.int x :: st))) := q.by fun t r => XS.ifYes X.here hx rfl rfl hd rfl ((if0 _ _).trans hc) ho hp r
theorem g_icmpYes (X : Stand p l e R s m args below meth c T locs cells slots) (hx : p.tables.exec = Jvm.exec) {cd : ClassFile.Cond} {x y : Int32} {o : Int} {pc' : Nat} (hd : decode c.code pc = .ok (.if_icmp cd o, 3)) (hc : if_icmp.holds cd x y = true) (ho : 0 ≤ (pc : Int) + o) (hp : ((pc : Int) + o).toNat = pc') (q : Go p e below P (T.setTop (mkF m pc' Ls st))) : Go p e below P (T.setTop (mkF m pc Ls (.int y :: .int x :: st))) := q.by fun t r => XS.icmpYes X.here hx rfl rfl hd rfl hc ho hp r
theorem g_ifNo (X : Stand p l e R s m args below meth c T locs cells slots) (hx : p.tables.exec = Jvm.exec) {cd : ClassFile.Cond} {o : Int} {x : Int32} (hd : decode c.code pc = .ok (.ifCond cd o, 3)) (hc : if_icmp.holds cd x 0 = false) (q : Go p e below P (T.setTop (mkF m (pc + 3) Ls st))) : Go p e below P (T.setTop (mkF m pc Ls (.int x :: st))) := q.by fun t r => XS.ifNo X.here hx rfl hd rfl ((if0 _ _).trans hc) r
theorem g_icmpNo (X : Stand p l e R s m args below meth c T locs cells slots) (hx : p.tables.exec = Jvm.exec) {cd : ClassFile.Cond} {o : Int} {x y : Int32} (hd : decode c.code pc = .ok (.if_icmp cd o, 3)) (hc : if_icmp.holds cd x y = false) (q : Go p e below P (T.setTop (mkF m (pc + 3) Ls st))) : Go p e below P (T.setTop (mkF m pc Ls (.int y :: .int x :: st))) := q.by fun t r => XS.icmpNo X.here hx rfl hd rfl hc r
theorem g_ifnonnullYes (X : Stand p l e R s m args below meth c T locs cells slots) (hx : p.tables.exec = Jvm.exec) {b : Addr} {o : Int} {pc' : Nat} (hd : decode c.code pc = .ok (.ifnonnull o, 3))  (ho : 0 ≤ (pc : Int) + o) (hp : ((pc : Int) + o).toNat = pc') (q : Go p e below P (T.setTop (mkF m pc' Ls st))) : Go p e below P (T.setTop (mkF m pc Ls (.ref b :: st))) := q.by fun t r => XS.ifnonnullYes X.here hx rfl rfl hd rfl ho hp r
theorem g_ifnonnullNo (X : Stand p l e R s m args below meth c T locs cells slots) (hx : p.tables.exec = Jvm.exec) {o : Int} (hd : decode c.code pc = .ok (.ifnonnull o, 3))  (q : Go p e below P (T.setTop (mkF m (pc + 3) Ls st))) : Go p e below P (T.setTop (mkF m pc Ls (.null :: st))) := q.by fun t r => XS.ifnonnullNo X.here hx rfl hd rfl r
theorem g_ifnullYes (X : Stand p l e R s m args below meth c T locs cells slots) (hx : p.tables.exec = Jvm.exec)  {o : Int} {pc' : Nat} (hd : decode c.code pc = .ok (.ifnull o, 3))  (ho : 0 ≤ (pc : Int) + o) (hp : ((pc : Int) + o).toNat = pc') (q : Go p e below P (T.setTop (mkF m pc' Ls st))) : Go p e below P (T.setTop (mkF m pc Ls (.null :: st))) := q.by fun t r => XS.ifnullYes X.here hx rfl rfl hd rfl ho hp r
theorem g_ifnullNo (X : Stand p l e R s m args below meth c T locs cells slots) (hx : p.tables.exec = Jvm.exec) {o : Int} {b : Addr} (hd : decode c.code pc = .ok (.ifnull o, 3))  (q : Go p e below P (T.setTop (mkF m (pc + 3) Ls st))) : Go p e below P (T.setTop (mkF m pc Ls (.ref b :: st))) := q.by fun t r => XS.ifnullNo X.here hx rfl hd rfl r
theorem g_drem (X : Stand p l e R s m args below meth c T locs cells slots) (hx : p.tables.exec = Jvm.exec) {x y v : UInt64} (hd : decode c.code pc = .ok (.drem, 1)) (hn : Jvm.Free.Fl.NoNaN64 (FP.drem x y)) (hv : FP.drem x y = v) (q : Go p e below P (T.setTop (mkF m (pc + 1) Ls (.double v :: st)))) : Go p e below P (T.setTop (mkF m pc Ls (.double y :: .double x :: st))) := q.by fun t r => by
  subst hv
  have ht := X.here
  show Steps p.tables e below (T.setTop { method := m, pc := pc, locals := Ls, stack := .double y :: .double x :: st, locked := none }) t
  jvm_step ht [ht.top, hx, hd, Op.drem.at_number ht.top hn]
  exact r
theorem g_dup_x2 (X : Stand p l e R s m args below meth c T locs cells slots) (hx : p.tables.exec = Jvm.exec) {x y z : Value} (hd : decode c.code pc = .ok (.dup_x2, 1)) (h1 : x.category = 1) (h2 : y.category = 1) (h3 : z.category = 1) (q : Go p e below P (T.setTop (mkF m (pc + 1) Ls (x :: y :: z :: x :: st)))) : Go p e below P (T.setTop (mkF m pc Ls (x :: y :: z :: st))) := q.by fun t r => by
  have ht := X.here
  show Steps p.tables e below (T.setTop { method := m, pc := pc, locals := Ls, stack := x :: y :: z :: st, locked := none }) t
  jvm_step ht [ht.top, hx, hd, h1, h2, h3]
  exact r
theorem g_ldcI (X : Stand p l e R s m args below meth c T locs cells slots) (hx : p.tables.exec = Jvm.exec) (hZ : Z.Warmed39 s.vm) (hown : s.vm.findClass own = some m.cls) {v : Int32} (w : (Cond.constant own index v).before a0 Z = true) (hd : decode c.code pc = .ok (.ldc index, 2)) (q : Go p e below P (T.setTop (mkF m (pc + 2) Ls (.int v :: st)))) : Go p e below P (T.setTop (mkF m pc Ls st)) := q.by fun t r => X.ldcI hx hown (mvT hZ w) rfl hd r
theorem g_ldc2J (X : Stand p l e R s m args below meth c T locs cells slots) (hx : p.tables.exec = Jvm.exec) (hZ : Z.Warmed39 s.vm) (hown : s.vm.findClass own = some m.cls) {v : Int64} (w : (Cond.constantLong own index v).before a0 Z = true) (hd : decode c.code pc = .ok (.ldc2_w index, 3)) (q : Go p e below P (T.setTop (mkF m (pc + 3) Ls (.long v :: st)))) : Go p e below P (T.setTop (mkF m pc Ls st)) := q.by fun t r => X.ldc2J hx hown (mvT hZ w) rfl hd r
theorem g_ldc2D (X : Stand p l e R s m args below meth c T locs cells slots) (hx : p.tables.exec = Jvm.exec) (hZ : Z.Warmed39 s.vm) (hown : s.vm.findClass own = some m.cls) {v : UInt64} (w : (Cond.constantDouble own index v).before a0 Z = true) (hd : decode c.code pc = .ok (.ldc2_w index, 3)) (q : Go p e below P (T.setTop (mkF m (pc + 3) Ls (.double v :: st)))) : Go p e below P (T.setTop (mkF m pc Ls st)) := q.by fun t r => X.ldc2DoubleC hx hown (mvT hZ w) (g := mkF m pc Ls st) rfl hd t r
theorem g_ldcF (X : Stand p l e R s m args below meth c T locs cells slots) (hx : p.tables.exec = Jvm.exec) (hZ : Z.Warmed39 s.vm) (hown : s.vm.findClass own = some m.cls) {v : UInt32} (w : (Cond.constantFloat own index v).before a0 Z = true) (hd : decode c.code pc = .ok (.ldc index, 2)) (q : Go p e below P (T.setTop (mkF m (pc + 2) Ls (.float v :: st)))) : Go p e below P (T.setTop (mkF m pc Ls st)) := q.by fun t r => X.ldcFloatC hx hown (mvT hZ w) (g := mkF m pc Ls st) rfl hd t r
theorem Ret.end {Q : Option Value → Heap → List Loc → Prop} {C N : Nat} {g : JFrame} (X : Stand p l e R s m args below meth c T locs cells slots) (hx : p.tables.exec = Jvm.exec) (hlk : meth.locks = false) {v : Option Value} (hv : meth.sig.returnType = none → v = none) (stp : ∀ fs, (∀ (f : JFrame) (acts : List Action), f.method = m → f.locked = none → f.entered = [] → (doReturn e (T.setTop f) acts v).1 = T.setFrames fs) → Steps p.tables e below (T.setTop g) (T.setFrames fs)) (hC : cells ≤ C) (hN : slots ≤ N) (hq : Q v T.heap locs) : Go p e below (Ret s Q C N) (T.setTop g) := by
  obtain ⟨fs, hr, hrun, hended, hW, hsame⟩ := X.leave hv hlk
  exact ⟨_, _, stp fs hr, hrun, hended, _, _, rfl, hq, ⟨_, rfl⟩, hW, hsame.mono hC hN⟩
theorem g_ireturn {Q : Option Value → Heap → List Loc → Prop} {C N : Nat} (X : Stand p l e R s m args below meth c T locs cells slots) (hx : p.tables.exec = Jvm.exec) (hlk : meth.locks = false) {w : Int32} {t : FieldType} (hret : meth.sig.returnType = some t) (hn : narrow t (.int w) = .int w) (hti : t = .int ∨ t = .boolean ∨ t = .byte ∨ t = .char ∨ t = .short) (hd : decode c.code pc = .ok (.ireturn, 1)) (hC : cells ≤ C) (hN : slots ≤ N) (hq : Q (some (.int w)) T.heap locs) : Go p e below (Ret s Q C N) (T.setTop (mkF m pc Ls [.int w])) :=
  Ret.end X hx hlk (fun h => by rw [hret] at h; cases h) (fun fs hr => X.ireturnOut hx hret hn hti hd hr) hC hN hq
theorem g_lreturn {Q : Option Value → Heap → List Loc → Prop} {C N : Nat} (X : Stand p l e R s m args below meth c T locs cells slots) (hx : p.tables.exec = Jvm.exec) (hlk : meth.locks = false) {w : Int64} (hret : meth.sig.returnType = some .long) (hd : decode c.code pc = .ok (.lreturn, 1)) (hC : cells ≤ C) (hN : slots ≤ N) (hq : Q (some (.long w)) T.heap locs) : Go p e below (Ret s Q C N) (T.setTop (mkF m pc Ls [.long w])) :=
  Ret.end X hx hlk (fun h => by rw [hret] at h; cases h) (fun fs hr => X.lreturnOut hx hret hd hr) hC hN hq
theorem g_return {Q : Option Value → Heap → List Loc → Prop} {C N : Nat} (X : Stand p l e R s m args below meth c T locs cells slots) (hx : p.tables.exec = Jvm.exec) (hlk : meth.locks = false) (hret : meth.sig.returnType = none) (hd : decode c.code pc = .ok (.return_, 1)) (hC : cells ≤ C) (hN : slots ≤ N) (hq : Q none T.heap locs) : Go p e below (Ret s Q C N) (T.setTop (mkF m pc Ls [])) :=
  Ret.end X hx hlk (fun _ => rfl) (fun fs hr => X.returnOut hx hret hd hr) hC hN hq
theorem g_areturn {Q : Option Value → Heap → List Loc → Prop} {C N : Nat} (X : Stand p l e R s m args below meth c T locs cells slots) (hx : p.tables.exec = Jvm.exec) (hlk : meth.locks = false) {w : Value} {t : FieldType} (hret : meth.sig.returnType = some t) (ht : t.isReference = true) (hw : w.isRef = true) (hd : decode c.code pc = .ok (.areturn, 1)) (hC : cells ≤ C) (hN : slots ≤ N) (hq : Q (some w) T.heap locs) : Go p e below (Ret s Q C N) (T.setTop (mkF m pc Ls [w])) :=
  Ret.end X hx hlk (fun h => by rw [hret] at h; cases h) (fun fs hr => X.areturnOut hx hw hret ht hd hr) hC hN hq
theorem g_dreturn {Q : Option Value → Heap → List Loc → Prop} {C N : Nat} (X : Stand p l e R s m args below meth c T locs cells slots) (hx : p.tables.exec = Jvm.exec) (hlk : meth.locks = false) {w : UInt64} (hret : meth.sig.returnType = some .double) (hd : decode c.code pc = .ok (.dreturn, 1)) (hC : cells ≤ C) (hN : slots ≤ N) (hq : Q (some (.double w)) T.heap locs) : Go p e below (Ret s Q C N) (T.setTop (mkF m pc Ls [.double w])) :=
  Ret.end X hx hlk (fun h => by rw [hret] at h; cases h) (fun fs hr => by
    have hm' : T.vm.method? m = some meth := X.method'
    show Steps p.tables e below (T.setTop { method := m, pc := pc, locals := Ls, stack := [.double w], locked := none }) _
    jvm_step X.here [X.here.top, hx, hd, hm', hret]
    first | (intro acts; rw [hr _ acts rfl rfl rfl]) | rw [hr _ _ rfl rfl rfl]
    exact Steps.refl _) hC hN hq
theorem g_freturn {Q : Option Value → Heap → List Loc → Prop} {C N : Nat} (X : Stand p l e R s m args below meth c T locs cells slots) (hx : p.tables.exec = Jvm.exec) (hlk : meth.locks = false) {w : UInt32} (hret : meth.sig.returnType = some .float) (hd : decode c.code pc = .ok (.freturn, 1)) (hC : cells ≤ C) (hN : slots ≤ N) (hq : Q (some (.float w)) T.heap locs) : Go p e below (Ret s Q C N) (T.setTop (mkF m pc Ls [.float w])) :=
  Ret.end X hx hlk (fun h => by rw [hret] at h; cases h) (fun fs hr => retF X hx hret hd hr) hC hN hq
theorem g_callS (X : Stand p l e R s m args below meth c T locs cells slots) (hx : p.tables.exec = Jvm.exec) (hZ : Z.Warmed39 s.vm) (hown : s.vm.findClass own = some m.cls) {y : MethodName} {bytes : ByteArray} {maxL : Nat} {ret : Option FieldType} (w1 : (Cond.methodLink own index y).before a0 Z = true) (w2 : (Cond.static y).before a0 Z = true) (w3 : (Cond.initialized y.cls).before a0 Z = true) (w4 : (Cond.code y bytes maxL ret).before a0 Z = true) (hy : y.cls ≠ "java/lang/invoke/MethodHandle" ∧ y.cls ≠ "java/lang/invoke/VarHandle") {rm : Room} {as' : Array Value} {Q : Option Value → Heap → List Loc → Prop} (hM : MetFree l y (head1 [Cond.code y bytes maxL ret] rm) (fun a U => a = as' ∧ Z.Warmed39 U.vm ∧ U.heap = h) (fun _ _ _ _ _ => True) (fun _ U o U' => ∃ v L, o = .returned v ∧ Q v U'.heap L ∧ FrameEnd U o U' L rm.cells rm.slots)) (eT : T.heap = h) {W : Nat} (hf : rm.frames + 1 ≤ R.frames) (hlo : W + (maxL + 11) + rm.locals ≤ R.locals) (hsize : Ls.size = c.maxLocals) (argsL rest : List Value) (hlen : ∀ sig, parseMethodDescriptor y.desc = some sig → argsL.length = sig.parameters.length) (hst : st = argsL.reverse ++ rest) (has : argsL.toArray = as') (hW : (rest.map fun v => v.category).sum ≤ W) (hd : decode c.code pc = .ok (.invokestatic index, 3)) (hc : cells + rm.cells ≤ R.cells) (hs : slots + rm.slots ≤ R.slots) (k : ∀ (v : Option Value) (T' : State) (L : List Loc), Stand p l e R s m args below meth c T' (locs ++ L) (cells + rm.cells) (slots + rm.slots) → Q v T'.heap L → Go p e below P (T'.setTop (mkF m (pc + 3) Ls (v.toList ++ rest)))) : Go p e below P (T.setTop (mkF m pc Ls st)) := by
  obtain ⟨v, vm1, ⟨T', L', k', n'⟩, -, X', ⟨L, hQ, l1, y1, z1⟩, stp⟩ := Jvm.LawKit.callS X hx hown (mvT hZ w1) (mvT hZ w2) (mvT hZ w3) (mvT hZ w4) hy (backOf (W := W) hM hZ w4 w3 hf hlo) (g := mkF m pc Ls st) rfl hsize hlen hst (by show 2 * 0 + _ ≤ _; omega) hd (fun _ _ => ⟨has, eT, hc, hs⟩)
  dsimp only [Pt.U, Pt.locs, Pt.cells, Pt.slots] at X' l1 y1 z1 stp hQ
  subst l1 y1 z1
  exact (k v T' L X' hQ).by stp
theorem g_init (X : Stand p l e R s m args below meth c T locs cells slots) (hx : p.tables.exec = Jvm.exec) (hZ : Z.Warmed39 s.vm) (hown : s.vm.findClass own = some m.cls) {y : MethodName} {bytes : ByteArray} {maxL : Nat} (hy1 : y.name = "<init>") (w1 : (Cond.methodLink own index y).before a0 Z = true) (w2 : (Cond.instanceMethod y).before a0 Z = true) (w3 : (Cond.initialized y.cls).before a0 Z = true) (w4 : (Cond.code y bytes maxL none).before a0 Z = true) (hy : y.cls ≠ "java/lang/invoke/MethodHandle" ∧ y.cls ≠ "java/lang/invoke/VarHandle") {rm : Room} {as' : Array Value} {Q : Option Value → Heap → List Loc → Prop} (hM : MetFree l y (head1 [Cond.code y bytes maxL none] rm) (fun a U => a = as' ∧ Z.Warmed39 U.vm ∧ U.heap = h) (fun _ _ _ _ _ => True) (fun _ U o U' => ∃ v L, o = .returned v ∧ Q v U'.heap L ∧ FrameEnd U o U' L rm.cells rm.slots)) (eT : T.heap = h) {W : Nat} (hf : rm.frames + 1 ≤ R.frames) (hlo : W + (maxL + 11) + rm.locals ≤ R.locals) (hsize : Ls.size = c.maxLocals) (a : Addr) (argsL rest : List Value) (hlen : ∀ sig, parseMethodDescriptor y.desc = some sig → argsL.length = sig.parameters.length) (hst : st = argsL.reverse ++ .ref a :: rest) (has : (.ref a :: argsL).toArray = as') (hW : (rest.map fun v => v.category).sum ≤ W) (hd : decode c.code pc = .ok (.invokespecial index, 3)) (hc : cells + rm.cells ≤ R.cells) (hs : slots + rm.slots ≤ R.slots) (k : ∀ (v : Option Value) (T' : State) (L : List Loc), Stand p l e R s m args below meth c T' (locs ++ L) (cells + rm.cells) (slots + rm.slots) → Q v T'.heap L → Go p e below P (T'.setTop (mkF m (pc + 3) Ls (v.toList ++ rest)))) : Go p e below P (T.setTop (mkF m pc Ls st)) := by
  obtain ⟨v, vm1, ⟨T', L', k', n'⟩, -, X', ⟨L, hQ, l1, y1, z1⟩, stp⟩ := X.specialBack hx hy1 hown (mvT hZ w1) (mvT hZ w2) (mvT hZ w4) hy (backOf (W := W) hM hZ w4 w3 hf hlo) (g := mkF m pc Ls st) rfl hsize (Steps.refl _) hlen hst (by show 2 * 0 + _ ≤ _; omega) hd (fun _ _ => ⟨has, eT, hc, hs⟩)
  dsimp only [Pt.U, Pt.locs, Pt.cells, Pt.slots] at X' l1 y1 z1 stp hQ
  subst l1 y1 z1
  exact (k v T' L X' hQ).by fun t r => stp.trans r
theorem g_callV (X : Stand p l e R s m args below meth c T locs cells slots) (hx : p.tables.exec = Jvm.exec) (hZ : Z.Warmed39 s.vm) (hown : s.vm.findClass own = some m.cls) {y : MethodName} {bytes : ByteArray} {maxL : Nat} {ret : Option FieldType} {C : String} (w1 : (Cond.methodLink own index y).before a0 Z = true) (w2 : (Cond.declares y).before a0 Z = true) (w5 : (Cond.selects C y y).before a0 Z = true) (w6 : (Cond.instanceMethod y).before a0 Z = true) (w3 : (Cond.initialized y.cls).before a0 Z = true) (w4 : (Cond.code y bytes maxL ret).before a0 Z = true) (hy : y.cls ≠ "java/lang/invoke/MethodHandle" ∧ y.cls ≠ "java/lang/invoke/VarHandle") {rm : Room} {as' : Array Value} {Q : Option Value → Heap → List Loc → Prop} (hM : MetFree l y (head1 [Cond.code y bytes maxL ret] rm) (fun a U => a = as' ∧ Z.Warmed39 U.vm ∧ U.heap = h) (fun _ _ _ _ _ => True) (fun _ U o U' => ∃ v L, o = .returned v ∧ Q v U'.heap L ∧ FrameEnd U o U' L rm.cells rm.slots)) (eT : T.heap = h) {W : Nat} (hf : rm.frames + 1 ≤ R.frames) (hlo : W + (maxL + 11) + rm.locals ≤ R.locals) (hsize : Ls.size = c.maxLocals) (a : Addr) (E : Exa Z h a C) (argsL rest : List Value) (hlen : ∀ sig, parseMethodDescriptor y.desc = some sig → argsL.length = sig.parameters.length) (hst : st = argsL.reverse ++ .ref a :: rest) (has : (.ref a :: argsL).toArray = as') (hW : (rest.map fun v => v.category).sum ≤ W) (hd : decode c.code pc = .ok (.invokevirtual index, 3)) (hc : cells + rm.cells ≤ R.cells) (hs : slots + rm.slots ≤ R.slots) (k : ∀ (v : Option Value) (T' : State) (L : List Loc), Stand p l e R s m args below meth c T' (locs ++ L) (cells + rm.cells) (slots + rm.slots) → Q v T'.heap L → Go p e below P (T'.setTop (mkF m (pc + 3) Ls (v.toList ++ rest)))) : Go p e below P (T.setTop (mkF m pc Ls st)) := by
  obtain ⟨cq, kq, qa, qb, qc⟩ := isOf hZ eT E
  obtain ⟨v, vm1, ⟨T', L', k', n'⟩, -, X', ⟨L, hQ, l1, y1, z1⟩, stp⟩ := X.virtualBack hx (y := y) (z := y) hown (mvT hZ w1) (mvT hZ w2) (notFace_of_selects (args := #[]) (mvT hZ w5)) (mvT hZ w5) (mvT hZ w6) hy (backOf (W := W) hM hZ w4 w3 hf hlo) qa qc (g := mkF m pc Ls st) rfl hsize (Steps.refl _) hlen hst (by show 2 * 0 + _ ≤ _; omega) hd (fun _ _ => ⟨has, eT, hc, hs⟩)
  dsimp only [Pt.U, Pt.locs, Pt.cells, Pt.slots] at X' l1 y1 z1 stp hQ
  subst l1 y1 z1
  exact (k v T' L X' hQ).by fun t r => stp.trans r
theorem g_absD (X : Stand p l e R s m args below meth c T locs cells slots) (hx : p.tables.exec = Jvm.exec) (hZ : Z.Warmed39 s.vm) (hown : s.vm.findClass own = some m.cls) (w1 : (Cond.methodLink own index Jvm.Free.Fl.Abs.absDN).before a0 Z = true) (w2 : (Cond.static Jvm.Free.Fl.Abs.absDN).before a0 Z = true) (w3 : (Cond.initialized "java/lang/Math").before a0 Z = true) (w4 : (Cond.code Jvm.Free.Fl.Abs.absDN Jvm.Free.Fl.Abs.absDCode 2 (some .double)).before a0 Z = true) (eT : T.heap = h) (hsize : Ls.size = c.maxLocals) {a : UInt64} (hn : Jvm.Free.Fl.NoNaN64 a) (hfr : 1 ≤ R.frames) {W : Nat} (hW : (st.map fun v => v.category).sum ≤ W) (hlo : W + 13 ≤ R.locals) (hc : cells ≤ R.cells) (hs : slots ≤ R.slots) (hd : decode c.code pc = .ok (.invokestatic index, 3))
    (k : ∀ T', Stand p l e R s m args below meth c T' locs cells slots → T'.heap = h → Go p e below P (T'.setTop (mkF m (pc + 3) Ls (.double (a &&& 0x7fffffffffffffff) :: st)))) : Go p e below P (T.setTop (mkF m pc Ls (.double a :: st))) := by
  obtain ⟨T', X', e', stp⟩ := natS X hx hZ hown w1 w2 w3 w4 (by decide) eT (W := W) (F := fun a' => a' = #[.double a] ∧ Jvm.Free.Fl.NoNaN64 a) (val := .double (a &&& 0x7fffffffffffffff)) (val' := .double (a &&& 0x7fffffffffffffff)) (fun q => Jvm.Free.Fl.Abs.absD_pays a q hfr hlo) (g := mkF m pc Ls (.double a :: st)) rfl hsize (argsL := [.double a]) (rest := st) (lenOf (ps := [.double]) (r := some .double) (by decide +kernel) rfl) rfl (by show 2 * 0 + _ ≤ _; omega) hd hc hs ⟨rfl, hn⟩ rfl
  exact (k T' X' e').by stp
theorem g_objInit (X : Stand p l e R s m args below meth c T locs cells slots) (hx : p.tables.exec = Jvm.exec) (hZ : Z.Warmed39 s.vm) (hown : s.vm.findClass own = some m.cls) (w1 : (Cond.methodLink own index Lib.objectInit).before a0 Z = true) (w2 : (Cond.instanceMethod Lib.objectInit).before a0 Z = true) (w3 : (Cond.code Lib.objectInit ⟨#[0xb1]⟩ 1 none).before a0 Z = true) (eT : T.heap = h) (hsize : Ls.size = c.maxLocals) {a : Addr} (hd : decode c.code pc = .ok (.invokespecial index, 3)) (hf : 1 ≤ R.frames) {W : Nat} (hW : (st.map fun v => v.category).sum ≤ W) (hlo : W + 12 ≤ R.locals)
    (k : ∀ T', Stand p l e R s m args below meth c T' locs cells slots → T'.heap = h → Go p e below P (T'.setTop (mkF m (pc + 3) Ls st))) : Go p e below P (T.setTop (mkF m pc Ls (.ref a :: st))) := by
  obtain ⟨T', X', e', stp⟩ := initO X hx hZ hown w1 w2 w3 eT (g := mkF m pc Ls (.ref a :: st)) rfl hsize rfl hd hf (W := W) (by show 2 * 0 + _ ≤ _; omega) hlo
  exact (k T' X' e').by stp
theorem g_new (X : Stand p l e R s m args below meth c T locs cells slots) (hx : p.tables.exec = Jvm.exec) (hZ : Z.Warmed39 s.vm) (hown : s.vm.findClass own = some m.cls) {C : String} {n : Nat} (w : (Cond.classLink own index C).before a0 Z = true) (wi : (Cond.instantiable C n).before a0 Z = true) (wz : (Cond.initialized C).before a0 Z = true) (eT : T.heap = h) (hd : decode c.code pc = .ok (.new index, 3)) (hc : cells + 1 ≤ R.cells) (hl : slots + n ≤ R.slots)
    (k : ∀ T' h' a, a = h.size → Stand p l e R s m args below meth c T' locs (cells + 1) (slots + n) → T'.heap = h' → Ext h h' → Exa Z h' a C → (∀ {O nm d : String} {ty : FieldType}, Laid Z a0 C O nm d → parseFieldDescriptor d = some ty → Fld Z h' a O nm d (defaultValue ty)) → Go p e below P (T'.setTop (mkF m (pc + 3) Ls (.ref a :: st)))) : Go p e below P (T.setTop (mkF m pc Ls st)) := by
  obtain ⟨T', h', X', e', E, A, D, -, stp⟩ := newO X hx hZ hown w wi wz eT (g := mkF m pc Ls st) rfl hd hc hl
  exact (k T' h' _ rfl X' e' E A D).by stp
theorem g_getF (X : Stand p l e R s m args below meth c T locs cells slots) (hx : p.tables.exec = Jvm.exec) (hZ : Z.Warmed39 s.vm) (hown : s.vm.findClass own = some m.cls) {O n d : String} (w : (Cond.fieldLink own index O n d).before a0 Z = true) (eT : T.heap = h) {a : Addr} {v : Value} (F : Fld Z h a O n d v) (hd : decode c.code pc = .ok (.getfield index, 3))
    (k : ∀ T', Stand p l e R s m args below meth c T' locs cells slots → T'.heap = h → Go p e below P (T'.setTop (mkF m (pc + 3) Ls (v :: st)))) : Go p e below P (T.setTop (mkF m pc Ls (.ref a :: st))) := by
  obtain ⟨T', X', e', stp⟩ := getF X hx hZ hown (host := "") (Or.inl w) Via.refl eT F (g := mkF m pc Ls (.ref a :: st)) rfl rfl hd
  exact (k T' X' e').by stp
theorem g_getS (X : Stand p l e R s m args below meth c T locs cells slots) (hx : p.tables.exec = Jvm.exec) (hZ : Z.Warmed39 s.vm) (hown : s.vm.findClass own = some m.cls) {O n d : String} (w : (Cond.fieldLink own index O n d).before a0 Z = true) (eT : T.heap = h) {v : Value} (F : Sta Z h O n d v) (hd : decode c.code pc = .ok (.getstatic index, 3))
    (k : ∀ T', Stand p l e R s m args below meth c T' locs cells slots → T'.heap = h → Go p e below P (T'.setTop (mkF m (pc + 3) Ls (v :: st)))) : Go p e below P (T.setTop (mkF m pc Ls st)) := by
  obtain ⟨T', X', e', stp⟩ := getS X hx hZ hown (host := "") w Via.refl eT F (g := mkF m pc Ls st) rfl hd
  exact (k T' X' e').by stp
theorem g_putF (X : Stand p l e R s m args below meth c T locs cells slots) (hx : p.tables.exec = Jvm.exec) (hZ : Z.Warmed39 s.vm) (hown : s.vm.findClass own = some m.cls) {O n d C : String} {kk : Nat} {ty : FieldType} (w : (Cond.fieldLink own index O n d).before a0 Z = true) (eT : T.heap = h) {a : Addr} {v old : Value} (F : Fld Z h a O n d old) (E : Exa Z h a C) (L : (Cond.lays C O n d).before a0 Z = true ∨ ((Cond.laysFinal C O n d).before a0 Z = true ∧ own = O ∧ meth.name = "<init>")) (wi : (Cond.instantiable C kk).before a0 Z = true) (hty : parseFieldDescriptor d = some ty) (hn : narrow ty v = v) (hf : fits ty v = true) (hd : decode c.code pc = .ok (.putfield index, 3))
    (k : ∀ T' h', Stand p l e R s m args below meth c T' (locs ++ [⟨a, Jvm.RoadKit.slotOf Z O n d⟩]) cells slots → T'.heap = h' → Wr h h' a (Jvm.RoadKit.slotOf Z O n d) v → Go p e below P (T'.setTop (mkF m (pc + 3) Ls st))) : Go p e below P (T.setTop (mkF m pc Ls (v :: .ref a :: st))) := by
  obtain ⟨T', h', X', e', W, stp⟩ := putF X hx hZ hown (host := "") (Or.inl w) Via.refl eT F E L wi hty hn hf (g := mkF m pc Ls (v :: .ref a :: st)) rfl rfl hd
  exact (k T' h' X' e' W).by stp
theorem g_newP (X : Stand p l e R s m args below meth c T locs cells slots) (hx : p.tables.exec = Jvm.exec) (hZ : Z.Warmed39 s.vm) {aty : ArrayType} {ty : FieldType} (hty : newarray.typeOf aty = ty) (w : (Cond.arrayClass ty).before a0 Z = true) (eT : T.heap = h) (hd : decode c.code pc = .ok (.newarray aty, 2)) {n : Int32} (hn : ¬ n < 0) {cap : Nat} (hcap : n.toNatClampNeg ≤ cap) (hb : cap * 8 ≤ 536870912) (hc : cells + 1 ≤ R.cells) (hl : slots + cap ≤ R.slots)
    (k : ∀ T' h' a cA, a = h.size → Stand p l e R s m args below meth c T' locs (cells + 1) (slots + cap) → T'.heap = h' → Ext h h' → Arr Z h' a (newA cA ty n) ty → Go p e below P (T'.setTop (mkF m (pc + 2) Ls (.ref a :: st)))) : Go p e below P (T.setTop (mkF m pc Ls (.int n :: st))) := by
  subst hty
  obtain ⟨T', h', cA, X', e', E, A, stp⟩ := newP X hx hZ w eT (g := mkF m pc Ls (.int n :: st)) rfl hd rfl hn hcap hb hc hl
  exact (k T' h' _ cA rfl X' e' E A).by stp
theorem fld_any {C O O' n n' d d' : String} {v : Value} {a : Addr} {kk : Nat} (E : Exa Z h a C) (F : Fld Z h a O n d v) (wi : (Cond.instantiable C kk).before a0 Z = true) (L : Laid Z a0 C O' n' d') : ∃ w, Fld Z h a O' n' d' w := by
  obtain ⟨cell, k, h1, h2, h3, h4, h5⟩ := E
  obtain ⟨cell', cf, k', i, f, g1, g2, g3, g4, g5, g6, g7⟩ := F
  cases h1.symm.trans g1
  obtain ⟨c1, k1, cf1, kf1, i1, f1, l1, l2, l3, l4, l5, l6, -⟩ := L.spec
  obtain ⟨c2, k2, j1, j2, j3, -⟩ := Cond.instantiable_spec wi
  cases h2.symm.trans l1
  cases h3.symm.trans l2
  cases l1.symm.trans j1
  cases h3.symm.trans j2
  have hsz := h5 j3
  obtain ⟨hlt, -⟩ := Array.getElem?_eq_some_iff.mp l6
  exact ⟨_, cell, cf1, kf1, i1, f1, g1, l3, l4, g4, g5, l5, Array.getElem?_eq_getElem (by rw [hsz]; exact hlt)⟩
/-- an array by a function of the place -/
def Av (Z : State) (h : Heap) (a : Addr) (ty : FieldType) (n : Nat) (f : Nat → Value) : Prop := ∃ cl : Cell, Arr Z h a cl ty ∧ cl.slots.size = n ∧ ∀ i, i < n → cl.slots[i]? = some (f i)
theorem Av.lt {a : Addr} {ty : FieldType} {n : Nat} {f : Nat → Value} (F : Av Z h a ty n f) : a < h.size := by obtain ⟨cl, A, -⟩ := F; exact A.lt
theorem Av.ext {h' : Heap} {a : Addr} {ty : FieldType} {n : Nat} {f : Nat → Value} (F : Av Z h a ty n f) (E : Ext h h') : Av Z h' a ty n f := by obtain ⟨cl, A, B⟩ := F; exact ⟨cl, A.ext E, B⟩
theorem Av.other {h' : Heap} {a b : Addr} {sl : Nat} {v : Value} {ty : FieldType} {n : Nat} {f : Nat → Value} (F : Av Z h b ty n f) (W : Wr h h' a sl v) (q : b ≠ a) : Av Z h' b ty n f := by obtain ⟨cl, A, B⟩ := F; exact ⟨cl, A.other W q, B⟩
theorem Av.keep {h' : Heap} {a : Addr} {ws : List Addr} {ty : FieldType} {n : Nat} {f : Nat → Value} (F : Av Z h a ty n f) (K : Keep h h' ws) (q : a ∉ ws) : Av Z h' a ty n f := by obtain ⟨cl, A, B⟩ := F; exact ⟨cl, ⟨K.2.1 a cl A.1 q, A.2⟩, B⟩
theorem Av.new {a : Addr} {cA : ClassId} {ty : FieldType} {n : Int32} (A : Arr Z h a (newA cA ty n) ty) : Av Z h a ty n.toNatClampNeg (fun _ => defaultValue ty) := ⟨_, A, sz_new _ _ _, fun i hi => by simp [newA, hi]⟩
theorem Av.newK {a : Addr} {cA : ClassId} {ty : FieldType} {n : Int32} {k : Nat} (A : Arr Z h a (newA cA ty n) ty) (hk : n.toNatClampNeg = k) : Av Z h a ty k (fun _ => defaultValue ty) := hk ▸ Av.new A
theorem Av.congr {a : Addr} {ty : FieldType} {n : Nat} {f f' : Nat → Value} (F : Av Z h a ty n f) (q : ∀ i, i < n → f i = f' i) : Av Z h a ty n f' := by obtain ⟨cl, A, B, C⟩ := F; exact ⟨cl, A, B, fun i hi => by rw [C i hi, q i hi]⟩
theorem Av.same {h' : Heap} {a : Addr} {i : Nat} {v : Value} {ty : FieldType} {n : Nat} {f : Nat → Value} (F : Av Z h a ty n f) (W : Wr h h' a i v) : Av Z h' a ty n (fun j => if j = i then v else f j) := by
  obtain ⟨cl, A, B, C⟩ := F
  refine ⟨_, A.same W, by rw [sz_set]; exact B, fun j hj => ?_⟩
  obtain ⟨cb, hb1, -, -, -, -, hb2, hb3⟩ := wr_at W A.1
  have e1 := (A.same W).1
  have e2 : cb = cl.setSlot i v := Option.some.inj (hb1.symm.trans e1)
  by_cases q : j = i
  · subst q; rw [← e2, (hb3 rfl).2.1]; simp
  · rw [← e2, hb2 j q, C j hj]; simp [q]
theorem out_idx {j : Int32} {n : Nat} (h0 : 0 ≤ j.toInt) (h1 : j.toInt < n) : ¬ (j < 0 ∨ n ≤ j.toNatClampNeg) := by
  have e : (j.toNatClampNeg : Int) = j.toInt := by rw [Int32.toNatClampNeg]; omega
  intro q
  rcases q with q | q
  · have := Int32.lt_iff_toInt_lt.mp q; simp at this; omega
  · omega
theorem g_iaload (X : Stand p l e R s m args below meth c T locs cells slots) (hx : p.tables.exec = Jvm.exec) (hZ : Z.Warmed39 s.vm) (eT : T.heap = h) {a : Addr} {n : Nat} {f : Nat → Value} (F : Av Z h a .int n f) {j : Int32} {i : Nat} {v : Value} (hj0 : 0 ≤ j.toInt) (hj1 : j.toInt < n) (hi : j.toNatClampNeg = i) (hv : f i = v) (hd : decode c.code pc = .ok (.iaload, 1)) (q : Go p e below P (T.setTop (mkF m (pc + 1) Ls (v :: st)))) : Go p e below P (T.setTop (mkF m pc Ls (.int j :: .ref a :: st))) := by
  obtain ⟨cl, A, B, C⟩ := F
  have hin := out_idx hj0 hj1
  subst hi hv
  exact q.by fun t r => X.iaload hx (by rw [eT]; exact A.1) (State.isArrayOf_alike hZ.alike A.2.1) A.2.2 (by rw [B]; exact hin) (C _ (by omega)) (g := mkF m pc Ls (.int j :: .ref a :: st)) rfl rfl hd t r
theorem g_laload (X : Stand p l e R s m args below meth c T locs cells slots) (hx : p.tables.exec = Jvm.exec) (hZ : Z.Warmed39 s.vm) (eT : T.heap = h) {a : Addr} {n : Nat} {f : Nat → Value} (F : Av Z h a .long n f) {j : Int32} {i : Nat} {v : Value} (hj0 : 0 ≤ j.toInt) (hj1 : j.toInt < n) (hi : j.toNatClampNeg = i) (hv : f i = v) (hd : decode c.code pc = .ok (.laload, 1)) (q : Go p e below P (T.setTop (mkF m (pc + 1) Ls (v :: st)))) : Go p e below P (T.setTop (mkF m pc Ls (.int j :: .ref a :: st))) := by
  obtain ⟨cl, A, B, C⟩ := F
  have hin := out_idx hj0 hj1
  subst hi hv
  exact q.by fun t r => X.laload hx (by rw [eT]; exact A.1) (State.isArrayOf_alike hZ.alike A.2.1) A.2.2 (by rw [B]; exact hin) (C _ (by omega)) (g := mkF m pc Ls (.int j :: .ref a :: st)) rfl rfl hd t r
theorem g_daload (X : Stand p l e R s m args below meth c T locs cells slots) (hx : p.tables.exec = Jvm.exec) (hZ : Z.Warmed39 s.vm) (eT : T.heap = h) {a : Addr} {n : Nat} {f : Nat → Value} (F : Av Z h a .double n f) {j : Int32} {i : Nat} {v : Value} (hj0 : 0 ≤ j.toInt) (hj1 : j.toInt < n) (hi : j.toNatClampNeg = i) (hv : f i = v) (hd : decode c.code pc = .ok (.daload, 1)) (q : Go p e below P (T.setTop (mkF m (pc + 1) Ls (v :: st)))) : Go p e below P (T.setTop (mkF m pc Ls (.int j :: .ref a :: st))) := by
  obtain ⟨cl, A, B, C⟩ := F
  have hin := out_idx hj0 hj1
  subst hi hv
  exact q.by fun t r => X.daload hx (by rw [eT]; exact A.1) (State.isArrayOf_alike hZ.alike A.2.1) A.2.2 (by rw [B]; exact hin) (C _ (by omega)) (g := mkF m pc Ls (.int j :: .ref a :: st)) rfl rfl hd t r
theorem g_caload (X : Stand p l e R s m args below meth c T locs cells slots) (hx : p.tables.exec = Jvm.exec) (hZ : Z.Warmed39 s.vm) (eT : T.heap = h) {a : Addr} {n : Nat} {f : Nat → Value} (F : Av Z h a .char n f) {j : Int32} {i : Nat} {v : Value} (hj0 : 0 ≤ j.toInt) (hj1 : j.toInt < n) (hi : j.toNatClampNeg = i) (hv : f i = v) (hd : decode c.code pc = .ok (.caload, 1)) (q : Go p e below P (T.setTop (mkF m (pc + 1) Ls (v :: st)))) : Go p e below P (T.setTop (mkF m pc Ls (.int j :: .ref a :: st))) := by
  obtain ⟨cl, A, B, C⟩ := F
  have hin := out_idx hj0 hj1
  subst hi hv
  exact q.by fun t r => X.caload hx (by rw [eT]; exact A.1) (State.isArrayOf_alike hZ.alike A.2.1) A.2.2 (by rw [B]; exact hin) (C _ (by omega)) (g := mkF m pc Ls (.int j :: .ref a :: st)) rfl rfl hd t r
theorem g_baloadB (X : Stand p l e R s m args below meth c T locs cells slots) (hx : p.tables.exec = Jvm.exec) (hZ : Z.Warmed39 s.vm) (eT : T.heap = h) {a : Addr} {n : Nat} {f : Nat → Value} (F : Av Z h a .byte n f) {j : Int32} {i : Nat} {v : Value} (hj0 : 0 ≤ j.toInt) (hj1 : j.toInt < n) (hi : j.toNatClampNeg = i) (hv : f i = v) (hd : decode c.code pc = .ok (.baload, 1)) (q : Go p e below P (T.setTop (mkF m (pc + 1) Ls (v :: st)))) : Go p e below P (T.setTop (mkF m pc Ls (.int j :: .ref a :: st))) := by
  obtain ⟨cl, A, B, C⟩ := F
  have hin := out_idx hj0 hj1
  subst hi hv
  exact q.by fun t r => X.baloadBytes hx (by rw [eT]; exact A.1) (State.isArrayOf_alike hZ.alike A.2.1) A.2.2 (by rw [B]; exact hin) (C _ (by omega)) (g := mkF m pc Ls (.int j :: .ref a :: st)) rfl rfl hd t r
theorem g_baloadZ (X : Stand p l e R s m args below meth c T locs cells slots) (hx : p.tables.exec = Jvm.exec) (hZ : Z.Warmed39 s.vm) (eT : T.heap = h) {a : Addr} {n : Nat} {f : Nat → Value} (F : Av Z h a .boolean n f) {j : Int32} {i : Nat} {v : Value} (hj0 : 0 ≤ j.toInt) (hj1 : j.toInt < n) (hi : j.toNatClampNeg = i) (hv : f i = v) (hd : decode c.code pc = .ok (.baload, 1)) (q : Go p e below P (T.setTop (mkF m (pc + 1) Ls (v :: st)))) : Go p e below P (T.setTop (mkF m pc Ls (.int j :: .ref a :: st))) := by
  obtain ⟨cl, A, B, C⟩ := F
  have hin := out_idx hj0 hj1
  subst hi hv
  exact q.by fun t r => X.baloadBooleans hx (by rw [eT]; exact A.1) (State.isArrayOf_alike hZ.alike A.2.1) A.2.2 (by rw [B]; exact hin) (C _ (by omega)) (g := mkF m pc Ls (.int j :: .ref a :: st)) rfl rfl hd t r
theorem g_iastore (X : Stand p l e R s m args below meth c T locs cells slots) (hx : p.tables.exec = Jvm.exec) (hZ : Z.Warmed39 s.vm) (eT : T.heap = h) {a : Addr} {n : Nat} {f : Nat → Value} (F : Av Z h a .int n f) {j : Int32} {i : Nat} {x : Int32} (hj0 : 0 ≤ j.toInt) (hj1 : j.toInt < n) (hi : j.toNatClampNeg = i) (hd : decode c.code pc = .ok (.iastore, 1))
    (k : ∀ T' h', Stand p l e R s m args below meth c T' (locs ++ [⟨a, i⟩]) cells slots → T'.heap = h' → Wr h h' a i (.int x) → Go p e below P (T'.setTop (mkF m (pc + 1) Ls st))) : Go p e below P (T.setTop (mkF m pc Ls (.int x :: .int j :: .ref a :: st))) := by
  obtain ⟨cl, A, B, C⟩ := F
  have hin := out_idx hj0 hj1
  subst hi
  obtain ⟨T', h', X', e', W, stp⟩ := stI X hx hZ eT A (x := x) (by rw [B]; exact hin) (g := mkF m pc Ls (.int x :: .int j :: .ref a :: st)) rfl rfl hd
  exact (k T' h' X' e' W).by stp
theorem g_lastore (X : Stand p l e R s m args below meth c T locs cells slots) (hx : p.tables.exec = Jvm.exec) (hZ : Z.Warmed39 s.vm) (eT : T.heap = h) {a : Addr} {n : Nat} {f : Nat → Value} (F : Av Z h a .long n f) {j : Int32} {i : Nat} {x : Int64} (hj0 : 0 ≤ j.toInt) (hj1 : j.toInt < n) (hi : j.toNatClampNeg = i) (hd : decode c.code pc = .ok (.lastore, 1))
    (k : ∀ T' h', Stand p l e R s m args below meth c T' (locs ++ [⟨a, i⟩]) cells slots → T'.heap = h' → Wr h h' a i (.long x) → Go p e below P (T'.setTop (mkF m (pc + 1) Ls st))) : Go p e below P (T.setTop (mkF m pc Ls (.long x :: .int j :: .ref a :: st))) := by
  obtain ⟨cl, A, B, C⟩ := F
  have hin := out_idx hj0 hj1
  subst hi
  obtain ⟨T', h', X', e', W, stp⟩ := stJ X hx hZ eT A (x := x) (by rw [B]; exact hin) (g := mkF m pc Ls (.long x :: .int j :: .ref a :: st)) rfl rfl hd
  exact (k T' h' X' e' W).by stp
theorem g_dastore (X : Stand p l e R s m args below meth c T locs cells slots) (hx : p.tables.exec = Jvm.exec) (hZ : Z.Warmed39 s.vm) (eT : T.heap = h) {a : Addr} {n : Nat} {f : Nat → Value} (F : Av Z h a .double n f) {j : Int32} {i : Nat} {x : UInt64} (hj0 : 0 ≤ j.toInt) (hj1 : j.toInt < n) (hi : j.toNatClampNeg = i) (hd : decode c.code pc = .ok (.dastore, 1))
    (k : ∀ T' h', Stand p l e R s m args below meth c T' (locs ++ [⟨a, i⟩]) cells slots → T'.heap = h' → Wr h h' a i (.double x) → Go p e below P (T'.setTop (mkF m (pc + 1) Ls st))) : Go p e below P (T.setTop (mkF m pc Ls (.double x :: .int j :: .ref a :: st))) := by
  obtain ⟨cl, A, B, C⟩ := F
  have hin := out_idx hj0 hj1
  subst hi
  obtain ⟨T', h', X', e', W, stp⟩ := stD X hx hZ eT A (x := x) (by rw [B]; exact hin) (g := mkF m pc Ls (.double x :: .int j :: .ref a :: st)) rfl rfl hd
  exact (k T' h' X' e' W).by stp
theorem g_castore (X : Stand p l e R s m args below meth c T locs cells slots) (hx : p.tables.exec = Jvm.exec) (hZ : Z.Warmed39 s.vm) (eT : T.heap = h) {a : Addr} {n : Nat} {f : Nat → Value} (F : Av Z h a .char n f) {j : Int32} {i : Nat} {x : Int32} (hj0 : 0 ≤ j.toInt) (hj1 : j.toInt < n) (hi : j.toNatClampNeg = i) (hd : decode c.code pc = .ok (.castore, 1))
    (k : ∀ T' h', Stand p l e R s m args below meth c T' (locs ++ [⟨a, i⟩]) cells slots → T'.heap = h' → Wr h h' a i (.int (nar .char x)) → Go p e below P (T'.setTop (mkF m (pc + 1) Ls st))) : Go p e below P (T.setTop (mkF m pc Ls (.int x :: .int j :: .ref a :: st))) := by
  obtain ⟨cl, A, B, C⟩ := F
  have hin := out_idx hj0 hj1
  subst hi
  obtain ⟨T', h', X', e', W, stp⟩ := stC X hx hZ eT A (x := x) (by rw [B]; exact hin) (g := mkF m pc Ls (.int x :: .int j :: .ref a :: st)) rfl rfl hd
  exact (k T' h' X' e' W).by stp
theorem g_bastoreB (X : Stand p l e R s m args below meth c T locs cells slots) (hx : p.tables.exec = Jvm.exec) (hZ : Z.Warmed39 s.vm) (eT : T.heap = h) {a : Addr} {n : Nat} {f : Nat → Value} (F : Av Z h a .byte n f) {j : Int32} {i : Nat} {x : Int32} (hj0 : 0 ≤ j.toInt) (hj1 : j.toInt < n) (hi : j.toNatClampNeg = i) (hd : decode c.code pc = .ok (.bastore, 1))
    (k : ∀ T' h', Stand p l e R s m args below meth c T' (locs ++ [⟨a, i⟩]) cells slots → T'.heap = h' → Wr h h' a i (.int (nar .byte x)) → Go p e below P (T'.setTop (mkF m (pc + 1) Ls st))) : Go p e below P (T.setTop (mkF m pc Ls (.int x :: .int j :: .ref a :: st))) := by
  obtain ⟨cl, A, B, C⟩ := F
  have hin := out_idx hj0 hj1
  subst hi
  obtain ⟨T', h', X', e', W, stp⟩ := stB X hx hZ eT A (x := x) (by rw [B]; exact hin) (g := mkF m pc Ls (.int x :: .int j :: .ref a :: st)) rfl rfl hd
  exact (k T' h' X' e' W).by stp
theorem g_bastoreZ (X : Stand p l e R s m args below meth c T locs cells slots) (hx : p.tables.exec = Jvm.exec) (hZ : Z.Warmed39 s.vm) (eT : T.heap = h) {a : Addr} {n : Nat} {f : Nat → Value} (F : Av Z h a .boolean n f) {j : Int32} {i : Nat} {x : Int32} (hj0 : 0 ≤ j.toInt) (hj1 : j.toInt < n) (hi : j.toNatClampNeg = i) (hd : decode c.code pc = .ok (.bastore, 1))
    (k : ∀ T' h', Stand p l e R s m args below meth c T' (locs ++ [⟨a, i⟩]) cells slots → T'.heap = h' → Wr h h' a i (.int (nar .boolean x)) → Go p e below P (T'.setTop (mkF m (pc + 1) Ls st))) : Go p e below P (T.setTop (mkF m pc Ls (.int x :: .int j :: .ref a :: st))) := by
  obtain ⟨cl, A, B, C⟩ := F
  have hin := out_idx hj0 hj1
  subst hi
  obtain ⟨T', h', X', e', W, stp⟩ := stZ X hx hZ eT A (x := x) (by rw [B]; exact hin) (g := mkF m pc Ls (.int x :: .int j :: .ref a :: st)) rfl rfl hd
  exact (k T' h' X' e' W).by stp
theorem g_arraylength (X : Stand p l e R s m args below meth c T locs cells slots) (hx : p.tables.exec = Jvm.exec) (hZ : Z.Warmed39 s.vm) (eT : T.heap = h) {a : Addr} {ty : FieldType} {n : Nat} {f : Nat → Value} (F : Av Z h a ty n f) {v : Int32} (hv : n.toInt32 = v) (hd : decode c.code pc = .ok (.arraylength, 1)) (q : Go p e below P (T.setTop (mkF m (pc + 1) Ls (.int v :: st)))) : Go p e below P (T.setTop (mkF m pc Ls (.ref a :: st))) := by
  obtain ⟨cl, A, B, C⟩ := F
  subst hv B
  exact q.by fun t r => X.arraylength hx (by rw [eT]; exact A.1) (State.isArrayOf_alike hZ.alike A.2.1) (g := mkF m pc Ls (.ref a :: st)) rfl rfl hd t r
theorem cv_g_lt (r : Option Ordering) : cmpValue r .g < 0 ↔ r = some .lt := by rcases r with _ | (_ | _ | _) <;> decide
theorem cv_g_gt (r : Option Ordering) : 0 < cmpValue r .g ↔ (r = some .gt ∨ r = none) := by rcases r with _ | (_ | _ | _) <;> decide
theorem cv_l_lt (r : Option Ordering) : cmpValue r .l < 0 ↔ (r = some .lt ∨ r = none) := by rcases r with _ | (_ | _ | _) <;> decide
theorem cv_l_gt (r : Option Ordering) : 0 < cmpValue r .l ↔ r = some .gt := by rcases r with _ | (_ | _ | _) <;> decide
theorem cv_g_eq (r : Option Ordering) : cmpValue r .g = 0 ↔ r = some .eq := by rcases r with _ | (_ | _ | _) <;> decide
theorem cv_l_eq (r : Option Ordering) : cmpValue r .l = 0 ↔ r = some .eq := by rcases r with _ | (_ | _ | _) <;> decide
end OwnKit

def own_min (a b : Int32) : Int32 := if b < a then b else a
def own_max (a b : Int32) : Int32 := if a < b then b else a
section OwnMono
open Jvm.FP.Core
theorem own_qle : b32.qmin ≤ 0 := by decide
theorem own_monoM {s t : Bool} {A B : Nat} (h : A < B) (hs : ∃ c q, roundRatio b32 s A 1 0 = .fin s c q) (ht : ∃ c q, roundRatio b32 t B 1 0 = .fin t c q) : zmag b32 (roundRatio b32 s A 1 0) ≤ zmag b32 (roundRatio b32 t B 1 0) := by
  obtain ⟨c, q, e1⟩ := hs
  obtain ⟨d, r, e2⟩ := ht
  have f1 := roundRatio_fits good_b32 s A (B := 1) (by decide) 0
  have f2 := roundRatio_fits good_b32 t B (B := 1) (by decide) 0
  rw [e1] at f1; rw [e2] at f2
  have n1 : (((inUnits A 0 b32.qmin : Nat) : Int) - ((inUnits c q b32.qmin : Nat) : Int) * ((1 : Nat) : Int)).natAbs ≤ (((inUnits A 0 b32.qmin : Nat) : Int) - ((inUnits d r b32.qmin : Nat) : Int) * ((1 : Nat) : Int)).natAbs :=
    roundRatio_nearest good_b32 (e0 := b32.qmin) (by decide : 0 < 1) e1 (c' := d) (q' := r) f2.1 f2.2.1 (Int.le_refl _) own_qle
  have n2 : (((inUnits B 0 b32.qmin : Nat) : Int) - ((inUnits d r b32.qmin : Nat) : Int) * ((1 : Nat) : Int)).natAbs ≤ (((inUnits B 0 b32.qmin : Nat) : Int) - ((inUnits c q b32.qmin : Nat) : Int) * ((1 : Nat) : Int)).natAbs :=
    roundRatio_nearest good_b32 (e0 := b32.qmin) (by decide : 0 < 1) e2 (c' := c) (q' := q) f1.1 f1.2.1 (Int.le_refl _) own_qle
  have hab : inUnits A 0 b32.qmin < inUnits B 0 b32.qmin := Nat.mul_lt_mul_of_pos_right h (Nat.two_pow_pos _)
  rw [e1, e2]
  show inUnits c q b32.qmin ≤ inUnits d r b32.qmin
  generalize inUnits A 0 b32.qmin = a at *
  generalize inUnits B 0 b32.qmin = b at *
  generalize inUnits c q b32.qmin = x at *
  generalize inUnits d r b32.qmin = y at *
  omega
theorem own_vi (x : Int32) : val32 (i2f x) = roundRatio b32 (decide (x.toInt < 0)) x.toInt.natAbs 1 0 := val32_of32 (round_fits good_b32 _)
theorem own_fi (x : Int32) : ∃ c q, roundRatio b32 (decide (x.toInt < 0)) x.toInt.natAbs 1 0 = .fin (decide (x.toInt < 0)) c q := by
  rcases roundRatio_cases b32 (decide (x.toInt < 0)) x.toInt.natAbs 1 0 with h | h
  · exact h
  · exact absurd (by rw [own_vi]; exact h) (FFin.ne_inf (i2f_fin x) _)
theorem own_zi (x : Int32) : zval b32 (val32 (i2f x)) = signed (decide (x.toInt < 0)) (zmag b32 (roundRatio b32 (decide (x.toInt < 0)) x.toInt.natAbs 1 0)) := by
  rw [own_vi]
  show signed (sgn _) _ = _
  rw [sgn_roundRatio]
theorem own_mono {x y : Int32} (h : x.toInt ≤ y.toInt) : zval b32 (val32 (i2f x)) ≤ zval b32 (val32 (i2f y)) := by
  rcases Int.lt_or_eq_of_le h with h | h
  · rw [own_zi x, own_zi y]
    have fx := own_fi x
    have fy := own_fi y
    by_cases h1 : x.toInt < 0
    · by_cases h2 : y.toInt < 0
      · have m := own_monoM (s := decide (y.toInt < 0)) (t := decide (x.toInt < 0)) (A := y.toInt.natAbs) (B := x.toInt.natAbs) (by omega) fy fx
        simp only [h1, h2, decide_true] at m ⊢
        simp only [signed, if_true]
        omega
      · simp only [h1, h2, decide_true, decide_false]
        simp only [signed, if_true]
        simp <;> omega
    · by_cases h2 : y.toInt < 0
      · omega
      · have m := own_monoM (s := decide (x.toInt < 0)) (t := decide (y.toInt < 0)) (A := x.toInt.natAbs) (B := y.toInt.natAbs) (by omega) fx fy
        simp only [h1, h2, decide_false] at m ⊢
        simp only [signed]
        simp <;> omega
  · rw [Int32.toInt_inj.mp h]; exact Int.le_refl _
def own_D (d : UInt32) (lo : Int32) : Prop := val32 d ≠ .nan ∧ zval b32 (val32 d) = zval b32 (val32 (i2f lo))
theorem own_nn (x : Int32) : val32 (i2f x) ≠ .nan := FFin.ne_nan (i2f_fin x)
theorem own_D0 (x : Int32) : own_D (i2f x) x := ⟨own_nn x, rfl⟩
theorem own_eqD {d : UInt32} {lo : Int32} (h : own_D d lo) : FP.fcmp d (FP.i2f lo) = some .eq := fcmp_eq.mpr ⟨h.1, own_nn lo, h.2⟩
theorem own_minD {d : UInt32} {lo : Int32} (h : own_D d lo) (x : Int32) : own_D (if FP.fcmp (FP.i2f x) d = some .lt then FP.i2f x else d) (own_min lo x) := by
  unfold own_min
  by_cases q : x < lo
  · rw [if_pos q]
    have m := own_mono (x := x) (y := lo) (Int.le_of_lt (Int32.lt_iff_toInt_lt.mp q))
    by_cases hc : FP.fcmp (FP.i2f x) d = some .lt
    · rw [if_pos hc]; exact own_D0 x
    · rw [if_neg hc]
      have : ¬ (zval b32 (val32 (i2f x)) < zval b32 (val32 d)) := fun z => hc (fcmp_lt.mpr ⟨own_nn x, h.1, z⟩)
      have h2 := h.2
      exact ⟨h.1, by omega⟩
  · rw [if_neg q]
    have m := own_mono (x := lo) (y := x) (by have : ¬ x.toInt < lo.toInt := fun z => q (Int32.lt_iff_toInt_lt.mpr z); omega)
    rw [if_neg]
    · exact h
    · intro hc
      have := (fcmp_lt.mp hc).2.2
      have h2 := h.2
      have : zval b32 (val32 (i2f x)) < zval b32 (val32 d) := this
      omega
theorem own_maxD {d : UInt32} {hi : Int32} (h : own_D d hi) (x : Int32) : own_D (if FP.fcmp (FP.i2f x) d = some .gt then FP.i2f x else d) (own_max hi x) := by
  unfold own_max
  by_cases q : hi < x
  · rw [if_pos q]
    have m := own_mono (x := hi) (y := x) (Int.le_of_lt (Int32.lt_iff_toInt_lt.mp q))
    by_cases hc : FP.fcmp (FP.i2f x) d = some .gt
    · rw [if_pos hc]; exact own_D0 x
    · rw [if_neg hc]
      have : ¬ (zval b32 (val32 d) < zval b32 (val32 (i2f x))) := fun z => hc (fcmp_gt.mpr ⟨own_nn x, h.1, z⟩)
      have h2 := h.2
      exact ⟨h.1, by omega⟩
  · rw [if_neg q]
    have m := own_mono (x := x) (y := hi) (by have : ¬ hi.toInt < x.toInt := fun z => q (Int32.lt_iff_toInt_lt.mpr z); omega)
    rw [if_neg]
    · exact h
    · intro hc
      have := (fcmp_gt.mp hc).2.2
      have h2 := h.2
      have : zval b32 (val32 d) < zval b32 (val32 (i2f x)) := this
      omega
theorem own_first (x : Int32) : own_D (if FP.fcmp (FP.i2f x) 2139095040 = some .lt then FP.i2f x else 2139095040) x ∧ own_D (if FP.fcmp (FP.i2f x) 4286578688 = some .gt then FP.i2f x else 4286578688) x := by
  have k := fin_lt_inf32 (i2f_fin x)
  refine ⟨?_, ?_⟩
  · rw [if_pos k.1]; exact own_D0 x
  · rw [if_pos k.2.1]; exact own_D0 x
end OwnMono
theorem dm_0 : decode jdk_29_method_69_code 0 = .ok (.iload_n 0, 1) := by decide +kernel
theorem dm_1 : decode jdk_29_method_69_code 1 = .ok (.iload_n 1, 1) := by decide +kernel
theorem dm_2 : decode jdk_29_method_69_code 2 = .ok (.if_icmp .gt 7, 3) := by decide +kernel
theorem dm_5 : decode jdk_29_method_69_code 5 = .ok (.iload_n 0, 1) := by decide +kernel
theorem dm_6 : decode jdk_29_method_69_code 6 = .ok (.goto 4, 3) := by decide +kernel
theorem dm_9 : decode jdk_29_method_69_code 9 = .ok (.iload_n 1, 1) := by decide +kernel
theorem dm_10 : decode jdk_29_method_69_code 10 = .ok (.ireturn, 1) := by decide +kernel
theorem efm (m : MethodId) (z0 : Int32) (z1 : Int32) : entryFrame m #[(.int z0), (.int z1)] 2 = mkF m 0 #[.val (.int z0), .val (.int z1)] [] := by first | (simp [entryFrame, mkF, argsToLocals, Value.category]; done) | rfl
def Qm (Z : State) (q1 : Int32) (q2 : Int32) (h0 : Heap) (n0 : Nat) (v : Option Value) (h : Heap) (L : List Loc) : Prop := v = some (.int (own_min q1 q2)) ∧ Fr n0 L ∧ h = h0
set_option maxRecDepth 65536 in
set_option maxHeartbeats 40000000 in
theorem rmm (l : Launch) (Z : State) (a0 : Array Value) (hw : ∀ d ∈ tables_1, d.before a0 Z = true) (ws : List Jvm.Cond) (q1 : Int32) (q2 : Int32) (h0 : Heap) (n0 : Nat) (Z0 : n0 ≤ h0.size)  :
    MetFree l (⟨"java/lang/Math", "min", "(II)I"⟩ : MethodName) (head1 (Jvm.Cond.code (⟨"java/lang/Math", "min", "(II)I"⟩ : MethodName) jdk_29_method_69_code 2 (Option.some Jvm.ClassFile.FieldType.int) :: ws) ({ frames := 0, cells := 0, slots := 0, locals := 0 } : Room)) (fun a U => a = #[(.int q1), (.int q2)] ∧ Z.Warmed39 U.vm ∧ U.heap = h0) (fun _ _ _ _ _ => True) (fun _ U o U' => ∃ v L, o = .returned v ∧ Qm Z q1 q2 h0 n0 v U'.heap L ∧ FrameEnd U o U' L ({ frames := 0, cells := 0, slots := 0, locals := 0 } : Room).cells ({ frames := 0, cells := 0, slots := 0, locals := 0 } : Room).slots) := by
  refine MetFree.of_bodySF (by decide +kernel) hisR ?_
  intro p e s m args below meth c s₁ Bd hml0 hP hK
  obtain ⟨rfl, hZ, hh⟩ := hP
  have hx := Bd.exec
  have hby := Bd.bytes
  have hml : c.maxLocals = 2 := hml0
  have hown : s.vm.findClass "java/lang/Math" = some m.cls := findClass_of_methodNamed Bd.named
  have hnm := (name_of_methodNamed Bd.named Bd.method).1
  have X0 : Stand p l e ({ frames := 0, cells := 0, slots := 0, locals := 0 } : Room) s m #[(.int q1), (.int q2)] below meth c s₁ [] 0 0 := Stand.of_body Bd
  have e0 : s₁.heap = h0 := by rw [← hh, Bd.state]; rfl
  have N0 := Fr.nil n0
  show Go p e below (Ret s (Qm Z q1 q2 h0 n0) ({ frames := 0, cells := 0, slots := 0, locals := 0 } : Room).cells ({ frames := 0, cells := 0, slots := 0, locals := 0 } : Room).slots) (s₁.setTop (entryFrame m #[(.int q1), (.int q2)] 2))
  rw [efm m q1 q2]
  refine g_iloadN X0 hx (hb hby dm_0) rfl ?_
  refine g_iloadN X0 hx (hb hby dm_1) rfl ?_
  by_cases hc2_1 : q2 < q1
  ·
    refine g_icmpYes X0 hx (hb hby dm_2) (tlt hc2_1).2.2.1 (by decide) (pc' := 9) (by decide) ?_
    refine g_iloadN X0 hx (hb hby dm_9) rfl ?_
    refine g_ireturn X0 hx Bd.notSynchronized Bd.returns rfl (by simp) (hb hby dm_10) (by decide) (by decide) ?_
    exact ⟨by simp only [own_min, hc2_1, if_true, if_false], N0, e0⟩
  ·
    refine g_icmpNo X0 hx (hb hby dm_2) (flt hc2_1).2.2.1 ?_
    refine g_iloadN X0 hx (hb hby dm_5) rfl ?_
    refine g_goto X0 hx (hb hby dm_6) (by decide) (pc' := 10) (by decide) ?_
    refine g_ireturn X0 hx Bd.notSynchronized Bd.returns rfl (by simp) (hb hby dm_10) (by decide) (by decide) ?_
    exact ⟨by simp only [own_min, hc2_1, if_true, if_false], N0, e0⟩
theorem dx_0 : decode jdk_29_method_65_code 0 = .ok (.iload_n 0, 1) := by decide +kernel
theorem dx_1 : decode jdk_29_method_65_code 1 = .ok (.iload_n 1, 1) := by decide +kernel
theorem dx_2 : decode jdk_29_method_65_code 2 = .ok (.if_icmp .lt 7, 3) := by decide +kernel
theorem dx_5 : decode jdk_29_method_65_code 5 = .ok (.iload_n 0, 1) := by decide +kernel
theorem dx_6 : decode jdk_29_method_65_code 6 = .ok (.goto 4, 3) := by decide +kernel
theorem dx_9 : decode jdk_29_method_65_code 9 = .ok (.iload_n 1, 1) := by decide +kernel
theorem dx_10 : decode jdk_29_method_65_code 10 = .ok (.ireturn, 1) := by decide +kernel
theorem efx (m : MethodId) (z0 : Int32) (z1 : Int32) : entryFrame m #[(.int z0), (.int z1)] 2 = mkF m 0 #[.val (.int z0), .val (.int z1)] [] := by first | (simp [entryFrame, mkF, argsToLocals, Value.category]; done) | rfl
def Qx (Z : State) (q1 : Int32) (q2 : Int32) (h0 : Heap) (n0 : Nat) (v : Option Value) (h : Heap) (L : List Loc) : Prop := v = some (.int (own_max q1 q2)) ∧ Fr n0 L ∧ h = h0
set_option maxRecDepth 65536 in
set_option maxHeartbeats 40000000 in
theorem rmx (l : Launch) (Z : State) (a0 : Array Value) (hw : ∀ d ∈ tables_1, d.before a0 Z = true) (ws : List Jvm.Cond) (q1 : Int32) (q2 : Int32) (h0 : Heap) (n0 : Nat) (Z0 : n0 ≤ h0.size)  :
    MetFree l (⟨"java/lang/Math", "max", "(II)I"⟩ : MethodName) (head1 (Jvm.Cond.code (⟨"java/lang/Math", "max", "(II)I"⟩ : MethodName) jdk_29_method_65_code 2 (Option.some Jvm.ClassFile.FieldType.int) :: ws) ({ frames := 0, cells := 0, slots := 0, locals := 0 } : Room)) (fun a U => a = #[(.int q1), (.int q2)] ∧ Z.Warmed39 U.vm ∧ U.heap = h0) (fun _ _ _ _ _ => True) (fun _ U o U' => ∃ v L, o = .returned v ∧ Qx Z q1 q2 h0 n0 v U'.heap L ∧ FrameEnd U o U' L ({ frames := 0, cells := 0, slots := 0, locals := 0 } : Room).cells ({ frames := 0, cells := 0, slots := 0, locals := 0 } : Room).slots) := by
  refine MetFree.of_bodySF (by decide +kernel) hisR ?_
  intro p e s m args below meth c s₁ Bd hml0 hP hK
  obtain ⟨rfl, hZ, hh⟩ := hP
  have hx := Bd.exec
  have hby := Bd.bytes
  have hml : c.maxLocals = 2 := hml0
  have hown : s.vm.findClass "java/lang/Math" = some m.cls := findClass_of_methodNamed Bd.named
  have hnm := (name_of_methodNamed Bd.named Bd.method).1
  have X0 : Stand p l e ({ frames := 0, cells := 0, slots := 0, locals := 0 } : Room) s m #[(.int q1), (.int q2)] below meth c s₁ [] 0 0 := Stand.of_body Bd
  have e0 : s₁.heap = h0 := by rw [← hh, Bd.state]; rfl
  have N0 := Fr.nil n0
  show Go p e below (Ret s (Qx Z q1 q2 h0 n0) ({ frames := 0, cells := 0, slots := 0, locals := 0 } : Room).cells ({ frames := 0, cells := 0, slots := 0, locals := 0 } : Room).slots) (s₁.setTop (entryFrame m #[(.int q1), (.int q2)] 2))
  rw [efx m q1 q2]
  refine g_iloadN X0 hx (hb hby dx_0) rfl ?_
  refine g_iloadN X0 hx (hb hby dx_1) rfl ?_
  by_cases hc2_1 : q1 < q2
  ·
    refine g_icmpYes X0 hx (hb hby dx_2) (tlt hc2_1).1 (by decide) (pc' := 9) (by decide) ?_
    refine g_iloadN X0 hx (hb hby dx_9) rfl ?_
    refine g_ireturn X0 hx Bd.notSynchronized Bd.returns rfl (by simp) (hb hby dx_10) (by decide) (by decide) ?_
    exact ⟨by simp only [own_max, hc2_1, if_true, if_false], N0, e0⟩
  ·
    refine g_icmpNo X0 hx (hb hby dx_2) (flt hc2_1).1 ?_
    refine g_iloadN X0 hx (hb hby dx_5) rfl ?_
    refine g_goto X0 hx (hb hby dx_6) (by decide) (pc' := 10) (by decide) ?_
    refine g_ireturn X0 hx Bd.notSynchronized Bd.returns rfl (by simp) (hb hby dx_10) (by decide) (by decide) ?_
    exact ⟨by simp only [own_max, hc2_1, if_true, if_false], N0, e0⟩
theorem dc_0 : decode prog_57_method_2_code 0 = .ok (.aload_n 0, 1) := by decide +kernel
theorem dc_1 : decode prog_57_method_2_code 1 = .ok (.ldc 14, 2) := by decide +kernel
theorem dc_3 : decode prog_57_method_2_code 3 = .ok (.putfield 15, 3) := by decide +kernel
theorem dc_6 : decode prog_57_method_2_code 6 = .ok (.aload_n 0, 1) := by decide +kernel
theorem dc_7 : decode prog_57_method_2_code 7 = .ok (.ldc 19, 2) := by decide +kernel
theorem dc_9 : decode prog_57_method_2_code 9 = .ok (.putfield 20, 3) := by decide +kernel
theorem dc_12 : decode prog_57_method_2_code 12 = .ok (.return_, 1) := by decide +kernel
theorem pnc : plainName "guardbar/imaging/Range" = true := by first | (simp [plainName, overriddenIn]; done) | decide +kernel
theorem efc (m : MethodId) (z0 : Addr) : entryFrame m #[(.ref z0)] 1 = mkF m 0 #[.val (.ref z0)] [] := by first | (simp [entryFrame, mkF, argsToLocals, Value.category]; done) | rfl
def Qc (Z : State) (q1 : Addr) (d0 : UInt32) (l0 : UInt32) (h0 : Heap) (n0 : Nat) (v : Option Value) (h : Heap) (L : List Loc) : Prop := v = none ∧ Fr n0 L ∧ Keep h0 h [q1] ∧ Exa Z h q1 "guardbar/imaging/Range" ∧ Fld Z h q1 "guardbar/imaging/Range" "darkest" "F" (.float (2139095040 : UInt32)) ∧ Fld Z h q1 "guardbar/imaging/Range" "lightest" "F" (.float (4286578688 : UInt32))
set_option maxRecDepth 65536 in
set_option maxHeartbeats 40000000 in
theorem rmc (l : Launch) (Z : State) (a0 : Array Value) (hw : ∀ d ∈ tables_1, d.before a0 Z = true) (ws : List Jvm.Cond) (q1 : Addr) (d0 : UInt32) (l0 : UInt32) (h0 : Heap) (n0 : Nat) (Z0 : n0 ≤ h0.size) (E0 : Exa Z h0 q1 "guardbar/imaging/Range") (Fd0 : Fld Z h0 q1 "guardbar/imaging/Range" "darkest" "F" (.float d0)) (Fl0 : Fld Z h0 q1 "guardbar/imaging/Range" "lightest" "F" (.float l0)) (g1 : n0 ≤ q1) :
    MetFree l (⟨"guardbar/imaging/Range", "clear", "()V"⟩ : MethodName) (head1 (Jvm.Cond.code (⟨"guardbar/imaging/Range", "clear", "()V"⟩ : MethodName) prog_57_method_2_code 1 (Option.none : Option Jvm.ClassFile.FieldType) :: ws) ({ frames := 0, cells := 0, slots := 0, locals := 0 } : Room)) (fun a U => a = #[(.ref q1)] ∧ Z.Warmed39 U.vm ∧ U.heap = h0) (fun _ _ _ _ _ => True) (fun _ U o U' => ∃ v L, o = .returned v ∧ Qc Z q1 d0 l0 h0 n0 v U'.heap L ∧ FrameEnd U o U' L ({ frames := 0, cells := 0, slots := 0, locals := 0 } : Room).cells ({ frames := 0, cells := 0, slots := 0, locals := 0 } : Room).slots) := by
  refine MetFree.of_bodySF (plainFor_of_name pnc) hisR ?_
  intro p e s m args below meth c s₁ Bd hml0 hP hK
  obtain ⟨rfl, hZ, hh⟩ := hP
  have hx := Bd.exec
  have hby := Bd.bytes
  have hml : c.maxLocals = 1 := hml0
  have hown : s.vm.findClass "guardbar/imaging/Range" = some m.cls := findClass_of_methodNamed Bd.named
  have hnm := (name_of_methodNamed Bd.named Bd.method).1
  have X0 : Stand p l e ({ frames := 0, cells := 0, slots := 0, locals := 0 } : Room) s m #[(.ref q1)] below meth c s₁ [] 0 0 := Stand.of_body Bd
  have e0 : s₁.heap = h0 := by rw [← hh, Bd.state]; rfl
  have N0 := Fr.nil n0
  show Go p e below (Ret s (Qc Z q1 d0 l0 h0 n0) ({ frames := 0, cells := 0, slots := 0, locals := 0 } : Room).cells ({ frames := 0, cells := 0, slots := 0, locals := 0 } : Room).slots) (s₁.setTop (entryFrame m #[(.ref q1)] 1))
  rw [efc m q1]
  have K0 : Keep h0 h0 [q1] := Keep.refl _ _
  refine g_aloadN X0 hx (hb hby dc_0) rfl rfl ?_
  refine g_ldcF X0 hx hZ hown (hw _ (List.mem_of_getElem? (i := 21) rfl)) (hb hby dc_1) ?_
  refine g_putF X0 hx hZ hown (hw _ (List.mem_of_getElem? (i := 22) rfl)) e0 Fd0 E0 (Or.inl (hw _ (List.mem_of_getElem? (i := 23) rfl))) (hw _ (List.mem_of_getElem? (i := 8) rfl)) (ty := .float) (by decide) rfl rfl (hb hby dc_3) ?_
  intro T1 h4 X2 e3 W5
  have F7 := E0.wr W5
  have F8 := Fl0.other W5 (Or.inr (slot_ne (Or.inl (hw _ (List.mem_of_getElem? (i := 26) rfl))) (Or.inl (hw _ (List.mem_of_getElem? (i := 23) rfl))) (by decide) (t := .float) (t' := .float) (by decide) (by decide)))
  have F9 := Fd0.same W5
  have Z10 : n0 ≤ h4.size := by rw [W5.size]; exact Z0
  have K11 := Keep.wr K0 W5 (Or.inl (List.mem_of_getElem? (i := 0) rfl))
  have N12 := Fr.snoc X2 N0 g1
  refine g_aloadN X2 hx (hb hby dc_6) rfl rfl ?_
  refine g_ldcF X2 hx hZ hown (hw _ (List.mem_of_getElem? (i := 24) rfl)) (hb hby dc_7) ?_
  refine g_putF X2 hx hZ hown (hw _ (List.mem_of_getElem? (i := 25) rfl)) e3 F8 F7 (Or.inl (hw _ (List.mem_of_getElem? (i := 26) rfl))) (hw _ (List.mem_of_getElem? (i := 8) rfl)) (ty := .float) (by decide) rfl rfl (hb hby dc_9) ?_
  intro T13 h16 X14 e15 W17
  have F19 := F7.wr W17
  have F20 := F9.other W17 (Or.inr (slot_ne (Or.inl (hw _ (List.mem_of_getElem? (i := 23) rfl))) (Or.inl (hw _ (List.mem_of_getElem? (i := 26) rfl))) (by decide) (t := .float) (t' := .float) (by decide) (by decide)))
  have F21 := F8.same W17
  have Z22 : n0 ≤ h16.size := by rw [W17.size]; exact Z10
  have K23 := Keep.wr K11 W17 (Or.inl (List.mem_of_getElem? (i := 0) rfl))
  have N24 := Fr.snoc X14 N12 g1
  refine g_return X14 hx Bd.notSynchronized Bd.returns (hb hby dc_12) (by decide) (by decide) ?_
  rw [e15]
  exact ⟨rfl, N24, K23, F19, F20, F21⟩
theorem di_0 : decode prog_57_method_1_code 0 = .ok (.aload_n 0, 1) := by decide +kernel
theorem di_1 : decode prog_57_method_1_code 1 = .ok (.invokespecial 1, 3) := by decide +kernel
theorem di_4 : decode prog_57_method_1_code 4 = .ok (.aload_n 0, 1) := by decide +kernel
theorem di_5 : decode prog_57_method_1_code 5 = .ok (.invokevirtual 7, 3) := by decide +kernel
theorem di_8 : decode prog_57_method_1_code 8 = .ok (.return_, 1) := by decide +kernel
theorem pni : plainName "guardbar/imaging/Range" = true := by first | (simp [plainName, overriddenIn]; done) | decide +kernel
theorem pdi_0 : parseMethodDescriptor "()V" = some ⟨[], none⟩ := by decide +kernel
theorem efi (m : MethodId) (z0 : Addr) : entryFrame m #[(.ref z0)] 1 = mkF m 0 #[.val (.ref z0)] [] := by first | (simp [entryFrame, mkF, argsToLocals, Value.category]; done) | rfl
def Qi (Z : State) (q1 : Addr) (d0 : UInt32) (l0 : UInt32) (h0 : Heap) (n0 : Nat) (v : Option Value) (h : Heap) (L : List Loc) : Prop := v = none ∧ Fr n0 L ∧ Keep h0 h [q1] ∧ Exa Z h q1 "guardbar/imaging/Range" ∧ Fld Z h q1 "guardbar/imaging/Range" "darkest" "F" (.float (2139095040 : UInt32)) ∧ Fld Z h q1 "guardbar/imaging/Range" "lightest" "F" (.float (4286578688 : UInt32))
set_option maxRecDepth 65536 in
set_option maxHeartbeats 40000000 in
theorem rmi (l : Launch) (Z : State) (a0 : Array Value) (hw : ∀ d ∈ tables_1, d.before a0 Z = true) (ws : List Jvm.Cond) (q1 : Addr) (d0 : UInt32) (l0 : UInt32) (h0 : Heap) (n0 : Nat) (Z0 : n0 ≤ h0.size) (E0 : Exa Z h0 q1 "guardbar/imaging/Range") (Fd0 : Fld Z h0 q1 "guardbar/imaging/Range" "darkest" "F" (.float d0)) (Fl0 : Fld Z h0 q1 "guardbar/imaging/Range" "lightest" "F" (.float l0)) (g1 : n0 ≤ q1) :
    MetFree l (⟨"guardbar/imaging/Range", "<init>", "()V"⟩ : MethodName) (head1 (Jvm.Cond.code (⟨"guardbar/imaging/Range", "<init>", "()V"⟩ : MethodName) prog_57_method_1_code 1 (Option.none : Option Jvm.ClassFile.FieldType) :: ws) ({ frames := 1, cells := 0, slots := 0, locals := 13 } : Room)) (fun a U => a = #[(.ref q1)] ∧ Z.Warmed39 U.vm ∧ U.heap = h0) (fun _ _ _ _ _ => True) (fun _ U o U' => ∃ v L, o = .returned v ∧ Qi Z q1 d0 l0 h0 n0 v U'.heap L ∧ FrameEnd U o U' L ({ frames := 1, cells := 0, slots := 0, locals := 13 } : Room).cells ({ frames := 1, cells := 0, slots := 0, locals := 13 } : Room).slots) := by
  refine MetFree.of_bodySF (plainFor_of_name pni) hisR ?_
  intro p e s m args below meth c s₁ Bd hml0 hP hK
  obtain ⟨rfl, hZ, hh⟩ := hP
  have hx := Bd.exec
  have hby := Bd.bytes
  have hml : c.maxLocals = 1 := hml0
  have hown : s.vm.findClass "guardbar/imaging/Range" = some m.cls := findClass_of_methodNamed Bd.named
  have hnm := (name_of_methodNamed Bd.named Bd.method).1
  have X0 : Stand p l e ({ frames := 1, cells := 0, slots := 0, locals := 13 } : Room) s m #[(.ref q1)] below meth c s₁ [] 0 0 := Stand.of_body Bd
  have e0 : s₁.heap = h0 := by rw [← hh, Bd.state]; rfl
  have N0 := Fr.nil n0
  show Go p e below (Ret s (Qi Z q1 d0 l0 h0 n0) ({ frames := 1, cells := 0, slots := 0, locals := 13 } : Room).cells ({ frames := 1, cells := 0, slots := 0, locals := 13 } : Room).slots) (s₁.setTop (entryFrame m #[(.ref q1)] 1))
  rw [efi m q1]
  have K0 : Keep h0 h0 [q1] := Keep.refl _ _
  refine g_aloadN X0 hx (hb hby di_0) rfl rfl ?_
  refine g_objInit X0 hx hZ hown (hw _ (List.mem_of_getElem? (i := 13) rfl)) (hw _ (List.mem_of_getElem? (i := 14) rfl)) (hw _ (List.mem_of_getElem? (i := 15) rfl)) e0 (by rw [hml]; rfl) (hb hby di_1) (by decide) (W := 0) (Nat.le_of_eq rfl) (by decide) ?_
  intro T1 X2 e3
  refine g_aloadN X2 hx (hb hby di_4) rfl rfl ?_
  refine g_callV X2 hx hZ hown (hw _ (List.mem_of_getElem? (i := 16) rfl)) (hw _ (List.mem_of_getElem? (i := 17) rfl)) (hw _ (List.mem_of_getElem? (i := 19) rfl)) (hw _ (List.mem_of_getElem? (i := 18) rfl)) (hw _ (List.mem_of_getElem? (i := 9) rfl)) (hw _ (List.mem_of_getElem? (i := 20) rfl)) (by decide) (rmc l Z a0 hw [] q1 d0 l0 h0 n0 Z0 E0 Fd0 Fl0 g1) e3 (W := 0) (by decide) (by decide) (by rw [hml]; rfl) q1 E0 [] [] (lenOf pdi_0 rfl) rfl rfl (Nat.le_of_eq rfl) (hb hby di_5) (by decide) (by decide) ?_
  intro v8 T4 L7 X5 hQ6
  obtain ⟨rfl, N9, K10, F11, F12, F13⟩ := hQ6
  have N14 := Fr.app N0 N9
  have F15 := E0.keep K10
  have Z18 : n0 ≤ T4.heap.size := Nat.le_trans Z0 K10.1
  have K19 := Keep.trans K0 K10 (allS (Or.inl (List.mem_of_getElem? (i := 0) rfl)) all0)
  show Go p e below (Ret s (Qi Z q1 d0 l0 h0 n0) ({ frames := 1, cells := 0, slots := 0, locals := 13 } : Room).cells ({ frames := 1, cells := 0, slots := 0, locals := 13 } : Room).slots) (T4.setTop (mkF m 8 #[.val (.ref q1)] []))
  refine g_return X5 hx Bd.notSynchronized Bd.returns (hb hby di_8) (by decide) (by decide) ?_
  exact ⟨rfl, N14, K19, F11, F12, F13⟩
theorem dt_0 : decode prog_57_method_3_code 0 = .ok (.fload_n 1, 1) := by decide +kernel
theorem dt_1 : decode prog_57_method_3_code 1 = .ok (.aload_n 0, 1) := by decide +kernel
theorem dt_2 : decode prog_57_method_3_code 2 = .ok (.getfield 15, 3) := by decide +kernel
theorem dt_5 : decode prog_57_method_3_code 5 = .ok (.fcmp .g, 1) := by decide +kernel
theorem dt_6 : decode prog_57_method_3_code 6 = .ok (.ifCond .ge 8, 3) := by decide +kernel
theorem dt_9 : decode prog_57_method_3_code 9 = .ok (.aload_n 0, 1) := by decide +kernel
theorem dt_10 : decode prog_57_method_3_code 10 = .ok (.fload_n 1, 1) := by decide +kernel
theorem dt_11 : decode prog_57_method_3_code 11 = .ok (.putfield 15, 3) := by decide +kernel
theorem dt_14 : decode prog_57_method_3_code 14 = .ok (.fload_n 1, 1) := by decide +kernel
theorem dt_15 : decode prog_57_method_3_code 15 = .ok (.aload_n 0, 1) := by decide +kernel
theorem dt_16 : decode prog_57_method_3_code 16 = .ok (.getfield 20, 3) := by decide +kernel
theorem dt_19 : decode prog_57_method_3_code 19 = .ok (.fcmp .l, 1) := by decide +kernel
theorem dt_20 : decode prog_57_method_3_code 20 = .ok (.ifCond .le 8, 3) := by decide +kernel
theorem dt_23 : decode prog_57_method_3_code 23 = .ok (.aload_n 0, 1) := by decide +kernel
theorem dt_24 : decode prog_57_method_3_code 24 = .ok (.fload_n 1, 1) := by decide +kernel
theorem dt_25 : decode prog_57_method_3_code 25 = .ok (.putfield 20, 3) := by decide +kernel
theorem dt_28 : decode prog_57_method_3_code 28 = .ok (.return_, 1) := by decide +kernel
theorem pnt : plainName "guardbar/imaging/Range" = true := by first | (simp [plainName, overriddenIn]; done) | decide +kernel
theorem eft (m : MethodId) (z0 : Addr) (z1 : UInt32) : entryFrame m #[(.ref z0), (.float z1)] 2 = mkF m 0 #[.val (.ref z0), .val (.float z1)] [] := by first | (simp [entryFrame, mkF, argsToLocals, Value.category]; done) | rfl
def Qt (Z : State) (q1 : Addr) (q2 : UInt32) (d0 : UInt32) (l0 : UInt32) (h0 : Heap) (n0 : Nat) (v : Option Value) (h : Heap) (L : List Loc) : Prop := v = none ∧ Fr n0 L ∧ Keep h0 h [q1] ∧ Exa Z h q1 "guardbar/imaging/Range" ∧ Fld Z h q1 "guardbar/imaging/Range" "darkest" "F" (.float (if FP.fcmp q2 d0 = some .lt then q2 else d0)) ∧ Fld Z h q1 "guardbar/imaging/Range" "lightest" "F" (.float (if FP.fcmp q2 l0 = some .gt then q2 else l0))
set_option maxRecDepth 65536 in
set_option maxHeartbeats 40000000 in
theorem rmt (l : Launch) (Z : State) (a0 : Array Value) (hw : ∀ d ∈ tables_1, d.before a0 Z = true) (ws : List Jvm.Cond) (q1 : Addr) (q2 : UInt32) (d0 : UInt32) (l0 : UInt32) (h0 : Heap) (n0 : Nat) (Z0 : n0 ≤ h0.size) (E0 : Exa Z h0 q1 "guardbar/imaging/Range") (Fd0 : Fld Z h0 q1 "guardbar/imaging/Range" "darkest" "F" (.float d0)) (Fl0 : Fld Z h0 q1 "guardbar/imaging/Range" "lightest" "F" (.float l0)) (g1 : n0 ≤ q1) :
    MetFree l (⟨"guardbar/imaging/Range", "take", "(F)V"⟩ : MethodName) (head1 (Jvm.Cond.code (⟨"guardbar/imaging/Range", "take", "(F)V"⟩ : MethodName) prog_57_method_3_code 2 (Option.none : Option Jvm.ClassFile.FieldType) :: ws) ({ frames := 0, cells := 0, slots := 0, locals := 0 } : Room)) (fun a U => a = #[(.ref q1), (.float q2)] ∧ Z.Warmed39 U.vm ∧ U.heap = h0) (fun _ _ _ _ _ => True) (fun _ U o U' => ∃ v L, o = .returned v ∧ Qt Z q1 q2 d0 l0 h0 n0 v U'.heap L ∧ FrameEnd U o U' L ({ frames := 0, cells := 0, slots := 0, locals := 0 } : Room).cells ({ frames := 0, cells := 0, slots := 0, locals := 0 } : Room).slots) := by
  refine MetFree.of_bodySF (plainFor_of_name pnt) hisR ?_
  intro p e s m args below meth c s₁ Bd hml0 hP hK
  obtain ⟨rfl, hZ, hh⟩ := hP
  have hx := Bd.exec
  have hby := Bd.bytes
  have hml : c.maxLocals = 2 := hml0
  have hown : s.vm.findClass "guardbar/imaging/Range" = some m.cls := findClass_of_methodNamed Bd.named
  have hnm := (name_of_methodNamed Bd.named Bd.method).1
  have X0 : Stand p l e ({ frames := 0, cells := 0, slots := 0, locals := 0 } : Room) s m #[(.ref q1), (.float q2)] below meth c s₁ [] 0 0 := Stand.of_body Bd
  have e0 : s₁.heap = h0 := by rw [← hh, Bd.state]; rfl
  have N0 := Fr.nil n0
  show Go p e below (Ret s (Qt Z q1 q2 d0 l0 h0 n0) ({ frames := 0, cells := 0, slots := 0, locals := 0 } : Room).cells ({ frames := 0, cells := 0, slots := 0, locals := 0 } : Room).slots) (s₁.setTop (entryFrame m #[(.ref q1), (.float q2)] 2))
  rw [eft m q1 q2]
  have K0 : Keep h0 h0 [q1] := Keep.refl _ _
  refine g_floadN X0 hx (hb hby dt_0) rfl ?_
  refine g_aloadN X0 hx (hb hby dt_1) rfl rfl ?_
  refine g_getF X0 hx hZ hown (hw _ (List.mem_of_getElem? (i := 22) rfl)) e0 Fd0 (hb hby dt_2) ?_
  intro T1 X2 e3
  refine g_fcmp X2 hx (hb hby dt_5) ?_
  by_cases hc6_4 : FP.fcmp q2 d0 = some .lt
  ·
    refine g_ifNo X2 hx (hb hby dt_6) (tlt ((cv_g_lt _).mpr hc6_4)).2.1 ?_
    refine g_aloadN X2 hx (hb hby dt_9) rfl rfl ?_
    refine g_floadN X2 hx (hb hby dt_10) rfl ?_
    refine g_putF X2 hx hZ hown (hw _ (List.mem_of_getElem? (i := 22) rfl)) e3 Fd0 E0 (Or.inl (hw _ (List.mem_of_getElem? (i := 23) rfl))) (hw _ (List.mem_of_getElem? (i := 8) rfl)) (ty := .float) (by decide) rfl rfl (hb hby dt_11) ?_
    intro T5 h8 X6 e7 W9
    have F11 := E0.wr W9
    have F12 := Fl0.other W9 (Or.inr (slot_ne (Or.inl (hw _ (List.mem_of_getElem? (i := 26) rfl))) (Or.inl (hw _ (List.mem_of_getElem? (i := 23) rfl))) (by decide) (t := .float) (t' := .float) (by decide) (by decide)))
    have F13 := Fd0.same W9
    have Z14 : n0 ≤ h8.size := by rw [W9.size]; exact Z0
    have K15 := Keep.wr K0 W9 (Or.inl (List.mem_of_getElem? (i := 0) rfl))
    have N16 := Fr.snoc X6 N0 g1
    refine g_floadN X6 hx (hb hby dt_14) rfl ?_
    refine g_aloadN X6 hx (hb hby dt_15) rfl rfl ?_
    refine g_getF X6 hx hZ hown (hw _ (List.mem_of_getElem? (i := 25) rfl)) e7 F12 (hb hby dt_16) ?_
    intro T17 X18 e19
    refine g_fcmp X18 hx (hb hby dt_19) ?_
    by_cases hc20_20 : FP.fcmp q2 l0 = some .gt
    ·
      refine g_ifNo X18 hx (hb hby dt_20) (tlt ((cv_l_gt _).mpr hc20_20)).2.2.2 ?_
      refine g_aloadN X18 hx (hb hby dt_23) rfl rfl ?_
      refine g_floadN X18 hx (hb hby dt_24) rfl ?_
      refine g_putF X18 hx hZ hown (hw _ (List.mem_of_getElem? (i := 25) rfl)) e19 F12 F11 (Or.inl (hw _ (List.mem_of_getElem? (i := 26) rfl))) (hw _ (List.mem_of_getElem? (i := 8) rfl)) (ty := .float) (by decide) rfl rfl (hb hby dt_25) ?_
      intro T21 h24 X22 e23 W25
      have F27 := F11.wr W25
      have F28 := F13.other W25 (Or.inr (slot_ne (Or.inl (hw _ (List.mem_of_getElem? (i := 23) rfl))) (Or.inl (hw _ (List.mem_of_getElem? (i := 26) rfl))) (by decide) (t := .float) (t' := .float) (by decide) (by decide)))
      have F29 := F12.same W25
      have Z30 : n0 ≤ h24.size := by rw [W25.size]; exact Z14
      have K31 := Keep.wr K15 W25 (Or.inl (List.mem_of_getElem? (i := 0) rfl))
      have N32 := Fr.snoc X22 N16 g1
      refine g_return X22 hx Bd.notSynchronized Bd.returns (hb hby dt_28) (by decide) (by decide) ?_
      rw [e23]
      refine ⟨rfl, N32, K31, F27, ?_, ?_⟩
      · simp only [hc6_4, hc20_20, if_true, if_false]; exact F28
      · simp only [hc6_4, hc20_20, if_true, if_false]; exact F29
    ·
      refine g_ifYes X18 hx (hb hby dt_20) (flt (fun q => hc20_20 ((cv_l_gt _).mp q))).2.2.2 (by decide) (pc' := 28) (by decide) ?_
      refine g_return X18 hx Bd.notSynchronized Bd.returns (hb hby dt_28) (by decide) (by decide) ?_
      rw [e19]
      refine ⟨rfl, N16, K15, F11, ?_, ?_⟩
      · simp only [hc6_4, hc20_20, if_true, if_false]; exact F13
      · simp only [hc6_4, hc20_20, if_true, if_false]; exact F12
  ·
    refine g_ifYes X2 hx (hb hby dt_6) (flt (fun q => hc6_4 ((cv_g_lt _).mp q))).2.1 (by decide) (pc' := 14) (by decide) ?_
    refine g_floadN X2 hx (hb hby dt_14) rfl ?_
    refine g_aloadN X2 hx (hb hby dt_15) rfl rfl ?_
    refine g_getF X2 hx hZ hown (hw _ (List.mem_of_getElem? (i := 25) rfl)) e3 Fl0 (hb hby dt_16) ?_
    intro T33 X34 e35
    refine g_fcmp X34 hx (hb hby dt_19) ?_
    by_cases hc20_36 : FP.fcmp q2 l0 = some .gt
    ·
      refine g_ifNo X34 hx (hb hby dt_20) (tlt ((cv_l_gt _).mpr hc20_36)).2.2.2 ?_
      refine g_aloadN X34 hx (hb hby dt_23) rfl rfl ?_
      refine g_floadN X34 hx (hb hby dt_24) rfl ?_
      refine g_putF X34 hx hZ hown (hw _ (List.mem_of_getElem? (i := 25) rfl)) e35 Fl0 E0 (Or.inl (hw _ (List.mem_of_getElem? (i := 26) rfl))) (hw _ (List.mem_of_getElem? (i := 8) rfl)) (ty := .float) (by decide) rfl rfl (hb hby dt_25) ?_
      intro T37 h40 X38 e39 W41
      have F43 := E0.wr W41
      have F44 := Fd0.other W41 (Or.inr (slot_ne (Or.inl (hw _ (List.mem_of_getElem? (i := 23) rfl))) (Or.inl (hw _ (List.mem_of_getElem? (i := 26) rfl))) (by decide) (t := .float) (t' := .float) (by decide) (by decide)))
      have F45 := Fl0.same W41
      have Z46 : n0 ≤ h40.size := by rw [W41.size]; exact Z0
      have K47 := Keep.wr K0 W41 (Or.inl (List.mem_of_getElem? (i := 0) rfl))
      have N48 := Fr.snoc X38 N0 g1
      refine g_return X38 hx Bd.notSynchronized Bd.returns (hb hby dt_28) (by decide) (by decide) ?_
      rw [e39]
      refine ⟨rfl, N48, K47, F43, ?_, ?_⟩
      · simp only [hc6_4, hc20_36, if_true, if_false]; exact F44
      · simp only [hc6_4, hc20_36, if_true, if_false]; exact F45
    ·
      refine g_ifYes X34 hx (hb hby dt_20) (flt (fun q => hc20_36 ((cv_l_gt _).mp q))).2.2.2 (by decide) (pc' := 28) (by decide) ?_
      refine g_return X34 hx Bd.notSynchronized Bd.returns (hb hby dt_28) (by decide) (by decide) ?_
      rw [e35]
      refine ⟨rfl, N0, K0, E0, ?_, ?_⟩
      · simp only [hc6_4, hc20_36, if_true, if_false]; exact Fd0
      · simp only [hc6_4, hc20_36, if_true, if_false]; exact Fl0
theorem dd_0 : decode prog_57_method_4_code 0 = .ok (.aload_n 0, 1) := by decide +kernel
theorem dd_1 : decode prog_57_method_4_code 1 = .ok (.getfield 15, 3) := by decide +kernel
theorem dd_4 : decode prog_57_method_4_code 4 = .ok (.freturn, 1) := by decide +kernel
theorem pnd : plainName "guardbar/imaging/Range" = true := by first | (simp [plainName, overriddenIn]; done) | decide +kernel
theorem efd (m : MethodId) (z0 : Addr) : entryFrame m #[(.ref z0)] 1 = mkF m 0 #[.val (.ref z0)] [] := by first | (simp [entryFrame, mkF, argsToLocals, Value.category]; done) | rfl
def Qd (Z : State) (q1 : Addr) (d0 : UInt32) (h0 : Heap) (n0 : Nat) (v : Option Value) (h : Heap) (L : List Loc) : Prop := v = some (.float d0) ∧ Fr n0 L ∧ h = h0
set_option maxRecDepth 65536 in
set_option maxHeartbeats 40000000 in
theorem rmd (l : Launch) (Z : State) (a0 : Array Value) (hw : ∀ d ∈ tables_1, d.before a0 Z = true) (ws : List Jvm.Cond) (q1 : Addr) (d0 : UInt32) (h0 : Heap) (n0 : Nat) (Z0 : n0 ≤ h0.size) (F0 : Fld Z h0 q1 "guardbar/imaging/Range" "darkest" "F" (.float d0)) :
    MetFree l (⟨"guardbar/imaging/Range", "darkest", "()F"⟩ : MethodName) (head1 (Jvm.Cond.code (⟨"guardbar/imaging/Range", "darkest", "()F"⟩ : MethodName) prog_57_method_4_code 1 (Option.some Jvm.ClassFile.FieldType.float) :: ws) ({ frames := 0, cells := 0, slots := 0, locals := 0 } : Room)) (fun a U => a = #[(.ref q1)] ∧ Z.Warmed39 U.vm ∧ U.heap = h0) (fun _ _ _ _ _ => True) (fun _ U o U' => ∃ v L, o = .returned v ∧ Qd Z q1 d0 h0 n0 v U'.heap L ∧ FrameEnd U o U' L ({ frames := 0, cells := 0, slots := 0, locals := 0 } : Room).cells ({ frames := 0, cells := 0, slots := 0, locals := 0 } : Room).slots) := by
  refine MetFree.of_bodySF (plainFor_of_name pnd) hisR ?_
  intro p e s m args below meth c s₁ Bd hml0 hP hK
  obtain ⟨rfl, hZ, hh⟩ := hP
  have hx := Bd.exec
  have hby := Bd.bytes
  have hml : c.maxLocals = 1 := hml0
  have hown : s.vm.findClass "guardbar/imaging/Range" = some m.cls := findClass_of_methodNamed Bd.named
  have hnm := (name_of_methodNamed Bd.named Bd.method).1
  have X0 : Stand p l e ({ frames := 0, cells := 0, slots := 0, locals := 0 } : Room) s m #[(.ref q1)] below meth c s₁ [] 0 0 := Stand.of_body Bd
  have e0 : s₁.heap = h0 := by rw [← hh, Bd.state]; rfl
  have N0 := Fr.nil n0
  show Go p e below (Ret s (Qd Z q1 d0 h0 n0) ({ frames := 0, cells := 0, slots := 0, locals := 0 } : Room).cells ({ frames := 0, cells := 0, slots := 0, locals := 0 } : Room).slots) (s₁.setTop (entryFrame m #[(.ref q1)] 1))
  rw [efd m q1]
  refine g_aloadN X0 hx (hb hby dd_0) rfl rfl ?_
  refine g_getF X0 hx hZ hown (hw _ (List.mem_of_getElem? (i := 22) rfl)) e0 F0 (hb hby dd_1) ?_
  intro T1 X2 e3
  refine g_freturn X2 hx Bd.notSynchronized Bd.returns (hb hby dd_4) (by decide) (by decide) ?_
  exact ⟨rfl, N0, e3⟩
theorem dl_0 : decode prog_57_method_5_code 0 = .ok (.aload_n 0, 1) := by decide +kernel
theorem dl_1 : decode prog_57_method_5_code 1 = .ok (.getfield 20, 3) := by decide +kernel
theorem dl_4 : decode prog_57_method_5_code 4 = .ok (.freturn, 1) := by decide +kernel
theorem pnl : plainName "guardbar/imaging/Range" = true := by first | (simp [plainName, overriddenIn]; done) | decide +kernel
theorem efl (m : MethodId) (z0 : Addr) : entryFrame m #[(.ref z0)] 1 = mkF m 0 #[.val (.ref z0)] [] := by first | (simp [entryFrame, mkF, argsToLocals, Value.category]; done) | rfl
def Ql (Z : State) (q1 : Addr) (l0 : UInt32) (h0 : Heap) (n0 : Nat) (v : Option Value) (h : Heap) (L : List Loc) : Prop := v = some (.float l0) ∧ Fr n0 L ∧ h = h0
set_option maxRecDepth 65536 in
set_option maxHeartbeats 40000000 in
theorem rml (l : Launch) (Z : State) (a0 : Array Value) (hw : ∀ d ∈ tables_1, d.before a0 Z = true) (ws : List Jvm.Cond) (q1 : Addr) (l0 : UInt32) (h0 : Heap) (n0 : Nat) (Z0 : n0 ≤ h0.size) (F0 : Fld Z h0 q1 "guardbar/imaging/Range" "lightest" "F" (.float l0)) :
    MetFree l (⟨"guardbar/imaging/Range", "lightest", "()F"⟩ : MethodName) (head1 (Jvm.Cond.code (⟨"guardbar/imaging/Range", "lightest", "()F"⟩ : MethodName) prog_57_method_5_code 1 (Option.some Jvm.ClassFile.FieldType.float) :: ws) ({ frames := 0, cells := 0, slots := 0, locals := 0 } : Room)) (fun a U => a = #[(.ref q1)] ∧ Z.Warmed39 U.vm ∧ U.heap = h0) (fun _ _ _ _ _ => True) (fun _ U o U' => ∃ v L, o = .returned v ∧ Ql Z q1 l0 h0 n0 v U'.heap L ∧ FrameEnd U o U' L ({ frames := 0, cells := 0, slots := 0, locals := 0 } : Room).cells ({ frames := 0, cells := 0, slots := 0, locals := 0 } : Room).slots) := by
  refine MetFree.of_bodySF (plainFor_of_name pnl) hisR ?_
  intro p e s m args below meth c s₁ Bd hml0 hP hK
  obtain ⟨rfl, hZ, hh⟩ := hP
  have hx := Bd.exec
  have hby := Bd.bytes
  have hml : c.maxLocals = 1 := hml0
  have hown : s.vm.findClass "guardbar/imaging/Range" = some m.cls := findClass_of_methodNamed Bd.named
  have hnm := (name_of_methodNamed Bd.named Bd.method).1
  have X0 : Stand p l e ({ frames := 0, cells := 0, slots := 0, locals := 0 } : Room) s m #[(.ref q1)] below meth c s₁ [] 0 0 := Stand.of_body Bd
  have e0 : s₁.heap = h0 := by rw [← hh, Bd.state]; rfl
  have N0 := Fr.nil n0
  show Go p e below (Ret s (Ql Z q1 l0 h0 n0) ({ frames := 0, cells := 0, slots := 0, locals := 0 } : Room).cells ({ frames := 0, cells := 0, slots := 0, locals := 0 } : Room).slots) (s₁.setTop (entryFrame m #[(.ref q1)] 1))
  rw [efl m q1]
  refine g_aloadN X0 hx (hb hby dl_0) rfl rfl ?_
  refine g_getF X0 hx hZ hown (hw _ (List.mem_of_getElem? (i := 25) rfl)) e0 F0 (hb hby dl_1) ?_
  intro T1 X2 e3
  refine g_freturn X2 hx Bd.notSynchronized Bd.returns (hb hby dl_4) (by decide) (by decide) ?_
  exact ⟨rfl, N0, e3⟩
theorem pn0 : plainName "guardbar/imaging/RangeTakePinLaw" = true := by first | (simp [plainName, overriddenIn]; done) | decide +kernel
theorem pd0_0 : parseMethodDescriptor "()V" = some ⟨[], none⟩ := by decide +kernel
theorem pd0_1 : parseMethodDescriptor "(F)V" = some ⟨[.float], none⟩ := by decide +kernel
theorem pd0_2 : parseMethodDescriptor "()F" = some ⟨[], some .float⟩ := by decide +kernel
theorem pd0_3 : parseMethodDescriptor "(II)I" = some ⟨[.int, .int], some .int⟩ := by decide +kernel
theorem ef0 (m : MethodId) (z0 : Int32) (z1 : Int32) (z2 : Int32) (z3 : Int32) : entryFrame m #[(.int z0), (.int z1), (.int z2), (.int z3)] maxLocals = mkF m 0 #[.val (.int z0), .val (.int z1), .val (.int z2), .val (.int z3), .unset, .unset, .unset, .unset, .unset, .unset, .unset, .unset] [] := by first | (simp [entryFrame, mkF, argsToLocals, Value.category, maxLocals]; done) | rfl
def Q0 (Z : State) (q0 : Int32) (q1 : Int32) (q2 : Int32) (q3 : Int32) (h0 : Heap) (n0 : Nat) (v : Option Value) (h : Heap) (L : List Loc) : Prop := v = some (.int 1) ∧ Fr n0 L
set_option maxRecDepth 65536 in
set_option maxHeartbeats 40000000 in
theorem rm0 (l : Launch) (Z : State) (a0 : Array Value) (hw : ∀ d ∈ tables_1, d.before a0 Z = true) (ws : List Jvm.Cond) (q0 : Int32) (q1 : Int32) (q2 : Int32) (q3 : Int32) (h0 : Heap) (n0 : Nat) (Z0 : n0 ≤ h0.size)  :
    MetFree l x (head1 (Jvm.Cond.code x code maxLocals ret :: ws) room_1) (fun a U => a = #[(.int q0), (.int q1), (.int q2), (.int q3)] ∧ Z.Warmed39 U.vm ∧ U.heap = h0) (fun _ _ _ _ _ => True) (fun _ U o U' => ∃ v L, o = .returned v ∧ Q0 Z q0 q1 q2 q3 h0 n0 v U'.heap L ∧ FrameEnd U o U' L 16 128) := by
  refine MetFree.of_bodySF (plainFor_of_name pn0) hisR ?_
  intro p e s m args below meth c s₁ Bd hml0 hP hK
  obtain ⟨rfl, hZ, hh⟩ := hP
  have hx := Bd.exec
  have hby := Bd.bytes
  have hml : c.maxLocals = 12 := hml0
  have hown : s.vm.findClass "guardbar/imaging/RangeTakePinLaw" = some m.cls := findClass_of_methodNamed Bd.named
  have hnm := (name_of_methodNamed Bd.named Bd.method).1
  have X0 : Stand p l e room_1 s m #[(.int q0), (.int q1), (.int q2), (.int q3)] below meth c s₁ [] 0 0 := Stand.of_body Bd
  have e0 : s₁.heap = h0 := by rw [← hh, Bd.state]; rfl
  have N0 := Fr.nil n0
  show Go p e below (Ret s (Q0 Z q0 q1 q2 q3 h0 n0) 16 128) (s₁.setTop (entryFrame m #[(.int q0), (.int q1), (.int q2), (.int q3)] maxLocals))
  rw [ef0 m q0 q1 q2 q3]
  refine g_iloadN X0 hx (hb hby at_0) rfl ?_
  refine g_iconst X0 hx (hb hby at_1) (v := (1 : Int32)) (by decide) ?_
  obtain ⟨i1, hi1⟩ : ∃ v : Int32, q3 &&& (1 : Int32) = v := ⟨_, rfl⟩
  refine g_iand X0 hx (hb hby at_2) hi1 ?_
  by_cases hc3_2 : i1 = (0 : Int32)
  ·
    refine g_ifYes X0 hx (hb hby at_3) (teq hc3_2).1 (by decide) (pc' := 10) (by decide) ?_
    refine g_iconst X0 hx (hb hby at_10) (v := (0 : Int32)) (by decide) ?_
    refine g_istore X0 hx (hb hby at_11) (L' := #[.val (.int q0), .val (.int q1), .val (.int q2), .val (.int q3), .val (.int (0 : Int32)), .unset, .unset, .unset, .unset, .unset, .unset, .unset]) rfl ?_
    refine g_iloadN X0 hx (hb hby at_13) rfl ?_
    refine g_iconst X0 hx (hb hby at_14) (v := (2 : Int32)) (by decide) ?_
    obtain ⟨i3, hi3⟩ : ∃ v : Int32, q3 &&& (2 : Int32) = v := ⟨_, rfl⟩
    refine g_iand X0 hx (hb hby at_15) hi3 ?_
    by_cases hc16_4 : i3 = (0 : Int32)
    ·
      refine g_ifYes X0 hx (hb hby at_16) (teq hc16_4).1 (by decide) (pc' := 23) (by decide) ?_
      refine g_iconst X0 hx (hb hby at_23) (v := (0 : Int32)) (by decide) ?_
      refine g_istore X0 hx (hb hby at_24) (L' := #[.val (.int q0), .val (.int q1), .val (.int q2), .val (.int q3), .val (.int (0 : Int32)), .val (.int (0 : Int32)), .unset, .unset, .unset, .unset, .unset, .unset]) rfl ?_
      refine g_iloadN X0 hx (hb hby at_26) rfl ?_
      refine g_istore X0 hx (hb hby at_27) (L' := #[.val (.int q0), .val (.int q1), .val (.int q2), .val (.int q3), .val (.int (0 : Int32)), .val (.int (0 : Int32)), .val (.int q0), .unset, .unset, .unset, .unset, .unset]) rfl ?_
      refine g_iloadN X0 hx (hb hby at_29) rfl ?_
      refine g_istore X0 hx (hb hby at_30) (L' := #[.val (.int q0), .val (.int q1), .val (.int q2), .val (.int q3), .val (.int (0 : Int32)), .val (.int (0 : Int32)), .val (.int q0), .val (.int q0), .unset, .unset, .unset, .unset]) rfl ?_
      refine g_iload X0 hx (hb hby at_32) rfl ?_
      have hc34_5 : (0 : Int32) = (0 : Int32) := (by decide)
      refine g_ifYes X0 hx (hb hby at_34) (teq hc34_5).1 (by decide) (pc' := 53) (by decide) ?_
      refine g_iload X0 hx (hb hby at_53) rfl ?_
      have hc55_6 : (0 : Int32) = (0 : Int32) := (by decide)
      refine g_ifYes X0 hx (hb hby at_55) (teq hc55_6).1 (by decide) (pc' := 74) (by decide) ?_
      refine g_iloadN X0 hx (hb hby at_74) rfl ?_
      obtain ⟨f7, hf7⟩ : ∃ v : UInt32, FP.i2f q0 = v := ⟨_, rfl⟩
      refine g_i2f X0 hx (hb hby at_75) hf7 ?_
      refine g_fstore X0 hx (hb hby at_76) (L' := #[.val (.int q0), .val (.int q1), .val (.int q2), .val (.int q3), .val (.int (0 : Int32)), .val (.int (0 : Int32)), .val (.int q0), .val (.int q0), .val (.float f7), .unset, .unset, .unset]) rfl ?_
      refine g_iloadN X0 hx (hb hby at_78) rfl ?_
      obtain ⟨f8, hf8⟩ : ∃ v : UInt32, FP.i2f q1 = v := ⟨_, rfl⟩
      refine g_i2f X0 hx (hb hby at_79) hf8 ?_
      refine g_fstore X0 hx (hb hby at_80) (L' := #[.val (.int q0), .val (.int q1), .val (.int q2), .val (.int q3), .val (.int (0 : Int32)), .val (.int (0 : Int32)), .val (.int q0), .val (.int q0), .val (.float f7), .val (.float f8), .unset, .unset]) rfl ?_
      refine g_iloadN X0 hx (hb hby at_82) rfl ?_
      obtain ⟨f9, hf9⟩ : ∃ v : UInt32, FP.i2f q2 = v := ⟨_, rfl⟩
      refine g_i2f X0 hx (hb hby at_83) hf9 ?_
      refine g_fstore X0 hx (hb hby at_84) (L' := #[.val (.int q0), .val (.int q1), .val (.int q2), .val (.int q3), .val (.int (0 : Int32)), .val (.int (0 : Int32)), .val (.int q0), .val (.int q0), .val (.float f7), .val (.float f8), .val (.float f9), .unset]) rfl ?_
      refine g_new X0 hx hZ hown (hw _ (List.mem_of_getElem? (i := 7) rfl)) (hw _ (List.mem_of_getElem? (i := 8) rfl)) (hw _ (List.mem_of_getElem? (i := 9) rfl)) e0 (hb hby at_86) (by decide) (by decide) ?_
      intro T10 h13 a17 ga17 X11 e12 E14 F15 D16
      have ge_a17 : n0 ≤ a17 := by rw [ga17]; exact Z0
      have Z18 : n0 ≤ h13.size := Nat.le_trans Z0 E14.1
      have F20 : Fld Z h13 a17 "guardbar/imaging/Range" "darkest" "F" (.float (0 : UInt32)) := D16 (Or.inl (hw _ (List.mem_of_getElem? (i := 23) rfl))) (ty := .float) (by decide)
      have F22 : Fld Z h13 a17 "guardbar/imaging/Range" "lightest" "F" (.float (0 : UInt32)) := D16 (Or.inl (hw _ (List.mem_of_getElem? (i := 26) rfl))) (ty := .float) (by decide)
      refine g_dup X11 hx (hb hby at_89) rfl ?_
      refine g_init X11 hx hZ hown rfl (hw _ (List.mem_of_getElem? (i := 10) rfl)) (hw _ (List.mem_of_getElem? (i := 11) rfl)) (hw _ (List.mem_of_getElem? (i := 9) rfl)) (hw _ (List.mem_of_getElem? (i := 12) rfl)) (by decide) (rmi l Z a0 hw [] a17 (0 : UInt32) (0 : UInt32) h13 n0 Z18 F15 F20 F22 ge_a17) e12 (W := 1) (by decide) (by decide) (by rw [hml]; rfl) a17 [] [(.ref a17)] (lenOf pd0_0 rfl) rfl rfl (Nat.le_of_eq rfl) (hb hby at_90) (by decide) (by decide) ?_
      intro v28 T24 L27 X25 hQ26
      obtain ⟨rfl, N29, K30, F31, F32, F33⟩ := hQ26
      have N34 := Fr.app N0 N29
      have F35 := F15.keep K30
      have Z38 : n0 ≤ T24.heap.size := Nat.le_trans Z18 K30.1
      show Go p e below (Ret s (Q0 Z q0 q1 q2 q3 h0 n0) 16 128) (T24.setTop (mkF m 93 #[.val (.int q0), .val (.int q1), .val (.int q2), .val (.int q3), .val (.int (0 : Int32)), .val (.int (0 : Int32)), .val (.int q0), .val (.int q0), .val (.float f7), .val (.float f8), .val (.float f9), .unset] [(.ref a17)]))
      refine g_astore X25 hx (hb hby at_93) rfl (L' := #[.val (.int q0), .val (.int q1), .val (.int q2), .val (.int q3), .val (.int (0 : Int32)), .val (.int (0 : Int32)), .val (.int q0), .val (.int q0), .val (.float f7), .val (.float f8), .val (.float f9), .val (.ref a17)]) rfl ?_
      refine g_aload X25 hx (hb hby at_95) rfl rfl ?_
      refine g_fload X25 hx (hb hby at_97) rfl ?_
      refine g_callV X25 hx hZ hown (hw _ (List.mem_of_getElem? (i := 27) rfl)) (hw _ (List.mem_of_getElem? (i := 28) rfl)) (hw _ (List.mem_of_getElem? (i := 30) rfl)) (hw _ (List.mem_of_getElem? (i := 29) rfl)) (hw _ (List.mem_of_getElem? (i := 9) rfl)) (hw _ (List.mem_of_getElem? (i := 31) rfl)) (by decide) (rmt l Z a0 hw [] a17 f7 (2139095040 : UInt32) (4286578688 : UInt32) T24.heap n0 Z38 F31 F32 F33 ge_a17) rfl (W := 0) (by decide) (by decide) (by rw [hml]; rfl) a17 F31 [(.float f7)] [] (lenOf pd0_1 rfl) rfl rfl (Nat.le_of_eq rfl) (hb hby at_99) (by decide) (by decide) ?_
      intro v46 T42 L45 X43 hQ44
      obtain ⟨rfl, N49, K50, F51, F52, F53⟩ := hQ44
      have N54 := Fr.app N34 N49
      have F55 := F31.keep K50
      have Z58 : n0 ≤ T42.heap.size := Nat.le_trans Z38 K50.1
      show Go p e below (Ret s (Q0 Z q0 q1 q2 q3 h0 n0) 16 128) (T42.setTop (mkF m 102 #[.val (.int q0), .val (.int q1), .val (.int q2), .val (.int q3), .val (.int (0 : Int32)), .val (.int (0 : Int32)), .val (.int q0), .val (.int q0), .val (.float f7), .val (.float f8), .val (.float f9), .val (.ref a17)] []))
      obtain ⟨dk47, hdk47⟩ : ∃ d : UInt32, (if FP.fcmp f7 (2139095040 : UInt32) = some .lt then f7 else (2139095040 : UInt32)) = d := ⟨_, rfl⟩
      rw [hdk47] at F52
      obtain ⟨lt48, hlt48⟩ : ∃ d : UInt32, (if FP.fcmp f7 (4286578688 : UInt32) = some .gt then f7 else (4286578688 : UInt32)) = d := ⟨_, rfl⟩
      rw [hlt48] at F53
      have Ddk47 : own_D dk47 q0 := by rw [← hdk47, ← hf7]; exact (own_first _).1
      have Dlt48 : own_D lt48 q0 := by rw [← hlt48, ← hf7]; exact (own_first _).2
      refine g_iload X43 hx (hb hby at_102) rfl ?_
      have hc104_62 : (0 : Int32) = (0 : Int32) := (by decide)
      refine g_ifYes X43 hx (hb hby at_104) (teq hc104_62).1 (by decide) (pc' := 114) (by decide) ?_
      refine g_iload X43 hx (hb hby at_114) rfl ?_
      have hc116_63 : (0 : Int32) = (0 : Int32) := (by decide)
      refine g_ifYes X43 hx (hb hby at_116) (teq hc116_63).1 (by decide) (pc' := 126) (by decide) ?_
      refine g_aload X43 hx (hb hby at_126) rfl rfl ?_
      refine g_callV X43 hx hZ hown (hw _ (List.mem_of_getElem? (i := 32) rfl)) (hw _ (List.mem_of_getElem? (i := 33) rfl)) (hw _ (List.mem_of_getElem? (i := 35) rfl)) (hw _ (List.mem_of_getElem? (i := 34) rfl)) (hw _ (List.mem_of_getElem? (i := 9) rfl)) (hw _ (List.mem_of_getElem? (i := 36) rfl)) (by decide) (rmd l Z a0 hw [] a17 dk47 T42.heap n0 Z58 F52) rfl (W := 0) (by decide) (by decide) (by rw [hml]; rfl) a17 F51 [] [] (lenOf pd0_2 rfl) rfl rfl (Nat.le_of_eq rfl) (hb hby at_128) (by decide) (by decide) ?_
      intro v68 T64 L67 X65 hQ66
      obtain ⟨rfl, N69, e70⟩ := hQ66
      have N71 := Fr.app N54 N69
      show Go p e below (Ret s (Q0 Z q0 q1 q2 q3 h0 n0) 16 128) (T64.setTop (mkF m 131 #[.val (.int q0), .val (.int q1), .val (.int q2), .val (.int q3), .val (.int (0 : Int32)), .val (.int (0 : Int32)), .val (.int q0), .val (.int q0), .val (.float f7), .val (.float f8), .val (.float f9), .val (.ref a17)] [(.float dk47)]))
      refine g_iload X65 hx (hb hby at_131) rfl ?_
      obtain ⟨f72, hf72⟩ : ∃ v : UInt32, FP.i2f q0 = v := ⟨_, rfl⟩
      refine g_i2f X65 hx (hb hby at_133) hf72 ?_
      refine g_fcmp X65 hx (hb hby at_134) ?_
      have hc135_73 : FP.fcmp dk47 f72 = some .eq := (by rw [← hf72]; exact own_eqD Ddk47)
      refine g_ifNo X65 hx (hb hby at_135) (teq ((cv_l_eq _).mpr hc135_73)).2 ?_
      refine g_aload X65 hx (hb hby at_138) rfl rfl ?_
      refine g_callV X65 hx hZ hown (hw _ (List.mem_of_getElem? (i := 37) rfl)) (hw _ (List.mem_of_getElem? (i := 38) rfl)) (hw _ (List.mem_of_getElem? (i := 40) rfl)) (hw _ (List.mem_of_getElem? (i := 39) rfl)) (hw _ (List.mem_of_getElem? (i := 9) rfl)) (hw _ (List.mem_of_getElem? (i := 41) rfl)) (by decide) (rml l Z a0 hw [] a17 lt48 T42.heap n0 Z58 F53) e70 (W := 0) (by decide) (by decide) (by rw [hml]; rfl) a17 F51 [] [] (lenOf pd0_2 rfl) rfl rfl (Nat.le_of_eq rfl) (hb hby at_140) (by decide) (by decide) ?_
      intro v78 T74 L77 X75 hQ76
      obtain ⟨rfl, N79, e80⟩ := hQ76
      have N81 := Fr.app N71 N79
      show Go p e below (Ret s (Q0 Z q0 q1 q2 q3 h0 n0) 16 128) (T74.setTop (mkF m 143 #[.val (.int q0), .val (.int q1), .val (.int q2), .val (.int q3), .val (.int (0 : Int32)), .val (.int (0 : Int32)), .val (.int q0), .val (.int q0), .val (.float f7), .val (.float f8), .val (.float f9), .val (.ref a17)] [(.float lt48)]))
      refine g_iload X75 hx (hb hby at_143) rfl ?_
      obtain ⟨f82, hf82⟩ : ∃ v : UInt32, FP.i2f q0 = v := ⟨_, rfl⟩
      refine g_i2f X75 hx (hb hby at_145) hf82 ?_
      refine g_fcmp X75 hx (hb hby at_146) ?_
      have hc147_83 : FP.fcmp lt48 f82 = some .eq := (by rw [← hf82]; exact own_eqD Dlt48)
      refine g_ifNo X75 hx (hb hby at_147) (teq ((cv_l_eq _).mpr hc147_83)).2 ?_
      refine g_iconst X75 hx (hb hby at_150) (v := (1 : Int32)) (by decide) ?_
      refine g_goto X75 hx (hb hby at_151) (by decide) (pc' := 155) (by decide) ?_
      refine g_ireturn X75 hx Bd.notSynchronized Bd.returns rfl (by simp) (hb hby at_155) (by decide) (by decide) ?_
      exact ⟨rfl, N81⟩
    ·
      refine g_ifNo X0 hx (hb hby at_16) (feq hc16_4).1 ?_
      refine g_iconst X0 hx (hb hby at_19) (v := (1 : Int32)) (by decide) ?_
      refine g_goto X0 hx (hb hby at_20) (by decide) (pc' := 24) (by decide) ?_
      refine g_istore X0 hx (hb hby at_24) (L' := #[.val (.int q0), .val (.int q1), .val (.int q2), .val (.int q3), .val (.int (0 : Int32)), .val (.int (1 : Int32)), .unset, .unset, .unset, .unset, .unset, .unset]) rfl ?_
      refine g_iloadN X0 hx (hb hby at_26) rfl ?_
      refine g_istore X0 hx (hb hby at_27) (L' := #[.val (.int q0), .val (.int q1), .val (.int q2), .val (.int q3), .val (.int (0 : Int32)), .val (.int (1 : Int32)), .val (.int q0), .unset, .unset, .unset, .unset, .unset]) rfl ?_
      refine g_iloadN X0 hx (hb hby at_29) rfl ?_
      refine g_istore X0 hx (hb hby at_30) (L' := #[.val (.int q0), .val (.int q1), .val (.int q2), .val (.int q3), .val (.int (0 : Int32)), .val (.int (1 : Int32)), .val (.int q0), .val (.int q0), .unset, .unset, .unset, .unset]) rfl ?_
      refine g_iload X0 hx (hb hby at_32) rfl ?_
      have hc34_84 : (0 : Int32) = (0 : Int32) := (by decide)
      refine g_ifYes X0 hx (hb hby at_34) (teq hc34_84).1 (by decide) (pc' := 53) (by decide) ?_
      refine g_iload X0 hx (hb hby at_53) rfl ?_
      have hc55_85 : ¬ ((1 : Int32) = (0 : Int32)) := (by decide)
      refine g_ifNo X0 hx (hb hby at_55) (feq hc55_85).1 ?_
      refine g_iload X0 hx (hb hby at_58) rfl ?_
      refine g_iloadN X0 hx (hb hby at_60) rfl ?_
      refine g_callS X0 hx hZ hown (hw _ (List.mem_of_getElem? (i := 0) rfl)) (hw _ (List.mem_of_getElem? (i := 1) rfl)) (hw _ (List.mem_of_getElem? (i := 2) rfl)) (hw _ (List.mem_of_getElem? (i := 3) rfl)) (by decide) (rmm l Z a0 hw [] q0 q2 h0 n0 Z0) e0 (W := 0) (by decide) (by decide) (by rw [hml]; rfl) [(.int q0), (.int q2)] [] (lenOf pd0_3 rfl) rfl rfl (Nat.le_of_eq rfl) (hb hby at_61) (by decide) (by decide) ?_
      intro v90 T86 L89 X87 hQ88
      obtain ⟨rfl, N91, e92⟩ := hQ88
      have N93 := Fr.app N0 N91
      show Go p e below (Ret s (Q0 Z q0 q1 q2 q3 h0 n0) 16 128) (T86.setTop (mkF m 64 #[.val (.int q0), .val (.int q1), .val (.int q2), .val (.int q3), .val (.int (0 : Int32)), .val (.int (1 : Int32)), .val (.int q0), .val (.int q0), .unset, .unset, .unset, .unset] [(.int (own_min q0 q2))]))
      refine g_istore X87 hx (hb hby at_64) (L' := #[.val (.int q0), .val (.int q1), .val (.int q2), .val (.int q3), .val (.int (0 : Int32)), .val (.int (1 : Int32)), .val (.int (own_min q0 q2)), .val (.int q0), .unset, .unset, .unset, .unset]) rfl ?_
      refine g_iload X87 hx (hb hby at_66) rfl ?_
      refine g_iloadN X87 hx (hb hby at_68) rfl ?_
      refine g_callS X87 hx hZ hown (hw _ (List.mem_of_getElem? (i := 4) rfl)) (hw _ (List.mem_of_getElem? (i := 5) rfl)) (hw _ (List.mem_of_getElem? (i := 2) rfl)) (hw _ (List.mem_of_getElem? (i := 6) rfl)) (by decide) (rmx l Z a0 hw [] q0 q2 h0 n0 Z0) e92 (W := 0) (by decide) (by decide) (by rw [hml]; rfl) [(.int q0), (.int q2)] [] (lenOf pd0_3 rfl) rfl rfl (Nat.le_of_eq rfl) (hb hby at_69) (by decide) (by decide) ?_
      intro v98 T94 L97 X95 hQ96
      obtain ⟨rfl, N99, e100⟩ := hQ96
      have N101 := Fr.app N93 N99
      show Go p e below (Ret s (Q0 Z q0 q1 q2 q3 h0 n0) 16 128) (T94.setTop (mkF m 72 #[.val (.int q0), .val (.int q1), .val (.int q2), .val (.int q3), .val (.int (0 : Int32)), .val (.int (1 : Int32)), .val (.int (own_min q0 q2)), .val (.int q0), .unset, .unset, .unset, .unset] [(.int (own_max q0 q2))]))
      refine g_istore X95 hx (hb hby at_72) (L' := #[.val (.int q0), .val (.int q1), .val (.int q2), .val (.int q3), .val (.int (0 : Int32)), .val (.int (1 : Int32)), .val (.int (own_min q0 q2)), .val (.int (own_max q0 q2)), .unset, .unset, .unset, .unset]) rfl ?_
      refine g_iloadN X95 hx (hb hby at_74) rfl ?_
      obtain ⟨f102, hf102⟩ : ∃ v : UInt32, FP.i2f q0 = v := ⟨_, rfl⟩
      refine g_i2f X95 hx (hb hby at_75) hf102 ?_
      refine g_fstore X95 hx (hb hby at_76) (L' := #[.val (.int q0), .val (.int q1), .val (.int q2), .val (.int q3), .val (.int (0 : Int32)), .val (.int (1 : Int32)), .val (.int (own_min q0 q2)), .val (.int (own_max q0 q2)), .val (.float f102), .unset, .unset, .unset]) rfl ?_
      refine g_iloadN X95 hx (hb hby at_78) rfl ?_
      obtain ⟨f103, hf103⟩ : ∃ v : UInt32, FP.i2f q1 = v := ⟨_, rfl⟩
      refine g_i2f X95 hx (hb hby at_79) hf103 ?_
      refine g_fstore X95 hx (hb hby at_80) (L' := #[.val (.int q0), .val (.int q1), .val (.int q2), .val (.int q3), .val (.int (0 : Int32)), .val (.int (1 : Int32)), .val (.int (own_min q0 q2)), .val (.int (own_max q0 q2)), .val (.float f102), .val (.float f103), .unset, .unset]) rfl ?_
      refine g_iloadN X95 hx (hb hby at_82) rfl ?_
      obtain ⟨f104, hf104⟩ : ∃ v : UInt32, FP.i2f q2 = v := ⟨_, rfl⟩
      refine g_i2f X95 hx (hb hby at_83) hf104 ?_
      refine g_fstore X95 hx (hb hby at_84) (L' := #[.val (.int q0), .val (.int q1), .val (.int q2), .val (.int q3), .val (.int (0 : Int32)), .val (.int (1 : Int32)), .val (.int (own_min q0 q2)), .val (.int (own_max q0 q2)), .val (.float f102), .val (.float f103), .val (.float f104), .unset]) rfl ?_
      refine g_new X95 hx hZ hown (hw _ (List.mem_of_getElem? (i := 7) rfl)) (hw _ (List.mem_of_getElem? (i := 8) rfl)) (hw _ (List.mem_of_getElem? (i := 9) rfl)) e100 (hb hby at_86) (by decide) (by decide) ?_
      intro T105 h108 a112 ga112 X106 e107 E109 F110 D111
      have ge_a112 : n0 ≤ a112 := by rw [ga112]; exact Z0
      have Z113 : n0 ≤ h108.size := Nat.le_trans Z0 E109.1
      have F115 : Fld Z h108 a112 "guardbar/imaging/Range" "darkest" "F" (.float (0 : UInt32)) := D111 (Or.inl (hw _ (List.mem_of_getElem? (i := 23) rfl))) (ty := .float) (by decide)
      have F117 : Fld Z h108 a112 "guardbar/imaging/Range" "lightest" "F" (.float (0 : UInt32)) := D111 (Or.inl (hw _ (List.mem_of_getElem? (i := 26) rfl))) (ty := .float) (by decide)
      refine g_dup X106 hx (hb hby at_89) rfl ?_
      refine g_init X106 hx hZ hown rfl (hw _ (List.mem_of_getElem? (i := 10) rfl)) (hw _ (List.mem_of_getElem? (i := 11) rfl)) (hw _ (List.mem_of_getElem? (i := 9) rfl)) (hw _ (List.mem_of_getElem? (i := 12) rfl)) (by decide) (rmi l Z a0 hw [] a112 (0 : UInt32) (0 : UInt32) h108 n0 Z113 F110 F115 F117 ge_a112) e107 (W := 1) (by decide) (by decide) (by rw [hml]; rfl) a112 [] [(.ref a112)] (lenOf pd0_0 rfl) rfl rfl (Nat.le_of_eq rfl) (hb hby at_90) (by decide) (by decide) ?_
      intro v123 T119 L122 X120 hQ121
      obtain ⟨rfl, N124, K125, F126, F127, F128⟩ := hQ121
      have N129 := Fr.app N101 N124
      have F130 := F110.keep K125
      have Z133 : n0 ≤ T119.heap.size := Nat.le_trans Z113 K125.1
      show Go p e below (Ret s (Q0 Z q0 q1 q2 q3 h0 n0) 16 128) (T119.setTop (mkF m 93 #[.val (.int q0), .val (.int q1), .val (.int q2), .val (.int q3), .val (.int (0 : Int32)), .val (.int (1 : Int32)), .val (.int (own_min q0 q2)), .val (.int (own_max q0 q2)), .val (.float f102), .val (.float f103), .val (.float f104), .unset] [(.ref a112)]))
      refine g_astore X120 hx (hb hby at_93) rfl (L' := #[.val (.int q0), .val (.int q1), .val (.int q2), .val (.int q3), .val (.int (0 : Int32)), .val (.int (1 : Int32)), .val (.int (own_min q0 q2)), .val (.int (own_max q0 q2)), .val (.float f102), .val (.float f103), .val (.float f104), .val (.ref a112)]) rfl ?_
      refine g_aload X120 hx (hb hby at_95) rfl rfl ?_
      refine g_fload X120 hx (hb hby at_97) rfl ?_
      refine g_callV X120 hx hZ hown (hw _ (List.mem_of_getElem? (i := 27) rfl)) (hw _ (List.mem_of_getElem? (i := 28) rfl)) (hw _ (List.mem_of_getElem? (i := 30) rfl)) (hw _ (List.mem_of_getElem? (i := 29) rfl)) (hw _ (List.mem_of_getElem? (i := 9) rfl)) (hw _ (List.mem_of_getElem? (i := 31) rfl)) (by decide) (rmt l Z a0 hw [] a112 f102 (2139095040 : UInt32) (4286578688 : UInt32) T119.heap n0 Z133 F126 F127 F128 ge_a112) rfl (W := 0) (by decide) (by decide) (by rw [hml]; rfl) a112 F126 [(.float f102)] [] (lenOf pd0_1 rfl) rfl rfl (Nat.le_of_eq rfl) (hb hby at_99) (by decide) (by decide) ?_
      intro v141 T137 L140 X138 hQ139
      obtain ⟨rfl, N144, K145, F146, F147, F148⟩ := hQ139
      have N149 := Fr.app N129 N144
      have F150 := F126.keep K145
      have Z153 : n0 ≤ T137.heap.size := Nat.le_trans Z133 K145.1
      show Go p e below (Ret s (Q0 Z q0 q1 q2 q3 h0 n0) 16 128) (T137.setTop (mkF m 102 #[.val (.int q0), .val (.int q1), .val (.int q2), .val (.int q3), .val (.int (0 : Int32)), .val (.int (1 : Int32)), .val (.int (own_min q0 q2)), .val (.int (own_max q0 q2)), .val (.float f102), .val (.float f103), .val (.float f104), .val (.ref a112)] []))
      obtain ⟨dk142, hdk142⟩ : ∃ d : UInt32, (if FP.fcmp f102 (2139095040 : UInt32) = some .lt then f102 else (2139095040 : UInt32)) = d := ⟨_, rfl⟩
      rw [hdk142] at F147
      obtain ⟨lt143, hlt143⟩ : ∃ d : UInt32, (if FP.fcmp f102 (4286578688 : UInt32) = some .gt then f102 else (4286578688 : UInt32)) = d := ⟨_, rfl⟩
      rw [hlt143] at F148
      have Ddk142 : own_D dk142 q0 := by rw [← hdk142, ← hf102]; exact (own_first _).1
      have Dlt143 : own_D lt143 q0 := by rw [← hlt143, ← hf102]; exact (own_first _).2
      refine g_iload X138 hx (hb hby at_102) rfl ?_
      have hc104_157 : (0 : Int32) = (0 : Int32) := (by decide)
      refine g_ifYes X138 hx (hb hby at_104) (teq hc104_157).1 (by decide) (pc' := 114) (by decide) ?_
      refine g_iload X138 hx (hb hby at_114) rfl ?_
      have hc116_158 : ¬ ((1 : Int32) = (0 : Int32)) := (by decide)
      refine g_ifNo X138 hx (hb hby at_116) (feq hc116_158).1 ?_
      refine g_aload X138 hx (hb hby at_119) rfl rfl ?_
      refine g_fload X138 hx (hb hby at_121) rfl ?_
      refine g_callV X138 hx hZ hown (hw _ (List.mem_of_getElem? (i := 27) rfl)) (hw _ (List.mem_of_getElem? (i := 28) rfl)) (hw _ (List.mem_of_getElem? (i := 30) rfl)) (hw _ (List.mem_of_getElem? (i := 29) rfl)) (hw _ (List.mem_of_getElem? (i := 9) rfl)) (hw _ (List.mem_of_getElem? (i := 31) rfl)) (by decide) (rmt l Z a0 hw [] a112 f104 dk142 lt143 T137.heap n0 Z153 F146 F147 F148 ge_a112) rfl (W := 0) (by decide) (by decide) (by rw [hml]; rfl) a112 F146 [(.float f104)] [] (lenOf pd0_1 rfl) rfl rfl (Nat.le_of_eq rfl) (hb hby at_123) (by decide) (by decide) ?_
      intro v163 T159 L162 X160 hQ161
      obtain ⟨rfl, N166, K167, F168, F169, F170⟩ := hQ161
      have N171 := Fr.app N149 N166
      have F172 := F146.keep K167
      have Z175 : n0 ≤ T159.heap.size := Nat.le_trans Z153 K167.1
      show Go p e below (Ret s (Q0 Z q0 q1 q2 q3 h0 n0) 16 128) (T159.setTop (mkF m 126 #[.val (.int q0), .val (.int q1), .val (.int q2), .val (.int q3), .val (.int (0 : Int32)), .val (.int (1 : Int32)), .val (.int (own_min q0 q2)), .val (.int (own_max q0 q2)), .val (.float f102), .val (.float f103), .val (.float f104), .val (.ref a112)] []))
      obtain ⟨dk164, hdk164⟩ : ∃ d : UInt32, (if FP.fcmp f104 dk142 = some .lt then f104 else dk142) = d := ⟨_, rfl⟩
      rw [hdk164] at F169
      obtain ⟨lt165, hlt165⟩ : ∃ d : UInt32, (if FP.fcmp f104 lt143 = some .gt then f104 else lt143) = d := ⟨_, rfl⟩
      rw [hlt165] at F170
      have Ddk164 : own_D dk164 (own_min q0 q2) := by rw [← hdk164, ← hf104]; exact own_minD Ddk142 _
      have Dlt165 : own_D lt165 (own_max q0 q2) := by rw [← hlt165, ← hf104]; exact own_maxD Dlt143 _
      refine g_aload X160 hx (hb hby at_126) rfl rfl ?_
      refine g_callV X160 hx hZ hown (hw _ (List.mem_of_getElem? (i := 32) rfl)) (hw _ (List.mem_of_getElem? (i := 33) rfl)) (hw _ (List.mem_of_getElem? (i := 35) rfl)) (hw _ (List.mem_of_getElem? (i := 34) rfl)) (hw _ (List.mem_of_getElem? (i := 9) rfl)) (hw _ (List.mem_of_getElem? (i := 36) rfl)) (by decide) (rmd l Z a0 hw [] a112 dk164 T159.heap n0 Z175 F169) rfl (W := 0) (by decide) (by decide) (by rw [hml]; rfl) a112 F168 [] [] (lenOf pd0_2 rfl) rfl rfl (Nat.le_of_eq rfl) (hb hby at_128) (by decide) (by decide) ?_
      intro v183 T179 L182 X180 hQ181
      obtain ⟨rfl, N184, e185⟩ := hQ181
      have N186 := Fr.app N171 N184
      show Go p e below (Ret s (Q0 Z q0 q1 q2 q3 h0 n0) 16 128) (T179.setTop (mkF m 131 #[.val (.int q0), .val (.int q1), .val (.int q2), .val (.int q3), .val (.int (0 : Int32)), .val (.int (1 : Int32)), .val (.int (own_min q0 q2)), .val (.int (own_max q0 q2)), .val (.float f102), .val (.float f103), .val (.float f104), .val (.ref a112)] [(.float dk164)]))
      refine g_iload X180 hx (hb hby at_131) rfl ?_
      obtain ⟨f187, hf187⟩ : ∃ v : UInt32, FP.i2f (own_min q0 q2) = v := ⟨_, rfl⟩
      refine g_i2f X180 hx (hb hby at_133) hf187 ?_
      refine g_fcmp X180 hx (hb hby at_134) ?_
      have hc135_188 : FP.fcmp dk164 f187 = some .eq := (by rw [← hf187]; exact own_eqD Ddk164)
      refine g_ifNo X180 hx (hb hby at_135) (teq ((cv_l_eq _).mpr hc135_188)).2 ?_
      refine g_aload X180 hx (hb hby at_138) rfl rfl ?_
      refine g_callV X180 hx hZ hown (hw _ (List.mem_of_getElem? (i := 37) rfl)) (hw _ (List.mem_of_getElem? (i := 38) rfl)) (hw _ (List.mem_of_getElem? (i := 40) rfl)) (hw _ (List.mem_of_getElem? (i := 39) rfl)) (hw _ (List.mem_of_getElem? (i := 9) rfl)) (hw _ (List.mem_of_getElem? (i := 41) rfl)) (by decide) (rml l Z a0 hw [] a112 lt165 T159.heap n0 Z175 F170) e185 (W := 0) (by decide) (by decide) (by rw [hml]; rfl) a112 F168 [] [] (lenOf pd0_2 rfl) rfl rfl (Nat.le_of_eq rfl) (hb hby at_140) (by decide) (by decide) ?_
      intro v193 T189 L192 X190 hQ191
      obtain ⟨rfl, N194, e195⟩ := hQ191
      have N196 := Fr.app N186 N194
      show Go p e below (Ret s (Q0 Z q0 q1 q2 q3 h0 n0) 16 128) (T189.setTop (mkF m 143 #[.val (.int q0), .val (.int q1), .val (.int q2), .val (.int q3), .val (.int (0 : Int32)), .val (.int (1 : Int32)), .val (.int (own_min q0 q2)), .val (.int (own_max q0 q2)), .val (.float f102), .val (.float f103), .val (.float f104), .val (.ref a112)] [(.float lt165)]))
      refine g_iload X190 hx (hb hby at_143) rfl ?_
      obtain ⟨f197, hf197⟩ : ∃ v : UInt32, FP.i2f (own_max q0 q2) = v := ⟨_, rfl⟩
      refine g_i2f X190 hx (hb hby at_145) hf197 ?_
      refine g_fcmp X190 hx (hb hby at_146) ?_
      have hc147_198 : FP.fcmp lt165 f197 = some .eq := (by rw [← hf197]; exact own_eqD Dlt165)
      refine g_ifNo X190 hx (hb hby at_147) (teq ((cv_l_eq _).mpr hc147_198)).2 ?_
      refine g_iconst X190 hx (hb hby at_150) (v := (1 : Int32)) (by decide) ?_
      refine g_goto X190 hx (hb hby at_151) (by decide) (pc' := 155) (by decide) ?_
      refine g_ireturn X190 hx Bd.notSynchronized Bd.returns rfl (by simp) (hb hby at_155) (by decide) (by decide) ?_
      exact ⟨rfl, N196⟩
  ·
    refine g_ifNo X0 hx (hb hby at_3) (feq hc3_2).1 ?_
    refine g_iconst X0 hx (hb hby at_6) (v := (1 : Int32)) (by decide) ?_
    refine g_goto X0 hx (hb hby at_7) (by decide) (pc' := 11) (by decide) ?_
    refine g_istore X0 hx (hb hby at_11) (L' := #[.val (.int q0), .val (.int q1), .val (.int q2), .val (.int q3), .val (.int (1 : Int32)), .unset, .unset, .unset, .unset, .unset, .unset, .unset]) rfl ?_
    refine g_iloadN X0 hx (hb hby at_13) rfl ?_
    refine g_iconst X0 hx (hb hby at_14) (v := (2 : Int32)) (by decide) ?_
    obtain ⟨i199, hi199⟩ : ∃ v : Int32, q3 &&& (2 : Int32) = v := ⟨_, rfl⟩
    refine g_iand X0 hx (hb hby at_15) hi199 ?_
    by_cases hc16_200 : i199 = (0 : Int32)
    ·
      refine g_ifYes X0 hx (hb hby at_16) (teq hc16_200).1 (by decide) (pc' := 23) (by decide) ?_
      refine g_iconst X0 hx (hb hby at_23) (v := (0 : Int32)) (by decide) ?_
      refine g_istore X0 hx (hb hby at_24) (L' := #[.val (.int q0), .val (.int q1), .val (.int q2), .val (.int q3), .val (.int (1 : Int32)), .val (.int (0 : Int32)), .unset, .unset, .unset, .unset, .unset, .unset]) rfl ?_
      refine g_iloadN X0 hx (hb hby at_26) rfl ?_
      refine g_istore X0 hx (hb hby at_27) (L' := #[.val (.int q0), .val (.int q1), .val (.int q2), .val (.int q3), .val (.int (1 : Int32)), .val (.int (0 : Int32)), .val (.int q0), .unset, .unset, .unset, .unset, .unset]) rfl ?_
      refine g_iloadN X0 hx (hb hby at_29) rfl ?_
      refine g_istore X0 hx (hb hby at_30) (L' := #[.val (.int q0), .val (.int q1), .val (.int q2), .val (.int q3), .val (.int (1 : Int32)), .val (.int (0 : Int32)), .val (.int q0), .val (.int q0), .unset, .unset, .unset, .unset]) rfl ?_
      refine g_iload X0 hx (hb hby at_32) rfl ?_
      have hc34_201 : ¬ ((1 : Int32) = (0 : Int32)) := (by decide)
      refine g_ifNo X0 hx (hb hby at_34) (feq hc34_201).1 ?_
      refine g_iload X0 hx (hb hby at_37) rfl ?_
      refine g_iloadN X0 hx (hb hby at_39) rfl ?_
      refine g_callS X0 hx hZ hown (hw _ (List.mem_of_getElem? (i := 0) rfl)) (hw _ (List.mem_of_getElem? (i := 1) rfl)) (hw _ (List.mem_of_getElem? (i := 2) rfl)) (hw _ (List.mem_of_getElem? (i := 3) rfl)) (by decide) (rmm l Z a0 hw [] q0 q1 h0 n0 Z0) e0 (W := 0) (by decide) (by decide) (by rw [hml]; rfl) [(.int q0), (.int q1)] [] (lenOf pd0_3 rfl) rfl rfl (Nat.le_of_eq rfl) (hb hby at_40) (by decide) (by decide) ?_
      intro v206 T202 L205 X203 hQ204
      obtain ⟨rfl, N207, e208⟩ := hQ204
      have N209 := Fr.app N0 N207
      show Go p e below (Ret s (Q0 Z q0 q1 q2 q3 h0 n0) 16 128) (T202.setTop (mkF m 43 #[.val (.int q0), .val (.int q1), .val (.int q2), .val (.int q3), .val (.int (1 : Int32)), .val (.int (0 : Int32)), .val (.int q0), .val (.int q0), .unset, .unset, .unset, .unset] [(.int (own_min q0 q1))]))
      refine g_istore X203 hx (hb hby at_43) (L' := #[.val (.int q0), .val (.int q1), .val (.int q2), .val (.int q3), .val (.int (1 : Int32)), .val (.int (0 : Int32)), .val (.int (own_min q0 q1)), .val (.int q0), .unset, .unset, .unset, .unset]) rfl ?_
      refine g_iload X203 hx (hb hby at_45) rfl ?_
      refine g_iloadN X203 hx (hb hby at_47) rfl ?_
      refine g_callS X203 hx hZ hown (hw _ (List.mem_of_getElem? (i := 4) rfl)) (hw _ (List.mem_of_getElem? (i := 5) rfl)) (hw _ (List.mem_of_getElem? (i := 2) rfl)) (hw _ (List.mem_of_getElem? (i := 6) rfl)) (by decide) (rmx l Z a0 hw [] q0 q1 h0 n0 Z0) e208 (W := 0) (by decide) (by decide) (by rw [hml]; rfl) [(.int q0), (.int q1)] [] (lenOf pd0_3 rfl) rfl rfl (Nat.le_of_eq rfl) (hb hby at_48) (by decide) (by decide) ?_
      intro v214 T210 L213 X211 hQ212
      obtain ⟨rfl, N215, e216⟩ := hQ212
      have N217 := Fr.app N209 N215
      show Go p e below (Ret s (Q0 Z q0 q1 q2 q3 h0 n0) 16 128) (T210.setTop (mkF m 51 #[.val (.int q0), .val (.int q1), .val (.int q2), .val (.int q3), .val (.int (1 : Int32)), .val (.int (0 : Int32)), .val (.int (own_min q0 q1)), .val (.int q0), .unset, .unset, .unset, .unset] [(.int (own_max q0 q1))]))
      refine g_istore X211 hx (hb hby at_51) (L' := #[.val (.int q0), .val (.int q1), .val (.int q2), .val (.int q3), .val (.int (1 : Int32)), .val (.int (0 : Int32)), .val (.int (own_min q0 q1)), .val (.int (own_max q0 q1)), .unset, .unset, .unset, .unset]) rfl ?_
      refine g_iload X211 hx (hb hby at_53) rfl ?_
      have hc55_218 : (0 : Int32) = (0 : Int32) := (by decide)
      refine g_ifYes X211 hx (hb hby at_55) (teq hc55_218).1 (by decide) (pc' := 74) (by decide) ?_
      refine g_iloadN X211 hx (hb hby at_74) rfl ?_
      obtain ⟨f219, hf219⟩ : ∃ v : UInt32, FP.i2f q0 = v := ⟨_, rfl⟩
      refine g_i2f X211 hx (hb hby at_75) hf219 ?_
      refine g_fstore X211 hx (hb hby at_76) (L' := #[.val (.int q0), .val (.int q1), .val (.int q2), .val (.int q3), .val (.int (1 : Int32)), .val (.int (0 : Int32)), .val (.int (own_min q0 q1)), .val (.int (own_max q0 q1)), .val (.float f219), .unset, .unset, .unset]) rfl ?_
      refine g_iloadN X211 hx (hb hby at_78) rfl ?_
      obtain ⟨f220, hf220⟩ : ∃ v : UInt32, FP.i2f q1 = v := ⟨_, rfl⟩
      refine g_i2f X211 hx (hb hby at_79) hf220 ?_
      refine g_fstore X211 hx (hb hby at_80) (L' := #[.val (.int q0), .val (.int q1), .val (.int q2), .val (.int q3), .val (.int (1 : Int32)), .val (.int (0 : Int32)), .val (.int (own_min q0 q1)), .val (.int (own_max q0 q1)), .val (.float f219), .val (.float f220), .unset, .unset]) rfl ?_
      refine g_iloadN X211 hx (hb hby at_82) rfl ?_
      obtain ⟨f221, hf221⟩ : ∃ v : UInt32, FP.i2f q2 = v := ⟨_, rfl⟩
      refine g_i2f X211 hx (hb hby at_83) hf221 ?_
      refine g_fstore X211 hx (hb hby at_84) (L' := #[.val (.int q0), .val (.int q1), .val (.int q2), .val (.int q3), .val (.int (1 : Int32)), .val (.int (0 : Int32)), .val (.int (own_min q0 q1)), .val (.int (own_max q0 q1)), .val (.float f219), .val (.float f220), .val (.float f221), .unset]) rfl ?_
      refine g_new X211 hx hZ hown (hw _ (List.mem_of_getElem? (i := 7) rfl)) (hw _ (List.mem_of_getElem? (i := 8) rfl)) (hw _ (List.mem_of_getElem? (i := 9) rfl)) e216 (hb hby at_86) (by decide) (by decide) ?_
      intro T222 h225 a229 ga229 X223 e224 E226 F227 D228
      have ge_a229 : n0 ≤ a229 := by rw [ga229]; exact Z0
      have Z230 : n0 ≤ h225.size := Nat.le_trans Z0 E226.1
      have F232 : Fld Z h225 a229 "guardbar/imaging/Range" "darkest" "F" (.float (0 : UInt32)) := D228 (Or.inl (hw _ (List.mem_of_getElem? (i := 23) rfl))) (ty := .float) (by decide)
      have F234 : Fld Z h225 a229 "guardbar/imaging/Range" "lightest" "F" (.float (0 : UInt32)) := D228 (Or.inl (hw _ (List.mem_of_getElem? (i := 26) rfl))) (ty := .float) (by decide)
      refine g_dup X223 hx (hb hby at_89) rfl ?_
      refine g_init X223 hx hZ hown rfl (hw _ (List.mem_of_getElem? (i := 10) rfl)) (hw _ (List.mem_of_getElem? (i := 11) rfl)) (hw _ (List.mem_of_getElem? (i := 9) rfl)) (hw _ (List.mem_of_getElem? (i := 12) rfl)) (by decide) (rmi l Z a0 hw [] a229 (0 : UInt32) (0 : UInt32) h225 n0 Z230 F227 F232 F234 ge_a229) e224 (W := 1) (by decide) (by decide) (by rw [hml]; rfl) a229 [] [(.ref a229)] (lenOf pd0_0 rfl) rfl rfl (Nat.le_of_eq rfl) (hb hby at_90) (by decide) (by decide) ?_
      intro v240 T236 L239 X237 hQ238
      obtain ⟨rfl, N241, K242, F243, F244, F245⟩ := hQ238
      have N246 := Fr.app N217 N241
      have F247 := F227.keep K242
      have Z250 : n0 ≤ T236.heap.size := Nat.le_trans Z230 K242.1
      show Go p e below (Ret s (Q0 Z q0 q1 q2 q3 h0 n0) 16 128) (T236.setTop (mkF m 93 #[.val (.int q0), .val (.int q1), .val (.int q2), .val (.int q3), .val (.int (1 : Int32)), .val (.int (0 : Int32)), .val (.int (own_min q0 q1)), .val (.int (own_max q0 q1)), .val (.float f219), .val (.float f220), .val (.float f221), .unset] [(.ref a229)]))
      refine g_astore X237 hx (hb hby at_93) rfl (L' := #[.val (.int q0), .val (.int q1), .val (.int q2), .val (.int q3), .val (.int (1 : Int32)), .val (.int (0 : Int32)), .val (.int (own_min q0 q1)), .val (.int (own_max q0 q1)), .val (.float f219), .val (.float f220), .val (.float f221), .val (.ref a229)]) rfl ?_
      refine g_aload X237 hx (hb hby at_95) rfl rfl ?_
      refine g_fload X237 hx (hb hby at_97) rfl ?_
      refine g_callV X237 hx hZ hown (hw _ (List.mem_of_getElem? (i := 27) rfl)) (hw _ (List.mem_of_getElem? (i := 28) rfl)) (hw _ (List.mem_of_getElem? (i := 30) rfl)) (hw _ (List.mem_of_getElem? (i := 29) rfl)) (hw _ (List.mem_of_getElem? (i := 9) rfl)) (hw _ (List.mem_of_getElem? (i := 31) rfl)) (by decide) (rmt l Z a0 hw [] a229 f219 (2139095040 : UInt32) (4286578688 : UInt32) T236.heap n0 Z250 F243 F244 F245 ge_a229) rfl (W := 0) (by decide) (by decide) (by rw [hml]; rfl) a229 F243 [(.float f219)] [] (lenOf pd0_1 rfl) rfl rfl (Nat.le_of_eq rfl) (hb hby at_99) (by decide) (by decide) ?_
      intro v258 T254 L257 X255 hQ256
      obtain ⟨rfl, N261, K262, F263, F264, F265⟩ := hQ256
      have N266 := Fr.app N246 N261
      have F267 := F243.keep K262
      have Z270 : n0 ≤ T254.heap.size := Nat.le_trans Z250 K262.1
      show Go p e below (Ret s (Q0 Z q0 q1 q2 q3 h0 n0) 16 128) (T254.setTop (mkF m 102 #[.val (.int q0), .val (.int q1), .val (.int q2), .val (.int q3), .val (.int (1 : Int32)), .val (.int (0 : Int32)), .val (.int (own_min q0 q1)), .val (.int (own_max q0 q1)), .val (.float f219), .val (.float f220), .val (.float f221), .val (.ref a229)] []))
      obtain ⟨dk259, hdk259⟩ : ∃ d : UInt32, (if FP.fcmp f219 (2139095040 : UInt32) = some .lt then f219 else (2139095040 : UInt32)) = d := ⟨_, rfl⟩
      rw [hdk259] at F264
      obtain ⟨lt260, hlt260⟩ : ∃ d : UInt32, (if FP.fcmp f219 (4286578688 : UInt32) = some .gt then f219 else (4286578688 : UInt32)) = d := ⟨_, rfl⟩
      rw [hlt260] at F265
      have Ddk259 : own_D dk259 q0 := by rw [← hdk259, ← hf219]; exact (own_first _).1
      have Dlt260 : own_D lt260 q0 := by rw [← hlt260, ← hf219]; exact (own_first _).2
      refine g_iload X255 hx (hb hby at_102) rfl ?_
      have hc104_274 : ¬ ((1 : Int32) = (0 : Int32)) := (by decide)
      refine g_ifNo X255 hx (hb hby at_104) (feq hc104_274).1 ?_
      refine g_aload X255 hx (hb hby at_107) rfl rfl ?_
      refine g_fload X255 hx (hb hby at_109) rfl ?_
      refine g_callV X255 hx hZ hown (hw _ (List.mem_of_getElem? (i := 27) rfl)) (hw _ (List.mem_of_getElem? (i := 28) rfl)) (hw _ (List.mem_of_getElem? (i := 30) rfl)) (hw _ (List.mem_of_getElem? (i := 29) rfl)) (hw _ (List.mem_of_getElem? (i := 9) rfl)) (hw _ (List.mem_of_getElem? (i := 31) rfl)) (by decide) (rmt l Z a0 hw [] a229 f220 dk259 lt260 T254.heap n0 Z270 F263 F264 F265 ge_a229) rfl (W := 0) (by decide) (by decide) (by rw [hml]; rfl) a229 F263 [(.float f220)] [] (lenOf pd0_1 rfl) rfl rfl (Nat.le_of_eq rfl) (hb hby at_111) (by decide) (by decide) ?_
      intro v279 T275 L278 X276 hQ277
      obtain ⟨rfl, N282, K283, F284, F285, F286⟩ := hQ277
      have N287 := Fr.app N266 N282
      have F288 := F263.keep K283
      have Z291 : n0 ≤ T275.heap.size := Nat.le_trans Z270 K283.1
      show Go p e below (Ret s (Q0 Z q0 q1 q2 q3 h0 n0) 16 128) (T275.setTop (mkF m 114 #[.val (.int q0), .val (.int q1), .val (.int q2), .val (.int q3), .val (.int (1 : Int32)), .val (.int (0 : Int32)), .val (.int (own_min q0 q1)), .val (.int (own_max q0 q1)), .val (.float f219), .val (.float f220), .val (.float f221), .val (.ref a229)] []))
      obtain ⟨dk280, hdk280⟩ : ∃ d : UInt32, (if FP.fcmp f220 dk259 = some .lt then f220 else dk259) = d := ⟨_, rfl⟩
      rw [hdk280] at F285
      obtain ⟨lt281, hlt281⟩ : ∃ d : UInt32, (if FP.fcmp f220 lt260 = some .gt then f220 else lt260) = d := ⟨_, rfl⟩
      rw [hlt281] at F286
      have Ddk280 : own_D dk280 (own_min q0 q1) := by rw [← hdk280, ← hf220]; exact own_minD Ddk259 _
      have Dlt281 : own_D lt281 (own_max q0 q1) := by rw [← hlt281, ← hf220]; exact own_maxD Dlt260 _
      refine g_iload X276 hx (hb hby at_114) rfl ?_
      have hc116_295 : (0 : Int32) = (0 : Int32) := (by decide)
      refine g_ifYes X276 hx (hb hby at_116) (teq hc116_295).1 (by decide) (pc' := 126) (by decide) ?_
      refine g_aload X276 hx (hb hby at_126) rfl rfl ?_
      refine g_callV X276 hx hZ hown (hw _ (List.mem_of_getElem? (i := 32) rfl)) (hw _ (List.mem_of_getElem? (i := 33) rfl)) (hw _ (List.mem_of_getElem? (i := 35) rfl)) (hw _ (List.mem_of_getElem? (i := 34) rfl)) (hw _ (List.mem_of_getElem? (i := 9) rfl)) (hw _ (List.mem_of_getElem? (i := 36) rfl)) (by decide) (rmd l Z a0 hw [] a229 dk280 T275.heap n0 Z291 F285) rfl (W := 0) (by decide) (by decide) (by rw [hml]; rfl) a229 F284 [] [] (lenOf pd0_2 rfl) rfl rfl (Nat.le_of_eq rfl) (hb hby at_128) (by decide) (by decide) ?_
      intro v300 T296 L299 X297 hQ298
      obtain ⟨rfl, N301, e302⟩ := hQ298
      have N303 := Fr.app N287 N301
      show Go p e below (Ret s (Q0 Z q0 q1 q2 q3 h0 n0) 16 128) (T296.setTop (mkF m 131 #[.val (.int q0), .val (.int q1), .val (.int q2), .val (.int q3), .val (.int (1 : Int32)), .val (.int (0 : Int32)), .val (.int (own_min q0 q1)), .val (.int (own_max q0 q1)), .val (.float f219), .val (.float f220), .val (.float f221), .val (.ref a229)] [(.float dk280)]))
      refine g_iload X297 hx (hb hby at_131) rfl ?_
      obtain ⟨f304, hf304⟩ : ∃ v : UInt32, FP.i2f (own_min q0 q1) = v := ⟨_, rfl⟩
      refine g_i2f X297 hx (hb hby at_133) hf304 ?_
      refine g_fcmp X297 hx (hb hby at_134) ?_
      have hc135_305 : FP.fcmp dk280 f304 = some .eq := (by rw [← hf304]; exact own_eqD Ddk280)
      refine g_ifNo X297 hx (hb hby at_135) (teq ((cv_l_eq _).mpr hc135_305)).2 ?_
      refine g_aload X297 hx (hb hby at_138) rfl rfl ?_
      refine g_callV X297 hx hZ hown (hw _ (List.mem_of_getElem? (i := 37) rfl)) (hw _ (List.mem_of_getElem? (i := 38) rfl)) (hw _ (List.mem_of_getElem? (i := 40) rfl)) (hw _ (List.mem_of_getElem? (i := 39) rfl)) (hw _ (List.mem_of_getElem? (i := 9) rfl)) (hw _ (List.mem_of_getElem? (i := 41) rfl)) (by decide) (rml l Z a0 hw [] a229 lt281 T275.heap n0 Z291 F286) e302 (W := 0) (by decide) (by decide) (by rw [hml]; rfl) a229 F284 [] [] (lenOf pd0_2 rfl) rfl rfl (Nat.le_of_eq rfl) (hb hby at_140) (by decide) (by decide) ?_
      intro v310 T306 L309 X307 hQ308
      obtain ⟨rfl, N311, e312⟩ := hQ308
      have N313 := Fr.app N303 N311
      show Go p e below (Ret s (Q0 Z q0 q1 q2 q3 h0 n0) 16 128) (T306.setTop (mkF m 143 #[.val (.int q0), .val (.int q1), .val (.int q2), .val (.int q3), .val (.int (1 : Int32)), .val (.int (0 : Int32)), .val (.int (own_min q0 q1)), .val (.int (own_max q0 q1)), .val (.float f219), .val (.float f220), .val (.float f221), .val (.ref a229)] [(.float lt281)]))
      refine g_iload X307 hx (hb hby at_143) rfl ?_
      obtain ⟨f314, hf314⟩ : ∃ v : UInt32, FP.i2f (own_max q0 q1) = v := ⟨_, rfl⟩
      refine g_i2f X307 hx (hb hby at_145) hf314 ?_
      refine g_fcmp X307 hx (hb hby at_146) ?_
      have hc147_315 : FP.fcmp lt281 f314 = some .eq := (by rw [← hf314]; exact own_eqD Dlt281)
      refine g_ifNo X307 hx (hb hby at_147) (teq ((cv_l_eq _).mpr hc147_315)).2 ?_
      refine g_iconst X307 hx (hb hby at_150) (v := (1 : Int32)) (by decide) ?_
      refine g_goto X307 hx (hb hby at_151) (by decide) (pc' := 155) (by decide) ?_
      refine g_ireturn X307 hx Bd.notSynchronized Bd.returns rfl (by simp) (hb hby at_155) (by decide) (by decide) ?_
      exact ⟨rfl, N313⟩
    ·
      refine g_ifNo X0 hx (hb hby at_16) (feq hc16_200).1 ?_
      refine g_iconst X0 hx (hb hby at_19) (v := (1 : Int32)) (by decide) ?_
      refine g_goto X0 hx (hb hby at_20) (by decide) (pc' := 24) (by decide) ?_
      refine g_istore X0 hx (hb hby at_24) (L' := #[.val (.int q0), .val (.int q1), .val (.int q2), .val (.int q3), .val (.int (1 : Int32)), .val (.int (1 : Int32)), .unset, .unset, .unset, .unset, .unset, .unset]) rfl ?_
      refine g_iloadN X0 hx (hb hby at_26) rfl ?_
      refine g_istore X0 hx (hb hby at_27) (L' := #[.val (.int q0), .val (.int q1), .val (.int q2), .val (.int q3), .val (.int (1 : Int32)), .val (.int (1 : Int32)), .val (.int q0), .unset, .unset, .unset, .unset, .unset]) rfl ?_
      refine g_iloadN X0 hx (hb hby at_29) rfl ?_
      refine g_istore X0 hx (hb hby at_30) (L' := #[.val (.int q0), .val (.int q1), .val (.int q2), .val (.int q3), .val (.int (1 : Int32)), .val (.int (1 : Int32)), .val (.int q0), .val (.int q0), .unset, .unset, .unset, .unset]) rfl ?_
      refine g_iload X0 hx (hb hby at_32) rfl ?_
      have hc34_316 : ¬ ((1 : Int32) = (0 : Int32)) := (by decide)
      refine g_ifNo X0 hx (hb hby at_34) (feq hc34_316).1 ?_
      refine g_iload X0 hx (hb hby at_37) rfl ?_
      refine g_iloadN X0 hx (hb hby at_39) rfl ?_
      refine g_callS X0 hx hZ hown (hw _ (List.mem_of_getElem? (i := 0) rfl)) (hw _ (List.mem_of_getElem? (i := 1) rfl)) (hw _ (List.mem_of_getElem? (i := 2) rfl)) (hw _ (List.mem_of_getElem? (i := 3) rfl)) (by decide) (rmm l Z a0 hw [] q0 q1 h0 n0 Z0) e0 (W := 0) (by decide) (by decide) (by rw [hml]; rfl) [(.int q0), (.int q1)] [] (lenOf pd0_3 rfl) rfl rfl (Nat.le_of_eq rfl) (hb hby at_40) (by decide) (by decide) ?_
      intro v321 T317 L320 X318 hQ319
      obtain ⟨rfl, N322, e323⟩ := hQ319
      have N324 := Fr.app N0 N322
      show Go p e below (Ret s (Q0 Z q0 q1 q2 q3 h0 n0) 16 128) (T317.setTop (mkF m 43 #[.val (.int q0), .val (.int q1), .val (.int q2), .val (.int q3), .val (.int (1 : Int32)), .val (.int (1 : Int32)), .val (.int q0), .val (.int q0), .unset, .unset, .unset, .unset] [(.int (own_min q0 q1))]))
      refine g_istore X318 hx (hb hby at_43) (L' := #[.val (.int q0), .val (.int q1), .val (.int q2), .val (.int q3), .val (.int (1 : Int32)), .val (.int (1 : Int32)), .val (.int (own_min q0 q1)), .val (.int q0), .unset, .unset, .unset, .unset]) rfl ?_
      refine g_iload X318 hx (hb hby at_45) rfl ?_
      refine g_iloadN X318 hx (hb hby at_47) rfl ?_
      refine g_callS X318 hx hZ hown (hw _ (List.mem_of_getElem? (i := 4) rfl)) (hw _ (List.mem_of_getElem? (i := 5) rfl)) (hw _ (List.mem_of_getElem? (i := 2) rfl)) (hw _ (List.mem_of_getElem? (i := 6) rfl)) (by decide) (rmx l Z a0 hw [] q0 q1 h0 n0 Z0) e323 (W := 0) (by decide) (by decide) (by rw [hml]; rfl) [(.int q0), (.int q1)] [] (lenOf pd0_3 rfl) rfl rfl (Nat.le_of_eq rfl) (hb hby at_48) (by decide) (by decide) ?_
      intro v329 T325 L328 X326 hQ327
      obtain ⟨rfl, N330, e331⟩ := hQ327
      have N332 := Fr.app N324 N330
      show Go p e below (Ret s (Q0 Z q0 q1 q2 q3 h0 n0) 16 128) (T325.setTop (mkF m 51 #[.val (.int q0), .val (.int q1), .val (.int q2), .val (.int q3), .val (.int (1 : Int32)), .val (.int (1 : Int32)), .val (.int (own_min q0 q1)), .val (.int q0), .unset, .unset, .unset, .unset] [(.int (own_max q0 q1))]))
      refine g_istore X326 hx (hb hby at_51) (L' := #[.val (.int q0), .val (.int q1), .val (.int q2), .val (.int q3), .val (.int (1 : Int32)), .val (.int (1 : Int32)), .val (.int (own_min q0 q1)), .val (.int (own_max q0 q1)), .unset, .unset, .unset, .unset]) rfl ?_
      refine g_iload X326 hx (hb hby at_53) rfl ?_
      have hc55_333 : ¬ ((1 : Int32) = (0 : Int32)) := (by decide)
      refine g_ifNo X326 hx (hb hby at_55) (feq hc55_333).1 ?_
      refine g_iload X326 hx (hb hby at_58) rfl ?_
      refine g_iloadN X326 hx (hb hby at_60) rfl ?_
      refine g_callS X326 hx hZ hown (hw _ (List.mem_of_getElem? (i := 0) rfl)) (hw _ (List.mem_of_getElem? (i := 1) rfl)) (hw _ (List.mem_of_getElem? (i := 2) rfl)) (hw _ (List.mem_of_getElem? (i := 3) rfl)) (by decide) (rmm l Z a0 hw [] (own_min q0 q1) q2 h0 n0 Z0) e331 (W := 0) (by decide) (by decide) (by rw [hml]; rfl) [(.int (own_min q0 q1)), (.int q2)] [] (lenOf pd0_3 rfl) rfl rfl (Nat.le_of_eq rfl) (hb hby at_61) (by decide) (by decide) ?_
      intro v338 T334 L337 X335 hQ336
      obtain ⟨rfl, N339, e340⟩ := hQ336
      have N341 := Fr.app N332 N339
      show Go p e below (Ret s (Q0 Z q0 q1 q2 q3 h0 n0) 16 128) (T334.setTop (mkF m 64 #[.val (.int q0), .val (.int q1), .val (.int q2), .val (.int q3), .val (.int (1 : Int32)), .val (.int (1 : Int32)), .val (.int (own_min q0 q1)), .val (.int (own_max q0 q1)), .unset, .unset, .unset, .unset] [(.int (own_min (own_min q0 q1) q2))]))
      refine g_istore X335 hx (hb hby at_64) (L' := #[.val (.int q0), .val (.int q1), .val (.int q2), .val (.int q3), .val (.int (1 : Int32)), .val (.int (1 : Int32)), .val (.int (own_min (own_min q0 q1) q2)), .val (.int (own_max q0 q1)), .unset, .unset, .unset, .unset]) rfl ?_
      refine g_iload X335 hx (hb hby at_66) rfl ?_
      refine g_iloadN X335 hx (hb hby at_68) rfl ?_
      refine g_callS X335 hx hZ hown (hw _ (List.mem_of_getElem? (i := 4) rfl)) (hw _ (List.mem_of_getElem? (i := 5) rfl)) (hw _ (List.mem_of_getElem? (i := 2) rfl)) (hw _ (List.mem_of_getElem? (i := 6) rfl)) (by decide) (rmx l Z a0 hw [] (own_max q0 q1) q2 h0 n0 Z0) e340 (W := 0) (by decide) (by decide) (by rw [hml]; rfl) [(.int (own_max q0 q1)), (.int q2)] [] (lenOf pd0_3 rfl) rfl rfl (Nat.le_of_eq rfl) (hb hby at_69) (by decide) (by decide) ?_
      intro v346 T342 L345 X343 hQ344
      obtain ⟨rfl, N347, e348⟩ := hQ344
      have N349 := Fr.app N341 N347
      show Go p e below (Ret s (Q0 Z q0 q1 q2 q3 h0 n0) 16 128) (T342.setTop (mkF m 72 #[.val (.int q0), .val (.int q1), .val (.int q2), .val (.int q3), .val (.int (1 : Int32)), .val (.int (1 : Int32)), .val (.int (own_min (own_min q0 q1) q2)), .val (.int (own_max q0 q1)), .unset, .unset, .unset, .unset] [(.int (own_max (own_max q0 q1) q2))]))
      refine g_istore X343 hx (hb hby at_72) (L' := #[.val (.int q0), .val (.int q1), .val (.int q2), .val (.int q3), .val (.int (1 : Int32)), .val (.int (1 : Int32)), .val (.int (own_min (own_min q0 q1) q2)), .val (.int (own_max (own_max q0 q1) q2)), .unset, .unset, .unset, .unset]) rfl ?_
      refine g_iloadN X343 hx (hb hby at_74) rfl ?_
      obtain ⟨f350, hf350⟩ : ∃ v : UInt32, FP.i2f q0 = v := ⟨_, rfl⟩
      refine g_i2f X343 hx (hb hby at_75) hf350 ?_
      refine g_fstore X343 hx (hb hby at_76) (L' := #[.val (.int q0), .val (.int q1), .val (.int q2), .val (.int q3), .val (.int (1 : Int32)), .val (.int (1 : Int32)), .val (.int (own_min (own_min q0 q1) q2)), .val (.int (own_max (own_max q0 q1) q2)), .val (.float f350), .unset, .unset, .unset]) rfl ?_
      refine g_iloadN X343 hx (hb hby at_78) rfl ?_
      obtain ⟨f351, hf351⟩ : ∃ v : UInt32, FP.i2f q1 = v := ⟨_, rfl⟩
      refine g_i2f X343 hx (hb hby at_79) hf351 ?_
      refine g_fstore X343 hx (hb hby at_80) (L' := #[.val (.int q0), .val (.int q1), .val (.int q2), .val (.int q3), .val (.int (1 : Int32)), .val (.int (1 : Int32)), .val (.int (own_min (own_min q0 q1) q2)), .val (.int (own_max (own_max q0 q1) q2)), .val (.float f350), .val (.float f351), .unset, .unset]) rfl ?_
      refine g_iloadN X343 hx (hb hby at_82) rfl ?_
      obtain ⟨f352, hf352⟩ : ∃ v : UInt32, FP.i2f q2 = v := ⟨_, rfl⟩
      refine g_i2f X343 hx (hb hby at_83) hf352 ?_
      refine g_fstore X343 hx (hb hby at_84) (L' := #[.val (.int q0), .val (.int q1), .val (.int q2), .val (.int q3), .val (.int (1 : Int32)), .val (.int (1 : Int32)), .val (.int (own_min (own_min q0 q1) q2)), .val (.int (own_max (own_max q0 q1) q2)), .val (.float f350), .val (.float f351), .val (.float f352), .unset]) rfl ?_
      refine g_new X343 hx hZ hown (hw _ (List.mem_of_getElem? (i := 7) rfl)) (hw _ (List.mem_of_getElem? (i := 8) rfl)) (hw _ (List.mem_of_getElem? (i := 9) rfl)) e348 (hb hby at_86) (by decide) (by decide) ?_
      intro T353 h356 a360 ga360 X354 e355 E357 F358 D359
      have ge_a360 : n0 ≤ a360 := by rw [ga360]; exact Z0
      have Z361 : n0 ≤ h356.size := Nat.le_trans Z0 E357.1
      have F363 : Fld Z h356 a360 "guardbar/imaging/Range" "darkest" "F" (.float (0 : UInt32)) := D359 (Or.inl (hw _ (List.mem_of_getElem? (i := 23) rfl))) (ty := .float) (by decide)
      have F365 : Fld Z h356 a360 "guardbar/imaging/Range" "lightest" "F" (.float (0 : UInt32)) := D359 (Or.inl (hw _ (List.mem_of_getElem? (i := 26) rfl))) (ty := .float) (by decide)
      refine g_dup X354 hx (hb hby at_89) rfl ?_
      refine g_init X354 hx hZ hown rfl (hw _ (List.mem_of_getElem? (i := 10) rfl)) (hw _ (List.mem_of_getElem? (i := 11) rfl)) (hw _ (List.mem_of_getElem? (i := 9) rfl)) (hw _ (List.mem_of_getElem? (i := 12) rfl)) (by decide) (rmi l Z a0 hw [] a360 (0 : UInt32) (0 : UInt32) h356 n0 Z361 F358 F363 F365 ge_a360) e355 (W := 1) (by decide) (by decide) (by rw [hml]; rfl) a360 [] [(.ref a360)] (lenOf pd0_0 rfl) rfl rfl (Nat.le_of_eq rfl) (hb hby at_90) (by decide) (by decide) ?_
      intro v371 T367 L370 X368 hQ369
      obtain ⟨rfl, N372, K373, F374, F375, F376⟩ := hQ369
      have N377 := Fr.app N349 N372
      have F378 := F358.keep K373
      have Z381 : n0 ≤ T367.heap.size := Nat.le_trans Z361 K373.1
      show Go p e below (Ret s (Q0 Z q0 q1 q2 q3 h0 n0) 16 128) (T367.setTop (mkF m 93 #[.val (.int q0), .val (.int q1), .val (.int q2), .val (.int q3), .val (.int (1 : Int32)), .val (.int (1 : Int32)), .val (.int (own_min (own_min q0 q1) q2)), .val (.int (own_max (own_max q0 q1) q2)), .val (.float f350), .val (.float f351), .val (.float f352), .unset] [(.ref a360)]))
      refine g_astore X368 hx (hb hby at_93) rfl (L' := #[.val (.int q0), .val (.int q1), .val (.int q2), .val (.int q3), .val (.int (1 : Int32)), .val (.int (1 : Int32)), .val (.int (own_min (own_min q0 q1) q2)), .val (.int (own_max (own_max q0 q1) q2)), .val (.float f350), .val (.float f351), .val (.float f352), .val (.ref a360)]) rfl ?_
      refine g_aload X368 hx (hb hby at_95) rfl rfl ?_
      refine g_fload X368 hx (hb hby at_97) rfl ?_
      refine g_callV X368 hx hZ hown (hw _ (List.mem_of_getElem? (i := 27) rfl)) (hw _ (List.mem_of_getElem? (i := 28) rfl)) (hw _ (List.mem_of_getElem? (i := 30) rfl)) (hw _ (List.mem_of_getElem? (i := 29) rfl)) (hw _ (List.mem_of_getElem? (i := 9) rfl)) (hw _ (List.mem_of_getElem? (i := 31) rfl)) (by decide) (rmt l Z a0 hw [] a360 f350 (2139095040 : UInt32) (4286578688 : UInt32) T367.heap n0 Z381 F374 F375 F376 ge_a360) rfl (W := 0) (by decide) (by decide) (by rw [hml]; rfl) a360 F374 [(.float f350)] [] (lenOf pd0_1 rfl) rfl rfl (Nat.le_of_eq rfl) (hb hby at_99) (by decide) (by decide) ?_
      intro v389 T385 L388 X386 hQ387
      obtain ⟨rfl, N392, K393, F394, F395, F396⟩ := hQ387
      have N397 := Fr.app N377 N392
      have F398 := F374.keep K393
      have Z401 : n0 ≤ T385.heap.size := Nat.le_trans Z381 K393.1
      show Go p e below (Ret s (Q0 Z q0 q1 q2 q3 h0 n0) 16 128) (T385.setTop (mkF m 102 #[.val (.int q0), .val (.int q1), .val (.int q2), .val (.int q3), .val (.int (1 : Int32)), .val (.int (1 : Int32)), .val (.int (own_min (own_min q0 q1) q2)), .val (.int (own_max (own_max q0 q1) q2)), .val (.float f350), .val (.float f351), .val (.float f352), .val (.ref a360)] []))
      obtain ⟨dk390, hdk390⟩ : ∃ d : UInt32, (if FP.fcmp f350 (2139095040 : UInt32) = some .lt then f350 else (2139095040 : UInt32)) = d := ⟨_, rfl⟩
      rw [hdk390] at F395
      obtain ⟨lt391, hlt391⟩ : ∃ d : UInt32, (if FP.fcmp f350 (4286578688 : UInt32) = some .gt then f350 else (4286578688 : UInt32)) = d := ⟨_, rfl⟩
      rw [hlt391] at F396
      have Ddk390 : own_D dk390 q0 := by rw [← hdk390, ← hf350]; exact (own_first _).1
      have Dlt391 : own_D lt391 q0 := by rw [← hlt391, ← hf350]; exact (own_first _).2
      refine g_iload X386 hx (hb hby at_102) rfl ?_
      have hc104_405 : ¬ ((1 : Int32) = (0 : Int32)) := (by decide)
      refine g_ifNo X386 hx (hb hby at_104) (feq hc104_405).1 ?_
      refine g_aload X386 hx (hb hby at_107) rfl rfl ?_
      refine g_fload X386 hx (hb hby at_109) rfl ?_
      refine g_callV X386 hx hZ hown (hw _ (List.mem_of_getElem? (i := 27) rfl)) (hw _ (List.mem_of_getElem? (i := 28) rfl)) (hw _ (List.mem_of_getElem? (i := 30) rfl)) (hw _ (List.mem_of_getElem? (i := 29) rfl)) (hw _ (List.mem_of_getElem? (i := 9) rfl)) (hw _ (List.mem_of_getElem? (i := 31) rfl)) (by decide) (rmt l Z a0 hw [] a360 f351 dk390 lt391 T385.heap n0 Z401 F394 F395 F396 ge_a360) rfl (W := 0) (by decide) (by decide) (by rw [hml]; rfl) a360 F394 [(.float f351)] [] (lenOf pd0_1 rfl) rfl rfl (Nat.le_of_eq rfl) (hb hby at_111) (by decide) (by decide) ?_
      intro v410 T406 L409 X407 hQ408
      obtain ⟨rfl, N413, K414, F415, F416, F417⟩ := hQ408
      have N418 := Fr.app N397 N413
      have F419 := F394.keep K414
      have Z422 : n0 ≤ T406.heap.size := Nat.le_trans Z401 K414.1
      show Go p e below (Ret s (Q0 Z q0 q1 q2 q3 h0 n0) 16 128) (T406.setTop (mkF m 114 #[.val (.int q0), .val (.int q1), .val (.int q2), .val (.int q3), .val (.int (1 : Int32)), .val (.int (1 : Int32)), .val (.int (own_min (own_min q0 q1) q2)), .val (.int (own_max (own_max q0 q1) q2)), .val (.float f350), .val (.float f351), .val (.float f352), .val (.ref a360)] []))
      obtain ⟨dk411, hdk411⟩ : ∃ d : UInt32, (if FP.fcmp f351 dk390 = some .lt then f351 else dk390) = d := ⟨_, rfl⟩
      rw [hdk411] at F416
      obtain ⟨lt412, hlt412⟩ : ∃ d : UInt32, (if FP.fcmp f351 lt391 = some .gt then f351 else lt391) = d := ⟨_, rfl⟩
      rw [hlt412] at F417
      have Ddk411 : own_D dk411 (own_min q0 q1) := by rw [← hdk411, ← hf351]; exact own_minD Ddk390 _
      have Dlt412 : own_D lt412 (own_max q0 q1) := by rw [← hlt412, ← hf351]; exact own_maxD Dlt391 _
      refine g_iload X407 hx (hb hby at_114) rfl ?_
      have hc116_426 : ¬ ((1 : Int32) = (0 : Int32)) := (by decide)
      refine g_ifNo X407 hx (hb hby at_116) (feq hc116_426).1 ?_
      refine g_aload X407 hx (hb hby at_119) rfl rfl ?_
      refine g_fload X407 hx (hb hby at_121) rfl ?_
      refine g_callV X407 hx hZ hown (hw _ (List.mem_of_getElem? (i := 27) rfl)) (hw _ (List.mem_of_getElem? (i := 28) rfl)) (hw _ (List.mem_of_getElem? (i := 30) rfl)) (hw _ (List.mem_of_getElem? (i := 29) rfl)) (hw _ (List.mem_of_getElem? (i := 9) rfl)) (hw _ (List.mem_of_getElem? (i := 31) rfl)) (by decide) (rmt l Z a0 hw [] a360 f352 dk411 lt412 T406.heap n0 Z422 F415 F416 F417 ge_a360) rfl (W := 0) (by decide) (by decide) (by rw [hml]; rfl) a360 F415 [(.float f352)] [] (lenOf pd0_1 rfl) rfl rfl (Nat.le_of_eq rfl) (hb hby at_123) (by decide) (by decide) ?_
      intro v431 T427 L430 X428 hQ429
      obtain ⟨rfl, N434, K435, F436, F437, F438⟩ := hQ429
      have N439 := Fr.app N418 N434
      have F440 := F415.keep K435
      have Z443 : n0 ≤ T427.heap.size := Nat.le_trans Z422 K435.1
      show Go p e below (Ret s (Q0 Z q0 q1 q2 q3 h0 n0) 16 128) (T427.setTop (mkF m 126 #[.val (.int q0), .val (.int q1), .val (.int q2), .val (.int q3), .val (.int (1 : Int32)), .val (.int (1 : Int32)), .val (.int (own_min (own_min q0 q1) q2)), .val (.int (own_max (own_max q0 q1) q2)), .val (.float f350), .val (.float f351), .val (.float f352), .val (.ref a360)] []))
      obtain ⟨dk432, hdk432⟩ : ∃ d : UInt32, (if FP.fcmp f352 dk411 = some .lt then f352 else dk411) = d := ⟨_, rfl⟩
      rw [hdk432] at F437
      obtain ⟨lt433, hlt433⟩ : ∃ d : UInt32, (if FP.fcmp f352 lt412 = some .gt then f352 else lt412) = d := ⟨_, rfl⟩
      rw [hlt433] at F438
      have Ddk432 : own_D dk432 (own_min (own_min q0 q1) q2) := by rw [← hdk432, ← hf352]; exact own_minD Ddk411 _
      have Dlt433 : own_D lt433 (own_max (own_max q0 q1) q2) := by rw [← hlt433, ← hf352]; exact own_maxD Dlt412 _
      refine g_aload X428 hx (hb hby at_126) rfl rfl ?_
      refine g_callV X428 hx hZ hown (hw _ (List.mem_of_getElem? (i := 32) rfl)) (hw _ (List.mem_of_getElem? (i := 33) rfl)) (hw _ (List.mem_of_getElem? (i := 35) rfl)) (hw _ (List.mem_of_getElem? (i := 34) rfl)) (hw _ (List.mem_of_getElem? (i := 9) rfl)) (hw _ (List.mem_of_getElem? (i := 36) rfl)) (by decide) (rmd l Z a0 hw [] a360 dk432 T427.heap n0 Z443 F437) rfl (W := 0) (by decide) (by decide) (by rw [hml]; rfl) a360 F436 [] [] (lenOf pd0_2 rfl) rfl rfl (Nat.le_of_eq rfl) (hb hby at_128) (by decide) (by decide) ?_
      intro v451 T447 L450 X448 hQ449
      obtain ⟨rfl, N452, e453⟩ := hQ449
      have N454 := Fr.app N439 N452
      show Go p e below (Ret s (Q0 Z q0 q1 q2 q3 h0 n0) 16 128) (T447.setTop (mkF m 131 #[.val (.int q0), .val (.int q1), .val (.int q2), .val (.int q3), .val (.int (1 : Int32)), .val (.int (1 : Int32)), .val (.int (own_min (own_min q0 q1) q2)), .val (.int (own_max (own_max q0 q1) q2)), .val (.float f350), .val (.float f351), .val (.float f352), .val (.ref a360)] [(.float dk432)]))
      refine g_iload X448 hx (hb hby at_131) rfl ?_
      obtain ⟨f455, hf455⟩ : ∃ v : UInt32, FP.i2f (own_min (own_min q0 q1) q2) = v := ⟨_, rfl⟩
      refine g_i2f X448 hx (hb hby at_133) hf455 ?_
      refine g_fcmp X448 hx (hb hby at_134) ?_
      have hc135_456 : FP.fcmp dk432 f455 = some .eq := (by rw [← hf455]; exact own_eqD Ddk432)
      refine g_ifNo X448 hx (hb hby at_135) (teq ((cv_l_eq _).mpr hc135_456)).2 ?_
      refine g_aload X448 hx (hb hby at_138) rfl rfl ?_
      refine g_callV X448 hx hZ hown (hw _ (List.mem_of_getElem? (i := 37) rfl)) (hw _ (List.mem_of_getElem? (i := 38) rfl)) (hw _ (List.mem_of_getElem? (i := 40) rfl)) (hw _ (List.mem_of_getElem? (i := 39) rfl)) (hw _ (List.mem_of_getElem? (i := 9) rfl)) (hw _ (List.mem_of_getElem? (i := 41) rfl)) (by decide) (rml l Z a0 hw [] a360 lt433 T427.heap n0 Z443 F438) e453 (W := 0) (by decide) (by decide) (by rw [hml]; rfl) a360 F436 [] [] (lenOf pd0_2 rfl) rfl rfl (Nat.le_of_eq rfl) (hb hby at_140) (by decide) (by decide) ?_
      intro v461 T457 L460 X458 hQ459
      obtain ⟨rfl, N462, e463⟩ := hQ459
      have N464 := Fr.app N454 N462
      show Go p e below (Ret s (Q0 Z q0 q1 q2 q3 h0 n0) 16 128) (T457.setTop (mkF m 143 #[.val (.int q0), .val (.int q1), .val (.int q2), .val (.int q3), .val (.int (1 : Int32)), .val (.int (1 : Int32)), .val (.int (own_min (own_min q0 q1) q2)), .val (.int (own_max (own_max q0 q1) q2)), .val (.float f350), .val (.float f351), .val (.float f352), .val (.ref a360)] [(.float lt433)]))
      refine g_iload X458 hx (hb hby at_143) rfl ?_
      obtain ⟨f465, hf465⟩ : ∃ v : UInt32, FP.i2f (own_max (own_max q0 q1) q2) = v := ⟨_, rfl⟩
      refine g_i2f X458 hx (hb hby at_145) hf465 ?_
      refine g_fcmp X458 hx (hb hby at_146) ?_
      have hc147_466 : FP.fcmp lt433 f465 = some .eq := (by rw [← hf465]; exact own_eqD Dlt433)
      refine g_ifNo X458 hx (hb hby at_147) (teq ((cv_l_eq _).mpr hc147_466)).2 ?_
      refine g_iconst X458 hx (hb hby at_150) (v := (1 : Int32)) (by decide) ?_
      refine g_goto X458 hx (hb hby at_151) (by decide) (pc' := 155) (by decide) ?_
      refine g_ireturn X458 hx Bd.notSynchronized Bd.returns rfl (by simp) (hb hby at_155) (by decide) (by decide) ?_
      exact ⟨rfl, N464⟩
set_option maxRecDepth 65536 in
set_option maxHeartbeats 40000000 in
theorem comes_1 {Post : Tables → Env → Array Value → State → Outcome → State → Prop} (hpost : ∀ tb e args s v u, (limb_1_1.after args s (.returned v) u = true ∧ limb_1_2.after args s (.returned v) u = true ∧ True) → FrameEnd s (.returned v) u (Jvm.fieldLocs frame_1_writes args s ++ Jvm.arrayLocs frame_1_arrays args s ++ Jvm.staticLocs frame_1_statics s) 16 128 → Post tb e args s (.returned v) u) :
    ArmFor flags0 classFile x code maxLocals ret World_1 tables_1 room_1 Calls_1 rest_1 Pre_1 Post := by
  intro l hfl _ _ p e ha hc hk s m args below hf hA hF happ hP
  obtain ⟨hcalls, hrest, hpre⟩ := hP
  obtain ⟨-, -, -, hnamed, -, -, -, hat⟩ := (Spec.applies_iff hf).mp happ
  obtain ⟨hg, hn⟩ := and_e (Cond.before_iff.mp (show (Jvm.Cond.and given_1 narrow_1).before args s = true from hpre))
  obtain ⟨h1, g0⟩ := and_e hg
  obtain ⟨k0, g1⟩ := and_e g0
  obtain ⟨k1, g2⟩ := and_e g1
  obtain ⟨k2, g3⟩ := and_e g2
  obtain ⟨w0, w1, w2, w3, rfl⟩ : ∃ w0 w1 w2 w3 : Value, args = #[w0, w1, w2, w3] := by
    have hs : args.size = 4 := by simpa [Cond.value, given_1] using h1
    obtain ⟨L⟩ := args
    match L, hs with
    | [w0, w1, w2, w3], _ => exact ⟨w0, w1, w2, w3, rfl⟩
  have hw := fun d (hd : d ∈ tables_1) => atoms_spec (ws := Jvm.Cond.code x code maxLocals ret :: tables_1) hat d (List.mem_cons_of_mem _ hd)
  have hfit : Fit s := fun {y c} hc i hi => by
    obtain ⟨ha, rfl⟩ := Array.getElem?_eq_some_iff.mp hc
    have q := List.all_eq_true.mp ((Array.all_eq_true_iff_forall_mem.mp hF) _ (Array.getElem_mem ha)) i (List.mem_range.mpr hi)
    simpa [Array.getElem?_eq_getElem hi] using q
  obtain ⟨i0, e0⟩ := is_v k0
  obtain rfl : w0 = (.int i0) := Option.some.inj e0
  obtain ⟨i1, e1⟩ := is_v k1
  obtain rfl : w1 = (.int i1) := Option.some.inj e1
  obtain ⟨i2, e2⟩ := is_v k2
  obtain rfl : w2 = (.int i2) := Option.some.inj e2
  obtain ⟨i3, e3⟩ := is_v g3
  obtain rfl : w3 = (.int i3) := Option.some.inj e3
  obtain ⟨n, o, h1, h2, h3, _, L, rfl, ⟨rfl, N⟩, hq⟩ := rm0 l s _ hw tables_1 i0 i1 i2 i3 s.heap s.heap.size (Nat.le_refl _)  p e ha hc hk s m _ below hf ((Spec.applies_iff_loose hf).mp happ).1 ⟨rfl, State.Warmed39.refl s, rfl⟩ trivial
  refine ⟨n, _, h1, h2, h3, hpost _ _ _ _ _ _ ⟨Cond.after_iff.mpr rfl, Cond.after_iff.mpr (eq_i res_at (Term.int_eval (1)) rfl), trivial⟩ ⟨hq.1, hq.2.1, (hq.2.2.sift fun y hy => Or.inr (N y hy)).mono (by decide) (by decide)⟩⟩
theorem main_1_1 : Claimed_1_1 := comes_1 fun _ _ _ _ _ _ h hF => ⟨h.1, hF⟩
theorem main_1_2 : Claimed_1_2 := comes_1 fun _ _ _ _ _ _ h hF => ⟨h.2.1, hF⟩
end Jvm.Pilot.@@N@@
namespace Jvm.Pilot.@@N@@
open Jvm Jvm.ClassFile Sem Op Lib Jvm.Free Jvm.Stand Jvm.Pilot.@@N@@.Jvm.D
/-! MADE BY PROGRAM (witnessworld.py) out of the Statement's table words and the real class files: 10 classes; the members and pool entries that the words name. The judged class is class 1, her method 1. -/
namespace start1
open Jvm.ClassFile
def u (s : String) : CpInfo := .utf8 (stringToUtf16 s)
/-- a pool by its gaps: so many unusable entries, then the entry; so many at the end -/
def gap : Nat → List CpInfo → List CpInfo
  | 0, r => r
  | n + 1, r => .unusable :: gap n r
def poolList (es : List (Nat × CpInfo)) (last : Nat) : List CpInfo := es.foldr (fun e r => gap e.1 (e.2 :: r)) (gap last [])
def pool (es : List (Nat × CpInfo)) (last : Nat) : Array CpInfo := ⟨poolList es last⟩
def fileOf (pool : Array CpInfo) (this : Nat) (attrs : Array Attribute := #[]) (ms : Array MethodInfo := #[]) (fl : Nat := 33) (sup : Nat := 0) (ifs : Array Nat := #[]) (fds : Array FieldInfo := #[]) : ClassFile where
  minorVersion := 0
  majorVersion := 65
  constantPool := pool
  accessFlags := fl
  thisClass := this
  superClass := sup
  interfaces := ifs
  fields := fds
  methods := ms
  attributes := attrs
def plain (name : String) (sup : Option ClassId) : Class where
  name := name
  kind := .ordinary
  loader := none
  accessFlags := 33
  super := sup
  interfaces := #[]
  cf := none
  fields := #[]
  methods := #[]
  instanceTypes := #[]
  staticTypes := #[]
  resolved := #[]
  callSites := []
  init := .initialized
  statics := none
  mirror := none

def pool0 : Array CpInfo := pool [(5, u "<init>"), (0, u "()V"), (1, .class_ 10), (1, u "java/lang/Object")] 113

def k0c0 : Code := { maxStack := 0, maxLocals := 1, code := object_method_1_code, exceptionTable := #[], attributes := #[] }
def k0m0 : Method := { name := "<init>", desc := "()V", sig := { parameters := [], returnType := none }, accessFlags := 1, code := some k0c0 }
/-- java/lang/Object -/
def k0 : Class := { plain "java/lang/Object" none with
  accessFlags := 33
  interfaces := #[]
  cf := some (fileOf pool0 8 #[] #[{ accessFlags := 1, nameIndex := 5, descriptorIndex := 6, attributes := #[] }] 33 0 #[] #[])
  fields := #[]
  methods := #[k0m0]
  instanceTypes := #[]
  staticTypes := #[]
  resolved := Array.replicate 124 none
  statics := none }

def pool1 : Array CpInfo := pool [(2, .class_ 4), (0, .nameAndType 5 6), (0, u "java/lang/Object"), (0, u "<init>"), (0, u "()V"), (0, .methodref 8 9), (0, .class_ 10), (0, .nameAndType 11 12), (0, u "java/lang/Math"), (0, u "min"), (0, u "(II)I"), (0, .methodref 8 14), (0, .nameAndType 15 12), (0, u "max"), (0, .class_ 17), (0, u "guardbar/imaging/Range"), (0, .methodref 16 3), (0, .methodref 16 20), (0, .nameAndType 21 22), (0, u "take"), (0, u "(F)V"), (0, .methodref 16 24), (0, .nameAndType 25 26), (0, u "darkest"), (0, u "()F"), (0, .methodref 16 28), (0, .nameAndType 29 26), (0, u "lightest"), (0, .class_ 31), (0, u "guardbar/imaging/RangeTakePinLaw"), (2, u "law"), (0, u "(IIII)Z")] 3

def k1m0 : Method := { name := "<init>", desc := "()V", sig := { parameters := [], returnType := none }, accessFlags := 1, code := none }
def k1c1 : Code := { maxStack := 2, maxLocals := 12, code := code, exceptionTable := #[], attributes := #[] }
def k1m1 : Method := { name := "law", desc := "(IIII)Z", sig := { parameters := [.int, .int, .int, .int], returnType := some .boolean }, accessFlags := 9, code := some k1c1 }
/-- guardbar/imaging/RangeTakePinLaw -/
def k1 : Class := { plain "guardbar/imaging/RangeTakePinLaw" (some 0) with
  accessFlags := 49
  interfaces := #[]
  cf := some (fileOf pool1 30 #[] #[{ accessFlags := 1, nameIndex := 5, descriptorIndex := 6, attributes := #[] }, { accessFlags := 9, nameIndex := 34, descriptorIndex := 35, attributes := #[] }] 49 2 #[] #[])
  fields := #[]
  methods := #[k1m0, k1m1]
  instanceTypes := #[]
  staticTypes := #[]
  resolved := Array.replicate 39 none
  statics := none }

def pool2 : Array CpInfo := pool [(1, .class_ 2), (0, u "java/lang/Math"), (1, .class_ 6), (1, u "java/lang/Object"), (0, u "<init>"), (0, u "()V"), (89, .class_ 100), (1, u "java/lang/Math$RandomNumberGeneratorHolder"), (71, u "negativeZeroFloatBits"), (0, u "J"), (2, u "negativeZeroDoubleBits"), (21, u "max"), (2, u "min"), (43, u "$assertionsDisabled"), (0, u "Z"), (88, u "(II)I"), (2, u "twoToTheDoubleScaleDown"), (0, u "D"), (4, u "twoToTheDoubleScaleUp"), (9, u "E"), (3, u "PI"), (2, u "TAU"), (2, u "DEGREES_TO_RADIANS"), (0, u "RADIANS_TO_DEGREES")] 94

def k2m0 : Method := { name := "<init>", desc := "()V", sig := { parameters := [], returnType := none }, accessFlags := 2, code := none }
def k2c1 : Code := { maxStack := 2, maxLocals := 2, code := jdk_29_method_65_code, exceptionTable := #[], attributes := #[] }
def k2m1 : Method := { name := "max", desc := "(II)I", sig := { parameters := [.int, .int], returnType := some .int }, accessFlags := 9, code := some k2c1 }
def k2c2 : Code := { maxStack := 2, maxLocals := 2, code := jdk_29_method_69_code, exceptionTable := #[], attributes := #[] }
def k2m2 : Method := { name := "min", desc := "(II)I", sig := { parameters := [.int, .int], returnType := some .int }, accessFlags := 9, code := some k2c2 }
/-- java/lang/Math -/
def k2 : Class := { plain "java/lang/Math" (some 0) with
  accessFlags := 49
  interfaces := #[]
  cf := some (fileOf pool2 1 #[.nestMembers #[98]] #[{ accessFlags := 2, nameIndex := 7, descriptorIndex := 8, attributes := #[] }, { accessFlags := 9, nameIndex := 198, descriptorIndex := 335, attributes := #[] }, { accessFlags := 9, nameIndex := 201, descriptorIndex := 335, attributes := #[] }] 49 4 #[] #[{ accessFlags := 25, nameIndex := 354, descriptorIndex := 339, attributes := #[] }, { accessFlags := 25, nameIndex := 358, descriptorIndex := 339, attributes := #[] }, { accessFlags := 25, nameIndex := 361, descriptorIndex := 339, attributes := #[] }, { accessFlags := 26, nameIndex := 364, descriptorIndex := 339, attributes := #[] }, { accessFlags := 26, nameIndex := 365, descriptorIndex := 339, attributes := #[] }, { accessFlags := 26, nameIndex := 172, descriptorIndex := 173, attributes := #[] }, { accessFlags := 26, nameIndex := 176, descriptorIndex := 173, attributes := #[] }, { accessFlags := 8, nameIndex := 344, descriptorIndex := 339, attributes := #[] }, { accessFlags := 8, nameIndex := 338, descriptorIndex := 339, attributes := #[] }, { accessFlags := 4120, nameIndex := 245, descriptorIndex := 246, attributes := #[] }])
  fields := #[{ name := "E", type := .double, accessFlags := 25, slot := 0, constantValue := 0 }, { name := "PI", type := .double, accessFlags := 25, slot := 1, constantValue := 0 }, { name := "TAU", type := .double, accessFlags := 25, slot := 2, constantValue := 0 }, { name := "DEGREES_TO_RADIANS", type := .double, accessFlags := 26, slot := 3, constantValue := 0 }, { name := "RADIANS_TO_DEGREES", type := .double, accessFlags := 26, slot := 4, constantValue := 0 }, { name := "negativeZeroFloatBits", type := .long, accessFlags := 26, slot := 5, constantValue := 0 }, { name := "negativeZeroDoubleBits", type := .long, accessFlags := 26, slot := 6, constantValue := 0 }, { name := "twoToTheDoubleScaleUp", type := .double, accessFlags := 8, slot := 7, constantValue := 0 }, { name := "twoToTheDoubleScaleDown", type := .double, accessFlags := 8, slot := 8, constantValue := 0 }, { name := "$assertionsDisabled", type := .boolean, accessFlags := 4120, slot := 9, constantValue := 0 }]
  methods := #[k2m0, k2m1, k2m2]
  instanceTypes := #[]
  staticTypes := #[.double, .double, .double, .double, .double, .long, .long, .double, .double, .boolean]
  resolved := Array.replicate 460 none
  statics := none }

def pool3 : Array CpInfo := pool [(1, .methodref 2 3), (0, .class_ 4), (0, .nameAndType 5 6), (0, u "java/lang/Object"), (0, u "<init>"), (0, u "()V"), (0, .methodref 8 9), (0, .class_ 10), (0, .nameAndType 11 6), (0, u "guardbar/imaging/Range"), (0, u "clear"), (2, .float 2139095040), (0, .fieldref 8 16), (0, .nameAndType 17 18), (0, u "darkest"), (0, u "F"), (0, .float 4286578688), (0, .fieldref 8 21), (0, .nameAndType 22 18), (0, u "lightest"), (2, u "take"), (0, u "(F)V"), (1, u "()F")] 2

def k3c0 : Code := { maxStack := 1, maxLocals := 1, code := prog_57_method_1_code, exceptionTable := #[], attributes := #[] }
def k3m0 : Method := { name := "<init>", desc := "()V", sig := { parameters := [], returnType := none }, accessFlags := 0, code := some k3c0 }
def k3c1 : Code := { maxStack := 2, maxLocals := 1, code := prog_57_method_2_code, exceptionTable := #[], attributes := #[] }
def k3m1 : Method := { name := "clear", desc := "()V", sig := { parameters := [], returnType := none }, accessFlags := 0, code := some k3c1 }
def k3c2 : Code := { maxStack := 2, maxLocals := 2, code := prog_57_method_3_code, exceptionTable := #[], attributes := #[] }
def k3m2 : Method := { name := "take", desc := "(F)V", sig := { parameters := [.float], returnType := none }, accessFlags := 0, code := some k3c2 }
def k3c3 : Code := { maxStack := 1, maxLocals := 1, code := prog_57_method_4_code, exceptionTable := #[], attributes := #[] }
def k3m3 : Method := { name := "darkest", desc := "()F", sig := { parameters := [], returnType := some .float }, accessFlags := 0, code := some k3c3 }
def k3c4 : Code := { maxStack := 1, maxLocals := 1, code := prog_57_method_5_code, exceptionTable := #[], attributes := #[] }
def k3m4 : Method := { name := "lightest", desc := "()F", sig := { parameters := [], returnType := some .float }, accessFlags := 0, code := some k3c4 }
/-- guardbar/imaging/Range -/
def k3 : Class := { plain "guardbar/imaging/Range" (some 0) with
  accessFlags := 48
  interfaces := #[]
  cf := some (fileOf pool3 8 #[] #[{ accessFlags := 0, nameIndex := 5, descriptorIndex := 6, attributes := #[] }, { accessFlags := 0, nameIndex := 11, descriptorIndex := 6, attributes := #[] }, { accessFlags := 0, nameIndex := 25, descriptorIndex := 26, attributes := #[] }, { accessFlags := 0, nameIndex := 17, descriptorIndex := 28, attributes := #[] }, { accessFlags := 0, nameIndex := 22, descriptorIndex := 28, attributes := #[] }] 48 2 #[] #[{ accessFlags := 2, nameIndex := 17, descriptorIndex := 18, attributes := #[] }, { accessFlags := 2, nameIndex := 22, descriptorIndex := 18, attributes := #[] }])
  fields := #[{ name := "darkest", type := .float, accessFlags := 2, slot := 0, constantValue := 0 }, { name := "lightest", type := .float, accessFlags := 2, slot := 1, constantValue := 0 }]
  methods := #[k3m0, k3m1, k3m2, k3m3, k3m4]
  instanceTypes := #[.float, .float]
  staticTypes := #[]
  resolved := Array.replicate 31 none
  statics := none }

def pool4 : Array CpInfo := pool [(1, u "java/lang/Cloneable"), (0, .class_ 1), (0, u "java/lang/Object"), (0, .class_ 3)] 3

/-- java/lang/Cloneable -/
def k4 : Class := { plain "java/lang/Cloneable" (some 0) with
  accessFlags := 1537
  interfaces := #[]
  cf := some (fileOf pool4 2 #[] #[] 1537 4 #[] #[])
  fields := #[]
  methods := #[]
  instanceTypes := #[]
  staticTypes := #[]
  resolved := Array.replicate 8 none
  statics := none }

def pool5 : Array CpInfo := pool [(1, u "java/io/Serializable"), (0, .class_ 1), (0, u "java/lang/Object"), (0, .class_ 3)] 3

/-- java/io/Serializable -/
def k5 : Class := { plain "java/io/Serializable" (some 0) with
  accessFlags := 1537
  interfaces := #[]
  cf := some (fileOf pool5 2 #[] #[] 1537 4 #[] #[])
  fields := #[]
  methods := #[]
  instanceTypes := #[]
  staticTypes := #[]
  resolved := Array.replicate 8 none
  statics := none }

/-- the primitive byte -/
def k6 : Class := { plain "byte" none with kind := .primitive 'B', accessFlags := 0x411 }
/-- [B -/
def k7 : Class := { plain "[B" (some 0) with kind := .array 6 .byte, interfaces := #[4, 5], accessFlags := 1041 }

/-- the primitive int -/
def k8 : Class := { plain "int" none with kind := .primitive 'I', accessFlags := 0x411 }
/-- [I -/
def k9 : Class := { plain "[I" (some 0) with kind := .array 8 .int, interfaces := #[4, 5], accessFlags := 1041 }

def heap : Heap := #[]
def classes : Array Class := #[k0, k1, k2, k3, k4, k5, k6, k7, k8, k9]
def interned : List (Array UInt16 × Addr) := []
def slotsUsed : Nat := 0
def theMethod : MethodId := ⟨1, 1⟩
def args0 : Array Value := #[.int 5, .int 7, .int 0, .int 1]
def aboutOver (below : List Frame) : State where
  vm := { classes := classes, interned := interned.toArray }
  heap := heap
  slotsUsed := slotsUsed
  threads := #[{ frames := .invoking theMethod args0 :: below }]
def below0 : List Frame := [.native { method := ⟨0, 0⟩, args := #[] }]
def about1 : State := aboutOver below0
def p0 : Program := .bare "" "" ""
def e0 : Env := launch0.env 0 0 0
theorem w_frames : about1.frames = Frame.invoking theMethod args0 :: below0 := rfl
set_option maxRecDepth 65536 in
theorem w_args : argsFit about1.vm theMethod args0 = true := by decide +kernel
set_option maxRecDepth 65536 in
theorem w_heap : heapFits about1 = true := by decide +kernel
set_option maxRecDepth 65536 in
theorem w_runnable : about1.curStatus? = some .runnable := by decide +kernel
set_option maxRecDepth 65536 in
theorem w_alone : about1.alone = true := by decide +kernel
set_option maxRecDepth 65536 in
theorem w_named : about1.methodNamed? x = some theMethod := by decide +kernel
set_option maxRecDepth 65536 in
theorem w_hears : about1.hears theMethod below0 = true := by decide +kernel
set_option maxRecDepth 65536 in
theorem w_ripe : about1.ripe theMethod args0 below0 = true := by decide +kernel
theorem w_running : about1.status = .running := rfl
set_option maxRecDepth 65536 in
theorem w_room : about1.hasRoom e0.platform room_1 = true :=
  launch0.hasRoom_least _ room_1 (by decide +kernel) (by decide +kernel) (by decide +kernel) (by decide +kernel) (by decide +kernel) (by decide +kernel)
theorem allAtoms_all (ts : List Jvm.Cond) (a : Array Jvm.Value) (st : Jvm.State) : (allAtoms ts).before a st = ts.all (fun c => c.before a st) := by
  induction ts with
  | nil => rfl
  | cons c t ih =>
    show (Jvm.Cond.and c (allAtoms t)).before a st = _
    rw [Jvm.Cond.before_and, ih, List.all_cons]
def words1 : List Jvm.Cond := Jvm.Cond.code x code maxLocals ret :: tables_1
/-- a 'code' word, met by the world's own term for the bytes: nothing is compared byte by byte -/
theorem code_word {y : MethodName} {bytes : ByteArray} {mx : Nat} {rt : Option FieldType} {a : Array Value} {s : State} {m : MethodId} {meth : Method} {c : Code} (h1 : s.methodNamed? y = some m) (h2 : s.vm.method? m = some meth) (h3 : meth.code = some c) (h4 : c.code = bytes)
    (h5 : (c.maxLocals == mx && c.exceptionTable.isEmpty && decide (c.maxStack ≤ mostOperands) && decide (meth.sig.returnType = rt) && !meth.locks && decide (parseMethodDescriptor y.desc = some meth.sig)) = true) : (Jvm.Cond.code y bytes mx rt).before a s = true := by
  simp only [Bool.and_eq_true, beq_iff_eq, Bool.not_eq_true', decide_eq_true_eq] at h5
  obtain ⟨⟨⟨⟨⟨g1, g2⟩, g3⟩, g4⟩, g5⟩, g6⟩ := h5
  simp [Cond.before, Cond.holds, Cond.value, h1, h2, h3, h4, g1, g2, g3, g4, g5, g6]
def isCode : Jvm.Cond → Bool
  | .code _ _ _ _ => true
  | _ => false
theorem all_split {L : List Jvm.Cond} {P : Jvm.Cond → Bool} (h1 : L.all (fun c => isCode c || P c) = true) (h2 : ∀ c ∈ L.filter isCode, P c = true) : L.all P = true := by
  refine List.all_eq_true.mpr fun c hc => ?_
  have h := List.all_eq_true.mp h1 c hc
  rcases Bool.eq_false_or_eq_true (isCode c) with hi | hi
  · exact h2 c (List.mem_filter.mpr ⟨hc, hi⟩)
  · simpa [hi] using h
set_option maxRecDepth 65536 in
theorem w_c0 : (Jvm.Cond.code x code maxLocals ret).before args0 about1 = true := code_word (m := ⟨1, 1⟩) (meth := k1m1) (c := k1c1) (by decide +kernel) rfl rfl rfl (by decide +kernel)
set_option maxRecDepth 65536 in
theorem w_c1 : (Jvm.Cond.code ({ cls := "java/lang/Math", name := "min", desc := "(II)I" } : Jvm.MethodName) jdk_29_method_69_code (2 : Nat) (Option.some Jvm.ClassFile.FieldType.int)).before args0 about1 = true := code_word (m := ⟨2, 2⟩) (meth := k2m2) (c := k2c2) (by decide +kernel) rfl rfl rfl (by decide +kernel)
set_option maxRecDepth 65536 in
theorem w_c2 : (Jvm.Cond.code ({ cls := "java/lang/Math", name := "max", desc := "(II)I" } : Jvm.MethodName) jdk_29_method_65_code (2 : Nat) (Option.some Jvm.ClassFile.FieldType.int)).before args0 about1 = true := code_word (m := ⟨2, 1⟩) (meth := k2m1) (c := k2c1) (by decide +kernel) rfl rfl rfl (by decide +kernel)
set_option maxRecDepth 65536 in
theorem w_c3 : (Jvm.Cond.code ({ cls := "guardbar/imaging/Range", name := "<init>", desc := "()V" } : Jvm.MethodName) prog_57_method_1_code (1 : Nat) (Option.none : Option Jvm.ClassFile.FieldType)).before args0 about1 = true := code_word (m := ⟨3, 0⟩) (meth := k3m0) (c := k3c0) (by decide +kernel) rfl rfl rfl (by decide +kernel)
set_option maxRecDepth 65536 in
theorem w_c4 : (Jvm.Cond.code ({ cls := "java/lang/Object", name := "<init>", desc := "()V" } : Jvm.MethodName) object_method_1_code (1 : Nat) (Option.none : Option Jvm.ClassFile.FieldType)).before args0 about1 = true := code_word (m := ⟨0, 0⟩) (meth := k0m0) (c := k0c0) (by decide +kernel) rfl rfl rfl (by decide +kernel)
set_option maxRecDepth 65536 in
theorem w_c5 : (Jvm.Cond.code ({ cls := "guardbar/imaging/Range", name := "clear", desc := "()V" } : Jvm.MethodName) prog_57_method_2_code (1 : Nat) (Option.none : Option Jvm.ClassFile.FieldType)).before args0 about1 = true := code_word (m := ⟨3, 1⟩) (meth := k3m1) (c := k3c1) (by decide +kernel) rfl rfl rfl (by decide +kernel)
set_option maxRecDepth 65536 in
theorem w_c6 : (Jvm.Cond.code ({ cls := "guardbar/imaging/Range", name := "take", desc := "(F)V" } : Jvm.MethodName) prog_57_method_3_code (2 : Nat) (Option.none : Option Jvm.ClassFile.FieldType)).before args0 about1 = true := code_word (m := ⟨3, 2⟩) (meth := k3m2) (c := k3c2) (by decide +kernel) rfl rfl rfl (by decide +kernel)
set_option maxRecDepth 65536 in
theorem w_c7 : (Jvm.Cond.code ({ cls := "guardbar/imaging/Range", name := "darkest", desc := "()F" } : Jvm.MethodName) prog_57_method_4_code (1 : Nat) (Option.some Jvm.ClassFile.FieldType.float)).before args0 about1 = true := code_word (m := ⟨3, 3⟩) (meth := k3m3) (c := k3c3) (by decide +kernel) rfl rfl rfl (by decide +kernel)
set_option maxRecDepth 65536 in
theorem w_c8 : (Jvm.Cond.code ({ cls := "guardbar/imaging/Range", name := "lightest", desc := "()F" } : Jvm.MethodName) prog_57_method_5_code (1 : Nat) (Option.some Jvm.ClassFile.FieldType.float)).before args0 about1 = true := code_word (m := ⟨3, 4⟩) (meth := k3m4) (c := k3c4) (by decide +kernel) rfl rfl rfl (by decide +kernel)
def codes1 : List Jvm.Cond := [Jvm.Cond.code x code maxLocals ret, Jvm.Cond.code ({ cls := "java/lang/Math", name := "min", desc := "(II)I" } : Jvm.MethodName) jdk_29_method_69_code (2 : Nat) (Option.some Jvm.ClassFile.FieldType.int), Jvm.Cond.code ({ cls := "java/lang/Math", name := "max", desc := "(II)I" } : Jvm.MethodName) jdk_29_method_65_code (2 : Nat) (Option.some Jvm.ClassFile.FieldType.int), Jvm.Cond.code ({ cls := "guardbar/imaging/Range", name := "<init>", desc := "()V" } : Jvm.MethodName) prog_57_method_1_code (1 : Nat) (Option.none : Option Jvm.ClassFile.FieldType), Jvm.Cond.code ({ cls := "java/lang/Object", name := "<init>", desc := "()V" } : Jvm.MethodName) object_method_1_code (1 : Nat) (Option.none : Option Jvm.ClassFile.FieldType), Jvm.Cond.code ({ cls := "guardbar/imaging/Range", name := "clear", desc := "()V" } : Jvm.MethodName) prog_57_method_2_code (1 : Nat) (Option.none : Option Jvm.ClassFile.FieldType), Jvm.Cond.code ({ cls := "guardbar/imaging/Range", name := "take", desc := "(F)V" } : Jvm.MethodName) prog_57_method_3_code (2 : Nat) (Option.none : Option Jvm.ClassFile.FieldType), Jvm.Cond.code ({ cls := "guardbar/imaging/Range", name := "darkest", desc := "()F" } : Jvm.MethodName) prog_57_method_4_code (1 : Nat) (Option.some Jvm.ClassFile.FieldType.float), Jvm.Cond.code ({ cls := "guardbar/imaging/Range", name := "lightest", desc := "()F" } : Jvm.MethodName) prog_57_method_5_code (1 : Nat) (Option.some Jvm.ClassFile.FieldType.float)]
set_option maxRecDepth 65536 in
theorem codes_eq : words1.filter isCode = codes1 := rfl
theorem w_codes : ∀ c ∈ words1.filter isCode, c.before args0 about1 = true := by
  rw [codes_eq]
  intro c hc
  simp only [codes1, List.mem_cons, List.not_mem_nil, or_false] at hc
  rcases hc with rfl | rfl | rfl | rfl | rfl | rfl | rfl | rfl | rfl
  · exact w_c0
  · exact w_c1
  · exact w_c2
  · exact w_c3
  · exact w_c4
  · exact w_c5
  · exact w_c6
  · exact w_c7
  · exact w_c8
set_option maxRecDepth 65536 in
theorem w_t1 : (words1.take 24).all (fun c => isCode c || c.before args0 about1) = true := by decide +kernel
set_option maxRecDepth 65536 in
theorem w_t2 : (words1.drop 24).all (fun c => isCode c || c.before args0 about1) = true := by decide +kernel
theorem w_tables : (allAtoms (Jvm.Cond.code x code maxLocals ret :: tables_1)).before args0 about1 = true := by
  rw [allAtoms_all]
  show words1.all (fun c => c.before args0 about1) = true
  refine all_split ?_ w_codes
  rw [← List.take_append_drop 24 words1, List.all_append, w_t1, w_t2]
  rfl
set_option maxRecDepth 65536 in
theorem w_case : (Jvm.Cond.and given_1 narrow_1).before args0 about1 = true := by decide +kernel
theorem w_applies : (headSpec (Jvm.Cond.code x code maxLocals ret :: tables_1) room_1).applies x e0.platform about1 = true :=
  (Spec.applies_iff w_frames).mpr ⟨w_running, w_runnable, w_alone, w_named, w_hears, w_ripe, w_room, w_tables⟩
theorem atStart : AtStart classFile x code maxLocals ret World_1 tables_1 room_1 Calls_1 rest_1 Pre_1 launch0 p0 e0 about1 theMethod args0 below0 :=
  ⟨lists_1, trivial, launch0.admits_env _ _ _, launch0.least_env, fairChoices_fair.cas, fairChoices_fair.clock, w_frames, w_args, w_heap, w_applies, trivial, trivial, w_case⟩
end start1
theorem witness_1 : WitnessClaimed_1 := ⟨start1.p0, start1.e0, start1.about1, start1.theMethod, start1.args0, start1.below0, start1.atStart⟩
end Jvm.Pilot.@@N@@
