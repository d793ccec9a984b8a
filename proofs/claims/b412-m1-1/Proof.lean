import JvmDerived
import JvmDerived.Pilot.@@N@@Statement
import JvmDerived.Pilot.@@N@@Code
set_option linter.unusedVariables false
set_option linter.unusedSimpArgs false
namespace Jvm.Pilot.@@N@@
open Jvm Jvm.ClassFile Sem Op Lib Jvm.Free Jvm.Stand Jvm.LawKit Jvm.RoadKit Bundle Jvm.Pilot.@@N@@.Jvm.D
section OwnKit
variable {p : Program} {l : Launch} {e : Env} {R : Room} {s : State} {m : MethodId} {args : Array Value} {below : List Frame} {meth : Method} {c : Code} {T : State} {locs : List Loc} {cells slots : Nat} {P : State → Outcome → Prop} {pc : Nat} {Ls : Array Slot} {st : List Value} {Z : State} {a0 : Array Value} {h : Heap} {own : String} {index : Nat}
/-- what is still owed from a state on -/
def Go (p : Program) (e : Env) (below : List Frame) (P : State → Outcome → Prop) (S : State) : Prop := ∃ s₂ o, Steps p.tables e below S s₂ ∧ s₂.status = .running ∧ Ended s₂ below o ∧ P s₂ o
theorem Go.by {S S' : State} (st : ∀ t, Steps p.tables e below S' t → Steps p.tables e below S t) (k : Go p e below P S') : Go p e below P S := by
  obtain ⟨a, b, h1, h2⟩ := k
  exact ⟨a, b, st _ h1, h2⟩
def Ret (s : State) (Q : Option Value → Heap → List Loc → Prop) (C N : Nat) (s₂ : State) (o : Outcome) : Prop := ∃ v L, o = .returned v ∧ Q v s₂.heap L ∧ FrameEnd s o s₂ L C N

theorem g_iloadN (X : Stand p l e R s m args below meth c T locs cells slots) (hx : p.tables.exec = Jvm.exec) {k : Fin 4} {v : Int32} (hd : decode c.code pc = .ok (.iload_n k, 1)) (hl : Ls[k.val]? = some (.val (.int v))) (q : Go p e below P (T.setTop (mkF m (pc + 1) Ls (.int v :: st)))) : Go p e below P (T.setTop (mkF m pc Ls st)) := q.by fun t r => XS.iloadN X.here hx rfl hd hl r
theorem g_iload (X : Stand p l e R s m args below meth c T locs cells slots) (hx : p.tables.exec = Jvm.exec) {k : Nat} {v : Int32} (hd : decode c.code pc = .ok (.iload k, 2)) (hl : Ls[k]? = some (.val (.int v))) (q : Go p e below P (T.setTop (mkF m (pc + 2) Ls (.int v :: st)))) : Go p e below P (T.setTop (mkF m pc Ls st)) := q.by fun t r => XS.iload X.here hx rfl hd hl r
theorem g_lloadN (X : Stand p l e R s m args below meth c T locs cells slots) (hx : p.tables.exec = Jvm.exec) {k : Fin 4} {v : Int64} (hd : decode c.code pc = .ok (.lload_n k, 1)) (hl : Ls[k.val]? = some (.val (.long v))) (q : Go p e below P (T.setTop (mkF m (pc + 1) Ls (.long v :: st)))) : Go p e below P (T.setTop (mkF m pc Ls st)) := q.by fun t r => XS.lloadN X.here hx rfl hd hl r
theorem g_lload (X : Stand p l e R s m args below meth c T locs cells slots) (hx : p.tables.exec = Jvm.exec) {k : Nat} {v : Int64} (hd : decode c.code pc = .ok (.lload k, 2)) (hl : Ls[k]? = some (.val (.long v))) (q : Go p e below P (T.setTop (mkF m (pc + 2) Ls (.long v :: st)))) : Go p e below P (T.setTop (mkF m pc Ls st)) := q.by fun t r => XS.lload X.here hx rfl hd hl r
theorem g_dloadN (X : Stand p l e R s m args below meth c T locs cells slots) (hx : p.tables.exec = Jvm.exec) {k : Fin 4} {v : UInt64} (hd : decode c.code pc = .ok (.dload_n k, 1)) (hl : Ls[k.val]? = some (.val (.double v))) (q : Go p e below P (T.setTop (mkF m (pc + 1) Ls (.double v :: st)))) : Go p e below P (T.setTop (mkF m pc Ls st)) := q.by fun t r => XS.dloadN X.here hx rfl hd hl r
theorem g_dload (X : Stand p l e R s m args below meth c T locs cells slots) (hx : p.tables.exec = Jvm.exec) {k : Nat} {v : UInt64} (hd : decode c.code pc = .ok (.dload k, 2)) (hl : Ls[k]? = some (.val (.double v))) (q : Go p e below P (T.setTop (mkF m (pc + 2) Ls (.double v :: st)))) : Go p e below P (T.setTop (mkF m pc Ls st)) := q.by fun t r => XS.dload X.here hx rfl hd hl r
theorem g_floadN (X : Stand p l e R s m args below meth c T locs cells slots) (hx : p.tables.exec = Jvm.exec) {k : Fin 4} {v : UInt32} (hd : decode c.code pc = .ok (.fload_n k, 1)) (hl : Ls[k.val]? = some (.val (.float v))) (q : Go p e below P (T.setTop (mkF m (pc + 1) Ls (.float v :: st)))) : Go p e below P (T.setTop (mkF m pc Ls st)) := q.by fun t r => XS.floadN X.here hx rfl hd hl r
theorem g_fload (X : Stand p l e R s m args below meth c T locs cells slots) (hx : p.tables.exec = Jvm.exec) {k : Nat} {v : UInt32} (hd : decode c.code pc = .ok (.fload k, 2)) (hl : Ls[k]? = some (.val (.float v))) (q : Go p e below P (T.setTop (mkF m (pc + 2) Ls (.float v :: st)))) : Go p e below P (T.setTop (mkF m pc Ls st)) := q.by fun t r => XS.fload X.here hx rfl hd hl r
theorem g_aloadN (X : Stand p l e R s m args below meth c T locs cells slots) (hx : p.tables.exec = Jvm.exec) {k : Fin 4} {v : Value} (hd : decode c.code pc = .ok (.aload_n k, 1)) (hl : Ls[k.val]? = some (.val v)) (hv : v.isRef = true) (q : Go p e below P (T.setTop (mkF m (pc + 1) Ls (v :: st)))) : Go p e below P (T.setTop (mkF m pc Ls st)) := q.by fun t r => XS.aloadN X.here hx rfl hd hl hv r
theorem g_aload (X : Stand p l e R s m args below meth c T locs cells slots) (hx : p.tables.exec = Jvm.exec) {k : Nat} {v : Value} (hd : decode c.code pc = .ok (.aload k, 2)) (hl : Ls[k]? = some (.val v)) (hv : v.isRef = true) (q : Go p e below P (T.setTop (mkF m (pc + 2) Ls (v :: st)))) : Go p e below P (T.setTop (mkF m pc Ls st)) := q.by fun t r => XS.aload X.here hx rfl hd hl hv r
theorem g_istoreN (X : Stand p l e R s m args below meth c T locs cells slots) (hx : p.tables.exec = Jvm.exec) {k : Fin 4} {v : Int32} {L' : Array Slot} (hd : decode c.code pc = .ok (.istore_n k, 1)) (hl : storeLocals Ls k.val (.int v) = some L') (q : Go p e below P (T.setTop (mkF m (pc + 1) L' st))) : Go p e below P (T.setTop (mkF m pc Ls (.int v :: st))) := q.by fun t r => XS.istoreN X.here hx rfl hd rfl hl r
theorem g_istore (X : Stand p l e R s m args below meth c T locs cells slots) (hx : p.tables.exec = Jvm.exec) {k : Nat} {v : Int32} {L' : Array Slot} (hd : decode c.code pc = .ok (.istore k, 2)) (hl : storeLocals Ls k (.int v) = some L') (q : Go p e below P (T.setTop (mkF m (pc + 2) L' st))) : Go p e below P (T.setTop (mkF m pc Ls (.int v :: st))) := q.by fun t r => XS.istore X.here hx rfl hd rfl hl r
theorem g_lstoreN (X : Stand p l e R s m args below meth c T locs cells slots) (hx : p.tables.exec = Jvm.exec) {k : Fin 4} {v : Int64} {L' : Array Slot} (hd : decode c.code pc = .ok (.lstore_n k, 1)) (hl : storeLocals Ls k.val (.long v) = some L') (q : Go p e below P (T.setTop (mkF m (pc + 1) L' st))) : Go p e below P (T.setTop (mkF m pc Ls (.long v :: st))) := q.by fun t r => XS.lstoreN X.here hx rfl hd rfl hl r
theorem g_lstore (X : Stand p l e R s m args below meth c T locs cells slots) (hx : p.tables.exec = Jvm.exec) {k : Nat} {v : Int64} {L' : Array Slot} (hd : decode c.code pc = .ok (.lstore k, 2)) (hl : storeLocals Ls k (.long v) = some L') (q : Go p e below P (T.setTop (mkF m (pc + 2) L' st))) : Go p e below P (T.setTop (mkF m pc Ls (.long v :: st))) := q.by fun t r => XS.lstore X.here hx rfl hd rfl hl r
theorem g_dstoreN (X : Stand p l e R s m args below meth c T locs cells slots) (hx : p.tables.exec = Jvm.exec) {k : Fin 4} {v : UInt64} {L' : Array Slot} (hd : decode c.code pc = .ok (.dstore_n k, 1)) (hl : storeLocals Ls k.val (.double v) = some L') (q : Go p e below P (T.setTop (mkF m (pc + 1) L' st))) : Go p e below P (T.setTop (mkF m pc Ls (.double v :: st))) := q.by fun t r => XS.dstoreN X.here hx rfl hd rfl hl r
theorem g_dstore (X : Stand p l e R s m args below meth c T locs cells slots) (hx : p.tables.exec = Jvm.exec) {k : Nat} {v : UInt64} {L' : Array Slot} (hd : decode c.code pc = .ok (.dstore k, 2)) (hl : storeLocals Ls k (.double v) = some L') (q : Go p e below P (T.setTop (mkF m (pc + 2) L' st))) : Go p e below P (T.setTop (mkF m pc Ls (.double v :: st))) := q.by fun t r => XS.dstore X.here hx rfl hd rfl hl r
theorem g_fstoreN (X : Stand p l e R s m args below meth c T locs cells slots) (hx : p.tables.exec = Jvm.exec) {k : Fin 4} {v : UInt32} {L' : Array Slot} (hd : decode c.code pc = .ok (.fstore_n k, 1)) (hl : storeLocals Ls k.val (.float v) = some L') (q : Go p e below P (T.setTop (mkF m (pc + 1) L' st))) : Go p e below P (T.setTop (mkF m pc Ls (.float v :: st))) := q.by fun t r => XS.fstoreN X.here hx rfl hd rfl hl r
theorem g_fstore (X : Stand p l e R s m args below meth c T locs cells slots) (hx : p.tables.exec = Jvm.exec) {k : Nat} {v : UInt32} {L' : Array Slot} (hd : decode c.code pc = .ok (.fstore k, 2)) (hl : storeLocals Ls k (.float v) = some L') (q : Go p e below P (T.setTop (mkF m (pc + 2) L' st))) : Go p e below P (T.setTop (mkF m pc Ls (.float v :: st))) := q.by fun t r => XS.fstore X.here hx rfl hd rfl hl r
theorem g_astoreN (X : Stand p l e R s m args below meth c T locs cells slots) (hx : p.tables.exec = Jvm.exec) {k : Fin 4} {v : Value} {L' : Array Slot} (hd : decode c.code pc = .ok (.astore_n k, 1)) (hv : v.isRef = true) (hl : storeLocals Ls k.val v = some L') (q : Go p e below P (T.setTop (mkF m (pc + 1) L' st))) : Go p e below P (T.setTop (mkF m pc Ls (v :: st))) := q.by fun t r => XS.astoreN X.here hx rfl hd rfl hv hl r
theorem g_astore (X : Stand p l e R s m args below meth c T locs cells slots) (hx : p.tables.exec = Jvm.exec) {k : Nat} {v : Value} {L' : Array Slot} (hd : decode c.code pc = .ok (.astore k, 2)) (hv : v.isRef = true) (hl : storeLocals Ls k v = some L') (q : Go p e below P (T.setTop (mkF m (pc + 2) L' st))) : Go p e below P (T.setTop (mkF m pc Ls (v :: st))) := q.by fun t r => XS.astore X.here hx rfl hd rfl hv hl r
theorem g_iconst (X : Stand p l e R s m args below meth c T locs cells slots) (hx : p.tables.exec = Jvm.exec) {i : Int} {v : Int32} (hd : decode c.code pc = .ok (.iconst i, 1)) (hv : Int32.ofInt i = v) (q : Go p e below P (T.setTop (mkF m (pc + 1) Ls (.int v :: st)))) : Go p e below P (T.setTop (mkF m pc Ls st)) := q.by fun t r => XS.iconst X.here hx rfl hd (hv ▸ r)
theorem g_bipush (X : Stand p l e R s m args below meth c T locs cells slots) (hx : p.tables.exec = Jvm.exec) {i : Int} {v : Int32} (hd : decode c.code pc = .ok (.bipush i, 2)) (hv : (Int8.ofInt i).toInt32 = v) (q : Go p e below P (T.setTop (mkF m (pc + 2) Ls (.int v :: st)))) : Go p e below P (T.setTop (mkF m pc Ls st)) := q.by fun t r => XS.bipush X.here hx rfl hd (hv ▸ r)
theorem g_sipush (X : Stand p l e R s m args below meth c T locs cells slots) (hx : p.tables.exec = Jvm.exec) {i : Int} {v : Int32} (hd : decode c.code pc = .ok (.sipush i, 3)) (hv : (Int16.ofInt i).toInt32 = v) (q : Go p e below P (T.setTop (mkF m (pc + 3) Ls (.int v :: st)))) : Go p e below P (T.setTop (mkF m pc Ls st)) := q.by fun t r => XS.sipush X.here hx rfl hd (hv ▸ r)
theorem g_lconst0 (X : Stand p l e R s m args below meth c T locs cells slots) (hx : p.tables.exec = Jvm.exec)  (hd : decode c.code pc = .ok (.lconst 0, 1))  (q : Go p e below P (T.setTop (mkF m (pc + 1) Ls (.long 0 :: st)))) : Go p e below P (T.setTop (mkF m pc Ls st)) := q.by fun t r => XS.lconst X.here hx rfl hd r
theorem g_lconst1 (X : Stand p l e R s m args below meth c T locs cells slots) (hx : p.tables.exec = Jvm.exec)  (hd : decode c.code pc = .ok (.lconst 1, 1))  (q : Go p e below P (T.setTop (mkF m (pc + 1) Ls (.long 1 :: st)))) : Go p e below P (T.setTop (mkF m pc Ls st)) := q.by fun t r => XS.lconst X.here hx rfl hd r
theorem g_aconst_null (X : Stand p l e R s m args below meth c T locs cells slots) (hx : p.tables.exec = Jvm.exec)  (hd : decode c.code pc = .ok (.aconst_null, 1))  (q : Go p e below P (T.setTop (mkF m (pc + 1) Ls (.null :: st)))) : Go p e below P (T.setTop (mkF m pc Ls st)) := q.by fun t r => XS.aconstNull X.here hx rfl hd r
theorem g_dconst0 (X : Stand p l e R s m args below meth c T locs cells slots) (hx : p.tables.exec = Jvm.exec)  (hd : decode c.code pc = .ok (.dconst 0, 1))  (q : Go p e below P (T.setTop (mkF m (pc + 1) Ls (.double 0 :: st)))) : Go p e below P (T.setTop (mkF m pc Ls st)) := q.by fun t r => XS.dconst0 X.here hx rfl hd rfl r
theorem g_dconst1 (X : Stand p l e R s m args below meth c T locs cells slots) (hx : p.tables.exec = Jvm.exec)  (hd : decode c.code pc = .ok (.dconst 1, 1))  (q : Go p e below P (T.setTop (mkF m (pc + 1) Ls (.double 4607182418800017408 :: st)))) : Go p e below P (T.setTop (mkF m pc Ls st)) := q.by fun t r => XS.dconst1 X.here hx rfl hd rfl r
theorem g_iadd (X : Stand p l e R s m args below meth c T locs cells slots) (hx : p.tables.exec = Jvm.exec) {x y v : Int32} (hd : decode c.code pc = .ok (.iadd, 1)) (hv : x + y = v) (q : Go p e below P (T.setTop (mkF m (pc + 1) Ls (.int v :: st)))) : Go p e below P (T.setTop (mkF m pc Ls (.int y :: .int x :: st))) := q.by fun t r => XS.iadd X.here hx rfl hd rfl (hv ▸ r)
theorem g_isub (X : Stand p l e R s m args below meth c T locs cells slots) (hx : p.tables.exec = Jvm.exec) {x y v : Int32} (hd : decode c.code pc = .ok (.isub, 1)) (hv : x - y = v) (q : Go p e below P (T.setTop (mkF m (pc + 1) Ls (.int v :: st)))) : Go p e below P (T.setTop (mkF m pc Ls (.int y :: .int x :: st))) := q.by fun t r => XS.isub X.here hx rfl hd rfl (hv ▸ r)
theorem g_imul (X : Stand p l e R s m args below meth c T locs cells slots) (hx : p.tables.exec = Jvm.exec) {x y v : Int32} (hd : decode c.code pc = .ok (.imul, 1)) (hv : x * y = v) (q : Go p e below P (T.setTop (mkF m (pc + 1) Ls (.int v :: st)))) : Go p e below P (T.setTop (mkF m pc Ls (.int y :: .int x :: st))) := q.by fun t r => XS.imul X.here hx rfl hd rfl (hv ▸ r)
theorem g_iand (X : Stand p l e R s m args below meth c T locs cells slots) (hx : p.tables.exec = Jvm.exec) {x y v : Int32} (hd : decode c.code pc = .ok (.iand, 1)) (hv : x &&& y = v) (q : Go p e below P (T.setTop (mkF m (pc + 1) Ls (.int v :: st)))) : Go p e below P (T.setTop (mkF m pc Ls (.int y :: .int x :: st))) := q.by fun t r => XS.iand X.here hx rfl hd rfl (hv ▸ r)
theorem g_ior (X : Stand p l e R s m args below meth c T locs cells slots) (hx : p.tables.exec = Jvm.exec) {x y v : Int32} (hd : decode c.code pc = .ok (.ior, 1)) (hv : x ||| y = v) (q : Go p e below P (T.setTop (mkF m (pc + 1) Ls (.int v :: st)))) : Go p e below P (T.setTop (mkF m pc Ls (.int y :: .int x :: st))) := q.by fun t r => XS.ior X.here hx rfl hd rfl (hv ▸ r)
theorem g_ixor (X : Stand p l e R s m args below meth c T locs cells slots) (hx : p.tables.exec = Jvm.exec) {x y v : Int32} (hd : decode c.code pc = .ok (.ixor, 1)) (hv : x ^^^ y = v) (q : Go p e below P (T.setTop (mkF m (pc + 1) Ls (.int v :: st)))) : Go p e below P (T.setTop (mkF m pc Ls (.int y :: .int x :: st))) := q.by fun t r => XS.ixor X.here hx rfl hd rfl (hv ▸ r)
theorem g_ladd (X : Stand p l e R s m args below meth c T locs cells slots) (hx : p.tables.exec = Jvm.exec) {x y v : Int64} (hd : decode c.code pc = .ok (.ladd, 1)) (hv : x + y = v) (q : Go p e below P (T.setTop (mkF m (pc + 1) Ls (.long v :: st)))) : Go p e below P (T.setTop (mkF m pc Ls (.long y :: .long x :: st))) := q.by fun t r => XS.ladd X.here hx rfl hd rfl (hv ▸ r)
theorem g_lsub (X : Stand p l e R s m args below meth c T locs cells slots) (hx : p.tables.exec = Jvm.exec) {x y v : Int64} (hd : decode c.code pc = .ok (.lsub, 1)) (hv : x - y = v) (q : Go p e below P (T.setTop (mkF m (pc + 1) Ls (.long v :: st)))) : Go p e below P (T.setTop (mkF m pc Ls (.long y :: .long x :: st))) := q.by fun t r => XS.lsub X.here hx rfl hd rfl (hv ▸ r)
theorem g_lmul (X : Stand p l e R s m args below meth c T locs cells slots) (hx : p.tables.exec = Jvm.exec) {x y v : Int64} (hd : decode c.code pc = .ok (.lmul, 1)) (hv : x * y = v) (q : Go p e below P (T.setTop (mkF m (pc + 1) Ls (.long v :: st)))) : Go p e below P (T.setTop (mkF m pc Ls (.long y :: .long x :: st))) := q.by fun t r => XS.lmul X.here hx rfl hd rfl (hv ▸ r)
theorem g_land (X : Stand p l e R s m args below meth c T locs cells slots) (hx : p.tables.exec = Jvm.exec) {x y v : Int64} (hd : decode c.code pc = .ok (.land, 1)) (hv : x &&& y = v) (q : Go p e below P (T.setTop (mkF m (pc + 1) Ls (.long v :: st)))) : Go p e below P (T.setTop (mkF m pc Ls (.long y :: .long x :: st))) := q.by fun t r => XS.land X.here hx rfl hd rfl (hv ▸ r)
theorem g_lor (X : Stand p l e R s m args below meth c T locs cells slots) (hx : p.tables.exec = Jvm.exec) {x y v : Int64} (hd : decode c.code pc = .ok (.lor, 1)) (hv : x ||| y = v) (q : Go p e below P (T.setTop (mkF m (pc + 1) Ls (.long v :: st)))) : Go p e below P (T.setTop (mkF m pc Ls (.long y :: .long x :: st))) := q.by fun t r => XS.lor X.here hx rfl hd rfl (hv ▸ r)
theorem g_ishl (X : Stand p l e R s m args below meth c T locs cells slots) (hx : p.tables.exec = Jvm.exec) {x y v : Int32} (hd : decode c.code pc = .ok (.ishl, 1)) (hv : x <<< (y &&& 31) = v) (q : Go p e below P (T.setTop (mkF m (pc + 1) Ls (.int v :: st)))) : Go p e below P (T.setTop (mkF m pc Ls (.int y :: .int x :: st))) := q.by fun t r => XS.ishl X.here hx rfl hd rfl (hv ▸ r)
theorem g_ishr (X : Stand p l e R s m args below meth c T locs cells slots) (hx : p.tables.exec = Jvm.exec) {x y v : Int32} (hd : decode c.code pc = .ok (.ishr, 1)) (hv : x >>> (y &&& 31) = v) (q : Go p e below P (T.setTop (mkF m (pc + 1) Ls (.int v :: st)))) : Go p e below P (T.setTop (mkF m pc Ls (.int y :: .int x :: st))) := q.by fun t r => XS.ishr X.here hx rfl hd rfl (hv ▸ r)
theorem g_iushr (X : Stand p l e R s m args below meth c T locs cells slots) (hx : p.tables.exec = Jvm.exec) {x y v : Int32} (hd : decode c.code pc = .ok (.iushr, 1)) (hv : (x.toUInt32 >>> (y &&& 31).toUInt32).toInt32 = v) (q : Go p e below P (T.setTop (mkF m (pc + 1) Ls (.int v :: st)))) : Go p e below P (T.setTop (mkF m pc Ls (.int y :: .int x :: st))) := q.by fun t r => XS.iushr X.here hx rfl hd rfl (hv ▸ r)
theorem g_idiv (X : Stand p l e R s m args below meth c T locs cells slots) (hx : p.tables.exec = Jvm.exec) {x y v : Int32} (hd : decode c.code pc = .ok (.idiv, 1)) (hy : y ≠ 0) (hv : x / y = v) (q : Go p e below P (T.setTop (mkF m (pc + 1) Ls (.int v :: st)))) : Go p e below P (T.setTop (mkF m pc Ls (.int y :: .int x :: st))) := q.by fun t r => XS.idiv X.here hx rfl hd rfl hy (hv ▸ r)
theorem g_irem (X : Stand p l e R s m args below meth c T locs cells slots) (hx : p.tables.exec = Jvm.exec) {x y v : Int32} (hd : decode c.code pc = .ok (.irem, 1)) (hy : y ≠ 0) (hv : x % y = v) (q : Go p e below P (T.setTop (mkF m (pc + 1) Ls (.int v :: st)))) : Go p e below P (T.setTop (mkF m pc Ls (.int y :: .int x :: st))) := q.by fun t r => XS.irem X.here hx rfl hd rfl hy (irem_eq_mod x y ▸ hv ▸ r)
theorem g_ldiv (X : Stand p l e R s m args below meth c T locs cells slots) (hx : p.tables.exec = Jvm.exec) {x y v : Int64} (hd : decode c.code pc = .ok (.ldiv, 1)) (hy : y ≠ 0) (hv : x / y = v) (q : Go p e below P (T.setTop (mkF m (pc + 1) Ls (.long v :: st)))) : Go p e below P (T.setTop (mkF m pc Ls (.long y :: .long x :: st))) := q.by fun t r => XS.ldiv X.here hx rfl hd rfl hy (hv ▸ r)
theorem g_lshl (X : Stand p l e R s m args below meth c T locs cells slots) (hx : p.tables.exec = Jvm.exec) {x v : Int64} {y : Int32} (hd : decode c.code pc = .ok (.lshl, 1)) (hv : x <<< (y &&& 0x3f).toInt64 = v) (q : Go p e below P (T.setTop (mkF m (pc + 1) Ls (.long v :: st)))) : Go p e below P (T.setTop (mkF m pc Ls (.int y :: .long x :: st))) := q.by fun t r => XS.lshl X.here hx rfl hd rfl (hv ▸ r)
theorem g_lshr (X : Stand p l e R s m args below meth c T locs cells slots) (hx : p.tables.exec = Jvm.exec) {x v : Int64} {y : Int32} (hd : decode c.code pc = .ok (.lshr, 1)) (hv : x >>> (y &&& 0x3f).toInt64 = v) (q : Go p e below P (T.setTop (mkF m (pc + 1) Ls (.long v :: st)))) : Go p e below P (T.setTop (mkF m pc Ls (.int y :: .long x :: st))) := q.by fun t r => XS.lshr X.here hx rfl hd rfl (hv ▸ r)
theorem g_lushr (X : Stand p l e R s m args below meth c T locs cells slots) (hx : p.tables.exec = Jvm.exec) {x v : Int64} {y : Int32} (hd : decode c.code pc = .ok (.lushr, 1)) (hv : (x.toUInt64 >>> (y &&& 0x3f).toInt64.toUInt64).toInt64 = v) (q : Go p e below P (T.setTop (mkF m (pc + 1) Ls (.long v :: st)))) : Go p e below P (T.setTop (mkF m pc Ls (.int y :: .long x :: st))) := q.by fun t r => XS.lushr X.here hx rfl hd rfl (hv ▸ r)
theorem g_lcmp (X : Stand p l e R s m args below meth c T locs cells slots) (hx : p.tables.exec = Jvm.exec) {x y : Int64} (hd : decode c.code pc = .ok (.lcmp, 1))  (q : Go p e below P (T.setTop (mkF m (pc + 1) Ls (.int (lcmpW x y) :: st)))) : Go p e below P (T.setTop (mkF m pc Ls (.long y :: .long x :: st))) := q.by fun t r => XS.lcmp X.here hx rfl hd rfl r
theorem g_ineg (X : Stand p l e R s m args below meth c T locs cells slots) (hx : p.tables.exec = Jvm.exec) {x : Int32} {v : Int32} (hd : decode c.code pc = .ok (.ineg, 1)) (hv : -x = v) (q : Go p e below P (T.setTop (mkF m (pc + 1) Ls (.int v :: st)))) : Go p e below P (T.setTop (mkF m pc Ls (.int x :: st))) := q.by fun t r => XS.ineg X.here hx rfl hd rfl (hv ▸ r)
theorem g_lneg (X : Stand p l e R s m args below meth c T locs cells slots) (hx : p.tables.exec = Jvm.exec) {x : Int64} {v : Int64} (hd : decode c.code pc = .ok (.lneg, 1)) (hv : -x = v) (q : Go p e below P (T.setTop (mkF m (pc + 1) Ls (.long v :: st)))) : Go p e below P (T.setTop (mkF m pc Ls (.long x :: st))) := q.by fun t r => XS.lneg X.here hx rfl hd rfl (hv ▸ r)
theorem g_i2l (X : Stand p l e R s m args below meth c T locs cells slots) (hx : p.tables.exec = Jvm.exec) {x : Int32} {v : Int64} (hd : decode c.code pc = .ok (.i2l, 1)) (hv : x.toInt64 = v) (q : Go p e below P (T.setTop (mkF m (pc + 1) Ls (.long v :: st)))) : Go p e below P (T.setTop (mkF m pc Ls (.int x :: st))) := q.by fun t r => XS.i2l X.here hx rfl hd rfl (hv ▸ r)
theorem g_l2i (X : Stand p l e R s m args below meth c T locs cells slots) (hx : p.tables.exec = Jvm.exec) {x : Int64} {v : Int32} (hd : decode c.code pc = .ok (.l2i, 1)) (hv : x.toInt32 = v) (q : Go p e below P (T.setTop (mkF m (pc + 1) Ls (.int v :: st)))) : Go p e below P (T.setTop (mkF m pc Ls (.long x :: st))) := q.by fun t r => XS.l2i X.here hx rfl hd rfl (hv ▸ r)
theorem g_i2b (X : Stand p l e R s m args below meth c T locs cells slots) (hx : p.tables.exec = Jvm.exec) {x : Int32} {v : Int32} (hd : decode c.code pc = .ok (.i2b, 1)) (hv : x.toInt8.toInt32 = v) (q : Go p e below P (T.setTop (mkF m (pc + 1) Ls (.int v :: st)))) : Go p e below P (T.setTop (mkF m pc Ls (.int x :: st))) := q.by fun t r => XS.i2b X.here hx rfl hd rfl (hv ▸ r)
theorem g_i2c (X : Stand p l e R s m args below meth c T locs cells slots) (hx : p.tables.exec = Jvm.exec) {x : Int32} {v : Int32} (hd : decode c.code pc = .ok (.i2c, 1)) (hv : x.toUInt32.toUInt16.toUInt32.toInt32 = v) (q : Go p e below P (T.setTop (mkF m (pc + 1) Ls (.int v :: st)))) : Go p e below P (T.setTop (mkF m pc Ls (.int x :: st))) := q.by fun t r => XS.i2c X.here hx rfl hd rfl (hv ▸ r)
theorem g_i2s (X : Stand p l e R s m args below meth c T locs cells slots) (hx : p.tables.exec = Jvm.exec) {x : Int32} {v : Int32} (hd : decode c.code pc = .ok (.i2s, 1)) (hv : x.toInt16.toInt32 = v) (q : Go p e below P (T.setTop (mkF m (pc + 1) Ls (.int v :: st)))) : Go p e below P (T.setTop (mkF m pc Ls (.int x :: st))) := q.by fun t r => XS.i2s X.here hx rfl hd rfl (hv ▸ r)
theorem g_i2d (X : Stand p l e R s m args below meth c T locs cells slots) (hx : p.tables.exec = Jvm.exec) {x : Int32} {v : UInt64} (hd : decode c.code pc = .ok (.i2d, 1)) (hv : FP.i2d x = v) (q : Go p e below P (T.setTop (mkF m (pc + 1) Ls (.double v :: st)))) : Go p e below P (T.setTop (mkF m pc Ls (.int x :: st))) := q.by fun t r => XS.i2dS X.here hx rfl hd rfl hv r
theorem g_l2d (X : Stand p l e R s m args below meth c T locs cells slots) (hx : p.tables.exec = Jvm.exec) {x : Int64} {v : UInt64} (hd : decode c.code pc = .ok (.l2d, 1)) (hv : FP.l2d x = v) (q : Go p e below P (T.setTop (mkF m (pc + 1) Ls (.double v :: st)))) : Go p e below P (T.setTop (mkF m pc Ls (.long x :: st))) := q.by fun t r => XS.l2dS X.here hx rfl hd rfl hv r
theorem g_d2i (X : Stand p l e R s m args below meth c T locs cells slots) (hx : p.tables.exec = Jvm.exec) {x : UInt64} {v : Int32} (hd : decode c.code pc = .ok (.d2i, 1)) (hv : FP.d2i x = v) (q : Go p e below P (T.setTop (mkF m (pc + 1) Ls (.int v :: st)))) : Go p e below P (T.setTop (mkF m pc Ls (.double x :: st))) := q.by fun t r => XS.d2iS X.here hx rfl hd rfl hv r
theorem g_d2l (X : Stand p l e R s m args below meth c T locs cells slots) (hx : p.tables.exec = Jvm.exec) {x : UInt64} {v : Int64} (hd : decode c.code pc = .ok (.d2l, 1)) (hv : FP.d2l x = v) (q : Go p e below P (T.setTop (mkF m (pc + 1) Ls (.long v :: st)))) : Go p e below P (T.setTop (mkF m pc Ls (.double x :: st))) := q.by fun t r => XS.d2lS X.here hx rfl hd rfl hv r
theorem g_dneg (X : Stand p l e R s m args below meth c T locs cells slots) (hx : p.tables.exec = Jvm.exec) {x : UInt64} {v : UInt64} (hd : decode c.code pc = .ok (.dneg, 1)) (hv : FP.dneg x = v) (q : Go p e below P (T.setTop (mkF m (pc + 1) Ls (.double v :: st)))) : Go p e below P (T.setTop (mkF m pc Ls (.double x :: st))) := q.by fun t r => XS.dnegS X.here hx rfl hd rfl hv r
theorem g_i2f (X : Stand p l e R s m args below meth c T locs cells slots) (hx : p.tables.exec = Jvm.exec) {x : Int32} {v : UInt32} (hd : decode c.code pc = .ok (.i2f, 1)) (hv : FP.i2f x = v) (q : Go p e below P (T.setTop (mkF m (pc + 1) Ls (.float v :: st)))) : Go p e below P (T.setTop (mkF m pc Ls (.int x :: st))) := q.by fun t r => XS.i2fS X.here hx rfl hd rfl hv r
theorem g_l2f (X : Stand p l e R s m args below meth c T locs cells slots) (hx : p.tables.exec = Jvm.exec) {x : Int64} {v : UInt32} (hd : decode c.code pc = .ok (.l2f, 1)) (hv : FP.l2f x = v) (q : Go p e below P (T.setTop (mkF m (pc + 1) Ls (.float v :: st)))) : Go p e below P (T.setTop (mkF m pc Ls (.long x :: st))) := q.by fun t r => XS.l2fS X.here hx rfl hd rfl hv r
theorem g_fneg (X : Stand p l e R s m args below meth c T locs cells slots) (hx : p.tables.exec = Jvm.exec) {x : UInt32} {v : UInt32} (hd : decode c.code pc = .ok (.fneg, 1)) (hv : FP.fneg x = v) (q : Go p e below P (T.setTop (mkF m (pc + 1) Ls (.float v :: st)))) : Go p e below P (T.setTop (mkF m pc Ls (.float x :: st))) := q.by fun t r => XS.fnegS X.here hx rfl hd rfl hv r
theorem g_dadd (X : Stand p l e R s m args below meth c T locs cells slots) (hx : p.tables.exec = Jvm.exec) {x y v : UInt64} (hd : decode c.code pc = .ok (.dadd, 1)) (hn : Jvm.Free.Fl.NoNaN64 (FP.dadd x y)) (hv : FP.dadd x y = v) (q : Go p e below P (T.setTop (mkF m (pc + 1) Ls (.double v :: st)))) : Go p e below P (T.setTop (mkF m pc Ls (.double y :: .double x :: st))) := q.by fun t r => XS.daddS X.here hx rfl hd rfl hn hv r
theorem g_dsub (X : Stand p l e R s m args below meth c T locs cells slots) (hx : p.tables.exec = Jvm.exec) {x y v : UInt64} (hd : decode c.code pc = .ok (.dsub, 1)) (hn : Jvm.Free.Fl.NoNaN64 (FP.dsub x y)) (hv : FP.dsub x y = v) (q : Go p e below P (T.setTop (mkF m (pc + 1) Ls (.double v :: st)))) : Go p e below P (T.setTop (mkF m pc Ls (.double y :: .double x :: st))) := q.by fun t r => XS.dsubS X.here hx rfl hd rfl hn hv r
theorem g_dmul (X : Stand p l e R s m args below meth c T locs cells slots) (hx : p.tables.exec = Jvm.exec) {x y v : UInt64} (hd : decode c.code pc = .ok (.dmul, 1)) (hn : Jvm.Free.Fl.NoNaN64 (FP.dmul x y)) (hv : FP.dmul x y = v) (q : Go p e below P (T.setTop (mkF m (pc + 1) Ls (.double v :: st)))) : Go p e below P (T.setTop (mkF m pc Ls (.double y :: .double x :: st))) := q.by fun t r => XS.dmulS X.here hx rfl hd rfl hn hv r
theorem g_ddiv (X : Stand p l e R s m args below meth c T locs cells slots) (hx : p.tables.exec = Jvm.exec) {x y v : UInt64} (hd : decode c.code pc = .ok (.ddiv, 1)) (hn : Jvm.Free.Fl.NoNaN64 (FP.ddiv x y)) (hv : FP.ddiv x y = v) (q : Go p e below P (T.setTop (mkF m (pc + 1) Ls (.double v :: st)))) : Go p e below P (T.setTop (mkF m pc Ls (.double y :: .double x :: st))) := q.by fun t r => XS.ddivS X.here hx rfl hd rfl hn hv r
theorem g_dcmp (X : Stand p l e R s m args below meth c T locs cells slots) (hx : p.tables.exec = Jvm.exec) {o : CmpOp} {x y : UInt64} (hd : decode c.code pc = .ok (.dcmp o, 1))  (q : Go p e below P (T.setTop (mkF m (pc + 1) Ls (.int (cmpValue (FP.dcmp x y) o) :: st)))) : Go p e below P (T.setTop (mkF m pc Ls (.double y :: .double x :: st))) := q.by fun t r => XS.dcmpS X.here hx rfl hd rfl rfl r
theorem g_fcmp (X : Stand p l e R s m args below meth c T locs cells slots) (hx : p.tables.exec = Jvm.exec) {o : CmpOp} {x y : UInt32} (hd : decode c.code pc = .ok (.fcmp o, 1))  (q : Go p e below P (T.setTop (mkF m (pc + 1) Ls (.int (cmpValue (FP.fcmp x y) o) :: st)))) : Go p e below P (T.setTop (mkF m pc Ls (.float y :: .float x :: st))) := q.by fun t r => XS.fcmpS X.here hx rfl hd rfl rfl r
theorem g_dup (X : Stand p l e R s m args below meth c T locs cells slots) (hx : p.tables.exec = Jvm.exec) {x : Value} (hd : decode c.code pc = .ok (.dup, 1)) (hc : x.category = 1) (q : Go p e below P (T.setTop (mkF m (pc + 1) Ls (x :: x :: st)))) : Go p e below P (T.setTop (mkF m pc Ls (x :: st))) := q.by fun t r => XS.dup X.here hx rfl hd rfl hc r
theorem g_pop (X : Stand p l e R s m args below meth c T locs cells slots) (hx : p.tables.exec = Jvm.exec) {x : Value} (hd : decode c.code pc = .ok (.pop, 1)) (hc : x.category = 1) (q : Go p e below P (T.setTop (mkF m (pc + 1) Ls st))) : Go p e below P (T.setTop (mkF m pc Ls (x :: st))) := q.by fun t r => XS.pop X.here hx rfl hd rfl hc r
theorem g_dup2 (X : Stand p l e R s m args below meth c T locs cells slots) (hx : p.tables.exec = Jvm.exec) {x y : Value} (hd : decode c.code pc = .ok (.dup2, 1)) (hc : x.category = 1) (hc' : y.category = 1) (q : Go p e below P (T.setTop (mkF m (pc + 1) Ls (x :: y :: x :: y :: st)))) : Go p e below P (T.setTop (mkF m pc Ls (x :: y :: st))) := q.by fun t r => XT.dup2 X.here hx rfl hd rfl hc hc' r
theorem g_iinc (X : Stand p l e R s m args below meth c T locs cells slots) (hx : p.tables.exec = Jvm.exec) {k : Nat} {d : Int} {x : Int32} {L' : Array Slot} (hd : decode c.code pc = .ok (.iinc k d, 3)) (hl : Ls[k]? = some (.val (.int x))) (hs : storeLocals Ls k (.int (x + Int32.ofInt d)) = some L') (q : Go p e below P (T.setTop (mkF m (pc + 3) L' st))) : Go p e below P (T.setTop (mkF m pc Ls st)) := q.by fun t r => XS.iinc X.here hx rfl hd hl hs r
theorem g_goto (X : Stand p l e R s m args below meth c T locs cells slots) (hx : p.tables.exec = Jvm.exec)  {o : Int} {pc' : Nat} (hd : decode c.code pc = .ok (.goto o, 3))  (ho : 0 ≤ (pc : Int) + o) (hp : ((pc : Int) + o).toNat = pc') (q : Go p e below P (T.setTop (mkF m pc' Ls st))) : Go p e below P (T.setTop (mkF m pc Ls st)) := q.by fun t r => XS.goto X.here hx rfl rfl hd ho hp r
theorem g_ifYes (X : Stand p l e R s m args below meth c T locs cells slots) (hx : p.tables.exec = Jvm.exec) {cd : ClassFile.Cond} {x : Int32} {o : Int} {pc' : Nat} (hd : decode c.code pc = .ok (.ifCond cd o, 3)) (hc : if_icmp.holds cd x 0 = true) (ho : 0 ≤ (pc : Int) + o) (hp : ((pc : Int) + o).toNat = pc') (q : Go p e below P (T.setTop (mkF m pc' Ls st))) : Go p e below P (T.setTop (mkF m pc Ls (.int x :: st))) := q.by fun t r => XS.ifYes X.here hx rfl rfl hd rfl ((if0 _ _).trans hc) ho hp r
theorem g_icmpYes (X : Stand p l e R s m args below meth c T locs cells slots) (hx : p.tables.exec = Jvm.exec) {cd : ClassFile.Cond} {x y : Int32} {o : Int} {pc' : Nat} (hd : decode c.code pc = .ok (.if_icmp cd o, 3)) (hc : if_icmp.holds cd x y = true) (ho : 0 ≤ (pc : Int) + o) (hp : ((pc : Int) + o).toNat = pc') (q : Go p e below P (T.setTop (mkF m pc' Ls st))) : Go p e below P (T.setTop (mkF m pc Ls (.int y :: .int x :: st))) := q.by fun t r => XS.icmpYes X.here hx rfl rfl hd rfl hc ho hp r
theorem g_ifNo (X : Stand p l e R s m args below meth c T locs cells slots) (hx : p.tables.exec = Jvm.exec) {cd : ClassFile.Cond} {o : Int} {x : Int32} (hd : decode c.code pc = .ok (.ifCond cd o, 3)) (hc : if_icmp.holds cd x 0 = false) (q : Go p e below P (T.setTop (mkF m (pc + 3) Ls st))) : Go p e below P (T.setTop (mkF m pc Ls (.int x :: st))) := q.by fun t r => XS.ifNo X.here hx rfl hd rfl ((if0 _ _).trans hc) r
theorem g_icmpNo (X : Stand p l e R s m args below meth c T locs cells slots) (hx : p.tables.exec = Jvm.exec) {cd : ClassFile.Cond} {o : Int} {x y : Int32} (hd : decode c.code pc = .ok (.if_icmp cd o, 3)) (hc : if_icmp.holds cd x y = false) (q : Go p e below P (T.setTop (mkF m (pc + 3) Ls st))) : Go p e below P (T.setTop (mkF m pc Ls (.int y :: .int x :: st))) := q.by fun t r => XS.icmpNo X.here hx rfl hd rfl hc r
theorem g_ifnonnullYes (X : Stand p l e R s m args below meth c T locs cells slots) (hx : p.tables.exec = Jvm.exec) {b : Addr} {o : Int} {pc' : Nat} (hd : decode c.code pc = .ok (.ifnonnull o, 3))  (ho : 0 ≤ (pc : Int) + o) (hp : ((pc : Int) + o).toNat = pc') (q : Go p e below P (T.setTop (mkF m pc' Ls st))) : Go p e below P (T.setTop (mkF m pc Ls (.ref b :: st))) := q.by fun t r => XS.ifnonnullYes X.here hx rfl rfl hd rfl ho hp r
theorem g_ifnonnullNo (X : Stand p l e R s m args below meth c T locs cells slots) (hx : p.tables.exec = Jvm.exec) {o : Int} (hd : decode c.code pc = .ok (.ifnonnull o, 3))  (q : Go p e below P (T.setTop (mkF m (pc + 3) Ls st))) : Go p e below P (T.setTop (mkF m pc Ls (.null :: st))) := q.by fun t r => XS.ifnonnullNo X.here hx rfl hd rfl r
theorem g_ifnullYes (X : Stand p l e R s m args below meth c T locs cells slots) (hx : p.tables.exec = Jvm.exec)  {o : Int} {pc' : Nat} (hd : decode c.code pc = .ok (.ifnull o, 3))  (ho : 0 ≤ (pc : Int) + o) (hp : ((pc : Int) + o).toNat = pc') (q : Go p e below P (T.setTop (mkF m pc' Ls st))) : Go p e below P (T.setTop (mkF m pc Ls (.null :: st))) := q.by fun t r => XS.ifnullYes X.here hx rfl rfl hd rfl ho hp r
theorem g_ifnullNo (X : Stand p l e R s m args below meth c T locs cells slots) (hx : p.tables.exec = Jvm.exec) {o : Int} {b : Addr} (hd : decode c.code pc = .ok (.ifnull o, 3))  (q : Go p e below P (T.setTop (mkF m (pc + 3) Ls st))) : Go p e below P (T.setTop (mkF m pc Ls (.ref b :: st))) := q.by fun t r => XS.ifnullNo X.here hx rfl hd rfl r
theorem g_drem (X : Stand p l e R s m args below meth c T locs cells slots) (hx : p.tables.exec = Jvm.exec) {x y v : UInt64} (hd : decode c.code pc = .ok (.drem, 1)) (hn : Jvm.Free.Fl.NoNaN64 (FP.drem x y)) (hv : FP.drem x y = v) (q : Go p e below P (T.setTop (mkF m (pc + 1) Ls (.double v :: st)))) : Go p e below P (T.setTop (mkF m pc Ls (.double y :: .double x :: st))) := q.by fun t r => by
  subst hv
  have ht := X.here
  show Steps p.tables e below (T.setTop { method := m, pc := pc, locals := Ls, stack := .double y :: .double x :: st, locked := none }) t
  jvm_step ht [ht.top, hx, hd, Op.drem.at_number ht.top hn]
  exact r
theorem g_dup_x2 (X : Stand p l e R s m args below meth c T locs cells slots) (hx : p.tables.exec = Jvm.exec) {x y z : Value} (hd : decode c.code pc = .ok (.dup_x2, 1)) (h1 : x.category = 1) (h2 : y.category = 1) (h3 : z.category = 1) (q : Go p e below P (T.setTop (mkF m (pc + 1) Ls (x :: y :: z :: x :: st)))) : Go p e below P (T.setTop (mkF m pc Ls (x :: y :: z :: st))) := q.by fun t r => by
  have ht := X.here
  show Steps p.tables e below (T.setTop { method := m, pc := pc, locals := Ls, stack := x :: y :: z :: st, locked := none }) t
  jvm_step ht [ht.top, hx, hd, h1, h2, h3]
  exact r
theorem g_ldcI (X : Stand p l e R s m args below meth c T locs cells slots) (hx : p.tables.exec = Jvm.exec) (hZ : Z.Warmed39 s.vm) (hown : s.vm.findClass own = some m.cls) {v : Int32} (w : (Cond.constant own index v).before a0 Z = true) (hd : decode c.code pc = .ok (.ldc index, 2)) (q : Go p e below P (T.setTop (mkF m (pc + 2) Ls (.int v :: st)))) : Go p e below P (T.setTop (mkF m pc Ls st)) := q.by fun t r => X.ldcI hx hown (mvT hZ w) rfl hd r
theorem g_ldc2J (X : Stand p l e R s m args below meth c T locs cells slots) (hx : p.tables.exec = Jvm.exec) (hZ : Z.Warmed39 s.vm) (hown : s.vm.findClass own = some m.cls) {v : Int64} (w : (Cond.constantLong own index v).before a0 Z = true) (hd : decode c.code pc = .ok (.ldc2_w index, 3)) (q : Go p e below P (T.setTop (mkF m (pc + 3) Ls (.long v :: st)))) : Go p e below P (T.setTop (mkF m pc Ls st)) := q.by fun t r => X.ldc2J hx hown (mvT hZ w) rfl hd r
theorem g_ldc2D (X : Stand p l e R s m args below meth c T locs cells slots) (hx : p.tables.exec = Jvm.exec) (hZ : Z.Warmed39 s.vm) (hown : s.vm.findClass own = some m.cls) {v : UInt64} (w : (Cond.constantDouble own index v).before a0 Z = true) (hd : decode c.code pc = .ok (.ldc2_w index, 3)) (q : Go p e below P (T.setTop (mkF m (pc + 3) Ls (.double v :: st)))) : Go p e below P (T.setTop (mkF m pc Ls st)) := q.by fun t r => X.ldc2DoubleC hx hown (mvT hZ w) (g := mkF m pc Ls st) rfl hd t r
theorem g_ldcF (X : Stand p l e R s m args below meth c T locs cells slots) (hx : p.tables.exec = Jvm.exec) (hZ : Z.Warmed39 s.vm) (hown : s.vm.findClass own = some m.cls) {v : UInt32} (w : (Cond.constantFloat own index v).before a0 Z = true) (hd : decode c.code pc = .ok (.ldc index, 2)) (q : Go p e below P (T.setTop (mkF m (pc + 2) Ls (.float v :: st)))) : Go p e below P (T.setTop (mkF m pc Ls st)) := q.by fun t r => X.ldcFloatC hx hown (mvT hZ w) (g := mkF m pc Ls st) rfl hd t r
theorem Ret.end {Q : Option Value → Heap → List Loc → Prop} {C N : Nat} {g : JFrame} (X : Stand p l e R s m args below meth c T locs cells slots) (hx : p.tables.exec = Jvm.exec) (hlk : meth.locks = false) {v : Option Value} (hv : meth.sig.returnType = none → v = none) (stp : ∀ fs, (∀ (f : JFrame) (acts : List Action), f.method = m → f.locked = none → f.entered = [] → (doReturn e (T.setTop f) acts v).1 = T.setFrames fs) → Steps p.tables e below (T.setTop g) (T.setFrames fs)) (hC : cells ≤ C) (hN : slots ≤ N) (hq : Q v T.heap locs) : Go p e below (Ret s Q C N) (T.setTop g) := by
  obtain ⟨fs, hr, hrun, hended, hW, hsame⟩ := X.leave hv hlk
  exact ⟨_, _, stp fs hr, hrun, hended, _, _, rfl, hq, ⟨_, rfl⟩, hW, hsame.mono hC hN⟩
theorem g_ireturn {Q : Option Value → Heap → List Loc → Prop} {C N : Nat} (X : Stand p l e R s m args below meth c T locs cells slots) (hx : p.tables.exec = Jvm.exec) (hlk : meth.locks = false) {w : Int32} {t : FieldType} (hret : meth.sig.returnType = some t) (hn : narrow t (.int w) = .int w) (hti : t = .int ∨ t = .boolean ∨ t = .byte ∨ t = .char ∨ t = .short) (hd : decode c.code pc = .ok (.ireturn, 1)) (hC : cells ≤ C) (hN : slots ≤ N) (hq : Q (some (.int w)) T.heap locs) : Go p e below (Ret s Q C N) (T.setTop (mkF m pc Ls [.int w])) :=
  Ret.end X hx hlk (fun h => by rw [hret] at h; cases h) (fun fs hr => X.ireturnOut hx hret hn hti hd hr) hC hN hq
theorem g_lreturn {Q : Option Value → Heap → List Loc → Prop} {C N : Nat} (X : Stand p l e R s m args below meth c T locs cells slots) (hx : p.tables.exec = Jvm.exec) (hlk : meth.locks = false) {w : Int64} (hret : meth.sig.returnType = some .long) (hd : decode c.code pc = .ok (.lreturn, 1)) (hC : cells ≤ C) (hN : slots ≤ N) (hq : Q (some (.long w)) T.heap locs) : Go p e below (Ret s Q C N) (T.setTop (mkF m pc Ls [.long w])) :=
  Ret.end X hx hlk (fun h => by rw [hret] at h; cases h) (fun fs hr => X.lreturnOut hx hret hd hr) hC hN hq
theorem g_return {Q : Option Value → Heap → List Loc → Prop} {C N : Nat} (X : Stand p l e R s m args below meth c T locs cells slots) (hx : p.tables.exec = Jvm.exec) (hlk : meth.locks = false) (hret : meth.sig.returnType = none) (hd : decode c.code pc = .ok (.return_, 1)) (hC : cells ≤ C) (hN : slots ≤ N) (hq : Q none T.heap locs) : Go p e below (Ret s Q C N) (T.setTop (mkF m pc Ls [])) :=
  Ret.end X hx hlk (fun _ => rfl) (fun fs hr => X.returnOut hx hret hd hr) hC hN hq
theorem g_areturn {Q : Option Value → Heap → List Loc → Prop} {C N : Nat} (X : Stand p l e R s m args below meth c T locs cells slots) (hx : p.tables.exec = Jvm.exec) (hlk : meth.locks = false) {w : Value} {t : FieldType} (hret : meth.sig.returnType = some t) (ht : t.isReference = true) (hw : w.isRef = true) (hd : decode c.code pc = .ok (.areturn, 1)) (hC : cells ≤ C) (hN : slots ≤ N) (hq : Q (some w) T.heap locs) : Go p e below (Ret s Q C N) (T.setTop (mkF m pc Ls [w])) :=
  Ret.end X hx hlk (fun h => by rw [hret] at h; cases h) (fun fs hr => X.areturnOut hx hw hret ht hd hr) hC hN hq
theorem g_dreturn {Q : Option Value → Heap → List Loc → Prop} {C N : Nat} (X : Stand p l e R s m args below meth c T locs cells slots) (hx : p.tables.exec = Jvm.exec) (hlk : meth.locks = false) {w : UInt64} (hret : meth.sig.returnType = some .double) (hd : decode c.code pc = .ok (.dreturn, 1)) (hC : cells ≤ C) (hN : slots ≤ N) (hq : Q (some (.double w)) T.heap locs) : Go p e below (Ret s Q C N) (T.setTop (mkF m pc Ls [.double w])) :=
  Ret.end X hx hlk (fun h => by rw [hret] at h; cases h) (fun fs hr => by
    have hm' : T.vm.method? m = some meth := X.method'
    show Steps p.tables e below (T.setTop { method := m, pc := pc, locals := Ls, stack := [.double w], locked := none }) _
    jvm_step X.here [X.here.top, hx, hd, hm', hret]
    first | (intro acts; rw [hr _ acts rfl rfl rfl]) | rw [hr _ _ rfl rfl rfl]
    exact Steps.refl _) hC hN hq
theorem g_freturn {Q : Option Value → Heap → List Loc → Prop} {C N : Nat} (X : Stand p l e R s m args below meth c T locs cells slots) (hx : p.tables.exec = Jvm.exec) (hlk : meth.locks = false) {w : UInt32} (hret : meth.sig.returnType = some .float) (hd : decode c.code pc = .ok (.freturn, 1)) (hC : cells ≤ C) (hN : slots ≤ N) (hq : Q (some (.float w)) T.heap locs) : Go p e below (Ret s Q C N) (T.setTop (mkF m pc Ls [.float w])) :=
  Ret.end X hx hlk (fun h => by rw [hret] at h; cases h) (fun fs hr => retF X hx hret hd hr) hC hN hq
theorem g_callS (X : Stand p l e R s m args below meth c T locs cells slots) (hx : p.tables.exec = Jvm.exec) (hZ : Z.Warmed39 s.vm) (hown : s.vm.findClass own = some m.cls) {y : MethodName} {bytes : ByteArray} {maxL : Nat} {ret : Option FieldType} (w1 : (Cond.methodLink own index y).before a0 Z = true) (w2 : (Cond.static y).before a0 Z = true) (w3 : (Cond.initialized y.cls).before a0 Z = true) (w4 : (Cond.code y bytes maxL ret).before a0 Z = true) (hy : y.cls ≠ "java/lang/invoke/MethodHandle" ∧ y.cls ≠ "java/lang/invoke/VarHandle") {rm : Room} {as' : Array Value} {Q : Option Value → Heap → List Loc → Prop} (hM : MetFree l y (head1 [Cond.code y bytes maxL ret] rm) (fun a U => a = as' ∧ Z.Warmed39 U.vm ∧ U.heap = h) (fun _ _ _ _ _ => True) (fun _ U o U' => ∃ v L, o = .returned v ∧ Q v U'.heap L ∧ FrameEnd U o U' L rm.cells rm.slots)) (eT : T.heap = h) {W : Nat} (hf : rm.frames + 1 ≤ R.frames) (hlo : W + (maxL + 11) + rm.locals ≤ R.locals) (hsize : Ls.size = c.maxLocals) (argsL rest : List Value) (hlen : ∀ sig, parseMethodDescriptor y.desc = some sig → argsL.length = sig.parameters.length) (hst : st = argsL.reverse ++ rest) (has : argsL.toArray = as') (hW : (rest.map fun v => v.category).sum ≤ W) (hd : decode c.code pc = .ok (.invokestatic index, 3)) (hc : cells + rm.cells ≤ R.cells) (hs : slots + rm.slots ≤ R.slots) (k : ∀ (v : Option Value) (T' : State) (L : List Loc), Stand p l e R s m args below meth c T' (locs ++ L) (cells + rm.cells) (slots + rm.slots) → Q v T'.heap L → Go p e below P (T'.setTop (mkF m (pc + 3) Ls (v.toList ++ rest)))) : Go p e below P (T.setTop (mkF m pc Ls st)) := by
  obtain ⟨v, vm1, ⟨T', L', k', n'⟩, -, X', ⟨L, hQ, l1, y1, z1⟩, stp⟩ := Jvm.LawKit.callS X hx hown (mvT hZ w1) (mvT hZ w2) (mvT hZ w3) (mvT hZ w4) hy (backOf (W := W) hM hZ w4 w3 hf hlo) (g := mkF m pc Ls st) rfl hsize hlen hst (by show 2 * 0 + _ ≤ _; omega) hd (fun _ _ => ⟨has, eT, hc, hs⟩)
  dsimp only [Pt.U, Pt.locs, Pt.cells, Pt.slots] at X' l1 y1 z1 stp hQ
  subst l1 y1 z1
  exact (k v T' L X' hQ).by stp
theorem g_init (X : Stand p l e R s m args below meth c T locs cells slots) (hx : p.tables.exec = Jvm.exec) (hZ : Z.Warmed39 s.vm) (hown : s.vm.findClass own = some m.cls) {y : MethodName} {bytes : ByteArray} {maxL : Nat} (hy1 : y.name = "<init>") (w1 : (Cond.methodLink own index y).before a0 Z = true) (w2 : (Cond.instanceMethod y).before a0 Z = true) (w3 : (Cond.initialized y.cls).before a0 Z = true) (w4 : (Cond.code y bytes maxL none).before a0 Z = true) (hy : y.cls ≠ "java/lang/invoke/MethodHandle" ∧ y.cls ≠ "java/lang/invoke/VarHandle") {rm : Room} {as' : Array Value} {Q : Option Value → Heap → List Loc → Prop} (hM : MetFree l y (head1 [Cond.code y bytes maxL none] rm) (fun a U => a = as' ∧ Z.Warmed39 U.vm ∧ U.heap = h) (fun _ _ _ _ _ => True) (fun _ U o U' => ∃ v L, o = .returned v ∧ Q v U'.heap L ∧ FrameEnd U o U' L rm.cells rm.slots)) (eT : T.heap = h) {W : Nat} (hf : rm.frames + 1 ≤ R.frames) (hlo : W + (maxL + 11) + rm.locals ≤ R.locals) (hsize : Ls.size = c.maxLocals) (a : Addr) (argsL rest : List Value) (hlen : ∀ sig, parseMethodDescriptor y.desc = some sig → argsL.length = sig.parameters.length) (hst : st = argsL.reverse ++ .ref a :: rest) (has : (.ref a :: argsL).toArray = as') (hW : (rest.map fun v => v.category).sum ≤ W) (hd : decode c.code pc = .ok (.invokespecial index, 3)) (hc : cells + rm.cells ≤ R.cells) (hs : slots + rm.slots ≤ R.slots) (k : ∀ (v : Option Value) (T' : State) (L : List Loc), Stand p l e R s m args below meth c T' (locs ++ L) (cells + rm.cells) (slots + rm.slots) → Q v T'.heap L → Go p e below P (T'.setTop (mkF m (pc + 3) Ls (v.toList ++ rest)))) : Go p e below P (T.setTop (mkF m pc Ls st)) := by
  obtain ⟨v, vm1, ⟨T', L', k', n'⟩, -, X', ⟨L, hQ, l1, y1, z1⟩, stp⟩ := X.specialBack hx hy1 hown (mvT hZ w1) (mvT hZ w2) (mvT hZ w4) hy (backOf (W := W) hM hZ w4 w3 hf hlo) (g := mkF m pc Ls st) rfl hsize (Steps.refl _) hlen hst (by show 2 * 0 + _ ≤ _; omega) hd (fun _ _ => ⟨has, eT, hc, hs⟩)
  dsimp only [Pt.U, Pt.locs, Pt.cells, Pt.slots] at X' l1 y1 z1 stp hQ
  subst l1 y1 z1
  exact (k v T' L X' hQ).by fun t r => stp.trans r
theorem g_callV (X : Stand p l e R s m args below meth c T locs cells slots) (hx : p.tables.exec = Jvm.exec) (hZ : Z.Warmed39 s.vm) (hown : s.vm.findClass own = some m.cls) {y : MethodName} {bytes : ByteArray} {maxL : Nat} {ret : Option FieldType} {C : String} (w1 : (Cond.methodLink own index y).before a0 Z = true) (w2 : (Cond.declares y).before a0 Z = true) (w5 : (Cond.selects C y y).before a0 Z = true) (w6 : (Cond.instanceMethod y).before a0 Z = true) (w3 : (Cond.initialized y.cls).before a0 Z = true) (w4 : (Cond.code y bytes maxL ret).before a0 Z = true) (hy : y.cls ≠ "java/lang/invoke/MethodHandle" ∧ y.cls ≠ "java/lang/invoke/VarHandle") {rm : Room} {as' : Array Value} {Q : Option Value → Heap → List Loc → Prop} (hM : MetFree l y (head1 [Cond.code y bytes maxL ret] rm) (fun a U => a = as' ∧ Z.Warmed39 U.vm ∧ U.heap = h) (fun _ _ _ _ _ => True) (fun _ U o U' => ∃ v L, o = .returned v ∧ Q v U'.heap L ∧ FrameEnd U o U' L rm.cells rm.slots)) (eT : T.heap = h) {W : Nat} (hf : rm.frames + 1 ≤ R.frames) (hlo : W + (maxL + 11) + rm.locals ≤ R.locals) (hsize : Ls.size = c.maxLocals) (a : Addr) (E : Exa Z h a C) (argsL rest : List Value) (hlen : ∀ sig, parseMethodDescriptor y.desc = some sig → argsL.length = sig.parameters.length) (hst : st = argsL.reverse ++ .ref a :: rest) (has : (.ref a :: argsL).toArray = as') (hW : (rest.map fun v => v.category).sum ≤ W) (hd : decode c.code pc = .ok (.invokevirtual index, 3)) (hc : cells + rm.cells ≤ R.cells) (hs : slots + rm.slots ≤ R.slots) (k : ∀ (v : Option Value) (T' : State) (L : List Loc), Stand p l e R s m args below meth c T' (locs ++ L) (cells + rm.cells) (slots + rm.slots) → Q v T'.heap L → Go p e below P (T'.setTop (mkF m (pc + 3) Ls (v.toList ++ rest)))) : Go p e below P (T.setTop (mkF m pc Ls st)) := by
  obtain ⟨cq, kq, qa, qb, qc⟩ := isOf hZ eT E
  obtain ⟨v, vm1, ⟨T', L', k', n'⟩, -, X', ⟨L, hQ, l1, y1, z1⟩, stp⟩ := X.virtualBack hx (y := y) (z := y) hown (mvT hZ w1) (mvT hZ w2) (notFace_of_selects (args := #[]) (mvT hZ w5)) (mvT hZ w5) (mvT hZ w6) hy (backOf (W := W) hM hZ w4 w3 hf hlo) qa qc (g := mkF m pc Ls st) rfl hsize (Steps.refl _) hlen hst (by show 2 * 0 + _ ≤ _; omega) hd (fun _ _ => ⟨has, eT, hc, hs⟩)
  dsimp only [Pt.U, Pt.locs, Pt.cells, Pt.slots] at X' l1 y1 z1 stp hQ
  subst l1 y1 z1
  exact (k v T' L X' hQ).by fun t r => stp.trans r
theorem g_absD (X : Stand p l e R s m args below meth c T locs cells slots) (hx : p.tables.exec = Jvm.exec) (hZ : Z.Warmed39 s.vm) (hown : s.vm.findClass own = some m.cls) (w1 : (Cond.methodLink own index Jvm.Free.Fl.Abs.absDN).before a0 Z = true) (w2 : (Cond.static Jvm.Free.Fl.Abs.absDN).before a0 Z = true) (w3 : (Cond.initialized "java/lang/Math").before a0 Z = true) (w4 : (Cond.code Jvm.Free.Fl.Abs.absDN Jvm.Free.Fl.Abs.absDCode 2 (some .double)).before a0 Z = true) (eT : T.heap = h) (hsize : Ls.size = c.maxLocals) {a : UInt64} (hn : Jvm.Free.Fl.NoNaN64 a) (hfr : 1 ≤ R.frames) {W : Nat} (hW : (st.map fun v => v.category).sum ≤ W) (hlo : W + 13 ≤ R.locals) (hc : cells ≤ R.cells) (hs : slots ≤ R.slots) (hd : decode c.code pc = .ok (.invokestatic index, 3))
    (k : ∀ T', Stand p l e R s m args below meth c T' locs cells slots → T'.heap = h → Go p e below P (T'.setTop (mkF m (pc + 3) Ls (.double (a &&& 0x7fffffffffffffff) :: st)))) : Go p e below P (T.setTop (mkF m pc Ls (.double a :: st))) := by
  obtain ⟨T', X', e', stp⟩ := natS X hx hZ hown w1 w2 w3 w4 (by decide) eT (W := W) (F := fun a' => a' = #[.double a] ∧ Jvm.Free.Fl.NoNaN64 a) (val := .double (a &&& 0x7fffffffffffffff)) (val' := .double (a &&& 0x7fffffffffffffff)) (fun q => Jvm.Free.Fl.Abs.absD_pays a q hfr hlo) (g := mkF m pc Ls (.double a :: st)) rfl hsize (argsL := [.double a]) (rest := st) (lenOf (ps := [.double]) (r := some .double) (by decide +kernel) rfl) rfl (by show 2 * 0 + _ ≤ _; omega) hd hc hs ⟨rfl, hn⟩ rfl
  exact (k T' X' e').by stp
theorem g_objInit (X : Stand p l e R s m args below meth c T locs cells slots) (hx : p.tables.exec = Jvm.exec) (hZ : Z.Warmed39 s.vm) (hown : s.vm.findClass own = some m.cls) (w1 : (Cond.methodLink own index Lib.objectInit).before a0 Z = true) (w2 : (Cond.instanceMethod Lib.objectInit).before a0 Z = true) (w3 : (Cond.code Lib.objectInit ⟨#[0xb1]⟩ 1 none).before a0 Z = true) (eT : T.heap = h) (hsize : Ls.size = c.maxLocals) {a : Addr} (hd : decode c.code pc = .ok (.invokespecial index, 3)) (hf : 1 ≤ R.frames) {W : Nat} (hW : (st.map fun v => v.category).sum ≤ W) (hlo : W + 12 ≤ R.locals)
    (k : ∀ T', Stand p l e R s m args below meth c T' locs cells slots → T'.heap = h → Go p e below P (T'.setTop (mkF m (pc + 3) Ls st))) : Go p e below P (T.setTop (mkF m pc Ls (.ref a :: st))) := by
  obtain ⟨T', X', e', stp⟩ := initO X hx hZ hown w1 w2 w3 eT (g := mkF m pc Ls (.ref a :: st)) rfl hsize rfl hd hf (W := W) (by show 2 * 0 + _ ≤ _; omega) hlo
  exact (k T' X' e').by stp
theorem g_new (X : Stand p l e R s m args below meth c T locs cells slots) (hx : p.tables.exec = Jvm.exec) (hZ : Z.Warmed39 s.vm) (hown : s.vm.findClass own = some m.cls) {C : String} {n : Nat} (w : (Cond.classLink own index C).before a0 Z = true) (wi : (Cond.instantiable C n).before a0 Z = true) (wz : (Cond.initialized C).before a0 Z = true) (eT : T.heap = h) (hd : decode c.code pc = .ok (.new index, 3)) (hc : cells + 1 ≤ R.cells) (hl : slots + n ≤ R.slots)
    (k : ∀ T' h' a, a = h.size → Stand p l e R s m args below meth c T' locs (cells + 1) (slots + n) → T'.heap = h' → Ext h h' → Exa Z h' a C → (∀ {O nm d : String} {ty : FieldType}, Laid Z a0 C O nm d → parseFieldDescriptor d = some ty → Fld Z h' a O nm d (defaultValue ty)) → Go p e below P (T'.setTop (mkF m (pc + 3) Ls (.ref a :: st)))) : Go p e below P (T.setTop (mkF m pc Ls st)) := by
  obtain ⟨T', h', X', e', E, A, D, -, stp⟩ := newO X hx hZ hown w wi wz eT (g := mkF m pc Ls st) rfl hd hc hl
  exact (k T' h' _ rfl X' e' E A D).by stp
theorem g_getF (X : Stand p l e R s m args below meth c T locs cells slots) (hx : p.tables.exec = Jvm.exec) (hZ : Z.Warmed39 s.vm) (hown : s.vm.findClass own = some m.cls) {O n d : String} (w : (Cond.fieldLink own index O n d).before a0 Z = true) (eT : T.heap = h) {a : Addr} {v : Value} (F : Fld Z h a O n d v) (hd : decode c.code pc = .ok (.getfield index, 3))
    (k : ∀ T', Stand p l e R s m args below meth c T' locs cells slots → T'.heap = h → Go p e below P (T'.setTop (mkF m (pc + 3) Ls (v :: st)))) : Go p e below P (T.setTop (mkF m pc Ls (.ref a :: st))) := by
  obtain ⟨T', X', e', stp⟩ := getF X hx hZ hown (host := "") (Or.inl w) Via.refl eT F (g := mkF m pc Ls (.ref a :: st)) rfl rfl hd
  exact (k T' X' e').by stp
theorem g_getS (X : Stand p l e R s m args below meth c T locs cells slots) (hx : p.tables.exec = Jvm.exec) (hZ : Z.Warmed39 s.vm) (hown : s.vm.findClass own = some m.cls) {O n d : String} (w : (Cond.fieldLink own index O n d).before a0 Z = true) (eT : T.heap = h) {v : Value} (F : Sta Z h O n d v) (hd : decode c.code pc = .ok (.getstatic index, 3))
    (k : ∀ T', Stand p l e R s m args below meth c T' locs cells slots → T'.heap = h → Go p e below P (T'.setTop (mkF m (pc + 3) Ls (v :: st)))) : Go p e below P (T.setTop (mkF m pc Ls st)) := by
  obtain ⟨T', X', e', stp⟩ := getS X hx hZ hown (host := "") w Via.refl eT F (g := mkF m pc Ls st) rfl hd
  exact (k T' X' e').by stp
theorem g_putF (X : Stand p l e R s m args below meth c T locs cells slots) (hx : p.tables.exec = Jvm.exec) (hZ : Z.Warmed39 s.vm) (hown : s.vm.findClass own = some m.cls) {O n d C : String} {kk : Nat} {ty : FieldType} (w : (Cond.fieldLink own index O n d).before a0 Z = true) (eT : T.heap = h) {a : Addr} {v old : Value} (F : Fld Z h a O n d old) (E : Exa Z h a C) (L : (Cond.lays C O n d).before a0 Z = true ∨ ((Cond.laysFinal C O n d).before a0 Z = true ∧ own = O ∧ meth.name = "<init>")) (wi : (Cond.instantiable C kk).before a0 Z = true) (hty : parseFieldDescriptor d = some ty) (hn : narrow ty v = v) (hf : fits ty v = true) (hd : decode c.code pc = .ok (.putfield index, 3))
    (k : ∀ T' h', Stand p l e R s m args below meth c T' (locs ++ [⟨a, Jvm.RoadKit.slotOf Z O n d⟩]) cells slots → T'.heap = h' → Wr h h' a (Jvm.RoadKit.slotOf Z O n d) v → Go p e below P (T'.setTop (mkF m (pc + 3) Ls st))) : Go p e below P (T.setTop (mkF m pc Ls (v :: .ref a :: st))) := by
  obtain ⟨T', h', X', e', W, stp⟩ := putF X hx hZ hown (host := "") (Or.inl w) Via.refl eT F E L wi hty hn hf (g := mkF m pc Ls (v :: .ref a :: st)) rfl rfl hd
  exact (k T' h' X' e' W).by stp
theorem g_newP (X : Stand p l e R s m args below meth c T locs cells slots) (hx : p.tables.exec = Jvm.exec) (hZ : Z.Warmed39 s.vm) {aty : ArrayType} {ty : FieldType} (hty : newarray.typeOf aty = ty) (w : (Cond.arrayClass ty).before a0 Z = true) (eT : T.heap = h) (hd : decode c.code pc = .ok (.newarray aty, 2)) {n : Int32} (hn : ¬ n < 0) {cap : Nat} (hcap : n.toNatClampNeg ≤ cap) (hb : cap * 8 ≤ 536870912) (hc : cells + 1 ≤ R.cells) (hl : slots + cap ≤ R.slots)
    (k : ∀ T' h' a cA, a = h.size → Stand p l e R s m args below meth c T' locs (cells + 1) (slots + cap) → T'.heap = h' → Ext h h' → Arr Z h' a (newA cA ty n) ty → Go p e below P (T'.setTop (mkF m (pc + 2) Ls (.ref a :: st)))) : Go p e below P (T.setTop (mkF m pc Ls (.int n :: st))) := by
  subst hty
  obtain ⟨T', h', cA, X', e', E, A, stp⟩ := newP X hx hZ w eT (g := mkF m pc Ls (.int n :: st)) rfl hd rfl hn hcap hb hc hl
  exact (k T' h' _ cA rfl X' e' E A).by stp
theorem fld_any {C O O' n n' d d' : String} {v : Value} {a : Addr} {kk : Nat} (E : Exa Z h a C) (F : Fld Z h a O n d v) (wi : (Cond.instantiable C kk).before a0 Z = true) (L : Laid Z a0 C O' n' d') : ∃ w, Fld Z h a O' n' d' w := by
  obtain ⟨cell, k, h1, h2, h3, h4, h5⟩ := E
  obtain ⟨cell', cf, k', i, f, g1, g2, g3, g4, g5, g6, g7⟩ := F
  cases h1.symm.trans g1
  obtain ⟨c1, k1, cf1, kf1, i1, f1, l1, l2, l3, l4, l5, l6, -⟩ := L.spec
  obtain ⟨c2, k2, j1, j2, j3, -⟩ := Cond.instantiable_spec wi
  cases h2.symm.trans l1
  cases h3.symm.trans l2
  cases l1.symm.trans j1
  cases h3.symm.trans j2
  have hsz := h5 j3
  obtain ⟨hlt, -⟩ := Array.getElem?_eq_some_iff.mp l6
  exact ⟨_, cell, cf1, kf1, i1, f1, g1, l3, l4, g4, g5, l5, Array.getElem?_eq_getElem (by rw [hsz]; exact hlt)⟩
/-- an array by a function of the place -/
def Av (Z : State) (h : Heap) (a : Addr) (ty : FieldType) (n : Nat) (f : Nat → Value) : Prop := ∃ cl : Cell, Arr Z h a cl ty ∧ cl.slots.size = n ∧ ∀ i, i < n → cl.slots[i]? = some (f i)
theorem Av.lt {a : Addr} {ty : FieldType} {n : Nat} {f : Nat → Value} (F : Av Z h a ty n f) : a < h.size := by obtain ⟨cl, A, -⟩ := F; exact A.lt
theorem Av.ext {h' : Heap} {a : Addr} {ty : FieldType} {n : Nat} {f : Nat → Value} (F : Av Z h a ty n f) (E : Ext h h') : Av Z h' a ty n f := by obtain ⟨cl, A, B⟩ := F; exact ⟨cl, A.ext E, B⟩
theorem Av.other {h' : Heap} {a b : Addr} {sl : Nat} {v : Value} {ty : FieldType} {n : Nat} {f : Nat → Value} (F : Av Z h b ty n f) (W : Wr h h' a sl v) (q : b ≠ a) : Av Z h' b ty n f := by obtain ⟨cl, A, B⟩ := F; exact ⟨cl, A.other W q, B⟩
theorem Av.keep {h' : Heap} {a : Addr} {ws : List Addr} {ty : FieldType} {n : Nat} {f : Nat → Value} (F : Av Z h a ty n f) (K : Keep h h' ws) (q : a ∉ ws) : Av Z h' a ty n f := by obtain ⟨cl, A, B⟩ := F; exact ⟨cl, ⟨K.2.1 a cl A.1 q, A.2⟩, B⟩
theorem Av.new {a : Addr} {cA : ClassId} {ty : FieldType} {n : Int32} (A : Arr Z h a (newA cA ty n) ty) : Av Z h a ty n.toNatClampNeg (fun _ => defaultValue ty) := ⟨_, A, sz_new _ _ _, fun i hi => by simp [newA, hi]⟩
theorem Av.newK {a : Addr} {cA : ClassId} {ty : FieldType} {n : Int32} {k : Nat} (A : Arr Z h a (newA cA ty n) ty) (hk : n.toNatClampNeg = k) : Av Z h a ty k (fun _ => defaultValue ty) := hk ▸ Av.new A
theorem Av.congr {a : Addr} {ty : FieldType} {n : Nat} {f f' : Nat → Value} (F : Av Z h a ty n f) (q : ∀ i, i < n → f i = f' i) : Av Z h a ty n f' := by obtain ⟨cl, A, B, C⟩ := F; exact ⟨cl, A, B, fun i hi => by rw [C i hi, q i hi]⟩
theorem Av.same {h' : Heap} {a : Addr} {i : Nat} {v : Value} {ty : FieldType} {n : Nat} {f : Nat → Value} (F : Av Z h a ty n f) (W : Wr h h' a i v) : Av Z h' a ty n (fun j => if j = i then v else f j) := by
  obtain ⟨cl, A, B, C⟩ := F
  refine ⟨_, A.same W, by rw [sz_set]; exact B, fun j hj => ?_⟩
  obtain ⟨cb, hb1, -, -, -, -, hb2, hb3⟩ := wr_at W A.1
  have e1 := (A.same W).1
  have e2 : cb = cl.setSlot i v := Option.some.inj (hb1.symm.trans e1)
  by_cases q : j = i
  · subst q; rw [← e2, (hb3 rfl).2.1]; simp
  · rw [← e2, hb2 j q, C j hj]; simp [q]
theorem out_idx {j : Int32} {n : Nat} (h0 : 0 ≤ j.toInt) (h1 : j.toInt < n) : ¬ (j < 0 ∨ n ≤ j.toNatClampNeg) := by
  have e : (j.toNatClampNeg : Int) = j.toInt := by rw [Int32.toNatClampNeg]; omega
  intro q
  rcases q with q | q
  · have := Int32.lt_iff_toInt_lt.mp q; simp at this; omega
  · omega
theorem g_iaload (X : Stand p l e R s m args below meth c T locs cells slots) (hx : p.tables.exec = Jvm.exec) (hZ : Z.Warmed39 s.vm) (eT : T.heap = h) {a : Addr} {n : Nat} {f : Nat → Value} (F : Av Z h a .int n f) {j : Int32} {i : Nat} {v : Value} (hj0 : 0 ≤ j.toInt) (hj1 : j.toInt < n) (hi : j.toNatClampNeg = i) (hv : f i = v) (hd : decode c.code pc = .ok (.iaload, 1)) (q : Go p e below P (T.setTop (mkF m (pc + 1) Ls (v :: st)))) : Go p e below P (T.setTop (mkF m pc Ls (.int j :: .ref a :: st))) := by
  obtain ⟨cl, A, B, C⟩ := F
  have hin := out_idx hj0 hj1
  subst hi hv
  exact q.by fun t r => X.iaload hx (by rw [eT]; exact A.1) (State.isArrayOf_alike hZ.alike A.2.1) A.2.2 (by rw [B]; exact hin) (C _ (by omega)) (g := mkF m pc Ls (.int j :: .ref a :: st)) rfl rfl hd t r
theorem g_laload (X : Stand p l e R s m args below meth c T locs cells slots) (hx : p.tables.exec = Jvm.exec) (hZ : Z.Warmed39 s.vm) (eT : T.heap = h) {a : Addr} {n : Nat} {f : Nat → Value} (F : Av Z h a .long n f) {j : Int32} {i : Nat} {v : Value} (hj0 : 0 ≤ j.toInt) (hj1 : j.toInt < n) (hi : j.toNatClampNeg = i) (hv : f i = v) (hd : decode c.code pc = .ok (.laload, 1)) (q : Go p e below P (T.setTop (mkF m (pc + 1) Ls (v :: st)))) : Go p e below P (T.setTop (mkF m pc Ls (.int j :: .ref a :: st))) := by
  obtain ⟨cl, A, B, C⟩ := F
  have hin := out_idx hj0 hj1
  subst hi hv
  exact q.by fun t r => X.laload hx (by rw [eT]; exact A.1) (State.isArrayOf_alike hZ.alike A.2.1) A.2.2 (by rw [B]; exact hin) (C _ (by omega)) (g := mkF m pc Ls (.int j :: .ref a :: st)) rfl rfl hd t r
theorem g_daload (X : Stand p l e R s m args below meth c T locs cells slots) (hx : p.tables.exec = Jvm.exec) (hZ : Z.Warmed39 s.vm) (eT : T.heap = h) {a : Addr} {n : Nat} {f : Nat → Value} (F : Av Z h a .double n f) {j : Int32} {i : Nat} {v : Value} (hj0 : 0 ≤ j.toInt) (hj1 : j.toInt < n) (hi : j.toNatClampNeg = i) (hv : f i = v) (hd : decode c.code pc = .ok (.daload, 1)) (q : Go p e below P (T.setTop (mkF m (pc + 1) Ls (v :: st)))) : Go p e below P (T.setTop (mkF m pc Ls (.int j :: .ref a :: st))) := by
  obtain ⟨cl, A, B, C⟩ := F
  have hin := out_idx hj0 hj1
  subst hi hv
  exact q.by fun t r => X.daload hx (by rw [eT]; exact A.1) (State.isArrayOf_alike hZ.alike A.2.1) A.2.2 (by rw [B]; exact hin) (C _ (by omega)) (g := mkF m pc Ls (.int j :: .ref a :: st)) rfl rfl hd t r
theorem g_caload (X : Stand p l e R s m args below meth c T locs cells slots) (hx : p.tables.exec = Jvm.exec) (hZ : Z.Warmed39 s.vm) (eT : T.heap = h) {a : Addr} {n : Nat} {f : Nat → Value} (F : Av Z h a .char n f) {j : Int32} {i : Nat} {v : Value} (hj0 : 0 ≤ j.toInt) (hj1 : j.toInt < n) (hi : j.toNatClampNeg = i) (hv : f i = v) (hd : decode c.code pc = .ok (.caload, 1)) (q : Go p e below P (T.setTop (mkF m (pc + 1) Ls (v :: st)))) : Go p e below P (T.setTop (mkF m pc Ls (.int j :: .ref a :: st))) := by
  obtain ⟨cl, A, B, C⟩ := F
  have hin := out_idx hj0 hj1
  subst hi hv
  exact q.by fun t r => X.caload hx (by rw [eT]; exact A.1) (State.isArrayOf_alike hZ.alike A.2.1) A.2.2 (by rw [B]; exact hin) (C _ (by omega)) (g := mkF m pc Ls (.int j :: .ref a :: st)) rfl rfl hd t r
theorem g_baloadB (X : Stand p l e R s m args below meth c T locs cells slots) (hx : p.tables.exec = Jvm.exec) (hZ : Z.Warmed39 s.vm) (eT : T.heap = h) {a : Addr} {n : Nat} {f : Nat → Value} (F : Av Z h a .byte n f) {j : Int32} {i : Nat} {v : Value} (hj0 : 0 ≤ j.toInt) (hj1 : j.toInt < n) (hi : j.toNatClampNeg = i) (hv : f i = v) (hd : decode c.code pc = .ok (.baload, 1)) (q : Go p e below P (T.setTop (mkF m (pc + 1) Ls (v :: st)))) : Go p e below P (T.setTop (mkF m pc Ls (.int j :: .ref a :: st))) := by
  obtain ⟨cl, A, B, C⟩ := F
  have hin := out_idx hj0 hj1
  subst hi hv
  exact q.by fun t r => X.baloadBytes hx (by rw [eT]; exact A.1) (State.isArrayOf_alike hZ.alike A.2.1) A.2.2 (by rw [B]; exact hin) (C _ (by omega)) (g := mkF m pc Ls (.int j :: .ref a :: st)) rfl rfl hd t r
theorem g_baloadZ (X : Stand p l e R s m args below meth c T locs cells slots) (hx : p.tables.exec = Jvm.exec) (hZ : Z.Warmed39 s.vm) (eT : T.heap = h) {a : Addr} {n : Nat} {f : Nat → Value} (F : Av Z h a .boolean n f) {j : Int32} {i : Nat} {v : Value} (hj0 : 0 ≤ j.toInt) (hj1 : j.toInt < n) (hi : j.toNatClampNeg = i) (hv : f i = v) (hd : decode c.code pc = .ok (.baload, 1)) (q : Go p e below P (T.setTop (mkF m (pc + 1) Ls (v :: st)))) : Go p e below P (T.setTop (mkF m pc Ls (.int j :: .ref a :: st))) := by
  obtain ⟨cl, A, B, C⟩ := F
  have hin := out_idx hj0 hj1
  subst hi hv
  exact q.by fun t r => X.baloadBooleans hx (by rw [eT]; exact A.1) (State.isArrayOf_alike hZ.alike A.2.1) A.2.2 (by rw [B]; exact hin) (C _ (by omega)) (g := mkF m pc Ls (.int j :: .ref a :: st)) rfl rfl hd t r
theorem g_iastore (X : Stand p l e R s m args below meth c T locs cells slots) (hx : p.tables.exec = Jvm.exec) (hZ : Z.Warmed39 s.vm) (eT : T.heap = h) {a : Addr} {n : Nat} {f : Nat → Value} (F : Av Z h a .int n f) {j : Int32} {i : Nat} {x : Int32} (hj0 : 0 ≤ j.toInt) (hj1 : j.toInt < n) (hi : j.toNatClampNeg = i) (hd : decode c.code pc = .ok (.iastore, 1))
    (k : ∀ T' h', Stand p l e R s m args below meth c T' (locs ++ [⟨a, i⟩]) cells slots → T'.heap = h' → Wr h h' a i (.int x) → Go p e below P (T'.setTop (mkF m (pc + 1) Ls st))) : Go p e below P (T.setTop (mkF m pc Ls (.int x :: .int j :: .ref a :: st))) := by
  obtain ⟨cl, A, B, C⟩ := F
  have hin := out_idx hj0 hj1
  subst hi
  obtain ⟨T', h', X', e', W, stp⟩ := stI X hx hZ eT A (x := x) (by rw [B]; exact hin) (g := mkF m pc Ls (.int x :: .int j :: .ref a :: st)) rfl rfl hd
  exact (k T' h' X' e' W).by stp
theorem g_lastore (X : Stand p l e R s m args below meth c T locs cells slots) (hx : p.tables.exec = Jvm.exec) (hZ : Z.Warmed39 s.vm) (eT : T.heap = h) {a : Addr} {n : Nat} {f : Nat → Value} (F : Av Z h a .long n f) {j : Int32} {i : Nat} {x : Int64} (hj0 : 0 ≤ j.toInt) (hj1 : j.toInt < n) (hi : j.toNatClampNeg = i) (hd : decode c.code pc = .ok (.lastore, 1))
    (k : ∀ T' h', Stand p l e R s m args below meth c T' (locs ++ [⟨a, i⟩]) cells slots → T'.heap = h' → Wr h h' a i (.long x) → Go p e below P (T'.setTop (mkF m (pc + 1) Ls st))) : Go p e below P (T.setTop (mkF m pc Ls (.long x :: .int j :: .ref a :: st))) := by
  obtain ⟨cl, A, B, C⟩ := F
  have hin := out_idx hj0 hj1
  subst hi
  obtain ⟨T', h', X', e', W, stp⟩ := stJ X hx hZ eT A (x := x) (by rw [B]; exact hin) (g := mkF m pc Ls (.long x :: .int j :: .ref a :: st)) rfl rfl hd
  exact (k T' h' X' e' W).by stp
theorem g_dastore (X : Stand p l e R s m args below meth c T locs cells slots) (hx : p.tables.exec = Jvm.exec) (hZ : Z.Warmed39 s.vm) (eT : T.heap = h) {a : Addr} {n : Nat} {f : Nat → Value} (F : Av Z h a .double n f) {j : Int32} {i : Nat} {x : UInt64} (hj0 : 0 ≤ j.toInt) (hj1 : j.toInt < n) (hi : j.toNatClampNeg = i) (hd : decode c.code pc = .ok (.dastore, 1))
    (k : ∀ T' h', Stand p l e R s m args below meth c T' (locs ++ [⟨a, i⟩]) cells slots → T'.heap = h' → Wr h h' a i (.double x) → Go p e below P (T'.setTop (mkF m (pc + 1) Ls st))) : Go p e below P (T.setTop (mkF m pc Ls (.double x :: .int j :: .ref a :: st))) := by
  obtain ⟨cl, A, B, C⟩ := F
  have hin := out_idx hj0 hj1
  subst hi
  obtain ⟨T', h', X', e', W, stp⟩ := stD X hx hZ eT A (x := x) (by rw [B]; exact hin) (g := mkF m pc Ls (.double x :: .int j :: .ref a :: st)) rfl rfl hd
  exact (k T' h' X' e' W).by stp
theorem g_castore (X : Stand p l e R s m args below meth c T locs cells slots) (hx : p.tables.exec = Jvm.exec) (hZ : Z.Warmed39 s.vm) (eT : T.heap = h) {a : Addr} {n : Nat} {f : Nat → Value} (F : Av Z h a .char n f) {j : Int32} {i : Nat} {x : Int32} (hj0 : 0 ≤ j.toInt) (hj1 : j.toInt < n) (hi : j.toNatClampNeg = i) (hd : decode c.code pc = .ok (.castore, 1))
    (k : ∀ T' h', Stand p l e R s m args below meth c T' (locs ++ [⟨a, i⟩]) cells slots → T'.heap = h' → Wr h h' a i (.int (nar .char x)) → Go p e below P (T'.setTop (mkF m (pc + 1) Ls st))) : Go p e below P (T.setTop (mkF m pc Ls (.int x :: .int j :: .ref a :: st))) := by
  obtain ⟨cl, A, B, C⟩ := F
  have hin := out_idx hj0 hj1
  subst hi
  obtain ⟨T', h', X', e', W, stp⟩ := stC X hx hZ eT A (x := x) (by rw [B]; exact hin) (g := mkF m pc Ls (.int x :: .int j :: .ref a :: st)) rfl rfl hd
  exact (k T' h' X' e' W).by stp
theorem g_bastoreB (X : Stand p l e R s m args below meth c T locs cells slots) (hx : p.tables.exec = Jvm.exec) (hZ : Z.Warmed39 s.vm) (eT : T.heap = h) {a : Addr} {n : Nat} {f : Nat → Value} (F : Av Z h a .byte n f) {j : Int32} {i : Nat} {x : Int32} (hj0 : 0 ≤ j.toInt) (hj1 : j.toInt < n) (hi : j.toNatClampNeg = i) (hd : decode c.code pc = .ok (.bastore, 1))
    (k : ∀ T' h', Stand p l e R s m args below meth c T' (locs ++ [⟨a, i⟩]) cells slots → T'.heap = h' → Wr h h' a i (.int (nar .byte x)) → Go p e below P (T'.setTop (mkF m (pc + 1) Ls st))) : Go p e below P (T.setTop (mkF m pc Ls (.int x :: .int j :: .ref a :: st))) := by
  obtain ⟨cl, A, B, C⟩ := F
  have hin := out_idx hj0 hj1
  subst hi
  obtain ⟨T', h', X', e', W, stp⟩ := stB X hx hZ eT A (x := x) (by rw [B]; exact hin) (g := mkF m pc Ls (.int x :: .int j :: .ref a :: st)) rfl rfl hd
  exact (k T' h' X' e' W).by stp
theorem g_bastoreZ (X : Stand p l e R s m args below meth c T locs cells slots) (hx : p.tables.exec = Jvm.exec) (hZ : Z.Warmed39 s.vm) (eT : T.heap = h) {a : Addr} {n : Nat} {f : Nat → Value} (F : Av Z h a .boolean n f) {j : Int32} {i : Nat} {x : Int32} (hj0 : 0 ≤ j.toInt) (hj1 : j.toInt < n) (hi : j.toNatClampNeg = i) (hd : decode c.code pc = .ok (.bastore, 1))
    (k : ∀ T' h', Stand p l e R s m args below meth c T' (locs ++ [⟨a, i⟩]) cells slots → T'.heap = h' → Wr h h' a i (.int (nar .boolean x)) → Go p e below P (T'.setTop (mkF m (pc + 1) Ls st))) : Go p e below P (T.setTop (mkF m pc Ls (.int x :: .int j :: .ref a :: st))) := by
  obtain ⟨cl, A, B, C⟩ := F
  have hin := out_idx hj0 hj1
  subst hi
  obtain ⟨T', h', X', e', W, stp⟩ := stZ X hx hZ eT A (x := x) (by rw [B]; exact hin) (g := mkF m pc Ls (.int x :: .int j :: .ref a :: st)) rfl rfl hd
  exact (k T' h' X' e' W).by stp
theorem g_arraylength (X : Stand p l e R s m args below meth c T locs cells slots) (hx : p.tables.exec = Jvm.exec) (hZ : Z.Warmed39 s.vm) (eT : T.heap = h) {a : Addr} {ty : FieldType} {n : Nat} {f : Nat → Value} (F : Av Z h a ty n f) {v : Int32} (hv : n.toInt32 = v) (hd : decode c.code pc = .ok (.arraylength, 1)) (q : Go p e below P (T.setTop (mkF m (pc + 1) Ls (.int v :: st)))) : Go p e below P (T.setTop (mkF m pc Ls (.ref a :: st))) := by
  obtain ⟨cl, A, B, C⟩ := F
  subst hv B
  exact q.by fun t r => X.arraylength hx (by rw [eT]; exact A.1) (State.isArrayOf_alike hZ.alike A.2.1) (g := mkF m pc Ls (.ref a :: st)) rfl rfl hd t r
theorem g_newRA (X : Stand p l e R s m args below meth c T locs cells slots) (hx : p.tables.exec = Jvm.exec) (hZ : Z.Warmed39 s.vm) (hown : s.vm.findClass own = some m.cls) {C : String} {ty : FieldType} (hC : (FieldType.array ty).toString = C) (w1 : (Cond.classLink own index C).before a0 Z = true) (w2 : (Cond.arrayOver (.array ty)).before a0 Z = true) (eT : T.heap = h) (hd : decode c.code pc = .ok (.anewarray index, 3)) {n : Int32} (hn : ¬ n < 0) {cap : Nat} (hcap : n.toNatClampNeg ≤ cap) (hb : cap * 8 ≤ 536870912) (hc : cells + 1 ≤ R.cells) (hl : slots + cap ≤ R.slots) {ad : String} (had : "[" ++ C = ad)
    (k : ∀ T' h' a cA, a = h.size → Stand p l e R s m args below meth c T' locs (cells + 1) (slots + cap) → T'.heap = h' → Ext h h' → Arr Z h' a (newA cA (.array ty) n) (.array ty) → Exa Z h' a ad → OvrA Z cA ty C → Go p e below P (T'.setTop (mkF m (pc + 3) Ls (.ref a :: st)))) : Go p e below P (T.setTop (mkF m pc Ls (.int n :: st))) := by
  obtain ⟨T', h', cA, X', e', E, A, EX, O, stp⟩ := newRA X hx hZ hown hC w1 w2 eT (g := mkF m pc Ls (.int n :: st)) rfl hd rfl hn hcap hb hc hl had
  exact (k T' h' _ cA rfl X' e' E A EX O).by stp
theorem g_newPE (X : Stand p l e R s m args below meth c T locs cells slots) (hx : p.tables.exec = Jvm.exec) (hZ : Z.Warmed39 s.vm) {aty : ArrayType} {ty : FieldType} (hty : newarray.typeOf aty = ty) (w : (Cond.arrayClass ty).before a0 Z = true) (eT : T.heap = h) (hd : decode c.code pc = .ok (.newarray aty, 2)) {n : Int32} (hn : ¬ n < 0) {cap : Nat} (hcap : n.toNatClampNeg ≤ cap) (hb : cap * 8 ≤ 536870912) (hc : cells + 1 ≤ R.cells) (hl : slots + cap ≤ R.slots) {ad : String} (had : "[" ++ ty.toString = ad)
    (k : ∀ T' h' a cA, a = h.size → Stand p l e R s m args below meth c T' locs (cells + 1) (slots + cap) → T'.heap = h' → Ext h h' → Arr Z h' a (newA cA ty n) ty → Exa Z h' a ad → Go p e below P (T'.setTop (mkF m (pc + 2) Ls (.ref a :: st)))) : Go p e below P (T.setTop (mkF m pc Ls (.int n :: st))) := by
  subst hty
  obtain ⟨T', h', cA, X', e', E, A, EX, stp⟩ := newPE X hx hZ w eT (g := mkF m pc Ls (.int n :: st)) rfl hd rfl hn hcap hb hc hl had
  exact (k T' h' _ cA rfl X' e' E A EX).by stp
theorem g_aaload (X : Stand p l e R s m args below meth c T locs cells slots) (hx : p.tables.exec = Jvm.exec) (hZ : Z.Warmed39 s.vm) (eT : T.heap = h) {a : Addr} {ty : FieldType} {n : Nat} {f : Nat → Value} (F : Av Z h a ty n f) (hty : ty.isReference = true) {j : Int32} {i : Nat} {v : Value} (hj0 : 0 ≤ j.toInt) (hj1 : j.toInt < n) (hi : j.toNatClampNeg = i) (hv : f i = v) (hd : decode c.code pc = .ok (.aaload, 1)) (q : Go p e below P (T.setTop (mkF m (pc + 1) Ls (v :: st)))) : Go p e below P (T.setTop (mkF m pc Ls (.int j :: .ref a :: st))) := by
  obtain ⟨cl, A, B, C⟩ := F
  have hin := out_idx hj0 hj1
  subst hi hv
  exact q.by fun t r => X.aaload hx (by rw [eT]; exact A.1) (State.isArrayOf_alike hZ.alike A.2.1) hty A.2.2 (by rw [B]; exact hin) (C _ (by omega)) (g := mkF m pc Ls (.int j :: .ref a :: st)) rfl rfl hd t r
theorem g_aastore (X : Stand p l e R s m args below meth c T locs cells slots) (hx : p.tables.exec = Jvm.exec) (hZ : Z.Warmed39 s.vm) (eT : T.heap = h) {a : Addr} {ty : FieldType} {n : Nat} {f : Nat → Value} (F : Av Z h a ty n f) (hty : ty.isReference = true) {v : Value} (S : Sto Z h a v) {j : Int32} {i : Nat} (hj0 : 0 ≤ j.toInt) (hj1 : j.toInt < n) (hi : j.toNatClampNeg = i) (hd : decode c.code pc = .ok (.aastore, 1))
    (k : ∀ T' h', Stand p l e R s m args below meth c T' (locs ++ [⟨a, i⟩]) cells slots → T'.heap = h' → Wr h h' a i v → Go p e below P (T'.setTop (mkF m (pc + 1) Ls st))) : Go p e below P (T.setTop (mkF m pc Ls (v :: .int j :: .ref a :: st))) := by
  obtain ⟨cl, A, B, C⟩ := F
  have hin := out_idx hj0 hj1
  subst hi
  obtain ⟨T', h', X', e', W, stp⟩ := stR X hx hZ eT A (by rw [B]; exact hin) hty S (g := mkF m pc Ls (v :: .int j :: .ref a :: st)) rfl rfl hd
  exact (k T' h' X' e' W).by stp
theorem Av.some {h' : Heap} {a b : Addr} {sl : Nat} {v : Value} {ty : FieldType} {n : Nat} {f : Nat → Value} (F : Av Z h b ty n f) (W : Wr h h' a sl v) : ∃ g, Av Z h' b ty n g := by
  by_cases q : b = a
  · subst q; exact ⟨_, F.same W⟩
  · exact ⟨_, F.other W q⟩
def RetW (s : State) (Q : Option Value → Heap → List Loc → Prop) (C N : Nat) (s₂ : State) (o : Outcome) : Prop := ∃ v L, o = .returned v ∧ Q v s₂.heap L ∧ ReturnedEndW s o s₂ L C N
theorem gW_ireturn {Q : Option Value → Heap → List Loc → Prop} {C N : Nat} {vm0 : Vm} (X : Stand p l e R (s.setVm vm0) m args below meth c T locs cells slots) (hx : p.tables.exec = Jvm.exec) {k0 : Nat} (hS : s.Since vm0 k0) (eT : T.heap = h) (hk : k0 ≤ h.size) (hlk : meth.locks = false) {w : Int32} {t : FieldType} (hret : meth.sig.returnType = some t) (hn : narrow t (.int w) = .int w) (hti : t = .int ∨ t = .boolean ∨ t = .byte ∨ t = .char ∨ t = .short) (hd : decode c.code pc = .ok (.ireturn, 1)) (hC : cells ≤ C) (hN : slots ≤ N) (hq : Q (some (.int w)) T.heap locs) : Go p e below (RetW s Q C N) (T.setTop (mkF m pc Ls [.int w])) := by
  obtain ⟨fs, hr, hrun, hended, h1, h2, h3, h4⟩ := X.leaveW hS (by rw [eT]; exact hk) (v := some (.int w)) (fun q => by rw [hret] at q; cases q) hlk
  exact ⟨_, _, X.ireturnOut hx hret hn hti hd hr, hrun, hended, _, _, rfl, hq, h1, h2, h3, h4.mono hC hN⟩
theorem g_ldcS {vm0 : Vm} (X : Stand p l e R (s.setVm vm0) m args below meth c T locs cells slots) (hx : p.tables.exec = Jvm.exec) (hZ : Z.Warmed39 (s.setVm vm0).vm) (hown : (s.setVm vm0).vm.findClass own = some m.cls) {text : String} (w : (Cond.stringLink own index text).before a0 Z = true) (wS : ∀ a ∈ Bundle.stringAtoms, a.before a0 Z = true) (eT : T.heap = h) {k0 : Nat} (hS : s.Since vm0 k0) (hk : k0 ≤ h.size) (hd : decode c.code pc = .ok (.ldc index, 2)) {n : Nat} (hn : 4 * text.toList.length ≤ n) (hbig : n ≤ 536870912) (hc : cells + 2 ≤ R.cells) (hl : slots + (n + 4) ≤ R.slots)
    (k : ∀ (a : Addr) (T' : State) (h' : Heap) (k1 : Nat), Stand p l e R (s.setVm T'.vm) m args below meth c T' locs (cells + 2) (slots + (n + 4)) → T'.heap = h' → Ext h h' → s.Since T'.vm k1 → k1 ≤ h'.size → Z.Warmed39 (s.setVm T'.vm).vm → (s.setVm T'.vm).vm.findClass own = some m.cls → Go p e below P (T'.setTop (mkF m (pc + 2) Ls (.ref a :: st)))) : Go p e below P (T.setTop (mkF m pc Ls st)) := by
  obtain ⟨a, T', h', k1, X', e', E, S', hk', hZ', hown', stp⟩ := ldcS X hx hZ hown w wS eT hS hk (g := mkF m pc Ls st) rfl hd hn hbig hc hl
  exact (k a T' h' k1 X' e' E S' hk' hZ' hown').by stp
theorem cv_g_lt (r : Option Ordering) : cmpValue r .g < 0 ↔ r = some .lt := by rcases r with _ | (_ | _ | _) <;> decide
theorem cv_g_gt (r : Option Ordering) : 0 < cmpValue r .g ↔ (r = some .gt ∨ r = none) := by rcases r with _ | (_ | _ | _) <;> decide
theorem cv_l_lt (r : Option Ordering) : cmpValue r .l < 0 ↔ (r = some .lt ∨ r = none) := by rcases r with _ | (_ | _ | _) <;> decide
theorem cv_l_gt (r : Option Ordering) : 0 < cmpValue r .l ↔ r = some .gt := by rcases r with _ | (_ | _ | _) <;> decide
theorem cv_g_eq (r : Option Ordering) : cmpValue r .g = 0 ↔ r = some .eq := by rcases r with _ | (_ | _ | _) <;> decide
theorem cv_l_eq (r : Option Ordering) : cmpValue r .l = 0 ↔ r = some .eq := by rcases r with _ | (_ | _ | _) <;> decide
end OwnKit
section OwnDy
open Jvm.FP.Core
/-- two ratios of whole numbers, written by their digits -/
theorem own_two {c D d m : Nat} {e1 e2 : Int} (h1 : c * 2 ^ e1.toNat = D * 2 ^ (-e1).toNat) (h2 : d * 2 ^ e2.toNat = m * 2 ^ (-e2).toNat) :
    c * m * 2 ^ ((e1 - e2) - 0).toNat = D * d * 2 ^ (0 - (e1 - e2)).toNat := by
  obtain ⟨t, ht⟩ : ∃ t, min (e1.toNat + (-e2).toNat) ((-e1).toNat + e2.toNat) = t := ⟨_, rfl⟩
  have p1 : ((e1 - e2) - 0).toNat + t = e1.toNat + (-e2).toNat := by omega
  have p2 : (0 - (e1 - e2)).toNat + t = (-e1).toNat + e2.toNat := by omega
  have q1 : 2 ^ ((e1 - e2) - 0).toNat * 2 ^ t = 2 ^ e1.toNat * 2 ^ (-e2).toNat := by rw [← Nat.pow_add, ← Nat.pow_add, p1]
  have q2 : 2 ^ (0 - (e1 - e2)).toNat * 2 ^ t = 2 ^ (-e1).toNat * 2 ^ e2.toNat := by rw [← Nat.pow_add, ← Nat.pow_add, p2]
  have h : (c * m * 2 ^ ((e1 - e2) - 0).toNat) * 2 ^ t = (D * d * 2 ^ (0 - (e1 - e2)).toNat) * 2 ^ t := by
    rw [Nat.mul_assoc (c * m), q1, Nat.mul_assoc (D * d), q2]
    calc c * m * (2 ^ e1.toNat * 2 ^ (-e2).toNat) = (c * 2 ^ e1.toNat) * (m * 2 ^ (-e2).toNat) := by ac_rfl
      _ = (D * 2 ^ (-e1).toNat) * (d * 2 ^ e2.toNat) := by rw [h1, h2]
      _ = D * d * (2 ^ (-e1).toNat * 2 ^ e2.toNat) := by ac_rfl
  exact Nat.eq_of_mul_eq_mul_right (Nat.two_pow_pos _) h
theorem own_quot {d m : Int64} (hd : d.toInt.natAbs ≤ 2 ^ 53) (hm : 0 < m.toInt) (hm2 : m.toInt ≤ 2 ^ 53) : val64 (ddiv (l2d d) (l2d m)) = roundRatio b64 (decide (d.toInt < 0)) d.toInt.natAbs m.toInt.natAbs 0 := by
  have w1 := l2d_int (a := d) hd
  have w2 := l2d_int (a := m) (by omega)
  obtain ⟨c, q, e1⟩ := l2d_shape d
  obtain ⟨c2, r, e2⟩ := l2d_shape m
  have s2 : decide (m.toInt < 0) = false := by simp; omega
  rw [s2] at e2
  have w1' : Whole d.toInt (.fin (decide (d.toInt < 0)) c q) := by rw [← e1]; exact w1
  have w2' : Whole m.toInt (.fin false c2 r) := by rw [← e2]; exact w2
  have n1 := whole_natAbs w1'
  have n2 := whole_natAbs w2'
  have z2 : c2 ≠ 0 := fun z => by have := (whole_zero w2').mp z; omega
  rw [val64_ddiv, e1, e2]
  show (if c2 = 0 then _ else roundRatio b64 (decide (d.toInt < 0) != false) c c2 (q - r)) = _
  rw [if_neg z2, Bool.bne_false]
  exact roundRatio_congr (by omega) (by omega) (own_two n1 n2)

def own_Dy (k : Nat) (i : Int) (a : UInt64) : Prop := DFin a ∧ zval b64 (val64 a) = i * ((2 ^ (1074 - k) : Nat) : Int)
theorem own_sgnI (n : Int) : signed (decide (n < 0)) n.natAbs = n := by
  by_cases z : n < 0
  · simp only [z, decide_true, signed, if_true]; omega
  · simp only [z, decide_false, signed]; simp; omega
theorem own_W (k : Nat) (hk : k ≤ 1000) (n : Int) (hn : n.natAbs < 2 ^ 53) : ∃ V, FP.Core.fits b64 V ∧ V ≠ .nan ∧ zval b64 V = n * ((2 ^ (1074 - k) : Nat) : Int) ∧ ∃ s c q, V = .fin s c q := by
  have qx : b64.qmax = 971 := by decide
  obtain ⟨c', q', e, h⟩ := round_exact good_b64 (decide (n < 0)) (c := n.natAbs) (q := -(k : Int)) hn (by rw [qmin_b64]; omega) (by rw [qx]; omega)
  refine ⟨round b64 (.fin (decide (n < 0)) n.natAbs (-(k : Int))), round_fits good_b64 _, (by rw [e]; intro z; cases z), ?_, _, _, _, e⟩
  rw [e]
  show signed (decide (n < 0)) (inUnits c' q' b64.qmin) = _
  have e1 : inUnits n.natAbs (-(k : Int)) b64.qmin = n.natAbs * 2 ^ (1074 - k) := by
    show n.natAbs * 2 ^ (-(k : Int) - b64.qmin).toNat = _
    rw [qmin_b64]; congr 2; omega
  rw [h, e1, signed_mul, own_sgnI]
theorem own_finV {d V : Datum} (hd : FP.Core.fits b64 d) (hn : d ≠ .nan) (hV : FP.Core.fits b64 V) (hf : ∃ s c q, V = .fin s c q) (h : zval b64 d = zval b64 V) : ∃ s c q, d = .fin s c q := by
  cases d with
  | nan => exact absurd rfl hn
  | fin s c q => exact ⟨s, c, q, rfl⟩
  | inf s =>
    exfalso
    obtain ⟨s', c, q, rfl⟩ := hf
    have k := zmag_lt_top good_b64 hV
    have a1 : (zval b64 (.inf s)).natAbs = zmag b64 (.inf s) := natAbs_signed _ _
    have a2 : (zval b64 (.fin s' c q)).natAbs = inUnits c q b64.qmin := natAbs_signed _ _
    have a3 : zmag b64 (.inf s) = b64.tails * 2 ^ (b64.exps - 2) := rfl
    rw [h, a2, a3] at a1
    omega
theorem own_4 {i A j B C D : Int} (h : A * B = C * D) : i * A * (j * B) = i * j * C * D := by
  rw [Int.mul_assoc (i * j), ← h]; ac_rfl
theorem own_pw2 {k : Nat} (hk : k ≤ 1074) : 2 ^ (1074 - k) * 2 ^ k = 2 ^ 1074 := by
  rw [← Nat.pow_add]; congr 1; omega
theorem own_pw3 {k l : Nat} (hk : k + l ≤ 1000) : ((2 ^ (1074 - k) : Nat) : Int) * ((2 ^ (1074 - l) : Nat) : Int) = ((2 ^ (1074 - (k + l)) : Nat) : Int) * ((2 ^ 1074 : Nat) : Int) := by
  rw [← Int.natCast_mul, ← Int.natCast_mul, ← Nat.pow_add, ← Nat.pow_add]; congr 2; omega
theorem own_nat {x : Int} {P : Nat} (h : 0 ≤ x) : x * (P : Int) = ((x.natAbs * P : Nat) : Int) := by
  rw [Int.natCast_mul]; congr 1; omega
theorem own_Dy_of {k : Nat} {i : Int} {a : UInt64} {V : Datum} (hn : val64 a ≠ .nan) (hV : FP.Core.fits b64 V) (hf : ∃ s c q, V = .fin s c q) (hz : zval b64 V = i * ((2 ^ (1074 - k) : Nat) : Int)) (h : zval b64 (val64 a) = zval b64 V) : own_Dy k i a :=
  ⟨own_finV (val64_fits a) hn hV hf h, h.trans hz⟩
theorem own_dadd {k : Nat} {i j : Int} {a b : UInt64} (hk : k ≤ 1000) (ha : own_Dy k i a) (hb : own_Dy k j b) (h : (i + j).natAbs < 2 ^ 53) : own_Dy k (i + j) (dadd a b) := by
  obtain ⟨V, v1, v2, v3, v4⟩ := own_W k hk (i + j) h
  have e : zval b64 (val64 a) + zval b64 (val64 b) = zval b64 V := by rw [ha.2, hb.2, v3, Int.add_mul]
  have l := sum_le good_b64 ha.1 hb.1 (val64_fits a) (val64_fits b) v1 v2 (Int.le_of_eq e)
  have g := sum_ge good_b64 ha.1 hb.1 (val64_fits a) (val64_fits b) v1 v2 (Int.le_of_eq e.symm)
  rw [← val64_dadd] at l g
  exact own_Dy_of ((notNaN_iff _).mp (dadd_out (DFin.notNaN ha.1) hb.1)) v1 v4 v3 (Int.le_antisymm l g)
theorem own_dmul {k l : Nat} {i j : Int} {a b : UInt64} (hk : k + l ≤ 1000) (ha : own_Dy k i a) (hb : own_Dy l j b) (h : (i * j).natAbs < 2 ^ 53) : own_Dy (k + l) (i * j) (dmul a b) := by
  obtain ⟨V, v1, v2, v3, v4⟩ := own_W (k + l) hk (i * j) h
  obtain ⟨s, c, q, ea⟩ := ha.1
  obtain ⟨t, d, r, eb⟩ := hb.1
  have fa := val64_fits a
  have fb := val64_fits b
  rw [ea] at fa
  rw [eb] at fb
  obtain ⟨p1, p2, p3⟩ := product_units fa fb
  have za := ha.2
  have zb := hb.2
  rw [ea] at za
  rw [eb] at zb
  have hq : (b64.qmin - 2 * b64.qmin).toNat = 1074 := by rw [qmin_b64]; decide
  have e : signed (s != t) (inUnits (c * d) (q + r) (2 * b64.qmin)) = zval b64 V * ((2 ^ (b64.qmin - 2 * b64.qmin).toNat : Nat) : Int) := by
    rw [p3, signed_xor, v3, hq]
    have za' : signed s (zmag b64 (.fin s c q)) = i * ((2 ^ (1074 - k) : Nat) : Int) := za
    have zb' : signed t (zmag b64 (.fin t d r)) = j * ((2 ^ (1074 - l) : Nat) : Int) := zb
    rw [za', zb']
    exact own_4 (own_pw3 hk)
  have h0 : 2 * b64.qmin ≤ b64.qmin := by rw [qmin_b64]; decide
  have l1 := zval_round_le good_b64 v1 v2 h0 p2 (Int.le_of_eq e)
  have g1 := zval_round_ge good_b64 v1 v2 h0 p2 (Int.le_of_eq e.symm)
  have ev : val64 (dmul a b) = round b64 (.fin (s != t) (c * d) (q + r)) := by rw [val64_dmul, ea, eb, p1]
  rw [← ev] at l1 g1
  exact own_Dy_of ((notNaN_iff _).mp (dmul_out ha.1 hb.1)) v1 v4 v3 (Int.le_antisymm l1 g1)
theorem own_lift {k : Nat} {i : Int} {a : UInt64} (t : Nat) (hk : k + t ≤ 1000) (h : own_Dy k i a) : own_Dy (k + t) (i * ((2 ^ t : Nat) : Int)) a := by
  refine ⟨h.1, ?_⟩
  rw [h.2, Int.mul_assoc, ← Int.natCast_mul, ← Nat.pow_add]
  congr 3; omega
theorem own_dyI {v : Int64} (h : v.toInt.natAbs ≤ 2 ^ 53) : own_Dy 0 v.toInt (l2d v) := ⟨l2d_fin v, DInt_zval (l2d_int h)⟩
theorem own_dyEq {k : Nat} {i : Int} {a b : UInt64} (ha : own_Dy k i a) (hb : own_Dy k i b) : FP.dcmp a b = some .eq := dcmp_eq.mpr ⟨DFin.ne_nan ha.1, DFin.ne_nan hb.1, by rw [ha.2, hb.2]⟩
theorem own_dyF {k : Nat} {i : Int} {a : UInt64} (h : own_Dy k i a) : Jvm.Free.Fl.Fin64 a := Jvm.Free.Fl.fin64_core.mpr h.1
theorem own_dyPos {k : Nat} {i : Int} {a : UInt64} (hi : 0 < i) (h : own_Dy k i a) : FP.dcmp a 0 = some .gt := by
  refine dcmp_gt.mpr ⟨DFin.ne_nan h.1, by rw [ne_nan]; decide, ?_⟩
  rw [zval64_zero, h.2]
  exact Int.mul_pos hi (Int.ofNat_lt.mpr (Nat.two_pow_pos _))
theorem own_dyC {k : Nat} {i : Int} {a b : UInt64} (e : a = b) (h : own_Dy k i a) : own_Dy k i b := e ▸ h
theorem own_dyJ {k : Nat} {i j : Int} {a : UInt64} (e : i = j) (h : own_Dy k i a) : own_Dy k j a := e ▸ h
/-- a whole number over a power of two -/
theorem own_dyQ {d m : Int64} {k : Nat} (hk : k ≤ 60) (hd : 0 ≤ d.toInt ∧ d.toInt < 2 ^ 53) (hm : m.toInt = ((2 ^ k : Nat) : Int)) (hm2 : m.toInt ≤ 2 ^ 53) : own_Dy k d.toInt (ddiv (l2d d) (l2d m)) := by
  have hp : 0 < m.toInt := by rw [hm]; exact Int.ofNat_lt.mpr (Nat.two_pow_pos _)
  have e := own_quot (d := d) (m := m) (by omega) hp hm2
  have sd : decide (d.toInt < 0) = false := by simp; omega
  rw [sd] at e
  obtain ⟨V, v1, v2, v3, v4⟩ := own_W k (by omega) d.toInt (by omega)
  have zV : zmag b64 V = d.toInt.natAbs * 2 ^ (1074 - k) := by
    have a : (zval b64 V).natAbs = zmag b64 V := natAbs_signed _ _
    rw [← a, v3, Int.natAbs_mul]; rfl
  have e0 : 2 ^ (b64.qmin - b64.qmin).toNat = 1 := by decide
  have hN : inUnits d.toInt.natAbs 0 b64.qmin = zmag b64 V * 2 ^ (b64.qmin - b64.qmin).toNat * m.toInt.natAbs := by
    have a : inUnits d.toInt.natAbs 0 b64.qmin = d.toInt.natAbs * 2 ^ 1074 := rfl
    have b : m.toInt.natAbs = 2 ^ k := by rw [hm]; rfl
    rw [a, e0, zV, b, Nat.mul_one, Nat.mul_assoc, own_pw2 (by omega)]
  have g1 := zmag_roundRatio_le (s := false) good_b64 (A := d.toInt.natAbs) (B := m.toInt.natAbs) (e := 0) (e0 := b64.qmin) (by omega) v1 v2 (Int.le_refl _) (by decide) (Nat.le_of_eq hN)
  have g2 := zmag_roundRatio_ge (s := false) good_b64 (A := d.toInt.natAbs) (B := m.toInt.natAbs) (e := 0) (e0 := b64.qmin) (by omega) v1 (Int.le_refl _) (by decide) (Nat.le_of_eq hN.symm)
  refine own_Dy_of (V := V) (by rw [e]; exact roundRatio_ne_nan _ _ _ _ _) v1 v4 v3 ?_
  rw [e]
  have z1 : zval b64 (roundRatio b64 false d.toInt.natAbs m.toInt.natAbs 0) = (zmag b64 (roundRatio b64 false d.toInt.natAbs m.toInt.natAbs 0) : Int) := by
    show signed (FP.Core.sgn _) _ = _
    rw [sgn_roundRatio]; rfl
  have z2 : zval b64 V = (zmag b64 V : Int) := by
    rw [v3, zV]; exact own_nat hd.1
  rw [z1, z2, Nat.le_antisymm g1 g2]
end OwnDy

section OwnCan
open Jvm.FP.Core
theorem own_half : own_Dy 1 1 4602678819172646912 := by
  have e : FP.Core.ddiv (FP.Core.l2d 1) (FP.Core.l2d 2) = 4602678819172646912 := by decide +kernel
  exact own_dyC e (own_dyQ (d := 1) (m := 2) (by decide) (by decide) (by decide) (by decide))
theorem own_dy32 (v : Int32) : own_Dy 0 v.toInt (FP.i2d v) := by
  have k := own_dyI (v := v.toInt64) (by rw [c_i2l]; have := rng32 v; omega)
  rw [c_i2l] at k
  exact own_dyC (i2d_w v).symm k
theorem own_dyK : own_Dy 54 5490788665690109 4599162408583596029 := by
  have k := own_dmul (k := 53) (l := 1) (by decide) (own_dyQ (d := 5490788665690109) (m := 9007199254740992) (k := 53) (by decide) (by decide) (by decide) (by decide)) own_half (by decide)
  exact own_dyC (by decide +kernel) (own_dyJ (by decide) k)
theorem own_pw4 {u t : Nat} (h : t ≤ u) (hu : u ≤ 1000) : ((2 ^ (1074 - t) : Nat) : Int) = ((2 ^ (u - t) : Nat) : Int) * ((2 ^ (1074 - u) : Nat) : Int) := by
  rw [← Int.natCast_mul, ← Nat.pow_add]; congr 2; omega
theorem own_leM {x y P Q : Int} (h : x ≤ y) (hP : 0 ≤ P) (hQ : 0 ≤ Q) : x * P * Q ≤ y * P * Q := Int.mul_le_mul_of_nonneg_right (Int.mul_le_mul_of_nonneg_right h hP) hQ
theorem own_mul_le {k l t : Nat} {i j n : Int} {a b : UInt64} (hk : k + l ≤ 1000) (ht : t ≤ k + l) (ha : own_Dy k i a) (hb : own_Dy l j b) (hn : n.natAbs < 2 ^ 53) (h : i * j ≤ n * ((2 ^ (k + l - t) : Nat) : Int)) : zval b64 (val64 (dmul a b)) ≤ n * ((2 ^ (1074 - t) : Nat) : Int) := by
  obtain ⟨V, v1, v2, v3, v4⟩ := own_W t (by omega) n hn
  obtain ⟨s, c, q, ea⟩ := ha.1
  obtain ⟨t', d, r, eb⟩ := hb.1
  have fa := val64_fits a
  have fb := val64_fits b
  rw [ea] at fa
  rw [eb] at fb
  obtain ⟨p1, p2, p3⟩ := product_units fa fb
  have za := ha.2
  have zb := hb.2
  rw [ea] at za
  rw [eb] at zb
  have hq : (b64.qmin - 2 * b64.qmin).toNat = 1074 := by rw [qmin_b64]; decide
  have e : signed (s != t') (inUnits (c * d) (q + r) (2 * b64.qmin)) ≤ zval b64 V * ((2 ^ (b64.qmin - 2 * b64.qmin).toNat : Nat) : Int) := by
    rw [p3, signed_xor, v3, hq]
    have za' : signed s (zmag b64 (.fin s c q)) = i * ((2 ^ (1074 - k) : Nat) : Int) := za
    have zb' : signed t' (zmag b64 (.fin t' d r)) = j * ((2 ^ (1074 - l) : Nat) : Int) := zb
    rw [za', zb', own_4 (own_pw3 hk), own_pw4 ht hk, ← Int.mul_assoc]
    exact own_leM h (Int.natCast_nonneg _) (Int.natCast_nonneg _)
  have h0 : 2 * b64.qmin ≤ b64.qmin := by rw [qmin_b64]; decide
  have l1 := zval_round_le good_b64 v1 v2 h0 p2 e
  have ev : val64 (dmul a b) = round b64 (.fin (s != t') (c * d) (q + r)) := by rw [val64_dmul, ea, eb, p1]
  rw [← ev, v3] at l1
  exact l1
theorem own_mul_ge {k l t : Nat} {i j n : Int} {a b : UInt64} (hk : k + l ≤ 1000) (ht : t ≤ k + l) (ha : own_Dy k i a) (hb : own_Dy l j b) (hn : n.natAbs < 2 ^ 53) (h : n * ((2 ^ (k + l - t) : Nat) : Int) ≤ i * j) : n * ((2 ^ (1074 - t) : Nat) : Int) ≤ zval b64 (val64 (dmul a b)) := by
  obtain ⟨V, v1, v2, v3, v4⟩ := own_W t (by omega) n hn
  obtain ⟨s, c, q, ea⟩ := ha.1
  obtain ⟨t', d, r, eb⟩ := hb.1
  have fa := val64_fits a
  have fb := val64_fits b
  rw [ea] at fa
  rw [eb] at fb
  obtain ⟨p1, p2, p3⟩ := product_units fa fb
  have za := ha.2
  have zb := hb.2
  rw [ea] at za
  rw [eb] at zb
  have hq : (b64.qmin - 2 * b64.qmin).toNat = 1074 := by rw [qmin_b64]; decide
  have e : zval b64 V * ((2 ^ (b64.qmin - 2 * b64.qmin).toNat : Nat) : Int) ≤ signed (s != t') (inUnits (c * d) (q + r) (2 * b64.qmin)) := by
    rw [p3, signed_xor, v3, hq]
    have za' : signed s (zmag b64 (.fin s c q)) = i * ((2 ^ (1074 - k) : Nat) : Int) := za
    have zb' : signed t' (zmag b64 (.fin t' d r)) = j * ((2 ^ (1074 - l) : Nat) : Int) := zb
    rw [za', zb', own_4 (own_pw3 hk), own_pw4 ht hk, ← Int.mul_assoc]
    exact own_leM h (Int.natCast_nonneg _) (Int.natCast_nonneg _)
  have h0 : 2 * b64.qmin ≤ b64.qmin := by rw [qmin_b64]; decide
  have l1 := zval_round_ge good_b64 v1 v2 h0 p2 e
  have ev : val64 (dmul a b) = round b64 (.fin (s != t') (c * d) (q + r)) := by rw [val64_dmul, ea, eb, p1]
  rw [← ev, v3] at l1
  exact l1
def own_can (fl : Int32) (ce : UInt64) : Int32 := if fl < 0 then 0 else if FP.dcmp (FP.dmul (FP.i2d (fl * 100)) 4599162408583596029) ce = some .gt ∨ FP.dcmp (FP.dmul (FP.i2d (fl * 100)) 4599162408583596029) ce = none then 0 else 1
theorem own_100 {fl : Int32} (hf : 0 ≤ fl.toInt ∧ fl.toInt < 16777216) : (fl * 100).toInt = 100 * fl.toInt := by
  have a := c_imul fl 100
  have z : (100 : Int32).toInt = 100 := rfl
  rw [z] at a
  have r := rng32 (fl * 100)
  omega
theorem own_prod {fl : Int32} (hf : 0 ≤ fl.toInt ∧ fl.toInt < 16777216) : own_Dy 0 (100 * fl.toInt) (FP.i2d (fl * 100)) := own_dyJ (own_100 hf) (own_dy32 _)
theorem own_prodN (fl : Int32) : val64 (dmul (FP.i2d (fl * 100)) 4599162408583596029) ≠ .nan := (notNaN_iff _).mp (dmul_out (own_dy32 _).1 own_dyK.1)
theorem own_nlt {fl : Int32} (hf : 0 ≤ fl.toInt ∧ fl.toInt < 16777216) : ¬ fl < 0 := fun q => by
  have z : (0 : Int32).toInt = 0 := rfl
  have := Int32.lt_iff_toInt_lt.mp q
  omega
theorem own_ac {n a b c : Int} (h : a = b * c) : n * a = b * n * c := by rw [h, ← Int.mul_assoc, Int.mul_comm n b]
theorem own_sc (n : Int) : n * ((2 ^ (1074 - 1) : Nat) : Int) = (64 * n) * ((2 ^ (1074 - 7) : Nat) : Int) := by
  refine own_ac ?_
  rw [show (64 : Int) = ((2 ^ 6 : Nat) : Int) from rfl, ← Int.natCast_mul, ← Nat.pow_add]
theorem own_n1 (c f : Int) (h : 100 * c + 50 < 3048 * f) (h0 : 0 ≤ f ∧ f < 16777216) : (64 * (2 * c + 1) + 1) * ((2 ^ (0 + 54 - 7) : Nat) : Int) ≤ 100 * f * 5490788665690109 := by
  show _ * (140737488355328 : Int) ≤ _
  omega
theorem own_n2 (c f : Int) (h : ¬ 100 * c + 50 < 3048 * f) (h0 : 0 ≤ f ∧ f < 16777216) : 100 * f * 5490788665690109 ≤ (64 * (2 * c + 1)) * ((2 ^ (0 + 54 - 7) : Nat) : Int) := by
  show _ ≤ _ * (140737488355328 : Int)
  omega
theorem own_pos (k : Nat) : (0 : Int) < ((2 ^ k : Nat) : Int) := Int.ofNat_lt.mpr (Nat.two_pow_pos _)
theorem own_lt1 {n P : Int} (hP : 0 < P) : n * P < (n + 1) * P := by rw [Int.add_mul]; omega
theorem own_canP {fl c : Int32} {d ce : UInt64} (hf : 0 ≤ fl.toInt ∧ fl.toInt < 16777216) (hd : FP.i2d c = d) (hce : FP.dadd d 4602678819172646912 = ce) : own_can fl ce = if 100 * c.toInt + 50 < 3048 * fl.toInt then 0 else 1 := by
  have rc := rng32 c
  have kc : own_Dy 1 (2 * c.toInt + 1) ce := by
    have k := own_lift (k := 0) 1 (by decide) (own_dy32 c)
    have k2 : own_Dy 1 (2 * c.toInt) (FP.i2d c) := own_dyJ (by show c.toInt * 2 = _; omega) k
    exact own_dyC (by rw [← hce, ← hd]) (own_dadd (by decide) k2 own_half (by omega))
  unfold own_can
  rw [if_neg (own_nlt hf)]
  by_cases z : 100 * c.toInt + 50 < 3048 * fl.toInt
  · rw [if_pos z]
    refine if_pos (Or.inl ?_)
    refine dcmp_gt.mpr ⟨own_prodN fl, DFin.ne_nan kc.1, ?_⟩
    have g := own_mul_ge (k := 0) (l := 54) (t := 7) (by decide) (by decide) (own_prod hf) own_dyK (by omega) (own_n1 _ _ z hf)
    rw [kc.2, own_sc]
    exact Int.lt_of_lt_of_le (own_lt1 (own_pos _)) g
  · rw [if_neg z]
    refine if_neg ?_
    have g := own_mul_le (k := 0) (l := 54) (t := 7) (by decide) (by decide) (own_prod hf) own_dyK (by omega) (own_n2 _ _ z hf)
    rintro (q | q)
    · have := (dcmp_gt.mp q).2.2
      rw [kc.2, own_sc] at this
      exact absurd g (Int.not_le.mpr this)
    · rcases (dcmp_none _ _).mp q with q | q
      · exact own_prodN fl q
      · exact DFin.ne_nan kc.1 q
theorem own_canZ {fl : Int32} (hf : fl < 0 ∨ 0 ≤ fl.toInt ∧ fl.toInt < 16777216) : own_can fl 0 = if fl = 0 then 1 else 0 := by
  by_cases z : fl = 0
  · subst z; decide +kernel
  · rw [if_neg z]
    rcases hf with hf | hf
    · unfold own_can; rw [if_pos hf]
    · have h1 : 1 ≤ fl.toInt := by
        rcases Int.lt_or_le 0 fl.toInt with q | q
        · omega
        · exact absurd (Int32.toInt_inj.mp (show fl.toInt = (0 : Int32).toInt from by show fl.toInt = 0; omega)) z
      unfold own_can
      rw [if_neg (own_nlt hf)]
      refine if_pos (Or.inl ?_)
      refine dcmp_gt.mpr ⟨own_prodN fl, by rw [ne_nan]; decide, ?_⟩
      have g := own_mul_ge (k := 0) (l := 54) (t := 0) (n := 1) (by decide) (by decide) (own_prod hf) own_dyK (by decide) (by show 1 * (18014398509481984 : Int) ≤ _; omega)
      rw [zval64_zero]
      refine Int.lt_of_lt_of_le ?_ g
      rw [Int.one_mul]; exact own_pos _
theorem own_cmpL {fl c : Int32} {f64 fa c64 cb cd : Int64} (hf : 0 ≤ fl.toInt ∧ fl.toInt < 16777216) (h1 : fl.toInt64 = f64) (h2 : 3048 * f64 = fa) (h3 : c.toInt64 = c64) (h4 : 100 * c64 = cb) (h5 : cb + 50 = cd) : cd < fa ↔ 100 * c.toInt + 50 < 3048 * fl.toInt := by
  have rc := rng32 c
  have e1 : f64.toInt = fl.toInt := by rw [← h1]; exact c_i2l fl
  have e3 : c64.toInt = c.toInt := by rw [← h3]; exact c_i2l c
  have z1 : (3048 : Int64).toInt = 3048 := rfl
  have z2 : (100 : Int64).toInt = 100 := rfl
  have z3 : (50 : Int64).toInt = 50 := rfl
  have e2 : fa.toInt = 3048 * fl.toInt := by rw [← h2, int64_mul (by rw [z1, e1]; omega) (by rw [z1, e1]; omega), z1, e1]
  have e4 : cb.toInt = 100 * c.toInt := by rw [← h4, int64_mul (by rw [z2, e3]; omega) (by rw [z2, e3]; omega), z2, e3]
  have e5 : cd.toInt = 100 * c.toInt + 50 := by rw [← h5, int64_add (by rw [z3, e4]; omega) (by rw [z3, e4]; omega), z3, e4]
  rw [Int64.lt_iff_toInt_lt, e5, e2]
theorem own_noNaNP (fl : Int32) : Jvm.Free.Fl.NoNaN64 (FP.dmul (FP.i2d (fl * 100)) 4599162408583596029) := by
  exact Jvm.Free.Fl.noNaN64_no.mpr (dmul_out (own_dy32 _).1 own_dyK.1)
end OwnCan
theorem dr_0 : decode jdk_30_method_1_code 0 = .ok (.aload_n 0, 1) := by decide +kernel
theorem dr_1 : decode jdk_30_method_1_code 1 = .ok (.invokespecial 1, 3) := by decide +kernel
theorem dr_4 : decode jdk_30_method_1_code 4 = .ok (.return_, 1) := by decide +kernel
theorem pnr : plainName "java/lang/Record" = true := by first | (simp [plainName, overriddenIn]; done) | decide +kernel
theorem efr (m : MethodId) (z0 : Addr) : entryFrame m #[(.ref z0)] 1 = mkF m 0 #[.val (.ref z0)] [] := by first | (simp [entryFrame, mkF, argsToLocals, Value.category]; done) | rfl
def Qr (Z : State) (q1 : Addr) (h0 : Heap) (n0 : Nat) (v : Option Value) (h : Heap) (L : List Loc) : Prop := v = none ∧ Fr n0 L ∧ h = h0
set_option maxRecDepth 65536 in
set_option maxHeartbeats 40000000 in
theorem rmr (l : Launch) (Z : State) (a0 : Array Value) (hw : ∀ d ∈ tables_1, d.before a0 Z = true) (ws : List Jvm.Cond) (q1 : Addr) (h0 : Heap) (n0 : Nat) (Z0 : n0 ≤ h0.size)  :
    MetFree l (⟨"java/lang/Record", "<init>", "()V"⟩ : MethodName) (head1 (Jvm.Cond.code (⟨"java/lang/Record", "<init>", "()V"⟩ : MethodName) jdk_30_method_1_code 1 (Option.none : Option Jvm.ClassFile.FieldType) :: ws) ({ frames := 1, cells := 0, slots := 0, locals := 12 } : Room)) (fun a U => a = #[(.ref q1)] ∧ Z.Warmed39 U.vm ∧ U.heap = h0) (fun _ _ _ _ _ => True) (fun _ U o U' => ∃ v L, o = .returned v ∧ Qr Z q1 h0 n0 v U'.heap L ∧ FrameEnd U o U' L ({ frames := 1, cells := 0, slots := 0, locals := 12 } : Room).cells ({ frames := 1, cells := 0, slots := 0, locals := 12 } : Room).slots) := by
  refine MetFree.of_bodySF (plainFor_of_name pnr) hisR ?_
  intro p e s m args below meth c s₁ Bd hml0 hP hK
  obtain ⟨rfl, hZ, hh⟩ := hP
  have hx := Bd.exec
  have hby := Bd.bytes
  have hml : c.maxLocals = 1 := hml0
  have hown : s.vm.findClass "java/lang/Record" = some m.cls := findClass_of_methodNamed Bd.named
  have hnm := (name_of_methodNamed Bd.named Bd.method).1
  have X0 : Stand p l e ({ frames := 1, cells := 0, slots := 0, locals := 12 } : Room) s m #[(.ref q1)] below meth c s₁ [] 0 0 := Stand.of_body Bd
  have e0 : s₁.heap = h0 := by rw [← hh, Bd.state]; rfl
  have N0 := Fr.nil n0
  show Go p e below (Ret s (Qr Z q1 h0 n0) ({ frames := 1, cells := 0, slots := 0, locals := 12 } : Room).cells ({ frames := 1, cells := 0, slots := 0, locals := 12 } : Room).slots) (s₁.setTop (entryFrame m #[(.ref q1)] 1))
  rw [efr m q1]
  refine g_aloadN X0 hx (hb hby dr_0) rfl rfl ?_
  refine g_objInit X0 hx hZ hown (hw _ (List.mem_of_getElem? (i := 25) rfl)) (hw _ (List.mem_of_getElem? (i := 26) rfl)) (hw _ (List.mem_of_getElem? (i := 27) rfl)) e0 (by rw [hml]; rfl) (hb hby dr_1) (by decide) (W := 0) (Nat.le_of_eq rfl) (by decide) ?_
  intro T1 X2 e3
  refine g_return X2 hx Bd.notSynchronized Bd.returns (hb hby dr_4) (by decide) (by decide) ?_
  exact ⟨rfl, N0, e3⟩
theorem di_0 : decode prog_21_method_1_code 0 = .ok (.aload_n 0, 1) := by decide +kernel
theorem di_1 : decode prog_21_method_1_code 1 = .ok (.invokespecial 1, 3) := by decide +kernel
theorem di_4 : decode prog_21_method_1_code 4 = .ok (.dload_n 3, 1) := by decide +kernel
theorem di_5 : decode prog_21_method_1_code 5 = .ok (.dconst 0, 1) := by decide +kernel
theorem di_6 : decode prog_21_method_1_code 6 = .ok (.dcmp .l, 1) := by decide +kernel
theorem di_7 : decode prog_21_method_1_code 7 = .ok (.ifCond .gt 17, 3) := by decide +kernel
theorem di_24 : decode prog_21_method_1_code 24 = .ok (.iload 13, 2) := by decide +kernel
theorem di_26 : decode prog_21_method_1_code 26 = .ok (.iconst 1, 1) := by decide +kernel
theorem di_27 : decode prog_21_method_1_code 27 = .ok (.if_icmp .ge 18, 3) := by decide +kernel
theorem di_45 : decode prog_21_method_1_code 45 = .ok (.dload 14, 2) := by decide +kernel
theorem di_47 : decode prog_21_method_1_code 47 = .ok (.dconst 0, 1) := by decide +kernel
theorem di_48 : decode prog_21_method_1_code 48 = .ok (.dcmp .l, 1) := by decide +kernel
theorem di_49 : decode prog_21_method_1_code 49 = .ok (.ifCond .gt 18, 3) := by decide +kernel
theorem di_67 : decode prog_21_method_1_code 67 = .ok (.dload 9, 2) := by decide +kernel
theorem di_69 : decode prog_21_method_1_code 69 = .ok (.dconst 0, 1) := by decide +kernel
theorem di_70 : decode prog_21_method_1_code 70 = .ok (.dcmp .l, 1) := by decide +kernel
theorem di_71 : decode prog_21_method_1_code 71 = .ok (.ifCond .lt 12, 3) := by decide +kernel
theorem di_74 : decode prog_21_method_1_code 74 = .ok (.dload 9, 2) := by decide +kernel
theorem di_76 : decode prog_21_method_1_code 76 = .ok (.ldc2_w 20, 3) := by decide +kernel
theorem di_79 : decode prog_21_method_1_code 79 = .ok (.dcmp .g, 1) := by decide +kernel
theorem di_80 : decode prog_21_method_1_code 80 = .ok (.ifCond .lt 18, 3) := by decide +kernel
theorem di_98 : decode prog_21_method_1_code 98 = .ok (.aload_n 0, 1) := by decide +kernel
theorem di_99 : decode prog_21_method_1_code 99 = .ok (.aload_n 1, 1) := by decide +kernel
theorem di_100 : decode prog_21_method_1_code 100 = .ok (.putfield 23, 3) := by decide +kernel
theorem di_103 : decode prog_21_method_1_code 103 = .ok (.aload_n 0, 1) := by decide +kernel
theorem di_104 : decode prog_21_method_1_code 104 = .ok (.aload_n 2, 1) := by decide +kernel
theorem di_105 : decode prog_21_method_1_code 105 = .ok (.putfield 29, 3) := by decide +kernel
theorem di_108 : decode prog_21_method_1_code 108 = .ok (.aload_n 0, 1) := by decide +kernel
theorem di_109 : decode prog_21_method_1_code 109 = .ok (.dload_n 3, 1) := by decide +kernel
theorem di_110 : decode prog_21_method_1_code 110 = .ok (.putfield 32, 3) := by decide +kernel
theorem di_113 : decode prog_21_method_1_code 113 = .ok (.aload_n 0, 1) := by decide +kernel
theorem di_114 : decode prog_21_method_1_code 114 = .ok (.dload 5, 2) := by decide +kernel
theorem di_116 : decode prog_21_method_1_code 116 = .ok (.putfield 36, 3) := by decide +kernel
theorem di_119 : decode prog_21_method_1_code 119 = .ok (.aload_n 0, 1) := by decide +kernel
theorem di_120 : decode prog_21_method_1_code 120 = .ok (.dload 7, 2) := by decide +kernel
theorem di_122 : decode prog_21_method_1_code 122 = .ok (.putfield 39, 3) := by decide +kernel
theorem di_125 : decode prog_21_method_1_code 125 = .ok (.aload_n 0, 1) := by decide +kernel
theorem di_126 : decode prog_21_method_1_code 126 = .ok (.dload 9, 2) := by decide +kernel
theorem di_128 : decode prog_21_method_1_code 128 = .ok (.putfield 42, 3) := by decide +kernel
theorem di_131 : decode prog_21_method_1_code 131 = .ok (.aload_n 0, 1) := by decide +kernel
theorem di_132 : decode prog_21_method_1_code 132 = .ok (.dload 11, 2) := by decide +kernel
theorem di_134 : decode prog_21_method_1_code 134 = .ok (.putfield 45, 3) := by decide +kernel
theorem di_137 : decode prog_21_method_1_code 137 = .ok (.aload_n 0, 1) := by decide +kernel
theorem di_138 : decode prog_21_method_1_code 138 = .ok (.iload 13, 2) := by decide +kernel
theorem di_140 : decode prog_21_method_1_code 140 = .ok (.putfield 48, 3) := by decide +kernel
theorem di_143 : decode prog_21_method_1_code 143 = .ok (.aload_n 0, 1) := by decide +kernel
theorem di_144 : decode prog_21_method_1_code 144 = .ok (.dload 14, 2) := by decide +kernel
theorem di_146 : decode prog_21_method_1_code 146 = .ok (.putfield 52, 3) := by decide +kernel
theorem di_149 : decode prog_21_method_1_code 149 = .ok (.aload_n 0, 1) := by decide +kernel
theorem di_150 : decode prog_21_method_1_code 150 = .ok (.dload 16, 2) := by decide +kernel
theorem di_152 : decode prog_21_method_1_code 152 = .ok (.putfield 55, 3) := by decide +kernel
theorem di_155 : decode prog_21_method_1_code 155 = .ok (.aload_n 0, 1) := by decide +kernel
theorem di_156 : decode prog_21_method_1_code 156 = .ok (.dload 18, 2) := by decide +kernel
theorem di_158 : decode prog_21_method_1_code 158 = .ok (.putfield 58, 3) := by decide +kernel
theorem di_161 : decode prog_21_method_1_code 161 = .ok (.aload_n 0, 1) := by decide +kernel
theorem di_162 : decode prog_21_method_1_code 162 = .ok (.dload 20, 2) := by decide +kernel
theorem di_164 : decode prog_21_method_1_code 164 = .ok (.putfield 61, 3) := by decide +kernel
theorem di_167 : decode prog_21_method_1_code 167 = .ok (.aload_n 0, 1) := by decide +kernel
theorem di_168 : decode prog_21_method_1_code 168 = .ok (.dload 22, 2) := by decide +kernel
theorem di_170 : decode prog_21_method_1_code 170 = .ok (.putfield 64, 3) := by decide +kernel
theorem di_173 : decode prog_21_method_1_code 173 = .ok (.aload_n 0, 1) := by decide +kernel
theorem di_174 : decode prog_21_method_1_code 174 = .ok (.dload 24, 2) := by decide +kernel
theorem di_176 : decode prog_21_method_1_code 176 = .ok (.putfield 67, 3) := by decide +kernel
theorem di_179 : decode prog_21_method_1_code 179 = .ok (.aload_n 0, 1) := by decide +kernel
theorem di_180 : decode prog_21_method_1_code 180 = .ok (.dload 26, 2) := by decide +kernel
theorem di_182 : decode prog_21_method_1_code 182 = .ok (.putfield 70, 3) := by decide +kernel
theorem di_185 : decode prog_21_method_1_code 185 = .ok (.aload_n 0, 1) := by decide +kernel
theorem di_186 : decode prog_21_method_1_code 186 = .ok (.dload 28, 2) := by decide +kernel
theorem di_188 : decode prog_21_method_1_code 188 = .ok (.putfield 73, 3) := by decide +kernel
theorem di_191 : decode prog_21_method_1_code 191 = .ok (.aload_n 0, 1) := by decide +kernel
theorem di_192 : decode prog_21_method_1_code 192 = .ok (.dload 30, 2) := by decide +kernel
theorem di_194 : decode prog_21_method_1_code 194 = .ok (.putfield 76, 3) := by decide +kernel
theorem di_197 : decode prog_21_method_1_code 197 = .ok (.aload_n 0, 1) := by decide +kernel
theorem di_198 : decode prog_21_method_1_code 198 = .ok (.dload 32, 2) := by decide +kernel
theorem di_200 : decode prog_21_method_1_code 200 = .ok (.putfield 79, 3) := by decide +kernel
theorem di_203 : decode prog_21_method_1_code 203 = .ok (.return_, 1) := by decide +kernel
theorem pni : plainName "com/example/skywright/skywright/performance/Aircraft" = true := by first | (simp [plainName, overriddenIn]; done) | decide +kernel
theorem pdi_0 : parseMethodDescriptor "()V" = some ⟨[], none⟩ := by decide +kernel
theorem efi (m : MethodId) (z0 : Addr) (z1 : Addr) (z2 : Addr) (z3 : UInt64) (z4 : UInt64) (z5 : UInt64) (z6 : UInt64) (z7 : UInt64) (z8 : Int32) (z9 : UInt64) (z10 : UInt64) (z11 : UInt64) (z12 : UInt64) (z13 : UInt64) (z14 : UInt64) (z15 : UInt64) (z16 : UInt64) (z17 : UInt64) (z18 : UInt64) : entryFrame m #[(.ref z0), (.ref z1), (.ref z2), (.double z3), (.double z4), (.double z5), (.double z6), (.double z7), (.int z8), (.double z9), (.double z10), (.double z11), (.double z12), (.double z13), (.double z14), (.double z15), (.double z16), (.double z17), (.double z18)] 34 = mkF m 0 #[.val (.ref z0), .val (.ref z1), .val (.ref z2), .val (.double z3), .second, .val (.double z4), .second, .val (.double z5), .second, .val (.double z6), .second, .val (.double z7), .second, .val (.int z8), .val (.double z9), .second, .val (.double z10), .second, .val (.double z11), .second, .val (.double z12), .second, .val (.double z13), .second, .val (.double z14), .second, .val (.double z15), .second, .val (.double z16), .second, .val (.double z17), .second, .val (.double z18), .second] [] := by first | (simp [entryFrame, mkF, argsToLocals, Value.category]; done) | rfl
def Qi (Z : State) (q1 : Addr) (q2 : Addr) (q3 : Addr) (q4 : UInt64) (h0 : Heap) (n0 : Nat) (v : Option Value) (h : Heap) (L : List Loc) : Prop := v = none ∧ Fr n0 L ∧ Keep h0 h [q1] ∧ Exa Z h q1 "com/example/skywright/skywright/performance/Aircraft" ∧ Fld Z h q1 "com/example/skywright/skywright/performance/Aircraft" "ceiling" "D" (.double q4)
set_option maxRecDepth 65536 in
set_option maxHeartbeats 40000000 in
theorem rmi (l : Launch) (Z : State) (a0 : Array Value) (hw : ∀ d ∈ tables_1, d.before a0 Z = true) (ws : List Jvm.Cond) (q1 : Addr) (q2 : Addr) (q3 : Addr) (q4 : UInt64) (h0 : Heap) (n0 : Nat) (Z0 : n0 ≤ h0.size) (E0 : Exa Z h0 q1 "com/example/skywright/skywright/performance/Aircraft") (F0 : Fld Z h0 q1 "com/example/skywright/skywright/performance/Aircraft" "ceiling" "D" (.double 0)) (g1 : n0 ≤ q1) :
    MetFree l (⟨"com/example/skywright/skywright/performance/Aircraft", "<init>", "(Ljava/lang/String;Ljava/lang/String;DDDDDIDDDDDDDDDD)V"⟩ : MethodName) (head1 (Jvm.Cond.code (⟨"com/example/skywright/skywright/performance/Aircraft", "<init>", "(Ljava/lang/String;Ljava/lang/String;DDDDDIDDDDDDDDDD)V"⟩ : MethodName) prog_21_method_1_code 34 (Option.none : Option Jvm.ClassFile.FieldType) :: ws) ({ frames := 2, cells := 0, slots := 0, locals := 24 } : Room)) (fun a U => a = #[(.ref q1), (.ref q2), (.ref q3), (.double (4607182418800017408 : UInt64)), (.double (0 : UInt64)), (.double (0 : UInt64)), (.double (0 : UInt64)), (.double (0 : UInt64)), (.int (1 : Int32)), (.double (4607182418800017408 : UInt64)), (.double (0 : UInt64)), (.double (0 : UInt64)), (.double (0 : UInt64)), (.double (0 : UInt64)), (.double (0 : UInt64)), (.double (0 : UInt64)), (.double (0 : UInt64)), (.double (0 : UInt64)), (.double q4)] ∧ Z.Warmed39 U.vm ∧ U.heap = h0) (fun _ _ _ _ _ => True) (fun _ U o U' => ∃ v L, o = .returned v ∧ Qi Z q1 q2 q3 q4 h0 n0 v U'.heap L ∧ FrameEnd U o U' L ({ frames := 2, cells := 0, slots := 0, locals := 24 } : Room).cells ({ frames := 2, cells := 0, slots := 0, locals := 24 } : Room).slots) := by
  refine MetFree.of_bodySF (plainFor_of_name pni) hisR ?_
  intro p e s m args below meth c s₁ Bd hml0 hP hK
  obtain ⟨rfl, hZ, hh⟩ := hP
  have hx := Bd.exec
  have hby := Bd.bytes
  have hml : c.maxLocals = 34 := hml0
  have hown : s.vm.findClass "com/example/skywright/skywright/performance/Aircraft" = some m.cls := findClass_of_methodNamed Bd.named
  have hnm := (name_of_methodNamed Bd.named Bd.method).1
  have X0 : Stand p l e ({ frames := 2, cells := 0, slots := 0, locals := 24 } : Room) s m #[(.ref q1), (.ref q2), (.ref q3), (.double (4607182418800017408 : UInt64)), (.double (0 : UInt64)), (.double (0 : UInt64)), (.double (0 : UInt64)), (.double (0 : UInt64)), (.int (1 : Int32)), (.double (4607182418800017408 : UInt64)), (.double (0 : UInt64)), (.double (0 : UInt64)), (.double (0 : UInt64)), (.double (0 : UInt64)), (.double (0 : UInt64)), (.double (0 : UInt64)), (.double (0 : UInt64)), (.double (0 : UInt64)), (.double q4)] below meth c s₁ [] 0 0 := Stand.of_body Bd
  have e0 : s₁.heap = h0 := by rw [← hh, Bd.state]; rfl
  have N0 := Fr.nil n0
  show Go p e below (Ret s (Qi Z q1 q2 q3 q4 h0 n0) ({ frames := 2, cells := 0, slots := 0, locals := 24 } : Room).cells ({ frames := 2, cells := 0, slots := 0, locals := 24 } : Room).slots) (s₁.setTop (entryFrame m #[(.ref q1), (.ref q2), (.ref q3), (.double (4607182418800017408 : UInt64)), (.double (0 : UInt64)), (.double (0 : UInt64)), (.double (0 : UInt64)), (.double (0 : UInt64)), (.int (1 : Int32)), (.double (4607182418800017408 : UInt64)), (.double (0 : UInt64)), (.double (0 : UInt64)), (.double (0 : UInt64)), (.double (0 : UInt64)), (.double (0 : UInt64)), (.double (0 : UInt64)), (.double (0 : UInt64)), (.double (0 : UInt64)), (.double q4)] 34))
  rw [efi m q1 q2 q3 (4607182418800017408 : UInt64) (0 : UInt64) (0 : UInt64) (0 : UInt64) (0 : UInt64) (1 : Int32) (4607182418800017408 : UInt64) (0 : UInt64) (0 : UInt64) (0 : UInt64) (0 : UInt64) (0 : UInt64) (0 : UInt64) (0 : UInt64) (0 : UInt64) q4]
  have K0 : Keep h0 h0 [q1] := Keep.refl _ _
  refine g_aloadN X0 hx (hb hby di_0) rfl rfl ?_
  refine g_init X0 hx hZ hown rfl (hw _ (List.mem_of_getElem? (i := 20) rfl)) (hw _ (List.mem_of_getElem? (i := 21) rfl)) (hw _ (List.mem_of_getElem? (i := 23) rfl)) (hw _ (List.mem_of_getElem? (i := 24) rfl)) (by decide) (rmr l Z a0 hw [] q1 h0 n0 Z0) e0 (W := 0) (by decide) (by decide) (by rw [hml]; rfl) q1 [] [] (lenOf pdi_0 rfl) rfl rfl (Nat.le_of_eq rfl) (hb hby di_1) (by decide) (by decide) ?_
  intro v5 T1 L4 X2 hQ3
  obtain ⟨rfl, N6, e7⟩ := hQ3
  have N8 := Fr.app N0 N6
  show Go p e below (Ret s (Qi Z q1 q2 q3 q4 h0 n0) ({ frames := 2, cells := 0, slots := 0, locals := 24 } : Room).cells ({ frames := 2, cells := 0, slots := 0, locals := 24 } : Room).slots) (T1.setTop (mkF m 4 #[.val (.ref q1), .val (.ref q2), .val (.ref q3), .val (.double (4607182418800017408 : UInt64)), .second, .val (.double (0 : UInt64)), .second, .val (.double (0 : UInt64)), .second, .val (.double (0 : UInt64)), .second, .val (.double (0 : UInt64)), .second, .val (.int (1 : Int32)), .val (.double (4607182418800017408 : UInt64)), .second, .val (.double (0 : UInt64)), .second, .val (.double (0 : UInt64)), .second, .val (.double (0 : UInt64)), .second, .val (.double (0 : UInt64)), .second, .val (.double (0 : UInt64)), .second, .val (.double (0 : UInt64)), .second, .val (.double (0 : UInt64)), .second, .val (.double (0 : UInt64)), .second, .val (.double q4), .second] []))
  refine g_dloadN X2 hx (hb hby di_4) rfl ?_
  refine g_dconst0 X2 hx (hb hby di_5) ?_
  refine g_dcmp X2 hx (hb hby di_6) ?_
  have hc7_9 : FP.dcmp (4607182418800017408 : UInt64) (0 : UInt64) = some .gt := (by decide +kernel)
  refine g_ifYes X2 hx (hb hby di_7) (tlt ((cv_l_gt _).mpr hc7_9)).2.2.1 (by decide) (pc' := 24) (by decide) ?_
  refine g_iload X2 hx (hb hby di_24) rfl ?_
  refine g_iconst X2 hx (hb hby di_26) (v := (1 : Int32)) (by decide) ?_
  have hc27_10 : ¬ ((1 : Int32) < (1 : Int32)) := (by decide)
  refine g_icmpYes X2 hx (hb hby di_27) (flt hc27_10).2.1 (by decide) (pc' := 45) (by decide) ?_
  refine g_dload X2 hx (hb hby di_45) rfl ?_
  refine g_dconst0 X2 hx (hb hby di_47) ?_
  refine g_dcmp X2 hx (hb hby di_48) ?_
  have hc49_11 : FP.dcmp (4607182418800017408 : UInt64) (0 : UInt64) = some .gt := (by decide +kernel)
  refine g_ifYes X2 hx (hb hby di_49) (tlt ((cv_l_gt _).mpr hc49_11)).2.2.1 (by decide) (pc' := 67) (by decide) ?_
  refine g_dload X2 hx (hb hby di_67) rfl ?_
  refine g_dconst0 X2 hx (hb hby di_69) ?_
  refine g_dcmp X2 hx (hb hby di_70) ?_
  have hc71_12 : ¬ (FP.dcmp (0 : UInt64) (0 : UInt64) = some .lt ∨ FP.dcmp (0 : UInt64) (0 : UInt64) = none) := (by decide +kernel)
  refine g_ifNo X2 hx (hb hby di_71) (flt (fun q => hc71_12 ((cv_l_lt _).mp q))).1 ?_
  refine g_dload X2 hx (hb hby di_74) rfl ?_
  refine g_ldc2D X2 hx hZ hown (hw _ (List.mem_of_getElem? (i := 28) rfl)) (hb hby di_76) ?_
  refine g_dcmp X2 hx (hb hby di_79) ?_
  have hc80_13 : FP.dcmp (0 : UInt64) (4636033603912859648 : UInt64) = some .lt := (by decide +kernel)
  refine g_ifYes X2 hx (hb hby di_80) (tlt ((cv_g_lt _).mpr hc80_13)).1 (by decide) (pc' := 98) (by decide) ?_
  refine g_aloadN X2 hx (hb hby di_98) rfl rfl ?_
  refine g_aloadN X2 hx (hb hby di_99) rfl rfl ?_
  obtain ⟨o15, F14⟩ := fld_any E0 F0 (hw _ (List.mem_of_getElem? (i := 6) rfl)) (Or.inr (hw _ (List.mem_of_getElem? (i := 30) rfl)))
  refine g_putF X2 hx hZ hown (hw _ (List.mem_of_getElem? (i := 29) rfl)) e7 F14 E0 (Or.inr ⟨(hw _ (List.mem_of_getElem? (i := 30) rfl)), rfl, hnm⟩) (hw _ (List.mem_of_getElem? (i := 6) rfl)) (ty := (.object "java/lang/String")) (by decide) rfl rfl (hb hby di_100) ?_
  intro T17 h20 X18 e19 W21
  have F23 := E0.wr W21
  have F24 := F0.other W21 (Or.inr (slot_ne (Or.inr (hw _ (List.mem_of_getElem? (i := 64) rfl))) (Or.inr (hw _ (List.mem_of_getElem? (i := 30) rfl))) (by decide) (t := .double) (t' := (.object "java/lang/String")) (by decide) (by decide)))
  have F25 := F14.same W21
  have Z26 : n0 ≤ h20.size := by rw [W21.size]; exact Z0
  have K27 := Keep.wr K0 W21 (Or.inl (List.mem_singleton.mpr rfl))
  have N28 := Fr.snoc X18 N8 g1
  refine g_aloadN X18 hx (hb hby di_103) rfl rfl ?_
  refine g_aloadN X18 hx (hb hby di_104) rfl rfl ?_
  obtain ⟨o30, F29⟩ := fld_any F23 F24 (hw _ (List.mem_of_getElem? (i := 6) rfl)) (Or.inr (hw _ (List.mem_of_getElem? (i := 32) rfl)))
  refine g_putF X18 hx hZ hown (hw _ (List.mem_of_getElem? (i := 31) rfl)) e19 F29 F23 (Or.inr ⟨(hw _ (List.mem_of_getElem? (i := 32) rfl)), rfl, hnm⟩) (hw _ (List.mem_of_getElem? (i := 6) rfl)) (ty := (.object "java/lang/String")) (by decide) rfl rfl (hb hby di_105) ?_
  intro T32 h35 X33 e34 W36
  have F38 := F23.wr W36
  have F39 := F24.other W36 (Or.inr (slot_ne (Or.inr (hw _ (List.mem_of_getElem? (i := 64) rfl))) (Or.inr (hw _ (List.mem_of_getElem? (i := 32) rfl))) (by decide) (t := .double) (t' := (.object "java/lang/String")) (by decide) (by decide)))
  have F40 := F29.same W36
  have Z41 : n0 ≤ h35.size := by rw [W36.size]; exact Z26
  have K42 := Keep.wr K27 W36 (Or.inl (List.mem_singleton.mpr rfl))
  have N43 := Fr.snoc X33 N28 g1
  refine g_aloadN X33 hx (hb hby di_108) rfl rfl ?_
  refine g_dloadN X33 hx (hb hby di_109) rfl ?_
  obtain ⟨o45, F44⟩ := fld_any F38 F39 (hw _ (List.mem_of_getElem? (i := 6) rfl)) (Or.inr (hw _ (List.mem_of_getElem? (i := 34) rfl)))
  refine g_putF X33 hx hZ hown (hw _ (List.mem_of_getElem? (i := 33) rfl)) e34 F44 F38 (Or.inr ⟨(hw _ (List.mem_of_getElem? (i := 34) rfl)), rfl, hnm⟩) (hw _ (List.mem_of_getElem? (i := 6) rfl)) (ty := .double) (by decide) rfl rfl (hb hby di_110) ?_
  intro T47 h50 X48 e49 W51
  have F53 := F38.wr W51
  have F54 := F39.other W51 (Or.inr (slot_ne (Or.inr (hw _ (List.mem_of_getElem? (i := 64) rfl))) (Or.inr (hw _ (List.mem_of_getElem? (i := 34) rfl))) (by decide) (t := .double) (t' := .double) (by decide) (by decide)))
  have F55 := F44.same W51
  have Z56 : n0 ≤ h50.size := by rw [W51.size]; exact Z41
  have K57 := Keep.wr K42 W51 (Or.inl (List.mem_singleton.mpr rfl))
  have N58 := Fr.snoc X48 N43 g1
  refine g_aloadN X48 hx (hb hby di_113) rfl rfl ?_
  refine g_dload X48 hx (hb hby di_114) rfl ?_
  obtain ⟨o60, F59⟩ := fld_any F53 F54 (hw _ (List.mem_of_getElem? (i := 6) rfl)) (Or.inr (hw _ (List.mem_of_getElem? (i := 36) rfl)))
  refine g_putF X48 hx hZ hown (hw _ (List.mem_of_getElem? (i := 35) rfl)) e49 F59 F53 (Or.inr ⟨(hw _ (List.mem_of_getElem? (i := 36) rfl)), rfl, hnm⟩) (hw _ (List.mem_of_getElem? (i := 6) rfl)) (ty := .double) (by decide) rfl rfl (hb hby di_116) ?_
  intro T62 h65 X63 e64 W66
  have F68 := F53.wr W66
  have F69 := F54.other W66 (Or.inr (slot_ne (Or.inr (hw _ (List.mem_of_getElem? (i := 64) rfl))) (Or.inr (hw _ (List.mem_of_getElem? (i := 36) rfl))) (by decide) (t := .double) (t' := .double) (by decide) (by decide)))
  have F70 := F59.same W66
  have Z71 : n0 ≤ h65.size := by rw [W66.size]; exact Z56
  have K72 := Keep.wr K57 W66 (Or.inl (List.mem_singleton.mpr rfl))
  have N73 := Fr.snoc X63 N58 g1
  refine g_aloadN X63 hx (hb hby di_119) rfl rfl ?_
  refine g_dload X63 hx (hb hby di_120) rfl ?_
  obtain ⟨o75, F74⟩ := fld_any F68 F69 (hw _ (List.mem_of_getElem? (i := 6) rfl)) (Or.inr (hw _ (List.mem_of_getElem? (i := 38) rfl)))
  refine g_putF X63 hx hZ hown (hw _ (List.mem_of_getElem? (i := 37) rfl)) e64 F74 F68 (Or.inr ⟨(hw _ (List.mem_of_getElem? (i := 38) rfl)), rfl, hnm⟩) (hw _ (List.mem_of_getElem? (i := 6) rfl)) (ty := .double) (by decide) rfl rfl (hb hby di_122) ?_
  intro T77 h80 X78 e79 W81
  have F83 := F68.wr W81
  have F84 := F69.other W81 (Or.inr (slot_ne (Or.inr (hw _ (List.mem_of_getElem? (i := 64) rfl))) (Or.inr (hw _ (List.mem_of_getElem? (i := 38) rfl))) (by decide) (t := .double) (t' := .double) (by decide) (by decide)))
  have F85 := F74.same W81
  have Z86 : n0 ≤ h80.size := by rw [W81.size]; exact Z71
  have K87 := Keep.wr K72 W81 (Or.inl (List.mem_singleton.mpr rfl))
  have N88 := Fr.snoc X78 N73 g1
  refine g_aloadN X78 hx (hb hby di_125) rfl rfl ?_
  refine g_dload X78 hx (hb hby di_126) rfl ?_
  obtain ⟨o90, F89⟩ := fld_any F83 F84 (hw _ (List.mem_of_getElem? (i := 6) rfl)) (Or.inr (hw _ (List.mem_of_getElem? (i := 40) rfl)))
  refine g_putF X78 hx hZ hown (hw _ (List.mem_of_getElem? (i := 39) rfl)) e79 F89 F83 (Or.inr ⟨(hw _ (List.mem_of_getElem? (i := 40) rfl)), rfl, hnm⟩) (hw _ (List.mem_of_getElem? (i := 6) rfl)) (ty := .double) (by decide) rfl rfl (hb hby di_128) ?_
  intro T92 h95 X93 e94 W96
  have F98 := F83.wr W96
  have F99 := F84.other W96 (Or.inr (slot_ne (Or.inr (hw _ (List.mem_of_getElem? (i := 64) rfl))) (Or.inr (hw _ (List.mem_of_getElem? (i := 40) rfl))) (by decide) (t := .double) (t' := .double) (by decide) (by decide)))
  have F100 := F89.same W96
  have Z101 : n0 ≤ h95.size := by rw [W96.size]; exact Z86
  have K102 := Keep.wr K87 W96 (Or.inl (List.mem_singleton.mpr rfl))
  have N103 := Fr.snoc X93 N88 g1
  refine g_aloadN X93 hx (hb hby di_131) rfl rfl ?_
  refine g_dload X93 hx (hb hby di_132) rfl ?_
  obtain ⟨o105, F104⟩ := fld_any F98 F99 (hw _ (List.mem_of_getElem? (i := 6) rfl)) (Or.inr (hw _ (List.mem_of_getElem? (i := 42) rfl)))
  refine g_putF X93 hx hZ hown (hw _ (List.mem_of_getElem? (i := 41) rfl)) e94 F104 F98 (Or.inr ⟨(hw _ (List.mem_of_getElem? (i := 42) rfl)), rfl, hnm⟩) (hw _ (List.mem_of_getElem? (i := 6) rfl)) (ty := .double) (by decide) rfl rfl (hb hby di_134) ?_
  intro T107 h110 X108 e109 W111
  have F113 := F98.wr W111
  have F114 := F99.other W111 (Or.inr (slot_ne (Or.inr (hw _ (List.mem_of_getElem? (i := 64) rfl))) (Or.inr (hw _ (List.mem_of_getElem? (i := 42) rfl))) (by decide) (t := .double) (t' := .double) (by decide) (by decide)))
  have F115 := F104.same W111
  have Z116 : n0 ≤ h110.size := by rw [W111.size]; exact Z101
  have K117 := Keep.wr K102 W111 (Or.inl (List.mem_singleton.mpr rfl))
  have N118 := Fr.snoc X108 N103 g1
  refine g_aloadN X108 hx (hb hby di_137) rfl rfl ?_
  refine g_iload X108 hx (hb hby di_138) rfl ?_
  obtain ⟨o120, F119⟩ := fld_any F113 F114 (hw _ (List.mem_of_getElem? (i := 6) rfl)) (Or.inr (hw _ (List.mem_of_getElem? (i := 44) rfl)))
  refine g_putF X108 hx hZ hown (hw _ (List.mem_of_getElem? (i := 43) rfl)) e109 F119 F113 (Or.inr ⟨(hw _ (List.mem_of_getElem? (i := 44) rfl)), rfl, hnm⟩) (hw _ (List.mem_of_getElem? (i := 6) rfl)) (ty := .int) (by decide) rfl rfl (hb hby di_140) ?_
  intro T122 h125 X123 e124 W126
  have F128 := F113.wr W126
  have F129 := F114.other W126 (Or.inr (slot_ne (Or.inr (hw _ (List.mem_of_getElem? (i := 64) rfl))) (Or.inr (hw _ (List.mem_of_getElem? (i := 44) rfl))) (by decide) (t := .double) (t' := .int) (by decide) (by decide)))
  have F130 := F119.same W126
  have Z131 : n0 ≤ h125.size := by rw [W126.size]; exact Z116
  have K132 := Keep.wr K117 W126 (Or.inl (List.mem_singleton.mpr rfl))
  have N133 := Fr.snoc X123 N118 g1
  refine g_aloadN X123 hx (hb hby di_143) rfl rfl ?_
  refine g_dload X123 hx (hb hby di_144) rfl ?_
  obtain ⟨o135, F134⟩ := fld_any F128 F129 (hw _ (List.mem_of_getElem? (i := 6) rfl)) (Or.inr (hw _ (List.mem_of_getElem? (i := 46) rfl)))
  refine g_putF X123 hx hZ hown (hw _ (List.mem_of_getElem? (i := 45) rfl)) e124 F134 F128 (Or.inr ⟨(hw _ (List.mem_of_getElem? (i := 46) rfl)), rfl, hnm⟩) (hw _ (List.mem_of_getElem? (i := 6) rfl)) (ty := .double) (by decide) rfl rfl (hb hby di_146) ?_
  intro T137 h140 X138 e139 W141
  have F143 := F128.wr W141
  have F144 := F129.other W141 (Or.inr (slot_ne (Or.inr (hw _ (List.mem_of_getElem? (i := 64) rfl))) (Or.inr (hw _ (List.mem_of_getElem? (i := 46) rfl))) (by decide) (t := .double) (t' := .double) (by decide) (by decide)))
  have F145 := F134.same W141
  have Z146 : n0 ≤ h140.size := by rw [W141.size]; exact Z131
  have K147 := Keep.wr K132 W141 (Or.inl (List.mem_singleton.mpr rfl))
  have N148 := Fr.snoc X138 N133 g1
  refine g_aloadN X138 hx (hb hby di_149) rfl rfl ?_
  refine g_dload X138 hx (hb hby di_150) rfl ?_
  obtain ⟨o150, F149⟩ := fld_any F143 F144 (hw _ (List.mem_of_getElem? (i := 6) rfl)) (Or.inr (hw _ (List.mem_of_getElem? (i := 48) rfl)))
  refine g_putF X138 hx hZ hown (hw _ (List.mem_of_getElem? (i := 47) rfl)) e139 F149 F143 (Or.inr ⟨(hw _ (List.mem_of_getElem? (i := 48) rfl)), rfl, hnm⟩) (hw _ (List.mem_of_getElem? (i := 6) rfl)) (ty := .double) (by decide) rfl rfl (hb hby di_152) ?_
  intro T152 h155 X153 e154 W156
  have F158 := F143.wr W156
  have F159 := F144.other W156 (Or.inr (slot_ne (Or.inr (hw _ (List.mem_of_getElem? (i := 64) rfl))) (Or.inr (hw _ (List.mem_of_getElem? (i := 48) rfl))) (by decide) (t := .double) (t' := .double) (by decide) (by decide)))
  have F160 := F149.same W156
  have Z161 : n0 ≤ h155.size := by rw [W156.size]; exact Z146
  have K162 := Keep.wr K147 W156 (Or.inl (List.mem_singleton.mpr rfl))
  have N163 := Fr.snoc X153 N148 g1
  refine g_aloadN X153 hx (hb hby di_155) rfl rfl ?_
  refine g_dload X153 hx (hb hby di_156) rfl ?_
  obtain ⟨o165, F164⟩ := fld_any F158 F159 (hw _ (List.mem_of_getElem? (i := 6) rfl)) (Or.inr (hw _ (List.mem_of_getElem? (i := 50) rfl)))
  refine g_putF X153 hx hZ hown (hw _ (List.mem_of_getElem? (i := 49) rfl)) e154 F164 F158 (Or.inr ⟨(hw _ (List.mem_of_getElem? (i := 50) rfl)), rfl, hnm⟩) (hw _ (List.mem_of_getElem? (i := 6) rfl)) (ty := .double) (by decide) rfl rfl (hb hby di_158) ?_
  intro T167 h170 X168 e169 W171
  have F173 := F158.wr W171
  have F174 := F159.other W171 (Or.inr (slot_ne (Or.inr (hw _ (List.mem_of_getElem? (i := 64) rfl))) (Or.inr (hw _ (List.mem_of_getElem? (i := 50) rfl))) (by decide) (t := .double) (t' := .double) (by decide) (by decide)))
  have F175 := F164.same W171
  have Z176 : n0 ≤ h170.size := by rw [W171.size]; exact Z161
  have K177 := Keep.wr K162 W171 (Or.inl (List.mem_singleton.mpr rfl))
  have N178 := Fr.snoc X168 N163 g1
  refine g_aloadN X168 hx (hb hby di_161) rfl rfl ?_
  refine g_dload X168 hx (hb hby di_162) rfl ?_
  obtain ⟨o180, F179⟩ := fld_any F173 F174 (hw _ (List.mem_of_getElem? (i := 6) rfl)) (Or.inr (hw _ (List.mem_of_getElem? (i := 52) rfl)))
  refine g_putF X168 hx hZ hown (hw _ (List.mem_of_getElem? (i := 51) rfl)) e169 F179 F173 (Or.inr ⟨(hw _ (List.mem_of_getElem? (i := 52) rfl)), rfl, hnm⟩) (hw _ (List.mem_of_getElem? (i := 6) rfl)) (ty := .double) (by decide) rfl rfl (hb hby di_164) ?_
  intro T182 h185 X183 e184 W186
  have F188 := F173.wr W186
  have F189 := F174.other W186 (Or.inr (slot_ne (Or.inr (hw _ (List.mem_of_getElem? (i := 64) rfl))) (Or.inr (hw _ (List.mem_of_getElem? (i := 52) rfl))) (by decide) (t := .double) (t' := .double) (by decide) (by decide)))
  have F190 := F179.same W186
  have Z191 : n0 ≤ h185.size := by rw [W186.size]; exact Z176
  have K192 := Keep.wr K177 W186 (Or.inl (List.mem_singleton.mpr rfl))
  have N193 := Fr.snoc X183 N178 g1
  refine g_aloadN X183 hx (hb hby di_167) rfl rfl ?_
  refine g_dload X183 hx (hb hby di_168) rfl ?_
  obtain ⟨o195, F194⟩ := fld_any F188 F189 (hw _ (List.mem_of_getElem? (i := 6) rfl)) (Or.inr (hw _ (List.mem_of_getElem? (i := 54) rfl)))
  refine g_putF X183 hx hZ hown (hw _ (List.mem_of_getElem? (i := 53) rfl)) e184 F194 F188 (Or.inr ⟨(hw _ (List.mem_of_getElem? (i := 54) rfl)), rfl, hnm⟩) (hw _ (List.mem_of_getElem? (i := 6) rfl)) (ty := .double) (by decide) rfl rfl (hb hby di_170) ?_
  intro T197 h200 X198 e199 W201
  have F203 := F188.wr W201
  have F204 := F189.other W201 (Or.inr (slot_ne (Or.inr (hw _ (List.mem_of_getElem? (i := 64) rfl))) (Or.inr (hw _ (List.mem_of_getElem? (i := 54) rfl))) (by decide) (t := .double) (t' := .double) (by decide) (by decide)))
  have F205 := F194.same W201
  have Z206 : n0 ≤ h200.size := by rw [W201.size]; exact Z191
  have K207 := Keep.wr K192 W201 (Or.inl (List.mem_singleton.mpr rfl))
  have N208 := Fr.snoc X198 N193 g1
  refine g_aloadN X198 hx (hb hby di_173) rfl rfl ?_
  refine g_dload X198 hx (hb hby di_174) rfl ?_
  obtain ⟨o210, F209⟩ := fld_any F203 F204 (hw _ (List.mem_of_getElem? (i := 6) rfl)) (Or.inr (hw _ (List.mem_of_getElem? (i := 56) rfl)))
  refine g_putF X198 hx hZ hown (hw _ (List.mem_of_getElem? (i := 55) rfl)) e199 F209 F203 (Or.inr ⟨(hw _ (List.mem_of_getElem? (i := 56) rfl)), rfl, hnm⟩) (hw _ (List.mem_of_getElem? (i := 6) rfl)) (ty := .double) (by decide) rfl rfl (hb hby di_176) ?_
  intro T212 h215 X213 e214 W216
  have F218 := F203.wr W216
  have F219 := F204.other W216 (Or.inr (slot_ne (Or.inr (hw _ (List.mem_of_getElem? (i := 64) rfl))) (Or.inr (hw _ (List.mem_of_getElem? (i := 56) rfl))) (by decide) (t := .double) (t' := .double) (by decide) (by decide)))
  have F220 := F209.same W216
  have Z221 : n0 ≤ h215.size := by rw [W216.size]; exact Z206
  have K222 := Keep.wr K207 W216 (Or.inl (List.mem_singleton.mpr rfl))
  have N223 := Fr.snoc X213 N208 g1
  refine g_aloadN X213 hx (hb hby di_179) rfl rfl ?_
  refine g_dload X213 hx (hb hby di_180) rfl ?_
  obtain ⟨o225, F224⟩ := fld_any F218 F219 (hw _ (List.mem_of_getElem? (i := 6) rfl)) (Or.inr (hw _ (List.mem_of_getElem? (i := 58) rfl)))
  refine g_putF X213 hx hZ hown (hw _ (List.mem_of_getElem? (i := 57) rfl)) e214 F224 F218 (Or.inr ⟨(hw _ (List.mem_of_getElem? (i := 58) rfl)), rfl, hnm⟩) (hw _ (List.mem_of_getElem? (i := 6) rfl)) (ty := .double) (by decide) rfl rfl (hb hby di_182) ?_
  intro T227 h230 X228 e229 W231
  have F233 := F218.wr W231
  have F234 := F219.other W231 (Or.inr (slot_ne (Or.inr (hw _ (List.mem_of_getElem? (i := 64) rfl))) (Or.inr (hw _ (List.mem_of_getElem? (i := 58) rfl))) (by decide) (t := .double) (t' := .double) (by decide) (by decide)))
  have F235 := F224.same W231
  have Z236 : n0 ≤ h230.size := by rw [W231.size]; exact Z221
  have K237 := Keep.wr K222 W231 (Or.inl (List.mem_singleton.mpr rfl))
  have N238 := Fr.snoc X228 N223 g1
  refine g_aloadN X228 hx (hb hby di_185) rfl rfl ?_
  refine g_dload X228 hx (hb hby di_186) rfl ?_
  obtain ⟨o240, F239⟩ := fld_any F233 F234 (hw _ (List.mem_of_getElem? (i := 6) rfl)) (Or.inr (hw _ (List.mem_of_getElem? (i := 60) rfl)))
  refine g_putF X228 hx hZ hown (hw _ (List.mem_of_getElem? (i := 59) rfl)) e229 F239 F233 (Or.inr ⟨(hw _ (List.mem_of_getElem? (i := 60) rfl)), rfl, hnm⟩) (hw _ (List.mem_of_getElem? (i := 6) rfl)) (ty := .double) (by decide) rfl rfl (hb hby di_188) ?_
  intro T242 h245 X243 e244 W246
  have F248 := F233.wr W246
  have F249 := F234.other W246 (Or.inr (slot_ne (Or.inr (hw _ (List.mem_of_getElem? (i := 64) rfl))) (Or.inr (hw _ (List.mem_of_getElem? (i := 60) rfl))) (by decide) (t := .double) (t' := .double) (by decide) (by decide)))
  have F250 := F239.same W246
  have Z251 : n0 ≤ h245.size := by rw [W246.size]; exact Z236
  have K252 := Keep.wr K237 W246 (Or.inl (List.mem_singleton.mpr rfl))
  have N253 := Fr.snoc X243 N238 g1
  refine g_aloadN X243 hx (hb hby di_191) rfl rfl ?_
  refine g_dload X243 hx (hb hby di_192) rfl ?_
  obtain ⟨o255, F254⟩ := fld_any F248 F249 (hw _ (List.mem_of_getElem? (i := 6) rfl)) (Or.inr (hw _ (List.mem_of_getElem? (i := 62) rfl)))
  refine g_putF X243 hx hZ hown (hw _ (List.mem_of_getElem? (i := 61) rfl)) e244 F254 F248 (Or.inr ⟨(hw _ (List.mem_of_getElem? (i := 62) rfl)), rfl, hnm⟩) (hw _ (List.mem_of_getElem? (i := 6) rfl)) (ty := .double) (by decide) rfl rfl (hb hby di_194) ?_
  intro T257 h260 X258 e259 W261
  have F263 := F248.wr W261
  have F264 := F249.other W261 (Or.inr (slot_ne (Or.inr (hw _ (List.mem_of_getElem? (i := 64) rfl))) (Or.inr (hw _ (List.mem_of_getElem? (i := 62) rfl))) (by decide) (t := .double) (t' := .double) (by decide) (by decide)))
  have F265 := F254.same W261
  have Z266 : n0 ≤ h260.size := by rw [W261.size]; exact Z251
  have K267 := Keep.wr K252 W261 (Or.inl (List.mem_singleton.mpr rfl))
  have N268 := Fr.snoc X258 N253 g1
  refine g_aloadN X258 hx (hb hby di_197) rfl rfl ?_
  refine g_dload X258 hx (hb hby di_198) rfl ?_
  refine g_putF X258 hx hZ hown (hw _ (List.mem_of_getElem? (i := 63) rfl)) e259 F264 F263 (Or.inr ⟨(hw _ (List.mem_of_getElem? (i := 64) rfl)), rfl, hnm⟩) (hw _ (List.mem_of_getElem? (i := 6) rfl)) (ty := .double) (by decide) rfl rfl (hb hby di_200) ?_
  intro T269 h272 X270 e271 W273
  have F275 := F263.wr W273
  have F276 := F264.same W273
  have Z277 : n0 ≤ h272.size := by rw [W273.size]; exact Z266
  have K278 := Keep.wr K267 W273 (Or.inl (List.mem_singleton.mpr rfl))
  have N279 := Fr.snoc X270 N268 g1
  refine g_return X270 hx Bd.notSynchronized Bd.returns (hb hby di_203) (by decide) (by decide) ?_
  rw [e271]
  exact ⟨rfl, N279, K278, F275, F276⟩
theorem dc_0 : decode prog_21_method_2_code 0 = .ok (.iload_n 1, 1) := by decide +kernel
theorem dc_1 : decode prog_21_method_2_code 1 = .ok (.ifCond .lt 24, 3) := by decide +kernel
theorem dc_4 : decode prog_21_method_2_code 4 = .ok (.iload_n 1, 1) := by decide +kernel
theorem dc_5 : decode prog_21_method_2_code 5 = .ok (.bipush 100, 2) := by decide +kernel
theorem dc_7 : decode prog_21_method_2_code 7 = .ok (.imul, 1) := by decide +kernel
theorem dc_8 : decode prog_21_method_2_code 8 = .ok (.i2d, 1) := by decide +kernel
theorem dc_9 : decode prog_21_method_2_code 9 = .ok (.ldc2_w 84, 3) := by decide +kernel
theorem dc_12 : decode prog_21_method_2_code 12 = .ok (.dmul, 1) := by decide +kernel
theorem dc_13 : decode prog_21_method_2_code 13 = .ok (.aload_n 0, 1) := by decide +kernel
theorem dc_14 : decode prog_21_method_2_code 14 = .ok (.getfield 79, 3) := by decide +kernel
theorem dc_17 : decode prog_21_method_2_code 17 = .ok (.dcmp .g, 1) := by decide +kernel
theorem dc_18 : decode prog_21_method_2_code 18 = .ok (.ifCond .gt 7, 3) := by decide +kernel
theorem dc_21 : decode prog_21_method_2_code 21 = .ok (.iconst 1, 1) := by decide +kernel
theorem dc_22 : decode prog_21_method_2_code 22 = .ok (.goto 4, 3) := by decide +kernel
theorem dc_25 : decode prog_21_method_2_code 25 = .ok (.iconst 0, 1) := by decide +kernel
theorem dc_26 : decode prog_21_method_2_code 26 = .ok (.ireturn, 1) := by decide +kernel
theorem pnc : plainName "com/example/skywright/skywright/performance/Aircraft" = true := by first | (simp [plainName, overriddenIn]; done) | decide +kernel
theorem efc (m : MethodId) (z0 : Addr) (z1 : Int32) : entryFrame m #[(.ref z0), (.int z1)] 2 = mkF m 0 #[.val (.ref z0), .val (.int z1)] [] := by first | (simp [entryFrame, mkF, argsToLocals, Value.category]; done) | rfl
def Qc (Z : State) (q1 : Addr) (q2 : Int32) (ce : UInt64) (h0 : Heap) (n0 : Nat) (v : Option Value) (h : Heap) (L : List Loc) : Prop := v = some (.int (own_can q2 ce)) ∧ Fr n0 L ∧ h = h0
set_option maxRecDepth 65536 in
set_option maxHeartbeats 40000000 in
theorem rmc (l : Launch) (Z : State) (a0 : Array Value) (hw : ∀ d ∈ tables_1, d.before a0 Z = true) (ws : List Jvm.Cond) (q1 : Addr) (q2 : Int32) (ce : UInt64) (h0 : Heap) (n0 : Nat) (Z0 : n0 ≤ h0.size) (F1 : Fld Z h0 q1 "com/example/skywright/skywright/performance/Aircraft" "ceiling" "D" (.double ce)) :
    MetFree l (⟨"com/example/skywright/skywright/performance/Aircraft", "canCruiseAt", "(I)Z"⟩ : MethodName) (head1 (Jvm.Cond.code (⟨"com/example/skywright/skywright/performance/Aircraft", "canCruiseAt", "(I)Z"⟩ : MethodName) prog_21_method_2_code 2 (Option.some Jvm.ClassFile.FieldType.boolean) :: ws) ({ frames := 0, cells := 0, slots := 0, locals := 0 } : Room)) (fun a U => a = #[(.ref q1), (.int q2)] ∧ Z.Warmed39 U.vm ∧ U.heap = h0) (fun _ _ _ _ _ => True) (fun _ U o U' => ∃ v L, o = .returned v ∧ Qc Z q1 q2 ce h0 n0 v U'.heap L ∧ FrameEnd U o U' L ({ frames := 0, cells := 0, slots := 0, locals := 0 } : Room).cells ({ frames := 0, cells := 0, slots := 0, locals := 0 } : Room).slots) := by
  refine MetFree.of_bodySF (plainFor_of_name pnc) hisR ?_
  intro p e s m args below meth c s₁ Bd hml0 hP hK
  obtain ⟨rfl, hZ, hh⟩ := hP
  have hx := Bd.exec
  have hby := Bd.bytes
  have hml : c.maxLocals = 2 := hml0
  have hown : s.vm.findClass "com/example/skywright/skywright/performance/Aircraft" = some m.cls := findClass_of_methodNamed Bd.named
  have hnm := (name_of_methodNamed Bd.named Bd.method).1
  have X0 : Stand p l e ({ frames := 0, cells := 0, slots := 0, locals := 0 } : Room) s m #[(.ref q1), (.int q2)] below meth c s₁ [] 0 0 := Stand.of_body Bd
  have e0 : s₁.heap = h0 := by rw [← hh, Bd.state]; rfl
  have N0 := Fr.nil n0
  show Go p e below (Ret s (Qc Z q1 q2 ce h0 n0) ({ frames := 0, cells := 0, slots := 0, locals := 0 } : Room).cells ({ frames := 0, cells := 0, slots := 0, locals := 0 } : Room).slots) (s₁.setTop (entryFrame m #[(.ref q1), (.int q2)] 2))
  rw [efc m q1 q2]
  refine g_iloadN X0 hx (hb hby dc_0) rfl ?_
  by_cases hc1_1 : q2 < (0 : Int32)
  ·
    refine g_ifYes X0 hx (hb hby dc_1) (tlt hc1_1).1 (by decide) (pc' := 25) (by decide) ?_
    refine g_iconst X0 hx (hb hby dc_25) (v := (0 : Int32)) (by decide) ?_
    refine g_ireturn X0 hx Bd.notSynchronized Bd.returns rfl (by simp) (hb hby dc_26) (by decide) (by decide) ?_
    have hv : own_can q2 ce = (0 : Int32) := by unfold own_can; rw [if_pos hc1_1]
    exact ⟨by rw [hv], N0, e0⟩
  ·
    refine g_ifNo X0 hx (hb hby dc_1) (flt hc1_1).1 ?_
    refine g_iloadN X0 hx (hb hby dc_4) rfl ?_
    refine g_bipush X0 hx (hb hby dc_5) (v := (100 : Int32)) (by decide) ?_
    obtain ⟨i2, hi2⟩ : ∃ v : Int32, q2 * (100 : Int32) = v := ⟨_, rfl⟩
    refine g_imul X0 hx (hb hby dc_7) hi2 ?_
    obtain ⟨d3, hd3⟩ : ∃ v : UInt64, FP.i2d i2 = v := ⟨_, rfl⟩
    have fin_d3 : Jvm.Free.Fl.Fin64 d3 := by rw [← hd3]; exact Jvm.Free.Fl.i2d_fin _
    refine g_i2d X0 hx (hb hby dc_8) hd3 ?_
    refine g_ldc2D X0 hx hZ hown (hw _ (List.mem_of_getElem? (i := 70) rfl)) (hb hby dc_9) ?_
    have n4 : Jvm.Free.Fl.NoNaN64 (FP.dmul d3 (4599162408583596029 : UInt64)) := (by subst hd3 hi2; exact own_noNaNP q2)
    obtain ⟨d5, hd5⟩ : ∃ v : UInt64, FP.dmul d3 (4599162408583596029 : UInt64) = v := ⟨_, rfl⟩
    have nn_d5 : Jvm.Free.Fl.NoNaN64 d5 := by rw [← hd5]; exact n4
    refine g_dmul X0 hx (hb hby dc_12) n4 hd5 ?_
    refine g_aloadN X0 hx (hb hby dc_13) rfl rfl ?_
    refine g_getF X0 hx hZ hown (hw _ (List.mem_of_getElem? (i := 63) rfl)) e0 F1 (hb hby dc_14) ?_
    intro T6 X7 e8
    refine g_dcmp X7 hx (hb hby dc_17) ?_
    by_cases hc18_9 : FP.dcmp d5 ce = some .gt ∨ FP.dcmp d5 ce = none
    ·
      refine g_ifYes X7 hx (hb hby dc_18) (tlt ((cv_g_gt _).mpr hc18_9)).2.2.1 (by decide) (pc' := 25) (by decide) ?_
      refine g_iconst X7 hx (hb hby dc_25) (v := (0 : Int32)) (by decide) ?_
      refine g_ireturn X7 hx Bd.notSynchronized Bd.returns rfl (by simp) (hb hby dc_26) (by decide) (by decide) ?_
      subst hi2 hd3 hd5
      have hv : own_can q2 ce = (0 : Int32) := by unfold own_can; rw [if_neg hc1_1, if_pos hc18_9]
      exact ⟨by rw [hv], N0, e8⟩
    ·
      refine g_ifNo X7 hx (hb hby dc_18) (flt (fun q => hc18_9 ((cv_g_gt _).mp q))).2.2.1 ?_
      refine g_iconst X7 hx (hb hby dc_21) (v := (1 : Int32)) (by decide) ?_
      refine g_goto X7 hx (hb hby dc_22) (by decide) (pc' := 26) (by decide) ?_
      refine g_ireturn X7 hx Bd.notSynchronized Bd.returns rfl (by simp) (hb hby dc_26) (by decide) (by decide) ?_
      subst hi2 hd3 hd5
      have hv : own_can q2 ce = (1 : Int32) := by unfold own_can; rw [if_neg hc1_1, if_neg hc18_9]
      exact ⟨by rw [hv], N0, e8⟩
theorem pn0 : plainName "com/example/skywright/skywright/performance/AircraftCanCruiseAtPinLaw" = true := by first | (simp [plainName, overriddenIn]; done) | decide +kernel
theorem pd0_0 : parseMethodDescriptor "(Ljava/lang/String;Ljava/lang/String;DDDDDIDDDDDDDDDD)V" = some ⟨[(.object "java/lang/String"), (.object "java/lang/String"), .double, .double, .double, .double, .double, .int, .double, .double, .double, .double, .double, .double, .double, .double, .double, .double], none⟩ := by decide +kernel
theorem pd0_1 : parseMethodDescriptor "(I)Z" = some ⟨[.int], some .boolean⟩ := by decide +kernel
theorem ef0 (m : MethodId) (z0 : Int32) (z1 : Int32) (z2 : Int32) : entryFrame m #[(.int z0), (.int z1), (.int z2)] maxLocals = mkF m 0 #[.val (.int z0), .val (.int z1), .val (.int z2), .unset, .unset, .unset, .unset, .unset, .unset, .unset, .unset] [] := by first | (simp [entryFrame, mkF, argsToLocals, Value.category, maxLocals]; done) | rfl
def Q0 (Z : State) (q0 : Int32) (q1 : Int32) (q2 : Int32) (h0 : Heap) (n0 : Nat) (v : Option Value) (h : Heap) (L : List Loc) : Prop := v = some (.int 1) ∧ Fr n0 L
set_option maxRecDepth 65536 in
set_option maxHeartbeats 40000000 in
theorem rm0 (l : Launch) (Z : State) (a0 : Array Value) (hw : ∀ d ∈ tables_1, d.before a0 Z = true) (ws : List Jvm.Cond) (q0 : Int32) (q1 : Int32) (q2 : Int32) (h0 : Heap) (n0 : Nat) (Z0 : n0 ≤ h0.size)  :
    MetFree l x (head1 (Jvm.Cond.code x code maxLocals ret :: ws) room_1) (fun a U => a = #[(.int q0), (.int q1), (.int q2)] ∧ Z.Warmed39 U.vm ∧ U.heap = h0) (fun _ _ _ _ _ => True) (fun _ U o U' => ∃ v L, o = .returned v ∧ Q0 Z q0 q1 q2 h0 n0 v U'.heap L ∧ ReturnedEndW U o U' L 16 2176) := by
  refine MetFree.of_bodySF (plainFor_of_name pn0) hisR ?_
  intro p e s m args below meth c s₁ Bd hml0 hP hK
  obtain ⟨rfl, hZ, hh⟩ := hP
  have hx := Bd.exec
  have hby := Bd.bytes
  have hml : c.maxLocals = 11 := hml0
  have hown : s.vm.findClass "com/example/skywright/skywright/performance/AircraftCanCruiseAtPinLaw" = some m.cls := findClass_of_methodNamed Bd.named
  have hnm := (name_of_methodNamed Bd.named Bd.method).1
  have X0 : Stand p l e room_1 s m #[(.int q0), (.int q1), (.int q2)] below meth c s₁ [] 0 0 := Stand.of_body Bd
  have e0 : s₁.heap = h0 := by rw [← hh, Bd.state]; rfl
  have N0 := Fr.nil n0
  show Go p e below (RetW s (Q0 Z q0 q1 q2 h0 n0) 16 2176) (s₁.setTop (entryFrame m #[(.int q0), (.int q1), (.int q2)] maxLocals))
  rw [ef0 m q0 q1 q2]
  have wS : ∀ a ∈ Bundle.stringAtoms, a.before a0 Z = true := by
    intro a ha
    simp only [Bundle.stringAtoms, List.mem_cons, List.not_mem_nil, or_false] at ha
    rcases ha with rfl | rfl | rfl | rfl | rfl | rfl | rfl
    · exact (hw _ (List.mem_of_getElem? (i := 9) rfl))
    · exact (hw _ (List.mem_of_getElem? (i := 10) rfl))
    · exact (hw _ (List.mem_of_getElem? (i := 11) rfl))
    · exact (hw _ (List.mem_of_getElem? (i := 12) rfl))
    · exact (hw _ (List.mem_of_getElem? (i := 13) rfl))
    · exact (hw _ (List.mem_of_getElem? (i := 14) rfl))
    · exact (hw _ (List.mem_of_getElem? (i := 15) rfl))
  replace X0 : Stand p l e room_1 (s.setVm s.vm) m #[(.int q0), (.int q1), (.int q2)] below meth c s₁ [] 0 0 := X0
  replace hZ : Z.Warmed39 (s.setVm s.vm).vm := hZ
  replace hown : (s.setVm s.vm).vm.findClass "com/example/skywright/skywright/performance/AircraftCanCruiseAtPinLaw" = some m.cls := hown
  have S0 : s.Since s.vm 0 := State.WarmedH.since (State.WarmedH.refl s) 0
  have k0n : 0 ≤ h0.size := Nat.zero_le _
  have J12 : ∀ (fl : Int32), (fl < 0 ∨ 0 ≤ fl.toInt ∧ fl.toInt < 16777216) → Go p e below (RetW s (Q0 Z q0 q1 q2 h0 n0) 16 2176) (s₁.setTop (mkF m 12 #[.val (.int q0), .val (.int q1), .val (.int q2), .unset, .unset, .unset, .unset, .unset, .unset, .unset, .unset] [(.int fl)])) := by
    intro fl hfl
    refine g_istoreN X0 hx (hb hby at_12) (L' := #[.val (.int q0), .val (.int q1), .val (.int q2), .val (.int fl), .unset, .unset, .unset, .unset, .unset, .unset, .unset]) rfl ?_
    have J24 : ∀ (zf : Int32), True → Go p e below (RetW s (Q0 Z q0 q1 q2 h0 n0) 16 2176) (s₁.setTop (mkF m 24 #[.val (.int q0), .val (.int q1), .val (.int q2), .val (.int fl), .unset, .unset, .unset, .unset, .unset, .unset, .unset] [(.int zf)])) := by
      intro zf hJ24
      refine g_istore X0 hx (hb hby at_24) (L' := #[.val (.int q0), .val (.int q1), .val (.int q2), .val (.int fl), .val (.int zf), .unset, .unset, .unset, .unset, .unset, .unset]) rfl ?_
      have J37 : ∀ (gf : Int32), True → Go p e below (RetW s (Q0 Z q0 q1 q2 h0 n0) 16 2176) (s₁.setTop (mkF m 37 #[.val (.int q0), .val (.int q1), .val (.int q2), .val (.int fl), .val (.int zf), .unset, .unset, .unset, .unset, .unset, .unset] [(.int gf)])) := by
        intro gf hJ37
        refine g_istore X0 hx (hb hby at_37) (L' := #[.val (.int q0), .val (.int q1), .val (.int q2), .val (.int fl), .val (.int zf), .val (.int gf), .unset, .unset, .unset, .unset, .unset]) rfl ?_
        refine g_iloadN X0 hx (hb hby at_39) rfl ?_
        refine g_istore X0 hx (hb hby at_40) (L' := #[.val (.int q0), .val (.int q1), .val (.int q2), .val (.int fl), .val (.int zf), .val (.int gf), .val (.int q1), .unset, .unset, .unset, .unset]) rfl ?_
        have J71 : ∀ (cc : Int32), True → Go p e below (RetW s (Q0 Z q0 q1 q2 h0 n0) 16 2176) (s₁.setTop (mkF m 71 #[.val (.int q0), .val (.int q1), .val (.int q2), .val (.int fl), .val (.int zf), .val (.int gf), .val (.int cc), .unset, .unset, .unset, .unset] [])) := by
          intro cc hJ71
          have J140 : ∀ (ce : UInt64) (ex : Int32), own_can fl ce = ex → Go p e below (RetW s (Q0 Z q0 q1 q2 h0 n0) 16 2176) (s₁.setTop (mkF m 140 #[.val (.int q0), .val (.int q1), .val (.int q2), .val (.int fl), .val (.int zf), .val (.int gf), .val (.int cc), .val (.double ce), .second, .val (.int ex), .unset] [])) := by
            intro ce ex hex
            refine g_new X0 hx hZ hown (hw _ (List.mem_of_getElem? (i := 5) rfl)) (hw _ (List.mem_of_getElem? (i := 6) rfl)) (hw _ (List.mem_of_getElem? (i := 7) rfl)) e0 (hb hby at_140) (by decide) (by decide) ?_
            intro T1 h4 ar gar X2 e3 E5 F6 D7
            have ge_ar : n0 ≤ ar := by rw [gar]; exact Z0
            have Z9 : n0 ≤ h4.size := Nat.le_trans Z0 E5.1
            have k10 : 0 ≤ h4.size := Nat.le_trans k0n E5.1
            have F12 : Fld Z h4 ar "com/example/skywright/skywright/performance/Aircraft" "ceiling" "D" (.double (0 : UInt64)) := D7 (Or.inr (hw _ (List.mem_of_getElem? (i := 64) rfl))) (ty := .double) (by decide)
            refine g_dup X2 hx (hb hby at_143) rfl ?_
            refine g_ldcS X2 hx hZ hown (hw _ (List.mem_of_getElem? (i := 8) rfl)) wS e3 S0 k10 (hb hby at_144) (n := 16) (by decide) (by decide) (by decide) (by decide) ?_
            intro sa T15 h16 k17 X18 e19 E20 S21 kn22 hZ hown
            have F23 := F6.ext E20
            have F24 := F12.ext E20
            have Z25 : n0 ≤ h16.size := Nat.le_trans Z9 E20.1
            refine g_ldcS X18 hx hZ hown (hw _ (List.mem_of_getElem? (i := 16) rfl)) wS e19 S21 kn22 (hb hby at_146) (n := 4) (by decide) (by decide) (by decide) (by decide) ?_
            intro sb T27 h28 k29 X30 e31 E32 S33 kn34 hZ hown
            have F35 := F23.ext E32
            have F36 := F24.ext E32
            have Z37 : n0 ≤ h28.size := Nat.le_trans Z25 E32.1
            refine g_dconst1 X30 hx (hb hby at_148) ?_
            refine g_dconst0 X30 hx (hb hby at_149) ?_
            refine g_dconst0 X30 hx (hb hby at_150) ?_
            refine g_dconst0 X30 hx (hb hby at_151) ?_
            refine g_dconst0 X30 hx (hb hby at_152) ?_
            refine g_iconst X30 hx (hb hby at_153) (v := (1 : Int32)) (by decide) ?_
            refine g_dconst1 X30 hx (hb hby at_154) ?_
            refine g_dconst0 X30 hx (hb hby at_155) ?_
            refine g_dconst0 X30 hx (hb hby at_156) ?_
            refine g_dconst0 X30 hx (hb hby at_157) ?_
            refine g_dconst0 X30 hx (hb hby at_158) ?_
            refine g_dconst0 X30 hx (hb hby at_159) ?_
            refine g_dconst0 X30 hx (hb hby at_160) ?_
            refine g_dconst0 X30 hx (hb hby at_161) ?_
            refine g_dconst0 X30 hx (hb hby at_162) ?_
            refine g_dload X30 hx (hb hby at_163) rfl ?_
            refine g_init X30 hx hZ hown rfl (hw _ (List.mem_of_getElem? (i := 17) rfl)) (hw _ (List.mem_of_getElem? (i := 18) rfl)) (hw _ (List.mem_of_getElem? (i := 7) rfl)) (hw _ (List.mem_of_getElem? (i := 19) rfl)) (by decide) (rmi l Z a0 hw [] ar sa sb ce h28 n0 Z37 F35 F36 ge_ar) e31 (W := 1) (by decide) (by decide) (by rw [hml]; rfl) ar [(.ref sa), (.ref sb), (.double (4607182418800017408 : UInt64)), (.double (0 : UInt64)), (.double (0 : UInt64)), (.double (0 : UInt64)), (.double (0 : UInt64)), (.int (1 : Int32)), (.double (4607182418800017408 : UInt64)), (.double (0 : UInt64)), (.double (0 : UInt64)), (.double (0 : UInt64)), (.double (0 : UInt64)), (.double (0 : UInt64)), (.double (0 : UInt64)), (.double (0 : UInt64)), (.double (0 : UInt64)), (.double ce)] [(.ref ar)] (lenOf pd0_0 rfl) rfl rfl (Nat.le_of_eq rfl) (hb hby at_165) (by decide) (by decide) ?_
            intro v42 T38 L41 X39 hQ40
            obtain ⟨rfl, N43, K44, F45, F46⟩ := hQ40
            have N47 := Fr.app N0 N43
            have F48 := F35.keep K44
            have Z50 : n0 ≤ T38.heap.size := Nat.le_trans Z37 K44.1
            have k51 : k29 ≤ T38.heap.size := Nat.le_trans kn34 K44.1
            show Go p e below (RetW s (Q0 Z q0 q1 q2 h0 n0) 16 2176) (T38.setTop (mkF m 168 #[.val (.int q0), .val (.int q1), .val (.int q2), .val (.int fl), .val (.int zf), .val (.int gf), .val (.int cc), .val (.double ce), .second, .val (.int ex), .unset] [(.ref ar)]))
            refine g_astore X39 hx (hb hby at_168) rfl (L' := #[.val (.int q0), .val (.int q1), .val (.int q2), .val (.int fl), .val (.int zf), .val (.int gf), .val (.int cc), .val (.double ce), .second, .val (.int ex), .val (.ref ar)]) rfl ?_
            refine g_aload X39 hx (hb hby at_170) rfl rfl ?_
            refine g_iloadN X39 hx (hb hby at_172) rfl ?_
            refine g_callV X39 hx hZ hown (hw _ (List.mem_of_getElem? (i := 65) rfl)) (hw _ (List.mem_of_getElem? (i := 66) rfl)) (hw _ (List.mem_of_getElem? (i := 68) rfl)) (hw _ (List.mem_of_getElem? (i := 67) rfl)) (hw _ (List.mem_of_getElem? (i := 7) rfl)) (hw _ (List.mem_of_getElem? (i := 69) rfl)) (by decide) (rmc l Z a0 hw [] ar fl ce T38.heap n0 Z50 F46) rfl (W := 0) (by decide) (by decide) (by rw [hml]; rfl) ar F45 [(.int fl)] [] (lenOf pd0_1 rfl) rfl rfl (Nat.le_of_eq rfl) (hb hby at_173) (by decide) (by decide) ?_
            intro v58 T54 L57 X55 hQ56
            obtain ⟨rfl, N59, e60⟩ := hQ56
            have N61 := Fr.app N47 N59
            show Go p e below (RetW s (Q0 Z q0 q1 q2 h0 n0) 16 2176) (T54.setTop (mkF m 176 #[.val (.int q0), .val (.int q1), .val (.int q2), .val (.int fl), .val (.int zf), .val (.int gf), .val (.int cc), .val (.double ce), .second, .val (.int ex), .val (.ref ar)] [(.int (own_can fl ce))]))
            refine g_iload X55 hx (hb hby at_176) rfl ?_
            have hc178_62 : (own_can fl ce) = ex := hex
            refine g_icmpNo X55 hx (hb hby at_178) (teq hc178_62).2 ?_
            refine g_iconst X55 hx (hb hby at_181) (v := (1 : Int32)) (by decide) ?_
            refine g_goto X55 hx (hb hby at_182) (by decide) (pc' := 186) (by decide) ?_
            refine gW_ireturn X55 hx S33 e60 k51 Bd.notSynchronized Bd.returns rfl (by simp) (hb hby at_186) (by decide) (by decide) ?_
            exact ⟨rfl, N61⟩
          refine g_iload X0 hx (hb hby at_71) rfl ?_
          by_cases hc73_63 : zf = (0 : Int32)
          ·
            refine g_ifYes X0 hx (hb hby at_73) (teq hc73_63).1 (by decide) (pc' := 80) (by decide) ?_
            refine g_iload X0 hx (hb hby at_80) rfl ?_
            obtain ⟨di, hdi⟩ : ∃ v : UInt64, FP.i2d cc = v := ⟨_, rfl⟩
            have fin_di : Jvm.Free.Fl.Fin64 di := by rw [← hdi]; exact Jvm.Free.Fl.i2d_fin _
            refine g_i2d X0 hx (hb hby at_82) hdi ?_
            refine g_ldc2D X0 hx hZ hown (hw _ (List.mem_of_getElem? (i := 1) rfl)) (hb hby at_83) ?_
            have n64 : Jvm.Free.Fl.NoNaN64 (FP.dadd di (4602678819172646912 : UInt64)) := Jvm.Free.Fl.dadd_out fin_di.noNaN (by unfold Jvm.Free.Fl.Fin64; decide +kernel)
            obtain ⟨ce0, hce0⟩ : ∃ v : UInt64, FP.dadd di (4602678819172646912 : UInt64) = v := ⟨_, rfl⟩
            have nn_ce0 : Jvm.Free.Fl.NoNaN64 ce0 := by rw [← hce0]; exact n64
            refine g_dadd X0 hx (hb hby at_86) n64 hce0 ?_
            refine g_dstore X0 hx (hb hby at_87) (L' := #[.val (.int q0), .val (.int q1), .val (.int q2), .val (.int fl), .val (.int zf), .val (.int gf), .val (.int cc), .val (.double ce0), .second, .unset, .unset]) rfl ?_
            refine g_iload X0 hx (hb hby at_89) rfl ?_
            have hc91_65 : zf = (0 : Int32) := hc73_63
            refine g_ifYes X0 hx (hb hby at_91) (teq hc91_65).1 (by decide) (pc' := 108) (by decide) ?_
            refine g_iloadN X0 hx (hb hby at_108) rfl ?_
            by_cases hc109_66 : fl < (0 : Int32)
            ·
              refine g_ifYes X0 hx (hb hby at_109) (tlt hc109_66).1 (by decide) (pc' := 137) (by decide) ?_
              refine g_iconst X0 hx (hb hby at_137) (v := (0 : Int32)) (by decide) ?_
              refine g_istore X0 hx (hb hby at_138) (L' := #[.val (.int q0), .val (.int q1), .val (.int q2), .val (.int fl), .val (.int zf), .val (.int gf), .val (.int cc), .val (.double ce0), .second, .val (.int (0 : Int32)), .unset]) rfl ?_
              exact J140 ce0 (0 : Int32) (by unfold own_can; rw [if_pos hc109_66])
            ·
              refine g_ifNo X0 hx (hb hby at_109) (flt hc109_66).1 ?_
              refine g_ldc2J X0 hx hZ hown (hw _ (List.mem_of_getElem? (i := 2) rfl)) (hb hby at_112) ?_
              refine g_iloadN X0 hx (hb hby at_115) rfl ?_
              obtain ⟨f64, hf64⟩ : ∃ v : Int64, fl.toInt64 = v := ⟨_, rfl⟩
              refine g_i2l X0 hx (hb hby at_116) hf64 ?_
              obtain ⟨fa, hfa⟩ : ∃ v : Int64, (3048 : Int64) * f64 = v := ⟨_, rfl⟩
              refine g_lmul X0 hx (hb hby at_117) hfa ?_
              refine g_ldc2J X0 hx hZ hown (hw _ (List.mem_of_getElem? (i := 3) rfl)) (hb hby at_118) ?_
              refine g_iload X0 hx (hb hby at_121) rfl ?_
              obtain ⟨c64, hc64⟩ : ∃ v : Int64, cc.toInt64 = v := ⟨_, rfl⟩
              refine g_i2l X0 hx (hb hby at_123) hc64 ?_
              obtain ⟨cb, hcb⟩ : ∃ v : Int64, (100 : Int64) * c64 = v := ⟨_, rfl⟩
              refine g_lmul X0 hx (hb hby at_124) hcb ?_
              refine g_ldc2J X0 hx hZ hown (hw _ (List.mem_of_getElem? (i := 4) rfl)) (hb hby at_125) ?_
              obtain ⟨cd, hcd⟩ : ∃ v : Int64, cb + (50 : Int64) = v := ⟨_, rfl⟩
              refine g_ladd X0 hx (hb hby at_128) hcd ?_
              refine g_lcmp X0 hx (hb hby at_129) ?_
              by_cases hc130_67 : cd < fa
              ·
                refine g_ifYes X0 hx (hb hby at_130) (tlt ((lw_gt _ _).mpr hc130_67)).2.2.1 (by decide) (pc' := 137) (by decide) ?_
                refine g_iconst X0 hx (hb hby at_137) (v := (0 : Int32)) (by decide) ?_
                refine g_istore X0 hx (hb hby at_138) (L' := #[.val (.int q0), .val (.int q1), .val (.int q2), .val (.int fl), .val (.int zf), .val (.int gf), .val (.int cc), .val (.double ce0), .second, .val (.int (0 : Int32)), .unset]) rfl ?_
                exact J140 ce0 (0 : Int32) (by rw [own_canP (hfl.resolve_left hc109_66) hdi hce0]; exact if_pos ((own_cmpL (hfl.resolve_left hc109_66) hf64 hfa hc64 hcb hcd).mp hc130_67))
              ·
                refine g_ifNo X0 hx (hb hby at_130) (flt (fun q => hc130_67 ((lw_gt _ _).mp q))).2.2.1 ?_
                refine g_iconst X0 hx (hb hby at_133) (v := (1 : Int32)) (by decide) ?_
                refine g_goto X0 hx (hb hby at_134) (by decide) (pc' := 138) (by decide) ?_
                refine g_istore X0 hx (hb hby at_138) (L' := #[.val (.int q0), .val (.int q1), .val (.int q2), .val (.int fl), .val (.int zf), .val (.int gf), .val (.int cc), .val (.double ce0), .second, .val (.int (1 : Int32)), .unset]) rfl ?_
                exact J140 ce0 (1 : Int32) (by rw [own_canP (hfl.resolve_left hc109_66) hdi hce0]; exact if_neg (fun z => hc130_67 ((own_cmpL (hfl.resolve_left hc109_66) hf64 hfa hc64 hcb hcd).mpr z)))
          ·
            refine g_ifNo X0 hx (hb hby at_73) (feq hc73_63).1 ?_
            refine g_dconst0 X0 hx (hb hby at_76) ?_
            refine g_goto X0 hx (hb hby at_77) (by decide) (pc' := 87) (by decide) ?_
            refine g_dstore X0 hx (hb hby at_87) (L' := #[.val (.int q0), .val (.int q1), .val (.int q2), .val (.int fl), .val (.int zf), .val (.int gf), .val (.int cc), .val (.double (0 : UInt64)), .second, .unset, .unset]) rfl ?_
            refine g_iload X0 hx (hb hby at_89) rfl ?_
            have hc91_68 : ¬ (zf = (0 : Int32)) := hc73_63
            refine g_ifNo X0 hx (hb hby at_91) (feq hc91_68).1 ?_
            refine g_iloadN X0 hx (hb hby at_94) rfl ?_
            by_cases hc95_69 : fl = (0 : Int32)
            ·
              refine g_ifNo X0 hx (hb hby at_95) (teq hc95_69).2 ?_
              refine g_iconst X0 hx (hb hby at_98) (v := (1 : Int32)) (by decide) ?_
              refine g_goto X0 hx (hb hby at_99) (by decide) (pc' := 103) (by decide) ?_
              refine g_istore X0 hx (hb hby at_103) (L' := #[.val (.int q0), .val (.int q1), .val (.int q2), .val (.int fl), .val (.int zf), .val (.int gf), .val (.int cc), .val (.double (0 : UInt64)), .second, .val (.int (1 : Int32)), .unset]) rfl ?_
              refine g_goto X0 hx (hb hby at_105) (by decide) (pc' := 140) (by decide) ?_
              exact J140 (0 : UInt64) (1 : Int32) (by rw [own_canZ hfl]; exact if_pos hc95_69)
            ·
              refine g_ifYes X0 hx (hb hby at_95) (feq hc95_69).2 (by decide) (pc' := 102) (by decide) ?_
              refine g_iconst X0 hx (hb hby at_102) (v := (0 : Int32)) (by decide) ?_
              refine g_istore X0 hx (hb hby at_103) (L' := #[.val (.int q0), .val (.int q1), .val (.int q2), .val (.int fl), .val (.int zf), .val (.int gf), .val (.int cc), .val (.double (0 : UInt64)), .second, .val (.int (0 : Int32)), .unset]) rfl ?_
              refine g_goto X0 hx (hb hby at_105) (by decide) (pc' := 140) (by decide) ?_
              exact J140 (0 : UInt64) (0 : Int32) (by rw [own_canZ hfl]; exact if_neg hc95_69)
        refine g_iload X0 hx (hb hby at_42) rfl ?_
        by_cases hc44_70 : gf = (0 : Int32)
        ·
          refine g_ifYes X0 hx (hb hby at_44) (teq hc44_70).1 (by decide) (pc' := 71) (by decide) ?_
          exact J71 q1 trivial
        ·
          refine g_ifNo X0 hx (hb hby at_44) (feq hc44_70).1 ?_
          refine g_ldc2J X0 hx hZ hown (hw _ (List.mem_of_getElem? (i := 2) rfl)) (hb hby at_47) ?_
          refine g_iloadN X0 hx (hb hby at_50) rfl ?_
          refine g_ldcI X0 hx hZ hown (hw _ (List.mem_of_getElem? (i := 0) rfl)) (hb hby at_51) ?_
          obtain ⟨i71, hi71⟩ : ∃ v : Int32, fl &&& (16777215 : Int32) = v := ⟨_, rfl⟩
          refine g_iand X0 hx (hb hby at_53) hi71 ?_
          obtain ⟨l72, hl72⟩ : ∃ v : Int64, i71.toInt64 = v := ⟨_, rfl⟩
          refine g_i2l X0 hx (hb hby at_54) hl72 ?_
          obtain ⟨l73, hl73⟩ : ∃ v : Int64, (3048 : Int64) * l72 = v := ⟨_, rfl⟩
          refine g_lmul X0 hx (hb hby at_55) hl73 ?_
          refine g_ldc2J X0 hx hZ hown (hw _ (List.mem_of_getElem? (i := 3) rfl)) (hb hby at_56) ?_
          obtain ⟨l74, hl74⟩ : ∃ v : Int64, l73 / (100 : Int64) = v := ⟨_, rfl⟩
          refine g_ldiv X0 hx (hb hby at_59) (by decide) hl74 ?_
          obtain ⟨i75, hi75⟩ : ∃ v : Int32, l74.toInt32 = v := ⟨_, rfl⟩
          refine g_l2i X0 hx (hb hby at_60) hi75 ?_
          refine g_iloadN X0 hx (hb hby at_61) rfl ?_
          refine g_iconst X0 hx (hb hby at_62) (v := (3 : Int32)) (by decide) ?_
          obtain ⟨i76, hi76⟩ : ∃ v : Int32, (q2.toUInt32 >>> ((3 : Int32) &&& 31).toUInt32).toInt32 = v := ⟨_, rfl⟩
          refine g_iushr X0 hx (hb hby at_63) hi76 ?_
          refine g_iconst X0 hx (hb hby at_64) (v := (5 : Int32)) (by decide) ?_
          obtain ⟨i77, hi77⟩ : ∃ v : Int32, i76 % (5 : Int32) = v := ⟨_, rfl⟩
          refine g_irem X0 hx (hb hby at_65) (by decide) hi77 ?_
          obtain ⟨i78, hi78⟩ : ∃ v : Int32, i75 + i77 = v := ⟨_, rfl⟩
          refine g_iadd X0 hx (hb hby at_66) hi78 ?_
          refine g_iconst X0 hx (hb hby at_67) (v := (2 : Int32)) (by decide) ?_
          obtain ⟨i79, hi79⟩ : ∃ v : Int32, i78 - (2 : Int32) = v := ⟨_, rfl⟩
          refine g_isub X0 hx (hb hby at_68) hi79 ?_
          refine g_istore X0 hx (hb hby at_69) (L' := #[.val (.int q0), .val (.int q1), .val (.int q2), .val (.int fl), .val (.int zf), .val (.int gf), .val (.int i79), .unset, .unset, .unset, .unset]) rfl ?_
          exact J71 i79 trivial
      refine g_iloadN X0 hx (hb hby at_26) rfl ?_
      refine g_iconst X0 hx (hb hby at_27) (v := (1 : Int32)) (by decide) ?_
      obtain ⟨i80, hi80⟩ : ∃ v : Int32, q2 &&& (1 : Int32) = v := ⟨_, rfl⟩
      refine g_iand X0 hx (hb hby at_28) hi80 ?_
      by_cases hc29_81 : i80 = (0 : Int32)
      ·
        refine g_ifYes X0 hx (hb hby at_29) (teq hc29_81).1 (by decide) (pc' := 36) (by decide) ?_
        refine g_iconst X0 hx (hb hby at_36) (v := (0 : Int32)) (by decide) ?_
        exact J37 (0 : Int32) trivial
      ·
        refine g_ifNo X0 hx (hb hby at_29) (feq hc29_81).1 ?_
        refine g_iconst X0 hx (hb hby at_32) (v := (1 : Int32)) (by decide) ?_
        refine g_goto X0 hx (hb hby at_33) (by decide) (pc' := 37) (by decide) ?_
        exact J37 (1 : Int32) trivial
    refine g_iloadN X0 hx (hb hby at_13) rfl ?_
    refine g_iconst X0 hx (hb hby at_14) (v := (4 : Int32)) (by decide) ?_
    obtain ⟨i82, hi82⟩ : ∃ v : Int32, q2 &&& (4 : Int32) = v := ⟨_, rfl⟩
    refine g_iand X0 hx (hb hby at_15) hi82 ?_
    by_cases hc16_83 : i82 = (0 : Int32)
    ·
      refine g_ifYes X0 hx (hb hby at_16) (teq hc16_83).1 (by decide) (pc' := 23) (by decide) ?_
      refine g_iconst X0 hx (hb hby at_23) (v := (0 : Int32)) (by decide) ?_
      exact J24 (0 : Int32) trivial
    ·
      refine g_ifNo X0 hx (hb hby at_16) (feq hc16_83).1 ?_
      refine g_iconst X0 hx (hb hby at_19) (v := (1 : Int32)) (by decide) ?_
      refine g_goto X0 hx (hb hby at_20) (by decide) (pc' := 24) (by decide) ?_
      exact J24 (1 : Int32) trivial
  refine g_iloadN X0 hx (hb hby at_0) rfl ?_
  by_cases hc1_84 : q0 < (0 : Int32)
  ·
    refine g_ifNo X0 hx (hb hby at_1) (tlt hc1_84).2.1 ?_
    refine g_iloadN X0 hx (hb hby at_4) rfl ?_
    refine g_goto X0 hx (hb hby at_5) (by decide) (pc' := 12) (by decide) ?_
    exact J12 q0 (Or.inl hc1_84)
  ·
    refine g_ifYes X0 hx (hb hby at_1) (flt hc1_84).2.1 (by decide) (pc' := 8) (by decide) ?_
    refine g_iloadN X0 hx (hb hby at_8) rfl ?_
    refine g_ldcI X0 hx hZ hown (hw _ (List.mem_of_getElem? (i := 0) rfl)) (hb hby at_9) ?_
    obtain ⟨fm, hfm⟩ : ∃ v : Int32, q0 &&& (16777215 : Int32) = v := ⟨_, rfl⟩
    refine g_iand X0 hx (hb hby at_11) hfm ?_
    exact J12 fm (Or.inr (by have a := c_and q0 (16777215 : Int32) (by decide); rw [hfm] at a; have z : (16777215 : Int32).toInt = 16777215 := rfl; omega))
set_option maxRecDepth 65536 in
set_option maxHeartbeats 40000000 in
theorem comes_1 {Post : Tables → Env → Array Value → State → Outcome → State → Prop} (hpost : ∀ tb e args s v u, (limb_1_1.after args s (.returned v) u = true ∧ limb_1_2.after args s (.returned v) u = true ∧ True) → ReturnedEndW s (.returned v) u (Jvm.fieldLocs frame_1_writes args s ++ Jvm.arrayLocs frame_1_arrays args s ++ Jvm.staticLocs frame_1_statics s) 16 2176 → Post tb e args s (.returned v) u) :
    ArmFor flags0 classFile x code maxLocals ret World_1 tables_1 room_1 Calls_1 rest_1 Pre_1 Post := by
  intro l hfl _ _ p e ha hc hk s m args below hf hA hF happ hP
  obtain ⟨hcalls, hrest, hpre⟩ := hP
  obtain ⟨-, -, -, hnamed, -, -, -, hat⟩ := (Spec.applies_iff hf).mp happ
  obtain ⟨hg, hn⟩ := and_e (Cond.before_iff.mp (show (Jvm.Cond.and given_1 narrow_1).before args s = true from hpre))
  obtain ⟨h1, g0⟩ := and_e hg
  obtain ⟨k0, g1⟩ := and_e g0
  obtain ⟨k1, g2⟩ := and_e g1
  obtain ⟨w0, w1, w2, rfl⟩ : ∃ w0 w1 w2 : Value, args = #[w0, w1, w2] := by
    have hs : args.size = 3 := by simpa [Cond.value, given_1] using h1
    obtain ⟨L⟩ := args
    match L, hs with
    | [w0, w1, w2], _ => exact ⟨w0, w1, w2, rfl⟩
  have hw := fun d (hd : d ∈ tables_1) => atoms_spec (ws := Jvm.Cond.code x code maxLocals ret :: tables_1) hat d (List.mem_cons_of_mem _ hd)
  have hfit : Fit s := fun {y c} hc i hi => by
    obtain ⟨ha, rfl⟩ := Array.getElem?_eq_some_iff.mp hc
    have q := List.all_eq_true.mp ((Array.all_eq_true_iff_forall_mem.mp hF) _ (Array.getElem_mem ha)) i (List.mem_range.mpr hi)
    simpa [Array.getElem?_eq_getElem hi] using q
  obtain ⟨i0, e0⟩ := is_v k0
  obtain rfl : w0 = (.int i0) := Option.some.inj e0
  obtain ⟨i1, e1⟩ := is_v k1
  obtain rfl : w1 = (.int i1) := Option.some.inj e1
  obtain ⟨i2, e2⟩ := is_v g2
  obtain rfl : w2 = (.int i2) := Option.some.inj e2
  obtain ⟨n, o, h1, h2, h3, _, L, rfl, ⟨rfl, N⟩, hq⟩ := rm0 l s _ hw tables_1 i0 i1 i2 s.heap s.heap.size (Nat.le_refl _)  p e ha hc hk s m _ below hf ((Spec.applies_iff_loose hf).mp happ).1 ⟨rfl, State.Warmed39.refl s, rfl⟩ trivial
  refine ⟨n, _, h1, h2, h3, hpost _ _ _ _ _ _ ⟨Cond.after_iff.mpr rfl, Cond.after_iff.mpr (eq_i res_at (Term.int_eval (1)) rfl), trivial⟩ ⟨hq.1, hq.2.1, hq.2.2.1, (hq.2.2.2.sift fun y hy => Or.inr (N y hy)).mono (by decide) (by decide)⟩⟩
theorem main_1_1 : Claimed_1_1 := comes_1 fun _ _ _ _ _ _ h hF => ⟨h.1, hF⟩
theorem main_1_2 : Claimed_1_2 := comes_1 fun _ _ _ _ _ _ h hF => ⟨h.2.1, hF⟩
end Jvm.Pilot.@@N@@
namespace Jvm.Pilot.@@N@@
open Jvm Jvm.ClassFile Sem Op Lib Jvm.Free Jvm.Stand Jvm.Pilot.@@N@@.Jvm.D
/-! MADE BY PROGRAM (witnessworld.py) out of the Statement's table words and the real class files: 15 classes; the members and pool entries that the words name. The judged class is class 1, her method 1. -/
namespace start1
open Jvm.ClassFile
def u (s : String) : CpInfo := .utf8 (stringToUtf16 s)
/-- a pool by its gaps: so many unusable entries, then the entry; so many at the end -/
def gap : Nat → List CpInfo → List CpInfo
  | 0, r => r
  | n + 1, r => .unusable :: gap n r
def poolList (es : List (Nat × CpInfo)) (last : Nat) : List CpInfo := es.foldr (fun e r => gap e.1 (e.2 :: r)) (gap last [])
def pool (es : List (Nat × CpInfo)) (last : Nat) : Array CpInfo := ⟨poolList es last⟩
def fileOf (pool : Array CpInfo) (this : Nat) (attrs : Array Attribute := #[]) (ms : Array MethodInfo := #[]) (fl : Nat := 33) (sup : Nat := 0) (ifs : Array Nat := #[]) (fds : Array FieldInfo := #[]) : ClassFile where
  minorVersion := 0
  majorVersion := 65
  constantPool := pool
  accessFlags := fl
  thisClass := this
  superClass := sup
  interfaces := ifs
  fields := fds
  methods := ms
  attributes := attrs
def plain (name : String) (sup : Option ClassId) : Class where
  name := name
  kind := .ordinary
  loader := none
  accessFlags := 33
  super := sup
  interfaces := #[]
  cf := none
  fields := #[]
  methods := #[]
  instanceTypes := #[]
  staticTypes := #[]
  resolved := #[]
  callSites := []
  init := .initialized
  statics := none
  mirror := none

def pool0 : Array CpInfo := pool [(5, u "<init>"), (0, u "()V"), (1, .class_ 10), (1, u "java/lang/Object")] 113

def k0c0 : Code := { maxStack := 0, maxLocals := 1, code := object_method_1_code, exceptionTable := #[], attributes := #[] }
def k0m0 : Method := { name := "<init>", desc := "()V", sig := { parameters := [], returnType := none }, accessFlags := 1, code := some k0c0 }
/-- java/lang/Object -/
def k0 : Class := { plain "java/lang/Object" none with
  accessFlags := 33
  interfaces := #[]
  cf := some (fileOf pool0 8 #[] #[{ accessFlags := 1, nameIndex := 5, descriptorIndex := 6, attributes := #[] }] 33 0 #[] #[])
  fields := #[]
  methods := #[k0m0]
  instanceTypes := #[]
  staticTypes := #[]
  resolved := Array.replicate 124 none
  statics := none }

def pool1 : Array CpInfo := pool [(2, .class_ 4), (1, u "java/lang/Object"), (0, u "<init>"), (0, u "()V"), (0, .integer 16777215), (0, .long 3048), (1, .long 100), (1, .double 4602678819172646912), (1, .long 50), (1, .class_ 17), (0, u "com/example/skywright/skywright/performance/Aircraft"), (0, .string 19), (0, u "A333"), (0, .string 21), (0, u "X"), (0, .methodref 16 23), (0, .nameAndType 5 24), (0, u "(Ljava/lang/String;Ljava/lang/String;DDDDDIDDDDDDDDDD)V"), (0, .methodref 16 26), (0, .nameAndType 27 28), (0, u "canCruiseAt"), (0, u "(I)Z"), (0, .class_ 30), (0, u "com/example/skywright/skywright/performance/AircraftCanCruiseAtPinLaw"), (2, u "law"), (0, u "(III)Z")] 3

def k1m0 : Method := { name := "<init>", desc := "()V", sig := { parameters := [], returnType := none }, accessFlags := 1, code := none }
def k1c1 : Code := { maxStack := 35, maxLocals := 11, code := code, exceptionTable := #[], attributes := #[] }
def k1m1 : Method := { name := "law", desc := "(III)Z", sig := { parameters := [.int, .int, .int], returnType := some .boolean }, accessFlags := 9, code := some k1c1 }
/-- com/example/skywright/skywright/performance/AircraftCanCruiseAtPinLaw -/
def k1 : Class := { plain "com/example/skywright/skywright/performance/AircraftCanCruiseAtPinLaw" (some 0) with
  accessFlags := 49
  interfaces := #[]
  cf := some (fileOf pool1 29 #[] #[{ accessFlags := 1, nameIndex := 5, descriptorIndex := 6, attributes := #[] }, { accessFlags := 9, nameIndex := 33, descriptorIndex := 34, attributes := #[] }] 49 2 #[] #[])
  fields := #[]
  methods := #[k1m0, k1m1]
  instanceTypes := #[]
  staticTypes := #[]
  resolved := Array.replicate 38 none
  statics := none }

def pool2 : Array CpInfo := pool [(1, .methodref 2 3), (0, .class_ 4), (0, .nameAndType 5 6), (0, u "java/lang/Object"), (0, u "<init>"), (0, u "()V"), (0, .class_ 8), (0, u "java/lang/Record")] 13

def k2c0 : Code := { maxStack := 1, maxLocals := 1, code := jdk_30_method_1_code, exceptionTable := #[], attributes := #[] }
def k2m0 : Method := { name := "<init>", desc := "()V", sig := { parameters := [], returnType := none }, accessFlags := 4, code := some k2c0 }
/-- java/lang/Record -/
def k2 : Class := { plain "java/lang/Record" (some 0) with
  accessFlags := 1057
  interfaces := #[]
  cf := some (fileOf pool2 7 #[] #[{ accessFlags := 4, nameIndex := 5, descriptorIndex := 6, attributes := #[] }] 1057 2 #[] #[])
  fields := #[]
  methods := #[k2m0]
  instanceTypes := #[]
  staticTypes := #[]
  resolved := Array.replicate 22 none
  statics := none }

def pool3 : Array CpInfo := pool [(1, .methodref 2 3), (0, .class_ 4), (0, .nameAndType 5 6), (0, u "java/lang/Record"), (0, u "<init>"), (0, u "()V"), (13, .double 4636033603912859648), (2, .fieldref 24 25), (0, .class_ 26), (0, .nameAndType 27 28), (0, u "com/example/skywright/skywright/performance/Aircraft"), (0, u "typeCode"), (0, u "Ljava/lang/String;"), (0, .fieldref 24 30), (0, .nameAndType 31 28), (0, u "name"), (0, .fieldref 24 33), (0, .nameAndType 34 35), (0, u "wingArea"), (0, u "D"), (0, .fieldref 24 37), (0, .nameAndType 38 35), (0, u "cd0"), (0, .fieldref 24 40), (0, .nameAndType 41 35), (0, u "k"), (0, .fieldref 24 43), (0, .nameAndType 44 35), (0, u "wingSweep"), (0, .fieldref 24 46), (0, .nameAndType 47 35), (0, u "thicknessRatio"), (0, .fieldref 24 49), (0, .nameAndType 50 51), (0, u "engines"), (0, u "I"), (0, .fieldref 24 53), (0, .nameAndType 54 35), (0, u "engineMaxThrust"), (0, .fieldref 24 56), (0, .nameAndType 57 35), (0, u "fuelC1"), (0, .fieldref 24 59), (0, .nameAndType 60 35), (0, u "fuelC2"), (0, .fieldref 24 62), (0, .nameAndType 63 35), (0, u "fuelC3"), (0, .fieldref 24 65), (0, .nameAndType 66 35), (0, u "mtow"), (0, .fieldref 24 68), (0, .nameAndType 69 35), (0, u "oew"), (0, .fieldref 24 71), (0, .nameAndType 72 35), (0, u "maxFuel"), (0, .fieldref 24 74), (0, .nameAndType 75 35), (0, u "mmo"), (0, .fieldref 24 77), (0, .nameAndType 78 35), (0, u "minCruiseMach"), (0, .fieldref 24 80), (0, .nameAndType 81 35), (0, u "ceiling"), (2, .double 4599162408583596029), (3, u "canCruiseAt"), (0, u "(I)Z"), (66, u "(Ljava/lang/String;Ljava/lang/String;DDDDDIDDDDDDDDDD)V")] 71

def k3c0 : Code := { maxStack := 4, maxLocals := 34, code := prog_21_method_1_code, exceptionTable := #[], attributes := #[] }
def k3m0 : Method := { name := "<init>", desc := "(Ljava/lang/String;Ljava/lang/String;DDDDDIDDDDDDDDDD)V", sig := { parameters := [(.object "java/lang/String"), (.object "java/lang/String"), .double, .double, .double, .double, .double, .int, .double, .double, .double, .double, .double, .double, .double, .double, .double, .double], returnType := none }, accessFlags := 1, code := some k3c0 }
def k3c1 : Code := { maxStack := 4, maxLocals := 2, code := prog_21_method_2_code, exceptionTable := #[], attributes := #[] }
def k3m1 : Method := { name := "canCruiseAt", desc := "(I)Z", sig := { parameters := [.int], returnType := some .boolean }, accessFlags := 1, code := some k3c1 }
/-- com/example/skywright/skywright/performance/Aircraft -/
def k3 : Class := { plain "com/example/skywright/skywright/performance/Aircraft" (some 2) with
  accessFlags := 49
  interfaces := #[]
  cf := some (fileOf pool3 24 #[] #[{ accessFlags := 1, nameIndex := 5, descriptorIndex := 156, attributes := #[] }, { accessFlags := 1, nameIndex := 88, descriptorIndex := 89, attributes := #[] }] 49 2 #[] #[{ accessFlags := 18, nameIndex := 27, descriptorIndex := 28, attributes := #[] }, { accessFlags := 18, nameIndex := 31, descriptorIndex := 28, attributes := #[] }, { accessFlags := 18, nameIndex := 34, descriptorIndex := 35, attributes := #[] }, { accessFlags := 18, nameIndex := 38, descriptorIndex := 35, attributes := #[] }, { accessFlags := 18, nameIndex := 41, descriptorIndex := 35, attributes := #[] }, { accessFlags := 18, nameIndex := 44, descriptorIndex := 35, attributes := #[] }, { accessFlags := 18, nameIndex := 47, descriptorIndex := 35, attributes := #[] }, { accessFlags := 18, nameIndex := 50, descriptorIndex := 51, attributes := #[] }, { accessFlags := 18, nameIndex := 54, descriptorIndex := 35, attributes := #[] }, { accessFlags := 18, nameIndex := 57, descriptorIndex := 35, attributes := #[] }, { accessFlags := 18, nameIndex := 60, descriptorIndex := 35, attributes := #[] }, { accessFlags := 18, nameIndex := 63, descriptorIndex := 35, attributes := #[] }, { accessFlags := 18, nameIndex := 66, descriptorIndex := 35, attributes := #[] }, { accessFlags := 18, nameIndex := 69, descriptorIndex := 35, attributes := #[] }, { accessFlags := 18, nameIndex := 72, descriptorIndex := 35, attributes := #[] }, { accessFlags := 18, nameIndex := 75, descriptorIndex := 35, attributes := #[] }, { accessFlags := 18, nameIndex := 78, descriptorIndex := 35, attributes := #[] }, { accessFlags := 18, nameIndex := 81, descriptorIndex := 35, attributes := #[] }])
  fields := #[{ name := "typeCode", type := (.object "java/lang/String"), accessFlags := 18, slot := 0, constantValue := 0 }, { name := "name", type := (.object "java/lang/String"), accessFlags := 18, slot := 1, constantValue := 0 }, { name := "wingArea", type := .double, accessFlags := 18, slot := 2, constantValue := 0 }, { name := "cd0", type := .double, accessFlags := 18, slot := 3, constantValue := 0 }, { name := "k", type := .double, accessFlags := 18, slot := 4, constantValue := 0 }, { name := "wingSweep", type := .double, accessFlags := 18, slot := 5, constantValue := 0 }, { name := "thicknessRatio", type := .double, accessFlags := 18, slot := 6, constantValue := 0 }, { name := "engines", type := .int, accessFlags := 18, slot := 7, constantValue := 0 }, { name := "engineMaxThrust", type := .double, accessFlags := 18, slot := 8, constantValue := 0 }, { name := "fuelC1", type := .double, accessFlags := 18, slot := 9, constantValue := 0 }, { name := "fuelC2", type := .double, accessFlags := 18, slot := 10, constantValue := 0 }, { name := "fuelC3", type := .double, accessFlags := 18, slot := 11, constantValue := 0 }, { name := "mtow", type := .double, accessFlags := 18, slot := 12, constantValue := 0 }, { name := "oew", type := .double, accessFlags := 18, slot := 13, constantValue := 0 }, { name := "maxFuel", type := .double, accessFlags := 18, slot := 14, constantValue := 0 }, { name := "mmo", type := .double, accessFlags := 18, slot := 15, constantValue := 0 }, { name := "minCruiseMach", type := .double, accessFlags := 18, slot := 16, constantValue := 0 }, { name := "ceiling", type := .double, accessFlags := 18, slot := 17, constantValue := 0 }]
  methods := #[k3m0, k3m1]
  instanceTypes := #[(.object "java/lang/String"), (.object "java/lang/String"), .double, .double, .double, .double, .double, .int, .double, .double, .double, .double, .double, .double, .double, .double, .double, .double]
  staticTypes := #[]
  resolved := Array.replicate 228 none
  statics := none }

def pool4 : Array CpInfo := pool [(1, .class_ 2), (0, u "java/io/Serializable"), (0, .class_ 4), (0, u "java/lang/Object")] 2

/-- java/io/Serializable -/
def k4 : Class := { plain "java/io/Serializable" (some 0) with
  accessFlags := 1537
  interfaces := #[]
  cf := some (fileOf pool4 1 #[] #[] 1537 3 #[] #[])
  fields := #[]
  methods := #[]
  instanceTypes := #[]
  staticTypes := #[]
  resolved := Array.replicate 7 none
  statics := none }

def pool5 : Array CpInfo := pool [(1, .class_ 2), (0, u "java/lang/Comparable"), (0, .class_ 4), (0, u "java/lang/Object")] 7

/-- java/lang/Comparable -/
def k5 : Class := { plain "java/lang/Comparable" (some 0) with
  accessFlags := 1537
  interfaces := #[]
  cf := some (fileOf pool5 1 #[] #[] 1537 3 #[] #[])
  fields := #[]
  methods := #[]
  instanceTypes := #[]
  staticTypes := #[]
  resolved := Array.replicate 12 none
  statics := none }

def pool6 : Array CpInfo := pool [(2, .class_ 4), (1, u "java/lang/CharSequence"), (42, .class_ 48), (0, u "java/lang/CharSequence$1CodePointIterator"), (10, .class_ 60), (0, u "java/lang/CharSequence$1CharIterator"), (5, .class_ 67), (0, u "java/lang/Object")] 63

/-- java/lang/CharSequence -/
def k6 : Class := { plain "java/lang/CharSequence" (some 0) with
  accessFlags := 1537
  interfaces := #[]
  cf := some (fileOf pool6 2 #[.nestMembers #[47, 59]] #[] 1537 66 #[] #[])
  fields := #[]
  methods := #[]
  instanceTypes := #[]
  staticTypes := #[]
  resolved := Array.replicate 131 none
  statics := none }

def pool7 : Array CpInfo := pool [(1, .class_ 2), (0, u "java/lang/constant/Constable"), (0, .class_ 4), (0, u "java/lang/Object")] 6

/-- java/lang/constant/Constable -/
def k7 : Class := { plain "java/lang/constant/Constable" (some 0) with
  accessFlags := 1537
  interfaces := #[]
  cf := some (fileOf pool7 1 #[] #[] 1537 3 #[] #[])
  fields := #[]
  methods := #[]
  instanceTypes := #[]
  staticTypes := #[]
  resolved := Array.replicate 11 none
  statics := none }

def pool8 : Array CpInfo := pool [(1, .class_ 2), (0, u "java/lang/constant/ConstantDesc"), (0, .class_ 4), (0, u "java/lang/Object")] 32

/-- java/lang/constant/ConstantDesc -/
def k8 : Class := { plain "java/lang/constant/ConstantDesc" (some 0) with
  accessFlags := 1537
  interfaces := #[]
  cf := some (fileOf pool8 1 #[] #[] 1537 3 #[] #[])
  fields := #[]
  methods := #[]
  instanceTypes := #[]
  staticTypes := #[]
  resolved := Array.replicate 37 none
  statics := none }

def pool9 : Array CpInfo := pool [(2, .class_ 4), (1, u "java/lang/Object"), (0, u "<init>"), (0, u "()V"), (3, .class_ 12), (1, u "java/lang/String"), (0, u "value"), (0, u "[B"), (2, u "coder"), (0, u "B"), (2, u "hash"), (0, u "I"), (2, u "hashIsZero"), (0, u "Z"), (13, u "COMPACT_STRINGS"), (534, .class_ 576), (0, u "java/lang/CharSequence"), (22, u "CASE_INSENSITIVE_ORDER"), (0, u "Ljava/util/Comparator;"), (500, u "serialPersistentFields"), (0, u "[Ljava/io/ObjectStreamField;"), (0, .class_ 1104), (0, u "java/lang/String$CaseInsensitiveComparator"), (1, .class_ 1107), (0, u "java/io/Serializable"), (0, .class_ 1109), (0, u "java/lang/Comparable"), (0, .class_ 1111), (0, u "java/lang/constant/Constable"), (0, .class_ 1113), (0, u "java/lang/constant/ConstantDesc"), (2, u "serialVersionUID"), (0, u "J"), (3, u "REPL"), (0, u "C"), (2, u "LATIN1"), (1, u "UTF16")] 323

def k9m0 : Method := { name := "<init>", desc := "()V", sig := { parameters := [], returnType := none }, accessFlags := 1, code := none }
/-- java/lang/String -/
def k9 : Class := { plain "java/lang/String" (some 0) with
  accessFlags := 49
  interfaces := #[4, 5, 6, 7, 8]
  cf := some (fileOf pool9 10 #[.nestMembers #[1103]] #[{ accessFlags := 1, nameIndex := 5, descriptorIndex := 6, attributes := #[] }] 49 2 #[1106, 1108, 575, 1110, 1112] #[{ accessFlags := 18, nameIndex := 13, descriptorIndex := 14, attributes := #[] }, { accessFlags := 18, nameIndex := 17, descriptorIndex := 18, attributes := #[] }, { accessFlags := 2, nameIndex := 21, descriptorIndex := 22, attributes := #[] }, { accessFlags := 2, nameIndex := 25, descriptorIndex := 26, attributes := #[] }, { accessFlags := 26, nameIndex := 1116, descriptorIndex := 1117, attributes := #[] }, { accessFlags := 24, nameIndex := 40, descriptorIndex := 26, attributes := #[] }, { accessFlags := 26, nameIndex := 1101, descriptorIndex := 1102, attributes := #[] }, { accessFlags := 26, nameIndex := 1121, descriptorIndex := 1122, attributes := #[] }, { accessFlags := 25, nameIndex := 599, descriptorIndex := 600, attributes := #[] }, { accessFlags := 24, nameIndex := 1125, descriptorIndex := 18, attributes := #[] }, { accessFlags := 24, nameIndex := 1127, descriptorIndex := 18, attributes := #[] }])
  fields := #[{ name := "value", type := (.array .byte), accessFlags := 18, slot := 0, constantValue := 0 }, { name := "coder", type := .byte, accessFlags := 18, slot := 1, constantValue := 0 }, { name := "hash", type := .int, accessFlags := 2, slot := 2, constantValue := 0 }, { name := "hashIsZero", type := .boolean, accessFlags := 2, slot := 3, constantValue := 0 }, { name := "serialVersionUID", type := .long, accessFlags := 26, slot := 0, constantValue := 0 }, { name := "COMPACT_STRINGS", type := .boolean, accessFlags := 24, slot := 1, constantValue := 0 }, { name := "serialPersistentFields", type := (.array (.object "java/io/ObjectStreamField")), accessFlags := 26, slot := 2, constantValue := 0 }, { name := "REPL", type := .char, accessFlags := 26, slot := 3, constantValue := 0 }, { name := "CASE_INSENSITIVE_ORDER", type := (.object "java/util/Comparator"), accessFlags := 25, slot := 4, constantValue := 0 }, { name := "LATIN1", type := .byte, accessFlags := 24, slot := 5, constantValue := 0 }, { name := "UTF16", type := .byte, accessFlags := 24, slot := 6, constantValue := 0 }]
  methods := #[k9m0]
  instanceTypes := #[(.array .byte), .byte, .int, .boolean]
  staticTypes := #[.long, .boolean, (.array (.object "java/io/ObjectStreamField")), .char, (.object "java/util/Comparator"), .byte, .byte]
  resolved := Array.replicate 1451 none
  statics := none }

def pool10 : Array CpInfo := pool [(1, u "java/lang/Cloneable"), (0, .class_ 1), (0, u "java/lang/Object"), (0, .class_ 3)] 3

/-- java/lang/Cloneable -/
def k10 : Class := { plain "java/lang/Cloneable" (some 0) with
  accessFlags := 1537
  interfaces := #[]
  cf := some (fileOf pool10 2 #[] #[] 1537 4 #[] #[])
  fields := #[]
  methods := #[]
  instanceTypes := #[]
  staticTypes := #[]
  resolved := Array.replicate 8 none
  statics := none }

/-- the primitive byte -/
def k11 : Class := { plain "byte" none with kind := .primitive 'B', accessFlags := 0x411 }
/-- [B -/
def k12 : Class := { plain "[B" (some 0) with kind := .array 11 .byte, interfaces := #[10, 4], accessFlags := 1041 }

/-- the primitive int -/
def k13 : Class := { plain "int" none with kind := .primitive 'I', accessFlags := 0x411 }
/-- [I -/
def k14 : Class := { plain "[I" (some 0) with kind := .array 13 .int, interfaces := #[10, 4], accessFlags := 1041 }

def heap : Heap := #[]
def classes : Array Class := #[k0, k1, k2, k3, k4, k5, k6, k7, k8, k9, k10, k11, k12, k13, k14]
def interned : List (Array UInt16 × Addr) := []
def slotsUsed : Nat := 0
def theMethod : MethodId := ⟨1, 1⟩
def args0 : Array Value := #[.int 5, .int 7, .int 0]
def aboutOver (below : List Frame) : State where
  vm := { classes := classes, interned := interned.toArray }
  heap := heap
  slotsUsed := slotsUsed
  threads := #[{ frames := .invoking theMethod args0 :: below }]
def below0 : List Frame := [.native { method := ⟨0, 0⟩, args := #[] }]
def about1 : State := aboutOver below0
def p0 : Program := .bare "" "" ""
def e0 : Env := launch0.env 0 0 0
theorem w_frames : about1.frames = Frame.invoking theMethod args0 :: below0 := rfl
set_option maxRecDepth 65536 in
theorem w_args : argsFit about1.vm theMethod args0 = true := by decide +kernel
set_option maxRecDepth 65536 in
theorem w_heap : heapFits about1 = true := by decide +kernel
set_option maxRecDepth 65536 in
theorem w_runnable : about1.curStatus? = some .runnable := by decide +kernel
set_option maxRecDepth 65536 in
theorem w_alone : about1.alone = true := by decide +kernel
set_option maxRecDepth 65536 in
theorem w_named : about1.methodNamed? x = some theMethod := by decide +kernel
set_option maxRecDepth 65536 in
theorem w_hears : about1.hears theMethod below0 = true := by decide +kernel
set_option maxRecDepth 65536 in
theorem w_ripe : about1.ripe theMethod args0 below0 = true := by decide +kernel
theorem w_running : about1.status = .running := rfl
set_option maxRecDepth 65536 in
theorem w_room : about1.hasRoom e0.platform room_1 = true :=
  launch0.hasRoom_least _ room_1 (by decide +kernel) (by decide +kernel) (by decide +kernel) (by decide +kernel) (by decide +kernel) (by decide +kernel)
theorem allAtoms_all (ts : List Jvm.Cond) (a : Array Jvm.Value) (st : Jvm.State) : (allAtoms ts).before a st = ts.all (fun c => c.before a st) := by
  induction ts with
  | nil => rfl
  | cons c t ih =>
    show (Jvm.Cond.and c (allAtoms t)).before a st = _
    rw [Jvm.Cond.before_and, ih, List.all_cons]
def words1 : List Jvm.Cond := Jvm.Cond.code x code maxLocals ret :: tables_1
/-- a 'code' word, met by the world's own term for the bytes: nothing is compared byte by byte -/
theorem code_word {y : MethodName} {bytes : ByteArray} {mx : Nat} {rt : Option FieldType} {a : Array Value} {s : State} {m : MethodId} {meth : Method} {c : Code} (h1 : s.methodNamed? y = some m) (h2 : s.vm.method? m = some meth) (h3 : meth.code = some c) (h4 : c.code = bytes)
    (h5 : (c.maxLocals == mx && c.exceptionTable.isEmpty && decide (c.maxStack ≤ mostOperands) && decide (meth.sig.returnType = rt) && !meth.locks && decide (parseMethodDescriptor y.desc = some meth.sig)) = true) : (Jvm.Cond.code y bytes mx rt).before a s = true := by
  simp only [Bool.and_eq_true, beq_iff_eq, Bool.not_eq_true', decide_eq_true_eq] at h5
  obtain ⟨⟨⟨⟨⟨g1, g2⟩, g3⟩, g4⟩, g5⟩, g6⟩ := h5
  simp [Cond.before, Cond.holds, Cond.value, h1, h2, h3, h4, g1, g2, g3, g4, g5, g6]
def isCode : Jvm.Cond → Bool
  | .code _ _ _ _ => true
  | _ => false
theorem all_split {L : List Jvm.Cond} {P : Jvm.Cond → Bool} (h1 : L.all (fun c => isCode c || P c) = true) (h2 : ∀ c ∈ L.filter isCode, P c = true) : L.all P = true := by
  refine List.all_eq_true.mpr fun c hc => ?_
  have h := List.all_eq_true.mp h1 c hc
  rcases Bool.eq_false_or_eq_true (isCode c) with hi | hi
  · exact h2 c (List.mem_filter.mpr ⟨hc, hi⟩)
  · simpa [hi] using h
set_option maxRecDepth 65536 in
theorem w_c0 : (Jvm.Cond.code x code maxLocals ret).before args0 about1 = true := code_word (m := ⟨1, 1⟩) (meth := k1m1) (c := k1c1) (by decide +kernel) rfl rfl rfl (by decide +kernel)
set_option maxRecDepth 65536 in
theorem w_c1 : (Jvm.Cond.code ({ cls := "com/example/skywright/skywright/performance/Aircraft", name := "<init>", desc := "(Ljava/lang/String;Ljava/lang/String;DDDDDIDDDDDDDDDD)V" } : Jvm.MethodName) prog_21_method_1_code (34 : Nat) (Option.none : Option Jvm.ClassFile.FieldType)).before args0 about1 = true := code_word (m := ⟨3, 0⟩) (meth := k3m0) (c := k3c0) (by decide +kernel) rfl rfl rfl (by decide +kernel)
set_option maxRecDepth 65536 in
theorem w_c2 : (Jvm.Cond.code ({ cls := "java/lang/Record", name := "<init>", desc := "()V" } : Jvm.MethodName) jdk_30_method_1_code (1 : Nat) (Option.none : Option Jvm.ClassFile.FieldType)).before args0 about1 = true := code_word (m := ⟨2, 0⟩) (meth := k2m0) (c := k2c0) (by decide +kernel) rfl rfl rfl (by decide +kernel)
set_option maxRecDepth 65536 in
theorem w_c3 : (Jvm.Cond.code ({ cls := "java/lang/Object", name := "<init>", desc := "()V" } : Jvm.MethodName) object_method_1_code (1 : Nat) (Option.none : Option Jvm.ClassFile.FieldType)).before args0 about1 = true := code_word (m := ⟨0, 0⟩) (meth := k0m0) (c := k0c0) (by decide +kernel) rfl rfl rfl (by decide +kernel)
set_option maxRecDepth 65536 in
theorem w_c4 : (Jvm.Cond.code ({ cls := "com/example/skywright/skywright/performance/Aircraft", name := "canCruiseAt", desc := "(I)Z" } : Jvm.MethodName) prog_21_method_2_code (2 : Nat) (Option.some Jvm.ClassFile.FieldType.boolean)).before args0 about1 = true := code_word (m := ⟨3, 1⟩) (meth := k3m1) (c := k3c1) (by decide +kernel) rfl rfl rfl (by decide +kernel)
def codes1 : List Jvm.Cond := [Jvm.Cond.code x code maxLocals ret, Jvm.Cond.code ({ cls := "com/example/skywright/skywright/performance/Aircraft", name := "<init>", desc := "(Ljava/lang/String;Ljava/lang/String;DDDDDIDDDDDDDDDD)V" } : Jvm.MethodName) prog_21_method_1_code (34 : Nat) (Option.none : Option Jvm.ClassFile.FieldType), Jvm.Cond.code ({ cls := "java/lang/Record", name := "<init>", desc := "()V" } : Jvm.MethodName) jdk_30_method_1_code (1 : Nat) (Option.none : Option Jvm.ClassFile.FieldType), Jvm.Cond.code ({ cls := "java/lang/Object", name := "<init>", desc := "()V" } : Jvm.MethodName) object_method_1_code (1 : Nat) (Option.none : Option Jvm.ClassFile.FieldType), Jvm.Cond.code ({ cls := "com/example/skywright/skywright/performance/Aircraft", name := "canCruiseAt", desc := "(I)Z" } : Jvm.MethodName) prog_21_method_2_code (2 : Nat) (Option.some Jvm.ClassFile.FieldType.boolean)]
set_option maxRecDepth 65536 in
theorem codes_eq : words1.filter isCode = codes1 := rfl
theorem w_codes : ∀ c ∈ words1.filter isCode, c.before args0 about1 = true := by
  rw [codes_eq]
  intro c hc
  simp only [codes1, List.mem_cons, List.not_mem_nil, or_false] at hc
  rcases hc with rfl | rfl | rfl | rfl | rfl
  · exact w_c0
  · exact w_c1
  · exact w_c2
  · exact w_c3
  · exact w_c4
set_option maxRecDepth 65536 in
theorem w_t1 : (words1.take 24).all (fun c => isCode c || c.before args0 about1) = true := by decide +kernel
set_option maxRecDepth 65536 in
theorem w_t2 : ((words1.drop 24).take 24).all (fun c => isCode c || c.before args0 about1) = true := by decide +kernel
set_option maxRecDepth 65536 in
theorem w_t3 : ((words1.drop 24).drop 24).all (fun c => isCode c || c.before args0 about1) = true := by decide +kernel
theorem w_tables : (allAtoms (Jvm.Cond.code x code maxLocals ret :: tables_1)).before args0 about1 = true := by
  rw [allAtoms_all]
  show words1.all (fun c => c.before args0 about1) = true
  refine all_split ?_ w_codes
  rw [← List.take_append_drop 24 words1, List.all_append, w_t1, ← List.take_append_drop 24 (words1.drop 24), List.all_append, w_t2, w_t3]
  rfl
set_option maxRecDepth 65536 in
theorem w_case : (Jvm.Cond.and given_1 narrow_1).before args0 about1 = true := by decide +kernel
theorem w_applies : (headSpec (Jvm.Cond.code x code maxLocals ret :: tables_1) room_1).applies x e0.platform about1 = true :=
  (Spec.applies_iff w_frames).mpr ⟨w_running, w_runnable, w_alone, w_named, w_hears, w_ripe, w_room, w_tables⟩
theorem atStart : AtStart classFile x code maxLocals ret World_1 tables_1 room_1 Calls_1 rest_1 Pre_1 launch0 p0 e0 about1 theMethod args0 below0 :=
  ⟨lists_1, trivial, launch0.admits_env _ _ _, launch0.least_env, fairChoices_fair.cas, fairChoices_fair.clock, w_frames, w_args, w_heap, w_applies, trivial, trivial, w_case⟩
end start1
theorem witness_1 : WitnessClaimed_1 := ⟨start1.p0, start1.e0, start1.about1, start1.theMethod, start1.args0, start1.below0, start1.atStart⟩
end Jvm.Pilot.@@N@@
