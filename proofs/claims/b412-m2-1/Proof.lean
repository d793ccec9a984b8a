import JvmDerived
import JvmDerived.Pilot.@@N@@Statement
import JvmDerived.Pilot.@@N@@Code
set_option linter.unusedVariables false
set_option linter.unusedSimpArgs false
namespace Jvm.Pilot.@@N@@
open Jvm Jvm.ClassFile Sem Op Lib Jvm.Free Jvm.Stand Jvm.LawKit Jvm.RoadKit Bundle Jvm.Pilot.@@N@@.Jvm.D
section OwnKit
variable {p : Program} {l : Launch} {e : Env} {R : Room} {s : State} {m : MethodId} {args : Array Value} {below : List Frame} {meth : Method} {c : Code} {T : State} {locs : List Loc} {cells slots : Nat} {P : State → Outcome → Prop} {pc : Nat} {Ls : Array Slot} {st : List Value} {Z : State} {a0 : Array Value} {h : Heap} {own : String} {index : Nat}
/-- what is still owed from a state on -/
def Go (p : Program) (e : Env) (below : List Frame) (P : State → Outcome → Prop) (S : State) : Prop := ∃ s₂ o, Steps p.tables e below S s₂ ∧ s₂.status = .running ∧ Ended s₂ below o ∧ P s₂ o
theorem Go.by {S S' : State} (st : ∀ t, Steps p.tables e below S' t → Steps p.tables e below S t) (k : Go p e below P S') : Go p e below P S := by
  obtain ⟨a, b, h1, h2⟩ := k
  exact ⟨a, b, st _ h1, h2⟩
def Ret (s : State) (Q : Option Value → Heap → List Loc → Prop) (C N : Nat) (s₂ : State) (o : Outcome) : Prop := ∃ v L, o = .returned v ∧ Q v s₂.heap L ∧ FrameEnd s o s₂ L C N

theorem g_iloadN (X : Stand p l e R s m args below meth c T locs cells slots) (hx : p.tables.exec = Jvm.exec) {k : Fin 4} {v : Int32} (hd : decode c.code pc = .ok (.iload_n k, 1)) (hl : Ls[k.val]? = some (.val (.int v))) (q : Go p e below P (T.setTop (mkF m (pc + 1) Ls (.int v :: st)))) : Go p e below P (T.setTop (mkF m pc Ls st)) := q.by fun t r => XS.iloadN X.here hx rfl hd hl r
theorem g_iload (X : Stand p l e R s m args below meth c T locs cells slots) (hx : p.tables.exec = Jvm.exec) {k : Nat} {v : Int32} (hd : decode c.code pc = .ok (.iload k, 2)) (hl : Ls[k]? = some (.val (.int v))) (q : Go p e below P (T.setTop (mkF m (pc + 2) Ls (.int v :: st)))) : Go p e below P (T.setTop (mkF m pc Ls st)) := q.by fun t r => XS.iload X.here hx rfl hd hl r
theorem g_lloadN (X : Stand p l e R s m args below meth c T locs cells slots) (hx : p.tables.exec = Jvm.exec) {k : Fin 4} {v : Int64} (hd : decode c.code pc = .ok (.lload_n k, 1)) (hl : Ls[k.val]? = some (.val (.long v))) (q : Go p e below P (T.setTop (mkF m (pc + 1) Ls (.long v :: st)))) : Go p e below P (T.setTop (mkF m pc Ls st)) := q.by fun t r => XS.lloadN X.here hx rfl hd hl r
theorem g_lload (X : Stand p l e R s m args below meth c T locs cells slots) (hx : p.tables.exec = Jvm.exec) {k : Nat} {v : Int64} (hd : decode c.code pc = .ok (.lload k, 2)) (hl : Ls[k]? = some (.val (.long v))) (q : Go p e below P (T.setTop (mkF m (pc + 2) Ls (.long v :: st)))) : Go p e below P (T.setTop (mkF m pc Ls st)) := q.by fun t r => XS.lload X.here hx rfl hd hl r
theorem g_dloadN (X : Stand p l e R s m args below meth c T locs cells slots) (hx : p.tables.exec = Jvm.exec) {k : Fin 4} {v : UInt64} (hd : decode c.code pc = .ok (.dload_n k, 1)) (hl : Ls[k.val]? = some (.val (.double v))) (q : Go p e below P (T.setTop (mkF m (pc + 1) Ls (.double v :: st)))) : Go p e below P (T.setTop (mkF m pc Ls st)) := q.by fun t r => XS.dloadN X.here hx rfl hd hl r
theorem g_dload (X : Stand p l e R s m args below meth c T locs cells slots) (hx : p.tables.exec = Jvm.exec) {k : Nat} {v : UInt64} (hd : decode c.code pc = .ok (.dload k, 2)) (hl : Ls[k]? = some (.val (.double v))) (q : Go p e below P (T.setTop (mkF m (pc + 2) Ls (.double v :: st)))) : Go p e below P (T.setTop (mkF m pc Ls st)) := q.by fun t r => XS.dload X.here hx rfl hd hl r
theorem g_floadN (X : Stand p l e R s m args below meth c T locs cells slots) (hx : p.tables.exec = Jvm.exec) {k : Fin 4} {v : UInt32} (hd : decode c.code pc = .ok (.fload_n k, 1)) (hl : Ls[k.val]? = some (.val (.float v))) (q : Go p e below P (T.setTop (mkF m (pc + 1) Ls (.float v :: st)))) : Go p e below P (T.setTop (mkF m pc Ls st)) := q.by fun t r => XS.floadN X.here hx rfl hd hl r
theorem g_fload (X : Stand p l e R s m args below meth c T locs cells slots) (hx : p.tables.exec = Jvm.exec) {k : Nat} {v : UInt32} (hd : decode c.code pc = .ok (.fload k, 2)) (hl : Ls[k]? = some (.val (.float v))) (q : Go p e below P (T.setTop (mkF m (pc + 2) Ls (.float v :: st)))) : Go p e below P (T.setTop (mkF m pc Ls st)) := q.by fun t r => XS.fload X.here hx rfl hd hl r
theorem g_aloadN (X : Stand p l e R s m args below meth c T locs cells slots) (hx : p.tables.exec = Jvm.exec) {k : Fin 4} {v : Value} (hd : decode c.code pc = .ok (.aload_n k, 1)) (hl : Ls[k.val]? = some (.val v)) (hv : v.isRef = true) (q : Go p e below P (T.setTop (mkF m (pc + 1) Ls (v :: st)))) : Go p e below P (T.setTop (mkF m pc Ls st)) := q.by fun t r => XS.aloadN X.here hx rfl hd hl hv r
theorem g_aload (X : Stand p l e R s m args below meth c T locs cells slots) (hx : p.tables.exec = Jvm.exec) {k : Nat} {v : Value} (hd : decode c.code pc = .ok (.aload k, 2)) (hl : Ls[k]? = some (.val v)) (hv : v.isRef = true) (q : Go p e below P (T.setTop (mkF m (pc + 2) Ls (v :: st)))) : Go p e below P (T.setTop (mkF m pc Ls st)) := q.by fun t r => XS.aload X.here hx rfl hd hl hv r
theorem g_istoreN (X : Stand p l e R s m args below meth c T locs cells slots) (hx : p.tables.exec = Jvm.exec) {k : Fin 4} {v : Int32} {L' : Array Slot} (hd : decode c.code pc = .ok (.istore_n k, 1)) (hl : storeLocals Ls k.val (.int v) = some L') (q : Go p e below P (T.setTop (mkF m (pc + 1) L' st))) : Go p e below P (T.setTop (mkF m pc Ls (.int v :: st))) := q.by fun t r => XS.istoreN X.here hx rfl hd rfl hl r
theorem g_istore (X : Stand p l e R s m args below meth c T locs cells slots) (hx : p.tables.exec = Jvm.exec) {k : Nat} {v : Int32} {L' : Array Slot} (hd : decode c.code pc = .ok (.istore k, 2)) (hl : storeLocals Ls k (.int v) = some L') (q : Go p e below P (T.setTop (mkF m (pc + 2) L' st))) : Go p e below P (T.setTop (mkF m pc Ls (.int v :: st))) := q.by fun t r => XS.istore X.here hx rfl hd rfl hl r
theorem g_lstoreN (X : Stand p l e R s m args below meth c T locs cells slots) (hx : p.tables.exec = Jvm.exec) {k : Fin 4} {v : Int64} {L' : Array Slot} (hd : decode c.code pc = .ok (.lstore_n k, 1)) (hl : storeLocals Ls k.val (.long v) = some L') (q : Go p e below P (T.setTop (mkF m (pc + 1) L' st))) : Go p e below P (T.setTop (mkF m pc Ls (.long v :: st))) := q.by fun t r => XS.lstoreN X.here hx rfl hd rfl hl r
theorem g_lstore (X : Stand p l e R s m args below meth c T locs cells slots) (hx : p.tables.exec = Jvm.exec) {k : Nat} {v : Int64} {L' : Array Slot} (hd : decode c.code pc = .ok (.lstore k, 2)) (hl : storeLocals Ls k (.long v) = some L') (q : Go p e below P (T.setTop (mkF m (pc + 2) L' st))) : Go p e below P (T.setTop (mkF m pc Ls (.long v :: st))) := q.by fun t r => XS.lstore X.here hx rfl hd rfl hl r
theorem g_dstoreN (X : Stand p l e R s m args below meth c T locs cells slots) (hx : p.tables.exec = Jvm.exec) {k : Fin 4} {v : UInt64} {L' : Array Slot} (hd : decode c.code pc = .ok (.dstore_n k, 1)) (hl : storeLocals Ls k.val (.double v) = some L') (q : Go p e below P (T.setTop (mkF m (pc + 1) L' st))) : Go p e below P (T.setTop (mkF m pc Ls (.double v :: st))) := q.by fun t r => XS.dstoreN X.here hx rfl hd rfl hl r
theorem g_dstore (X : Stand p l e R s m args below meth c T locs cells slots) (hx : p.tables.exec = Jvm.exec) {k : Nat} {v : UInt64} {L' : Array Slot} (hd : decode c.code pc = .ok (.dstore k, 2)) (hl : storeLocals Ls k (.double v) = some L') (q : Go p e below P (T.setTop (mkF m (pc + 2) L' st))) : Go p e below P (T.setTop (mkF m pc Ls (.double v :: st))) := q.by fun t r => XS.dstore X.here hx rfl hd rfl hl r
theorem g_fstoreN (X : Stand p l e R s m args below meth c T locs cells slots) (hx : p.tables.exec = Jvm.exec) {k : Fin 4} {v : UInt32} {L' : Array Slot} (hd : decode c.code pc = .ok (.fstore_n k, 1)) (hl : storeLocals Ls k.val (.float v) = some L') (q : Go p e below P (T.setTop (mkF m (pc + 1) L' st))) : Go p e below P (T.setTop (mkF m pc Ls (.float v :: st))) := q.by fun t r => XS.fstoreN X.here hx rfl hd rfl hl r
theorem g_fstore (X : Stand p l e R s m args below meth c T locs cells slots) (hx : p.tables.exec = Jvm.exec) {k : Nat} {v : UInt32} {L' : Array Slot} (hd : decode c.code pc = .ok (.fstore k, 2)) (hl : storeLocals Ls k (.float v) = some L') (q : Go p e below P (T.setTop (mkF m (pc + 2) L' st))) : Go p e below P (T.setTop (mkF m pc Ls (.float v :: st))) := q.by fun t r => XS.fstore X.here hx rfl hd rfl hl r
theorem g_astoreN (X : Stand p l e R s m args below meth c T locs cells slots) (hx : p.tables.exec = Jvm.exec) {k : Fin 4} {v : Value} {L' : Array Slot} (hd : decode c.code pc = .ok (.astore_n k, 1)) (hv : v.isRef = true) (hl : storeLocals Ls k.val v = some L') (q : Go p e below P (T.setTop (mkF m (pc + 1) L' st))) : Go p e below P (T.setTop (mkF m pc Ls (v :: st))) := q.by fun t r => XS.astoreN X.here hx rfl hd rfl hv hl r
theorem g_astore (X : Stand p l e R s m args below meth c T locs cells slots) (hx : p.tables.exec = Jvm.exec) {k : Nat} {v : Value} {L' : Array Slot} (hd : decode c.code pc = .ok (.astore k, 2)) (hv : v.isRef = true) (hl : storeLocals Ls k v = some L') (q : Go p e below P (T.setTop (mkF m (pc + 2) L' st))) : Go p e below P (T.setTop (mkF m pc Ls (v :: st))) := q.by fun t r => XS.astore X.here hx rfl hd rfl hv hl r
theorem g_iconst (X : Stand p l e R s m args below meth c T locs cells slots) (hx : p.tables.exec = Jvm.exec) {i : Int} {v : Int32} (hd : decode c.code pc = .ok (.iconst i, 1)) (hv : Int32.ofInt i = v) (q : Go p e below P (T.setTop (mkF m (pc + 1) Ls (.int v :: st)))) : Go p e below P (T.setTop (mkF m pc Ls st)) := q.by fun t r => XS.iconst X.here hx rfl hd (hv ▸ r)
theorem g_bipush (X : Stand p l e R s m args below meth c T locs cells slots) (hx : p.tables.exec = Jvm.exec) {i : Int} {v : Int32} (hd : decode c.code pc = .ok (.bipush i, 2)) (hv : (Int8.ofInt i).toInt32 = v) (q : Go p e below P (T.setTop (mkF m (pc + 2) Ls (.int v :: st)))) : Go p e below P (T.setTop (mkF m pc Ls st)) := q.by fun t r => XS.bipush X.here hx rfl hd (hv ▸ r)
theorem g_sipush (X : Stand p l e R s m args below meth c T locs cells slots) (hx : p.tables.exec = Jvm.exec) {i : Int} {v : Int32} (hd : decode c.code pc = .ok (.sipush i, 3)) (hv : (Int16.ofInt i).toInt32 = v) (q : Go p e below P (T.setTop (mkF m (pc + 3) Ls (.int v :: st)))) : Go p e below P (T.setTop (mkF m pc Ls st)) := q.by fun t r => XS.sipush X.here hx rfl hd (hv ▸ r)
theorem g_lconst0 (X : Stand p l e R s m args below meth c T locs cells slots) (hx : p.tables.exec = Jvm.exec)  (hd : decode c.code pc = .ok (.lconst 0, 1))  (q : Go p e below P (T.setTop (mkF m (pc + 1) Ls (.long 0 :: st)))) : Go p e below P (T.setTop (mkF m pc Ls st)) := q.by fun t r => XS.lconst X.here hx rfl hd r
theorem g_lconst1 (X : Stand p l e R s m args below meth c T locs cells slots) (hx : p.tables.exec = Jvm.exec)  (hd : decode c.code pc = .ok (.lconst 1, 1))  (q : Go p e below P (T.setTop (mkF m (pc + 1) Ls (.long 1 :: st)))) : Go p e below P (T.setTop (mkF m pc Ls st)) := q.by fun t r => XS.lconst X.here hx rfl hd r
theorem g_aconst_null (X : Stand p l e R s m args below meth c T locs cells slots) (hx : p.tables.exec = Jvm.exec)  (hd : decode c.code pc = .ok (.aconst_null, 1))  (q : Go p e below P (T.setTop (mkF m (pc + 1) Ls (.null :: st)))) : Go p e below P (T.setTop (mkF m pc Ls st)) := q.by fun t r => XS.aconstNull X.here hx rfl hd r
theorem g_dconst0 (X : Stand p l e R s m args below meth c T locs cells slots) (hx : p.tables.exec = Jvm.exec)  (hd : decode c.code pc = .ok (.dconst 0, 1))  (q : Go p e below P (T.setTop (mkF m (pc + 1) Ls (.double 0 :: st)))) : Go p e below P (T.setTop (mkF m pc Ls st)) := q.by fun t r => XS.dconst0 X.here hx rfl hd rfl r
theorem g_dconst1 (X : Stand p l e R s m args below meth c T locs cells slots) (hx : p.tables.exec = Jvm.exec)  (hd : decode c.code pc = .ok (.dconst 1, 1))  (q : Go p e below P (T.setTop (mkF m (pc + 1) Ls (.double 4607182418800017408 :: st)))) : Go p e below P (T.setTop (mkF m pc Ls st)) := q.by fun t r => XS.dconst1 X.here hx rfl hd rfl r
theorem g_iadd (X : Stand p l e R s m args below meth c T locs cells slots) (hx : p.tables.exec = Jvm.exec) {x y v : Int32} (hd : decode c.code pc = .ok (.iadd, 1)) (hv : x + y = v) (q : Go p e below P (T.setTop (mkF m (pc + 1) Ls (.int v :: st)))) : Go p e below P (T.setTop (mkF m pc Ls (.int y :: .int x :: st))) := q.by fun t r => XS.iadd X.here hx rfl hd rfl (hv ▸ r)
theorem g_isub (X : Stand p l e R s m args below meth c T locs cells slots) (hx : p.tables.exec = Jvm.exec) {x y v : Int32} (hd : decode c.code pc = .ok (.isub, 1)) (hv : x - y = v) (q : Go p e below P (T.setTop (mkF m (pc + 1) Ls (.int v :: st)))) : Go p e below P (T.setTop (mkF m pc Ls (.int y :: .int x :: st))) := q.by fun t r => XS.isub X.here hx rfl hd rfl (hv ▸ r)
theorem g_imul (X : Stand p l e R s m args below meth c T locs cells slots) (hx : p.tables.exec = Jvm.exec) {x y v : Int32} (hd : decode c.code pc = .ok (.imul, 1)) (hv : x * y = v) (q : Go p e below P (T.setTop (mkF m (pc + 1) Ls (.int v :: st)))) : Go p e below P (T.setTop (mkF m pc Ls (.int y :: .int x :: st))) := q.by fun t r => XS.imul X.here hx rfl hd rfl (hv ▸ r)
theorem g_iand (X : Stand p l e R s m args below meth c T locs cells slots) (hx : p.tables.exec = Jvm.exec) {x y v : Int32} (hd : decode c.code pc = .ok (.iand, 1)) (hv : x &&& y = v) (q : Go p e below P (T.setTop (mkF m (pc + 1) Ls (.int v :: st)))) : Go p e below P (T.setTop (mkF m pc Ls (.int y :: .int x :: st))) := q.by fun t r => XS.iand X.here hx rfl hd rfl (hv ▸ r)
theorem g_ior (X : Stand p l e R s m args below meth c T locs cells slots) (hx : p.tables.exec = Jvm.exec) {x y v : Int32} (hd : decode c.code pc = .ok (.ior, 1)) (hv : x ||| y = v) (q : Go p e below P (T.setTop (mkF m (pc + 1) Ls (.int v :: st)))) : Go p e below P (T.setTop (mkF m pc Ls (.int y :: .int x :: st))) := q.by fun t r => XS.ior X.here hx rfl hd rfl (hv ▸ r)
theorem g_ixor (X : Stand p l e R s m args below meth c T locs cells slots) (hx : p.tables.exec = Jvm.exec) {x y v : Int32} (hd : decode c.code pc = .ok (.ixor, 1)) (hv : x ^^^ y = v) (q : Go p e below P (T.setTop (mkF m (pc + 1) Ls (.int v :: st)))) : Go p e below P (T.setTop (mkF m pc Ls (.int y :: .int x :: st))) := q.by fun t r => XS.ixor X.here hx rfl hd rfl (hv ▸ r)
theorem g_ladd (X : Stand p l e R s m args below meth c T locs cells slots) (hx : p.tables.exec = Jvm.exec) {x y v : Int64} (hd : decode c.code pc = .ok (.ladd, 1)) (hv : x + y = v) (q : Go p e below P (T.setTop (mkF m (pc + 1) Ls (.long v :: st)))) : Go p e below P (T.setTop (mkF m pc Ls (.long y :: .long x :: st))) := q.by fun t r => XS.ladd X.here hx rfl hd rfl (hv ▸ r)
theorem g_lsub (X : Stand p l e R s m args below meth c T locs cells slots) (hx : p.tables.exec = Jvm.exec) {x y v : Int64} (hd : decode c.code pc = .ok (.lsub, 1)) (hv : x - y = v) (q : Go p e below P (T.setTop (mkF m (pc + 1) Ls (.long v :: st)))) : Go p e below P (T.setTop (mkF m pc Ls (.long y :: .long x :: st))) := q.by fun t r => XS.lsub X.here hx rfl hd rfl (hv ▸ r)
theorem g_lmul (X : Stand p l e R s m args below meth c T locs cells slots) (hx : p.tables.exec = Jvm.exec) {x y v : Int64} (hd : decode c.code pc = .ok (.lmul, 1)) (hv : x * y = v) (q : Go p e below P (T.setTop (mkF m (pc + 1) Ls (.long v :: st)))) : Go p e below P (T.setTop (mkF m pc Ls (.long y :: .long x :: st))) := q.by fun t r => XS.lmul X.here hx rfl hd rfl (hv ▸ r)
theorem g_land (X : Stand p l e R s m args below meth c T locs cells slots) (hx : p.tables.exec = Jvm.exec) {x y v : Int64} (hd : decode c.code pc = .ok (.land, 1)) (hv : x &&& y = v) (q : Go p e below P (T.setTop (mkF m (pc + 1) Ls (.long v :: st)))) : Go p e below P (T.setTop (mkF m pc Ls (.long y :: .long x :: st))) := q.by fun t r => XS.land X.here hx rfl hd rfl (hv ▸ r)
theorem g_lor (X : Stand p l e R s m args below meth c T locs cells slots) (hx : p.tables.exec = Jvm.exec) {x y v : Int64} (hd : decode c.code pc = .ok (.lor, 1)) (hv : x ||| y = v) (q : Go p e below P (T.setTop (mkF m (pc + 1) Ls (.long v :: st)))) : Go p e below P (T.setTop (mkF m pc Ls (.long y :: .long x :: st))) := q.by fun t r => XS.lor X.here hx rfl hd rfl (hv ▸ r)
theorem g_ishl (X : Stand p l e R s m args below meth c T locs cells slots) (hx : p.tables.exec = Jvm.exec) {x y v : Int32} (hd : decode c.code pc = .ok (.ishl, 1)) (hv : x <<< (y &&& 31) = v) (q : Go p e below P (T.setTop (mkF m (pc + 1) Ls (.int v :: st)))) : Go p e below P (T.setTop (mkF m pc Ls (.int y :: .int x :: st))) := q.by fun t r => XS.ishl X.here hx rfl hd rfl (hv ▸ r)
theorem g_ishr (X : Stand p l e R s m args below meth c T locs cells slots) (hx : p.tables.exec = Jvm.exec) {x y v : Int32} (hd : decode c.code pc = .ok (.ishr, 1)) (hv : x >>> (y &&& 31) = v) (q : Go p e below P (T.setTop (mkF m (pc + 1) Ls (.int v :: st)))) : Go p e below P (T.setTop (mkF m pc Ls (.int y :: .int x :: st))) := q.by fun t r => XS.ishr X.here hx rfl hd rfl (hv ▸ r)
theorem g_iushr (X : Stand p l e R s m args below meth c T locs cells slots) (hx : p.tables.exec = Jvm.exec) {x y v : Int32} (hd : decode c.code pc = .ok (.iushr, 1)) (hv : (x.toUInt32 >>> (y &&& 31).toUInt32).toInt32 = v) (q : Go p e below P (T.setTop (mkF m (pc + 1) Ls (.int v :: st)))) : Go p e below P (T.setTop (mkF m pc Ls (.int y :: .int x :: st))) := q.by fun t r => XS.iushr X.here hx rfl hd rfl (hv ▸ r)
theorem g_idiv (X : Stand p l e R s m args below meth c T locs cells slots) (hx : p.tables.exec = Jvm.exec) {x y v : Int32} (hd : decode c.code pc = .ok (.idiv, 1)) (hy : y ≠ 0) (hv : x / y = v) (q : Go p e below P (T.setTop (mkF m (pc + 1) Ls (.int v :: st)))) : Go p e below P (T.setTop (mkF m pc Ls (.int y :: .int x :: st))) := q.by fun t r => XS.idiv X.here hx rfl hd rfl hy (hv ▸ r)
theorem g_irem (X : Stand p l e R s m args below meth c T locs cells slots) (hx : p.tables.exec = Jvm.exec) {x y v : Int32} (hd : decode c.code pc = .ok (.irem, 1)) (hy : y ≠ 0) (hv : x % y = v) (q : Go p e below P (T.setTop (mkF m (pc + 1) Ls (.int v :: st)))) : Go p e below P (T.setTop (mkF m pc Ls (.int y :: .int x :: st))) := q.by fun t r => XS.irem X.here hx rfl hd rfl hy (irem_eq_mod x y ▸ hv ▸ r)
theorem g_ldiv (X : Stand p l e R s m args below meth c T locs cells slots) (hx : p.tables.exec = Jvm.exec) {x y v : Int64} (hd : decode c.code pc = .ok (.ldiv, 1)) (hy : y ≠ 0) (hv : x / y = v) (q : Go p e below P (T.setTop (mkF m (pc + 1) Ls (.long v :: st)))) : Go p e below P (T.setTop (mkF m pc Ls (.long y :: .long x :: st))) := q.by fun t r => XS.ldiv X.here hx rfl hd rfl hy (hv ▸ r)
theorem g_lshl (X : Stand p l e R s m args below meth c T locs cells slots) (hx : p.tables.exec = Jvm.exec) {x v : Int64} {y : Int32} (hd : decode c.code pc = .ok (.lshl, 1)) (hv : x <<< (y &&& 0x3f).toInt64 = v) (q : Go p e below P (T.setTop (mkF m (pc + 1) Ls (.long v :: st)))) : Go p e below P (T.setTop (mkF m pc Ls (.int y :: .long x :: st))) := q.by fun t r => XS.lshl X.here hx rfl hd rfl (hv ▸ r)
theorem g_lshr (X : Stand p l e R s m args below meth c T locs cells slots) (hx : p.tables.exec = Jvm.exec) {x v : Int64} {y : Int32} (hd : decode c.code pc = .ok (.lshr, 1)) (hv : x >>> (y &&& 0x3f).toInt64 = v) (q : Go p e below P (T.setTop (mkF m (pc + 1) Ls (.long v :: st)))) : Go p e below P (T.setTop (mkF m pc Ls (.int y :: .long x :: st))) := q.by fun t r => XS.lshr X.here hx rfl hd rfl (hv ▸ r)
theorem g_lushr (X : Stand p l e R s m args below meth c T locs cells slots) (hx : p.tables.exec = Jvm.exec) {x v : Int64} {y : Int32} (hd : decode c.code pc = .ok (.lushr, 1)) (hv : (x.toUInt64 >>> (y &&& 0x3f).toInt64.toUInt64).toInt64 = v) (q : Go p e below P (T.setTop (mkF m (pc + 1) Ls (.long v :: st)))) : Go p e below P (T.setTop (mkF m pc Ls (.int y :: .long x :: st))) := q.by fun t r => XS.lushr X.here hx rfl hd rfl (hv ▸ r)
theorem g_lcmp (X : Stand p l e R s m args below meth c T locs cells slots) (hx : p.tables.exec = Jvm.exec) {x y : Int64} (hd : decode c.code pc = .ok (.lcmp, 1))  (q : Go p e below P (T.setTop (mkF m (pc + 1) Ls (.int (lcmpW x y) :: st)))) : Go p e below P (T.setTop (mkF m pc Ls (.long y :: .long x :: st))) := q.by fun t r => XS.lcmp X.here hx rfl hd rfl r
theorem g_ineg (X : Stand p l e R s m args below meth c T locs cells slots) (hx : p.tables.exec = Jvm.exec) {x : Int32} {v : Int32} (hd : decode c.code pc = .ok (.ineg, 1)) (hv : -x = v) (q : Go p e below P (T.setTop (mkF m (pc + 1) Ls (.int v :: st)))) : Go p e below P (T.setTop (mkF m pc Ls (.int x :: st))) := q.by fun t r => XS.ineg X.here hx rfl hd rfl (hv ▸ r)
theorem g_lneg (X : Stand p l e R s m args below meth c T locs cells slots) (hx : p.tables.exec = Jvm.exec) {x : Int64} {v : Int64} (hd : decode c.code pc = .ok (.lneg, 1)) (hv : -x = v) (q : Go p e below P (T.setTop (mkF m (pc + 1) Ls (.long v :: st)))) : Go p e below P (T.setTop (mkF m pc Ls (.long x :: st))) := q.by fun t r => XS.lneg X.here hx rfl hd rfl (hv ▸ r)
theorem g_i2l (X : Stand p l e R s m args below meth c T locs cells slots) (hx : p.tables.exec = Jvm.exec) {x : Int32} {v : Int64} (hd : decode c.code pc = .ok (.i2l, 1)) (hv : x.toInt64 = v) (q : Go p e below P (T.setTop (mkF m (pc + 1) Ls (.long v :: st)))) : Go p e below P (T.setTop (mkF m pc Ls (.int x :: st))) := q.by fun t r => XS.i2l X.here hx rfl hd rfl (hv ▸ r)
theorem g_l2i (X : Stand p l e R s m args below meth c T locs cells slots) (hx : p.tables.exec = Jvm.exec) {x : Int64} {v : Int32} (hd : decode c.code pc = .ok (.l2i, 1)) (hv : x.toInt32 = v) (q : Go p e below P (T.setTop (mkF m (pc + 1) Ls (.int v :: st)))) : Go p e below P (T.setTop (mkF m pc Ls (.long x :: st))) := q.by fun t r => XS.l2i X.here hx rfl hd rfl (hv ▸ r)
theorem g_i2b (X : Stand p l e R s m args below meth c T locs cells slots) (hx : p.tables.exec = Jvm.exec) {x : Int32} {v : Int32} (hd : decode c.code pc = .ok (.i2b, 1)) (hv : x.toInt8.toInt32 = v) (q : Go p e below P (T.setTop (mkF m (pc + 1) Ls (.int v :: st)))) : Go p e below P (T.setTop (mkF m pc Ls (.int x :: st))) := q.by fun t r => XS.i2b X.here hx rfl hd rfl (hv ▸ r)
theorem g_i2c (X : Stand p l e R s m args below meth c T locs cells slots) (hx : p.tables.exec = Jvm.exec) {x : Int32} {v : Int32} (hd : decode c.code pc = .ok (.i2c, 1)) (hv : x.toUInt32.toUInt16.toUInt32.toInt32 = v) (q : Go p e below P (T.setTop (mkF m (pc + 1) Ls (.int v :: st)))) : Go p e below P (T.setTop (mkF m pc Ls (.int x :: st))) := q.by fun t r => XS.i2c X.here hx rfl hd rfl (hv ▸ r)
theorem g_i2s (X : Stand p l e R s m args below meth c T locs cells slots) (hx : p.tables.exec = Jvm.exec) {x : Int32} {v : Int32} (hd : decode c.code pc = .ok (.i2s, 1)) (hv : x.toInt16.toInt32 = v) (q : Go p e below P (T.setTop (mkF m (pc + 1) Ls (.int v :: st)))) : Go p e below P (T.setTop (mkF m pc Ls (.int x :: st))) := q.by fun t r => XS.i2s X.here hx rfl hd rfl (hv ▸ r)
theorem g_i2d (X : Stand p l e R s m args below meth c T locs cells slots) (hx : p.tables.exec = Jvm.exec) {x : Int32} {v : UInt64} (hd : decode c.code pc = .ok (.i2d, 1)) (hv : FP.i2d x = v) (q : Go p e below P (T.setTop (mkF m (pc + 1) Ls (.double v :: st)))) : Go p e below P (T.setTop (mkF m pc Ls (.int x :: st))) := q.by fun t r => XS.i2dS X.here hx rfl hd rfl hv r
theorem g_l2d (X : Stand p l e R s m args below meth c T locs cells slots) (hx : p.tables.exec = Jvm.exec) {x : Int64} {v : UInt64} (hd : decode c.code pc = .ok (.l2d, 1)) (hv : FP.l2d x = v) (q : Go p e below P (T.setTop (mkF m (pc + 1) Ls (.double v :: st)))) : Go p e below P (T.setTop (mkF m pc Ls (.long x :: st))) := q.by fun t r => XS.l2dS X.here hx rfl hd rfl hv r
theorem g_d2i (X : Stand p l e R s m args below meth c T locs cells slots) (hx : p.tables.exec = Jvm.exec) {x : UInt64} {v : Int32} (hd : decode c.code pc = .ok (.d2i, 1)) (hv : FP.d2i x = v) (q : Go p e below P (T.setTop (mkF m (pc + 1) Ls (.int v :: st)))) : Go p e below P (T.setTop (mkF m pc Ls (.double x :: st))) := q.by fun t r => XS.d2iS X.here hx rfl hd rfl hv r
theorem g_d2l (X : Stand p l e R s m args below meth c T locs cells slots) (hx : p.tables.exec = Jvm.exec) {x : UInt64} {v : Int64} (hd : decode c.code pc = .ok (.d2l, 1)) (hv : FP.d2l x = v) (q : Go p e below P (T.setTop (mkF m (pc + 1) Ls (.long v :: st)))) : Go p e below P (T.setTop (mkF m pc Ls (.double x :: st))) := q.by fun t r => XS.d2lS X.here hx rfl hd rfl hv r
theorem g_dneg (X : Stand p l e R s m args below meth c T locs cells slots) (hx : p.tables.exec = Jvm.exec) {x : UInt64} {v : UInt64} (hd : decode c.code pc = .ok (.dneg, 1)) (hv : FP.dneg x = v) (q : Go p e below P (T.setTop (mkF m (pc + 1) Ls (.double v :: st)))) : Go p e below P (T.setTop (mkF m pc Ls (.double x :: st))) := q.by fun t r => XS.dnegS X.here hx rfl hd rfl hv r
theorem g_i2f (X : Stand p l e R s m args below meth c T locs cells slots) (hx : p.tables.exec = Jvm.exec) {x : Int32} {v : UInt32} (hd : decode c.code pc = .ok (.i2f, 1)) (hv : FP.i2f x = v) (q : Go p e below P (T.setTop (mkF m (pc + 1) Ls (.float v :: st)))) : Go p e below P (T.setTop (mkF m pc Ls (.int x :: st))) := q.by fun t r => XS.i2fS X.here hx rfl hd rfl hv r
theorem g_l2f (X : Stand p l e R s m args below meth c T locs cells slots) (hx : p.tables.exec = Jvm.exec) {x : Int64} {v : UInt32} (hd : decode c.code pc = .ok (.l2f, 1)) (hv : FP.l2f x = v) (q : Go p e below P (T.setTop (mkF m (pc + 1) Ls (.float v :: st)))) : Go p e below P (T.setTop (mkF m pc Ls (.long x :: st))) := q.by fun t r => XS.l2fS X.here hx rfl hd rfl hv r
theorem g_fneg (X : Stand p l e R s m args below meth c T locs cells slots) (hx : p.tables.exec = Jvm.exec) {x : UInt32} {v : UInt32} (hd : decode c.code pc = .ok (.fneg, 1)) (hv : FP.fneg x = v) (q : Go p e below P (T.setTop (mkF m (pc + 1) Ls (.float v :: st)))) : Go p e below P (T.setTop (mkF m pc Ls (.float x :: st))) := q.by fun t r => XS.fnegS X.here hx rfl hd rfl hv r
theorem g_dadd (X : Stand p l e R s m args below meth c T locs cells slots) (hx : p.tables.exec = Jvm.exec) {x y v : UInt64} (hd : decode c.code pc = .ok (.dadd, 1)) (hn : Jvm.Free.Fl.NoNaN64 (FP.dadd x y)) (hv : FP.dadd x y = v) (q : Go p e below P (T.setTop (mkF m (pc + 1) Ls (.double v :: st)))) : Go p e below P (T.setTop (mkF m pc Ls (.double y :: .double x :: st))) := q.by fun t r => XS.daddS X.here hx rfl hd rfl hn hv r
theorem g_dsub (X : Stand p l e R s m args below meth c T locs cells slots) (hx : p.tables.exec = Jvm.exec) {x y v : UInt64} (hd : decode c.code pc = .ok (.dsub, 1)) (hn : Jvm.Free.Fl.NoNaN64 (FP.dsub x y)) (hv : FP.dsub x y = v) (q : Go p e below P (T.setTop (mkF m (pc + 1) Ls (.double v :: st)))) : Go p e below P (T.setTop (mkF m pc Ls (.double y :: .double x :: st))) := q.by fun t r => XS.dsubS X.here hx rfl hd rfl hn hv r
theorem g_dmul (X : Stand p l e R s m args below meth c T locs cells slots) (hx : p.tables.exec = Jvm.exec) {x y v : UInt64} (hd : decode c.code pc = .ok (.dmul, 1)) (hn : Jvm.Free.Fl.NoNaN64 (FP.dmul x y)) (hv : FP.dmul x y = v) (q : Go p e below P (T.setTop (mkF m (pc + 1) Ls (.double v :: st)))) : Go p e below P (T.setTop (mkF m pc Ls (.double y :: .double x :: st))) := q.by fun t r => XS.dmulS X.here hx rfl hd rfl hn hv r
theorem g_ddiv (X : Stand p l e R s m args below meth c T locs cells slots) (hx : p.tables.exec = Jvm.exec) {x y v : UInt64} (hd : decode c.code pc = .ok (.ddiv, 1)) (hn : Jvm.Free.Fl.NoNaN64 (FP.ddiv x y)) (hv : FP.ddiv x y = v) (q : Go p e below P (T.setTop (mkF m (pc + 1) Ls (.double v :: st)))) : Go p e below P (T.setTop (mkF m pc Ls (.double y :: .double x :: st))) := q.by fun t r => XS.ddivS X.here hx rfl hd rfl hn hv r
theorem g_dcmp (X : Stand p l e R s m args below meth c T locs cells slots) (hx : p.tables.exec = Jvm.exec) {o : CmpOp} {x y : UInt64} (hd : decode c.code pc = .ok (.dcmp o, 1))  (q : Go p e below P (T.setTop (mkF m (pc + 1) Ls (.int (cmpValue (FP.dcmp x y) o) :: st)))) : Go p e below P (T.setTop (mkF m pc Ls (.double y :: .double x :: st))) := q.by fun t r => XS.dcmpS X.here hx rfl hd rfl rfl r
theorem g_fcmp (X : Stand p l e R s m args below meth c T locs cells slots) (hx : p.tables.exec = Jvm.exec) {o : CmpOp} {x y : UInt32} (hd : decode c.code pc = .ok (.fcmp o, 1))  (q : Go p e below P (T.setTop (mkF m (pc + 1) Ls (.int (cmpValue (FP.fcmp x y) o) :: st)))) : Go p e below P (T.setTop (mkF m pc Ls (.float y :: .float x :: st))) := q.by fun t r => XS.fcmpS X.here hx rfl hd rfl rfl r
theorem g_dup (X : Stand p l e R s m args below meth c T locs cells slots) (hx : p.tables.exec = Jvm.exec) {x : Value} (hd : decode c.code pc = .ok (.dup, 1)) (hc : x.category = 1) (q : Go p e below P (T.setTop (mkF m (pc + 1) Ls (x :: x :: st)))) : Go p e below P (T.setTop (mkF m pc Ls (x :: st))) := q.by fun t r => XS.dup X.here hx rfl hd rfl hc r
theorem g_pop (X : Stand p l e R s m args below meth c T locs cells slots) (hx : p.tables.exec = Jvm.exec) {x : Value} (hd : decode c.code pc = .ok (.pop, 1)) (hc : x.category = 1) (q : Go p e below P (T.setTop (mkF m (pc + 1) Ls st))) : Go p e below P (T.setTop (mkF m pc Ls (x :: st))) := q.by fun t r => XS.pop X.here hx rfl hd rfl hc r
theorem g_dup2 (X : Stand p l e R s m args below meth c T locs cells slots) (hx : p.tables.exec = Jvm.exec) {x y : Value} (hd : decode c.code pc = .ok (.dup2, 1)) (hc : x.category = 1) (hc' : y.category = 1) (q : Go p e below P (T.setTop (mkF m (pc + 1) Ls (x :: y :: x :: y :: st)))) : Go p e below P (T.setTop (mkF m pc Ls (x :: y :: st))) := q.by fun t r => XT.dup2 X.here hx rfl hd rfl hc hc' r
theorem g_iinc (X : Stand p l e R s m args below meth c T locs cells slots) (hx : p.tables.exec = Jvm.exec) {k : Nat} {d : Int} {x : Int32} {L' : Array Slot} (hd : decode c.code pc = .ok (.iinc k d, 3)) (hl : Ls[k]? = some (.val (.int x))) (hs : storeLocals Ls k (.int (x + Int32.ofInt d)) = some L') (q : Go p e below P (T.setTop (mkF m (pc + 3) L' st))) : Go p e below P (T.setTop (mkF m pc Ls st)) := q.by fun t r => XS.iinc X.here hx rfl hd hl hs r
theorem g_goto (X : Stand p l e R s m args below meth c T locs cells slots) (hx : p.tables.exec = Jvm.exec)  {o : Int} {pc' : Nat} (hd : decode c.code pc = .ok (.goto o, 3))  (ho : 0 ≤ (pc : Int) + o) (hp : ((pc : Int) + o).toNat = pc') (q : Go p e below P (T.setTop (mkF m pc' Ls st))) : Go p e below P (T.setTop (mkF m pc Ls st)) := q.by fun t r => XS.goto X.here hx rfl rfl hd ho hp r
theorem g_ifYes (X : Stand p l e R s m args below meth c T locs cells slots) (hx : p.tables.exec = Jvm.exec) {cd : ClassFile.Cond} {x : Int32} {o : Int} {pc' : Nat} (hd : decode c.code pc = .ok (.ifCond cd o, 3)) (hc : if_icmp.holds cd x 0 = true) (ho : 0 ≤ (pc : Int) + o) (hp : ((pc : Int) + o).toNat = pc') (q : Go p e below P (T.setTop (mkF m pc' Ls st))) : Go p e below P (T.setTop (mkF m pc Ls (.int x :: st))) := q.by fun t r => XS.ifYes X.here hx rfl rfl hd rfl ((if0 _ _).trans hc) ho hp r
theorem g_icmpYes (X : Stand p l e R s m args below meth c T locs cells slots) (hx : p.tables.exec = Jvm.exec) {cd : ClassFile.Cond} {x y : Int32} {o : Int} {pc' : Nat} (hd : decode c.code pc = .ok (.if_icmp cd o, 3)) (hc : if_icmp.holds cd x y = true) (ho : 0 ≤ (pc : Int) + o) (hp : ((pc : Int) + o).toNat = pc') (q : Go p e below P (T.setTop (mkF m pc' Ls st))) : Go p e below P (T.setTop (mkF m pc Ls (.int y :: .int x :: st))) := q.by fun t r => XS.icmpYes X.here hx rfl rfl hd rfl hc ho hp r
theorem g_ifNo (X : Stand p l e R s m args below meth c T locs cells slots) (hx : p.tables.exec = Jvm.exec) {cd : ClassFile.Cond} {o : Int} {x : Int32} (hd : decode c.code pc = .ok (.ifCond cd o, 3)) (hc : if_icmp.holds cd x 0 = false) (q : Go p e below P (T.setTop (mkF m (pc + 3) Ls st))) : Go p e below P (T.setTop (mkF m pc Ls (.int x :: st))) := q.by fun t r => XS.ifNo X.here hx rfl hd rfl ((if0 _ _).trans hc) r
theorem g_icmpNo (X : Stand p l e R s m args below meth c T locs cells slots) (hx : p.tables.exec = Jvm.exec) {cd : ClassFile.Cond} {o : Int} {x y : Int32} (hd : decode c.code pc = .ok (.if_icmp cd o, 3)) (hc : if_icmp.holds cd x y = false) (q : Go p e below P (T.setTop (mkF m (pc + 3) Ls st))) : Go p e below P (T.setTop (mkF m pc Ls (.int y :: .int x :: st))) := q.by fun t r => XS.icmpNo X.here hx rfl hd rfl hc r
theorem g_ifnonnullYes (X : Stand p l e R s m args below meth c T locs cells slots) (hx : p.tables.exec = Jvm.exec) {b : Addr} {o : Int} {pc' : Nat} (hd : decode c.code pc = .ok (.ifnonnull o, 3))  (ho : 0 ≤ (pc : Int) + o) (hp : ((pc : Int) + o).toNat = pc') (q : Go p e below P (T.setTop (mkF m pc' Ls st))) : Go p e below P (T.setTop (mkF m pc Ls (.ref b :: st))) := q.by fun t r => XS.ifnonnullYes X.here hx rfl rfl hd rfl ho hp r
theorem g_ifnonnullNo (X : Stand p l e R s m args below meth c T locs cells slots) (hx : p.tables.exec = Jvm.exec) {o : Int} (hd : decode c.code pc = .ok (.ifnonnull o, 3))  (q : Go p e below P (T.setTop (mkF m (pc + 3) Ls st))) : Go p e below P (T.setTop (mkF m pc Ls (.null :: st))) := q.by fun t r => XS.ifnonnullNo X.here hx rfl hd rfl r
theorem g_ifnullYes (X : Stand p l e R s m args below meth c T locs cells slots) (hx : p.tables.exec = Jvm.exec)  {o : Int} {pc' : Nat} (hd : decode c.code pc = .ok (.ifnull o, 3))  (ho : 0 ≤ (pc : Int) + o) (hp : ((pc : Int) + o).toNat = pc') (q : Go p e below P (T.setTop (mkF m pc' Ls st))) : Go p e below P (T.setTop (mkF m pc Ls (.null :: st))) := q.by fun t r => XS.ifnullYes X.here hx rfl rfl hd rfl ho hp r
theorem g_ifnullNo (X : Stand p l e R s m args below meth c T locs cells slots) (hx : p.tables.exec = Jvm.exec) {o : Int} {b : Addr} (hd : decode c.code pc = .ok (.ifnull o, 3))  (q : Go p e below P (T.setTop (mkF m (pc + 3) Ls st))) : Go p e below P (T.setTop (mkF m pc Ls (.ref b :: st))) := q.by fun t r => XS.ifnullNo X.here hx rfl hd rfl r
theorem g_drem (X : Stand p l e R s m args below meth c T locs cells slots) (hx : p.tables.exec = Jvm.exec) {x y v : UInt64} (hd : decode c.code pc = .ok (.drem, 1)) (hn : Jvm.Free.Fl.NoNaN64 (FP.drem x y)) (hv : FP.drem x y = v) (q : Go p e below P (T.setTop (mkF m (pc + 1) Ls (.double v :: st)))) : Go p e below P (T.setTop (mkF m pc Ls (.double y :: .double x :: st))) := q.by fun t r => by
  subst hv
  have ht := X.here
  show Steps p.tables e below (T.setTop { method := m, pc := pc, locals := Ls, stack := .double y :: .double x :: st, locked := none }) t
  jvm_step ht [ht.top, hx, hd, Op.drem.at_number ht.top hn]
  exact r
theorem g_dup_x2 (X : Stand p l e R s m args below meth c T locs cells slots) (hx : p.tables.exec = Jvm.exec) {x y z : Value} (hd : decode c.code pc = .ok (.dup_x2, 1)) (h1 : x.category = 1) (h2 : y.category = 1) (h3 : z.category = 1) (q : Go p e below P (T.setTop (mkF m (pc + 1) Ls (x :: y :: z :: x :: st)))) : Go p e below P (T.setTop (mkF m pc Ls (x :: y :: z :: st))) := q.by fun t r => by
  have ht := X.here
  show Steps p.tables e below (T.setTop { method := m, pc := pc, locals := Ls, stack := x :: y :: z :: st, locked := none }) t
  jvm_step ht [ht.top, hx, hd, h1, h2, h3]
  exact r
theorem g_ldcI (X : Stand p l e R s m args below meth c T locs cells slots) (hx : p.tables.exec = Jvm.exec) (hZ : Z.Warmed39 s.vm) (hown : s.vm.findClass own = some m.cls) {v : Int32} (w : (Cond.constant own index v).before a0 Z = true) (hd : decode c.code pc = .ok (.ldc index, 2)) (q : Go p e below P (T.setTop (mkF m (pc + 2) Ls (.int v :: st)))) : Go p e below P (T.setTop (mkF m pc Ls st)) := q.by fun t r => X.ldcI hx hown (mvT hZ w) rfl hd r
theorem g_ldc2J (X : Stand p l e R s m args below meth c T locs cells slots) (hx : p.tables.exec = Jvm.exec) (hZ : Z.Warmed39 s.vm) (hown : s.vm.findClass own = some m.cls) {v : Int64} (w : (Cond.constantLong own index v).before a0 Z = true) (hd : decode c.code pc = .ok (.ldc2_w index, 3)) (q : Go p e below P (T.setTop (mkF m (pc + 3) Ls (.long v :: st)))) : Go p e below P (T.setTop (mkF m pc Ls st)) := q.by fun t r => X.ldc2J hx hown (mvT hZ w) rfl hd r
theorem g_ldc2D (X : Stand p l e R s m args below meth c T locs cells slots) (hx : p.tables.exec = Jvm.exec) (hZ : Z.Warmed39 s.vm) (hown : s.vm.findClass own = some m.cls) {v : UInt64} (w : (Cond.constantDouble own index v).before a0 Z = true) (hd : decode c.code pc = .ok (.ldc2_w index, 3)) (q : Go p e below P (T.setTop (mkF m (pc + 3) Ls (.double v :: st)))) : Go p e below P (T.setTop (mkF m pc Ls st)) := q.by fun t r => X.ldc2DoubleC hx hown (mvT hZ w) (g := mkF m pc Ls st) rfl hd t r
theorem g_ldcF (X : Stand p l e R s m args below meth c T locs cells slots) (hx : p.tables.exec = Jvm.exec) (hZ : Z.Warmed39 s.vm) (hown : s.vm.findClass own = some m.cls) {v : UInt32} (w : (Cond.constantFloat own index v).before a0 Z = true) (hd : decode c.code pc = .ok (.ldc index, 2)) (q : Go p e below P (T.setTop (mkF m (pc + 2) Ls (.float v :: st)))) : Go p e below P (T.setTop (mkF m pc Ls st)) := q.by fun t r => X.ldcFloatC hx hown (mvT hZ w) (g := mkF m pc Ls st) rfl hd t r
theorem Ret.end {Q : Option Value → Heap → List Loc → Prop} {C N : Nat} {g : JFrame} (X : Stand p l e R s m args below meth c T locs cells slots) (hx : p.tables.exec = Jvm.exec) (hlk : meth.locks = false) {v : Option Value} (hv : meth.sig.returnType = none → v = none) (stp : ∀ fs, (∀ (f : JFrame) (acts : List Action), f.method = m → f.locked = none → f.entered = [] → (doReturn e (T.setTop f) acts v).1 = T.setFrames fs) → Steps p.tables e below (T.setTop g) (T.setFrames fs)) (hC : cells ≤ C) (hN : slots ≤ N) (hq : Q v T.heap locs) : Go p e below (Ret s Q C N) (T.setTop g) := by
  obtain ⟨fs, hr, hrun, hended, hW, hsame⟩ := X.leave hv hlk
  exact ⟨_, _, stp fs hr, hrun, hended, _, _, rfl, hq, ⟨_, rfl⟩, hW, hsame.mono hC hN⟩
theorem g_ireturn {Q : Option Value → Heap → List Loc → Prop} {C N : Nat} (X : Stand p l e R s m args below meth c T locs cells slots) (hx : p.tables.exec = Jvm.exec) (hlk : meth.locks = false) {w : Int32} {t : FieldType} (hret : meth.sig.returnType = some t) (hn : narrow t (.int w) = .int w) (hti : t = .int ∨ t = .boolean ∨ t = .byte ∨ t = .char ∨ t = .short) (hd : decode c.code pc = .ok (.ireturn, 1)) (hC : cells ≤ C) (hN : slots ≤ N) (hq : Q (some (.int w)) T.heap locs) : Go p e below (Ret s Q C N) (T.setTop (mkF m pc Ls [.int w])) :=
  Ret.end X hx hlk (fun h => by rw [hret] at h; cases h) (fun fs hr => X.ireturnOut hx hret hn hti hd hr) hC hN hq
theorem g_lreturn {Q : Option Value → Heap → List Loc → Prop} {C N : Nat} (X : Stand p l e R s m args below meth c T locs cells slots) (hx : p.tables.exec = Jvm.exec) (hlk : meth.locks = false) {w : Int64} (hret : meth.sig.returnType = some .long) (hd : decode c.code pc = .ok (.lreturn, 1)) (hC : cells ≤ C) (hN : slots ≤ N) (hq : Q (some (.long w)) T.heap locs) : Go p e below (Ret s Q C N) (T.setTop (mkF m pc Ls [.long w])) :=
  Ret.end X hx hlk (fun h => by rw [hret] at h; cases h) (fun fs hr => X.lreturnOut hx hret hd hr) hC hN hq
theorem g_return {Q : Option Value → Heap → List Loc → Prop} {C N : Nat} (X : Stand p l e R s m args below meth c T locs cells slots) (hx : p.tables.exec = Jvm.exec) (hlk : meth.locks = false) (hret : meth.sig.returnType = none) (hd : decode c.code pc = .ok (.return_, 1)) (hC : cells ≤ C) (hN : slots ≤ N) (hq : Q none T.heap locs) : Go p e below (Ret s Q C N) (T.setTop (mkF m pc Ls [])) :=
  Ret.end X hx hlk (fun _ => rfl) (fun fs hr => X.returnOut hx hret hd hr) hC hN hq
theorem g_areturn {Q : Option Value → Heap → List Loc → Prop} {C N : Nat} (X : Stand p l e R s m args below meth c T locs cells slots) (hx : p.tables.exec = Jvm.exec) (hlk : meth.locks = false) {w : Value} {t : FieldType} (hret : meth.sig.returnType = some t) (ht : t.isReference = true) (hw : w.isRef = true) (hd : decode c.code pc = .ok (.areturn, 1)) (hC : cells ≤ C) (hN : slots ≤ N) (hq : Q (some w) T.heap locs) : Go p e below (Ret s Q C N) (T.setTop (mkF m pc Ls [w])) :=
  Ret.end X hx hlk (fun h => by rw [hret] at h; cases h) (fun fs hr => X.areturnOut hx hw hret ht hd hr) hC hN hq
theorem g_dreturn {Q : Option Value → Heap → List Loc → Prop} {C N : Nat} (X : Stand p l e R s m args below meth c T locs cells slots) (hx : p.tables.exec = Jvm.exec) (hlk : meth.locks = false) {w : UInt64} (hret : meth.sig.returnType = some .double) (hd : decode c.code pc = .ok (.dreturn, 1)) (hC : cells ≤ C) (hN : slots ≤ N) (hq : Q (some (.double w)) T.heap locs) : Go p e below (Ret s Q C N) (T.setTop (mkF m pc Ls [.double w])) :=
  Ret.end X hx hlk (fun h => by rw [hret] at h; cases h) (fun fs hr => by
    have hm' : T.vm.method? m = some meth := X.method'
    show Steps p.tables e below (T.setTop { method := m, pc := pc, locals := Ls, stack := [.double w], locked := none }) _
    jvm_step X.here [X.here.top, hx, hd, hm', hret]
    first | (intro acts; rw [hr _ acts rfl rfl rfl]) | rw [hr _ _ rfl rfl rfl]
    exact Steps.refl _) hC hN hq
theorem g_freturn {Q : Option Value → Heap → List Loc → Prop} {C N : Nat} (X : Stand p l e R s m args below meth c T locs cells slots) (hx : p.tables.exec = Jvm.exec) (hlk : meth.locks = false) {w : UInt32} (hret : meth.sig.returnType = some .float) (hd : decode c.code pc = .ok (.freturn, 1)) (hC : cells ≤ C) (hN : slots ≤ N) (hq : Q (some (.float w)) T.heap locs) : Go p e below (Ret s Q C N) (T.setTop (mkF m pc Ls [.float w])) :=
  Ret.end X hx hlk (fun h => by rw [hret] at h; cases h) (fun fs hr => retF X hx hret hd hr) hC hN hq
theorem g_callS (X : Stand p l e R s m args below meth c T locs cells slots) (hx : p.tables.exec = Jvm.exec) (hZ : Z.Warmed39 s.vm) (hown : s.vm.findClass own = some m.cls) {y : MethodName} {bytes : ByteArray} {maxL : Nat} {ret : Option FieldType} (w1 : (Cond.methodLink own index y).before a0 Z = true) (w2 : (Cond.static y).before a0 Z = true) (w3 : (Cond.initialized y.cls).before a0 Z = true) (w4 : (Cond.code y bytes maxL ret).before a0 Z = true) (hy : y.cls ≠ "java/lang/invoke/MethodHandle" ∧ y.cls ≠ "java/lang/invoke/VarHandle") {rm : Room} {as' : Array Value} {Q : Option Value → Heap → List Loc → Prop} (hM : MetFree l y (head1 [Cond.code y bytes maxL ret] rm) (fun a U => a = as' ∧ Z.Warmed39 U.vm ∧ U.heap = h) (fun _ _ _ _ _ => True) (fun _ U o U' => ∃ v L, o = .returned v ∧ Q v U'.heap L ∧ FrameEnd U o U' L rm.cells rm.slots)) (eT : T.heap = h) {W : Nat} (hf : rm.frames + 1 ≤ R.frames) (hlo : W + (maxL + 11) + rm.locals ≤ R.locals) (hsize : Ls.size = c.maxLocals) (argsL rest : List Value) (hlen : ∀ sig, parseMethodDescriptor y.desc = some sig → argsL.length = sig.parameters.length) (hst : st = argsL.reverse ++ rest) (has : argsL.toArray = as') (hW : (rest.map fun v => v.category).sum ≤ W) (hd : decode c.code pc = .ok (.invokestatic index, 3)) (hc : cells + rm.cells ≤ R.cells) (hs : slots + rm.slots ≤ R.slots) (k : ∀ (v : Option Value) (T' : State) (L : List Loc), Stand p l e R s m args below meth c T' (locs ++ L) (cells + rm.cells) (slots + rm.slots) → Q v T'.heap L → Go p e below P (T'.setTop (mkF m (pc + 3) Ls (v.toList ++ rest)))) : Go p e below P (T.setTop (mkF m pc Ls st)) := by
  obtain ⟨v, vm1, ⟨T', L', k', n'⟩, -, X', ⟨L, hQ, l1, y1, z1⟩, stp⟩ := Jvm.LawKit.callS X hx hown (mvT hZ w1) (mvT hZ w2) (mvT hZ w3) (mvT hZ w4) hy (backOf (W := W) hM hZ w4 w3 hf hlo) (g := mkF m pc Ls st) rfl hsize hlen hst (by show 2 * 0 + _ ≤ _; omega) hd (fun _ _ => ⟨has, eT, hc, hs⟩)
  dsimp only [Pt.U, Pt.locs, Pt.cells, Pt.slots] at X' l1 y1 z1 stp hQ
  subst l1 y1 z1
  exact (k v T' L X' hQ).by stp
theorem g_init (X : Stand p l e R s m args below meth c T locs cells slots) (hx : p.tables.exec = Jvm.exec) (hZ : Z.Warmed39 s.vm) (hown : s.vm.findClass own = some m.cls) {y : MethodName} {bytes : ByteArray} {maxL : Nat} (hy1 : y.name = "<init>") (w1 : (Cond.methodLink own index y).before a0 Z = true) (w2 : (Cond.instanceMethod y).before a0 Z = true) (w3 : (Cond.initialized y.cls).before a0 Z = true) (w4 : (Cond.code y bytes maxL none).before a0 Z = true) (hy : y.cls ≠ "java/lang/invoke/MethodHandle" ∧ y.cls ≠ "java/lang/invoke/VarHandle") {rm : Room} {as' : Array Value} {Q : Option Value → Heap → List Loc → Prop} (hM : MetFree l y (head1 [Cond.code y bytes maxL none] rm) (fun a U => a = as' ∧ Z.Warmed39 U.vm ∧ U.heap = h) (fun _ _ _ _ _ => True) (fun _ U o U' => ∃ v L, o = .returned v ∧ Q v U'.heap L ∧ FrameEnd U o U' L rm.cells rm.slots)) (eT : T.heap = h) {W : Nat} (hf : rm.frames + 1 ≤ R.frames) (hlo : W + (maxL + 11) + rm.locals ≤ R.locals) (hsize : Ls.size = c.maxLocals) (a : Addr) (argsL rest : List Value) (hlen : ∀ sig, parseMethodDescriptor y.desc = some sig → argsL.length = sig.parameters.length) (hst : st = argsL.reverse ++ .ref a :: rest) (has : (.ref a :: argsL).toArray = as') (hW : (rest.map fun v => v.category).sum ≤ W) (hd : decode c.code pc = .ok (.invokespecial index, 3)) (hc : cells + rm.cells ≤ R.cells) (hs : slots + rm.slots ≤ R.slots) (k : ∀ (v : Option Value) (T' : State) (L : List Loc), Stand p l e R s m args below meth c T' (locs ++ L) (cells + rm.cells) (slots + rm.slots) → Q v T'.heap L → Go p e below P (T'.setTop (mkF m (pc + 3) Ls (v.toList ++ rest)))) : Go p e below P (T.setTop (mkF m pc Ls st)) := by
  obtain ⟨v, vm1, ⟨T', L', k', n'⟩, -, X', ⟨L, hQ, l1, y1, z1⟩, stp⟩ := X.specialBack hx hy1 hown (mvT hZ w1) (mvT hZ w2) (mvT hZ w4) hy (backOf (W := W) hM hZ w4 w3 hf hlo) (g := mkF m pc Ls st) rfl hsize (Steps.refl _) hlen hst (by show 2 * 0 + _ ≤ _; omega) hd (fun _ _ => ⟨has, eT, hc, hs⟩)
  dsimp only [Pt.U, Pt.locs, Pt.cells, Pt.slots] at X' l1 y1 z1 stp hQ
  subst l1 y1 z1
  exact (k v T' L X' hQ).by fun t r => stp.trans r
theorem g_callV (X : Stand p l e R s m args below meth c T locs cells slots) (hx : p.tables.exec = Jvm.exec) (hZ : Z.Warmed39 s.vm) (hown : s.vm.findClass own = some m.cls) {y : MethodName} {bytes : ByteArray} {maxL : Nat} {ret : Option FieldType} {C : String} (w1 : (Cond.methodLink own index y).before a0 Z = true) (w2 : (Cond.declares y).before a0 Z = true) (w5 : (Cond.selects C y y).before a0 Z = true) (w6 : (Cond.instanceMethod y).before a0 Z = true) (w3 : (Cond.initialized y.cls).before a0 Z = true) (w4 : (Cond.code y bytes maxL ret).before a0 Z = true) (hy : y.cls ≠ "java/lang/invoke/MethodHandle" ∧ y.cls ≠ "java/lang/invoke/VarHandle") {rm : Room} {as' : Array Value} {Q : Option Value → Heap → List Loc → Prop} (hM : MetFree l y (head1 [Cond.code y bytes maxL ret] rm) (fun a U => a = as' ∧ Z.Warmed39 U.vm ∧ U.heap = h) (fun _ _ _ _ _ => True) (fun _ U o U' => ∃ v L, o = .returned v ∧ Q v U'.heap L ∧ FrameEnd U o U' L rm.cells rm.slots)) (eT : T.heap = h) {W : Nat} (hf : rm.frames + 1 ≤ R.frames) (hlo : W + (maxL + 11) + rm.locals ≤ R.locals) (hsize : Ls.size = c.maxLocals) (a : Addr) (E : Exa Z h a C) (argsL rest : List Value) (hlen : ∀ sig, parseMethodDescriptor y.desc = some sig → argsL.length = sig.parameters.length) (hst : st = argsL.reverse ++ .ref a :: rest) (has : (.ref a :: argsL).toArray = as') (hW : (rest.map fun v => v.category).sum ≤ W) (hd : decode c.code pc = .ok (.invokevirtual index, 3)) (hc : cells + rm.cells ≤ R.cells) (hs : slots + rm.slots ≤ R.slots) (k : ∀ (v : Option Value) (T' : State) (L : List Loc), Stand p l e R s m args below meth c T' (locs ++ L) (cells + rm.cells) (slots + rm.slots) → Q v T'.heap L → Go p e below P (T'.setTop (mkF m (pc + 3) Ls (v.toList ++ rest)))) : Go p e below P (T.setTop (mkF m pc Ls st)) := by
  obtain ⟨cq, kq, qa, qb, qc⟩ := isOf hZ eT E
  obtain ⟨v, vm1, ⟨T', L', k', n'⟩, -, X', ⟨L, hQ, l1, y1, z1⟩, stp⟩ := X.virtualBack hx (y := y) (z := y) hown (mvT hZ w1) (mvT hZ w2) (notFace_of_selects (args := #[]) (mvT hZ w5)) (mvT hZ w5) (mvT hZ w6) hy (backOf (W := W) hM hZ w4 w3 hf hlo) qa qc (g := mkF m pc Ls st) rfl hsize (Steps.refl _) hlen hst (by show 2 * 0 + _ ≤ _; omega) hd (fun _ _ => ⟨has, eT, hc, hs⟩)
  dsimp only [Pt.U, Pt.locs, Pt.cells, Pt.slots] at X' l1 y1 z1 stp hQ
  subst l1 y1 z1
  exact (k v T' L X' hQ).by fun t r => stp.trans r
theorem g_absD (X : Stand p l e R s m args below meth c T locs cells slots) (hx : p.tables.exec = Jvm.exec) (hZ : Z.Warmed39 s.vm) (hown : s.vm.findClass own = some m.cls) (w1 : (Cond.methodLink own index Jvm.Free.Fl.Abs.absDN).before a0 Z = true) (w2 : (Cond.static Jvm.Free.Fl.Abs.absDN).before a0 Z = true) (w3 : (Cond.initialized "java/lang/Math").before a0 Z = true) (w4 : (Cond.code Jvm.Free.Fl.Abs.absDN Jvm.Free.Fl.Abs.absDCode 2 (some .double)).before a0 Z = true) (eT : T.heap = h) (hsize : Ls.size = c.maxLocals) {a : UInt64} (hn : Jvm.Free.Fl.NoNaN64 a) (hfr : 1 ≤ R.frames) {W : Nat} (hW : (st.map fun v => v.category).sum ≤ W) (hlo : W + 13 ≤ R.locals) (hc : cells ≤ R.cells) (hs : slots ≤ R.slots) (hd : decode c.code pc = .ok (.invokestatic index, 3))
    (k : ∀ T', Stand p l e R s m args below meth c T' locs cells slots → T'.heap = h → Go p e below P (T'.setTop (mkF m (pc + 3) Ls (.double (a &&& 0x7fffffffffffffff) :: st)))) : Go p e below P (T.setTop (mkF m pc Ls (.double a :: st))) := by
  obtain ⟨T', X', e', stp⟩ := natS X hx hZ hown w1 w2 w3 w4 (by decide) eT (W := W) (F := fun a' => a' = #[.double a] ∧ Jvm.Free.Fl.NoNaN64 a) (val := .double (a &&& 0x7fffffffffffffff)) (val' := .double (a &&& 0x7fffffffffffffff)) (fun q => Jvm.Free.Fl.Abs.absD_pays a q hfr hlo) (g := mkF m pc Ls (.double a :: st)) rfl hsize (argsL := [.double a]) (rest := st) (lenOf (ps := [.double]) (r := some .double) (by decide +kernel) rfl) rfl (by show 2 * 0 + _ ≤ _; omega) hd hc hs ⟨rfl, hn⟩ rfl
  exact (k T' X' e').by stp
theorem g_objInit (X : Stand p l e R s m args below meth c T locs cells slots) (hx : p.tables.exec = Jvm.exec) (hZ : Z.Warmed39 s.vm) (hown : s.vm.findClass own = some m.cls) (w1 : (Cond.methodLink own index Lib.objectInit).before a0 Z = true) (w2 : (Cond.instanceMethod Lib.objectInit).before a0 Z = true) (w3 : (Cond.code Lib.objectInit ⟨#[0xb1]⟩ 1 none).before a0 Z = true) (eT : T.heap = h) (hsize : Ls.size = c.maxLocals) {a : Addr} (hd : decode c.code pc = .ok (.invokespecial index, 3)) (hf : 1 ≤ R.frames) {W : Nat} (hW : (st.map fun v => v.category).sum ≤ W) (hlo : W + 12 ≤ R.locals)
    (k : ∀ T', Stand p l e R s m args below meth c T' locs cells slots → T'.heap = h → Go p e below P (T'.setTop (mkF m (pc + 3) Ls st))) : Go p e below P (T.setTop (mkF m pc Ls (.ref a :: st))) := by
  obtain ⟨T', X', e', stp⟩ := initO X hx hZ hown w1 w2 w3 eT (g := mkF m pc Ls (.ref a :: st)) rfl hsize rfl hd hf (W := W) (by show 2 * 0 + _ ≤ _; omega) hlo
  exact (k T' X' e').by stp
theorem g_new (X : Stand p l e R s m args below meth c T locs cells slots) (hx : p.tables.exec = Jvm.exec) (hZ : Z.Warmed39 s.vm) (hown : s.vm.findClass own = some m.cls) {C : String} {n : Nat} (w : (Cond.classLink own index C).before a0 Z = true) (wi : (Cond.instantiable C n).before a0 Z = true) (wz : (Cond.initialized C).before a0 Z = true) (eT : T.heap = h) (hd : decode c.code pc = .ok (.new index, 3)) (hc : cells + 1 ≤ R.cells) (hl : slots + n ≤ R.slots)
    (k : ∀ T' h' a, a = h.size → Stand p l e R s m args below meth c T' locs (cells + 1) (slots + n) → T'.heap = h' → Ext h h' → Exa Z h' a C → (∀ {O nm d : String} {ty : FieldType}, Laid Z a0 C O nm d → parseFieldDescriptor d = some ty → Fld Z h' a O nm d (defaultValue ty)) → Go p e below P (T'.setTop (mkF m (pc + 3) Ls (.ref a :: st)))) : Go p e below P (T.setTop (mkF m pc Ls st)) := by
  obtain ⟨T', h', X', e', E, A, D, -, stp⟩ := newO X hx hZ hown w wi wz eT (g := mkF m pc Ls st) rfl hd hc hl
  exact (k T' h' _ rfl X' e' E A D).by stp
theorem g_getF (X : Stand p l e R s m args below meth c T locs cells slots) (hx : p.tables.exec = Jvm.exec) (hZ : Z.Warmed39 s.vm) (hown : s.vm.findClass own = some m.cls) {O n d : String} (w : (Cond.fieldLink own index O n d).before a0 Z = true) (eT : T.heap = h) {a : Addr} {v : Value} (F : Fld Z h a O n d v) (hd : decode c.code pc = .ok (.getfield index, 3))
    (k : ∀ T', Stand p l e R s m args below meth c T' locs cells slots → T'.heap = h → Go p e below P (T'.setTop (mkF m (pc + 3) Ls (v :: st)))) : Go p e below P (T.setTop (mkF m pc Ls (.ref a :: st))) := by
  obtain ⟨T', X', e', stp⟩ := getF X hx hZ hown (host := "") (Or.inl w) Via.refl eT F (g := mkF m pc Ls (.ref a :: st)) rfl rfl hd
  exact (k T' X' e').by stp
theorem g_getS (X : Stand p l e R s m args below meth c T locs cells slots) (hx : p.tables.exec = Jvm.exec) (hZ : Z.Warmed39 s.vm) (hown : s.vm.findClass own = some m.cls) {O n d : String} (w : (Cond.fieldLink own index O n d).before a0 Z = true) (eT : T.heap = h) {v : Value} (F : Sta Z h O n d v) (hd : decode c.code pc = .ok (.getstatic index, 3))
    (k : ∀ T', Stand p l e R s m args below meth c T' locs cells slots → T'.heap = h → Go p e below P (T'.setTop (mkF m (pc + 3) Ls (v :: st)))) : Go p e below P (T.setTop (mkF m pc Ls st)) := by
  obtain ⟨T', X', e', stp⟩ := getS X hx hZ hown (host := "") w Via.refl eT F (g := mkF m pc Ls st) rfl hd
  exact (k T' X' e').by stp
theorem g_putF (X : Stand p l e R s m args below meth c T locs cells slots) (hx : p.tables.exec = Jvm.exec) (hZ : Z.Warmed39 s.vm) (hown : s.vm.findClass own = some m.cls) {O n d C : String} {kk : Nat} {ty : FieldType} (w : (Cond.fieldLink own index O n d).before a0 Z = true) (eT : T.heap = h) {a : Addr} {v old : Value} (F : Fld Z h a O n d old) (E : Exa Z h a C) (L : (Cond.lays C O n d).before a0 Z = true ∨ ((Cond.laysFinal C O n d).before a0 Z = true ∧ own = O ∧ meth.name = "<init>")) (wi : (Cond.instantiable C kk).before a0 Z = true) (hty : parseFieldDescriptor d = some ty) (hn : narrow ty v = v) (hf : fits ty v = true) (hd : decode c.code pc = .ok (.putfield index, 3))
    (k : ∀ T' h', Stand p l e R s m args below meth c T' (locs ++ [⟨a, Jvm.RoadKit.slotOf Z O n d⟩]) cells slots → T'.heap = h' → Wr h h' a (Jvm.RoadKit.slotOf Z O n d) v → Go p e below P (T'.setTop (mkF m (pc + 3) Ls st))) : Go p e below P (T.setTop (mkF m pc Ls (v :: .ref a :: st))) := by
  obtain ⟨T', h', X', e', W, stp⟩ := putF X hx hZ hown (host := "") (Or.inl w) Via.refl eT F E L wi hty hn hf (g := mkF m pc Ls (v :: .ref a :: st)) rfl rfl hd
  exact (k T' h' X' e' W).by stp
theorem g_newP (X : Stand p l e R s m args below meth c T locs cells slots) (hx : p.tables.exec = Jvm.exec) (hZ : Z.Warmed39 s.vm) {aty : ArrayType} {ty : FieldType} (hty : newarray.typeOf aty = ty) (w : (Cond.arrayClass ty).before a0 Z = true) (eT : T.heap = h) (hd : decode c.code pc = .ok (.newarray aty, 2)) {n : Int32} (hn : ¬ n < 0) {cap : Nat} (hcap : n.toNatClampNeg ≤ cap) (hb : cap * 8 ≤ 536870912) (hc : cells + 1 ≤ R.cells) (hl : slots + cap ≤ R.slots)
    (k : ∀ T' h' a cA, a = h.size → Stand p l e R s m args below meth c T' locs (cells + 1) (slots + cap) → T'.heap = h' → Ext h h' → Arr Z h' a (newA cA ty n) ty → Go p e below P (T'.setTop (mkF m (pc + 2) Ls (.ref a :: st)))) : Go p e below P (T.setTop (mkF m pc Ls (.int n :: st))) := by
  subst hty
  obtain ⟨T', h', cA, X', e', E, A, stp⟩ := newP X hx hZ w eT (g := mkF m pc Ls (.int n :: st)) rfl hd rfl hn hcap hb hc hl
  exact (k T' h' _ cA rfl X' e' E A).by stp
theorem fld_any {C O O' n n' d d' : String} {v : Value} {a : Addr} {kk : Nat} (E : Exa Z h a C) (F : Fld Z h a O n d v) (wi : (Cond.instantiable C kk).before a0 Z = true) (L : Laid Z a0 C O' n' d') : ∃ w, Fld Z h a O' n' d' w := by
  obtain ⟨cell, k, h1, h2, h3, h4, h5⟩ := E
  obtain ⟨cell', cf, k', i, f, g1, g2, g3, g4, g5, g6, g7⟩ := F
  cases h1.symm.trans g1
  obtain ⟨c1, k1, cf1, kf1, i1, f1, l1, l2, l3, l4, l5, l6, -⟩ := L.spec
  obtain ⟨c2, k2, j1, j2, j3, -⟩ := Cond.instantiable_spec wi
  cases h2.symm.trans l1
  cases h3.symm.trans l2
  cases l1.symm.trans j1
  cases h3.symm.trans j2
  have hsz := h5 j3
  obtain ⟨hlt, -⟩ := Array.getElem?_eq_some_iff.mp l6
  exact ⟨_, cell, cf1, kf1, i1, f1, g1, l3, l4, g4, g5, l5, Array.getElem?_eq_getElem (by rw [hsz]; exact hlt)⟩
/-- an array by a function of the place -/
def Av (Z : State) (h : Heap) (a : Addr) (ty : FieldType) (n : Nat) (f : Nat → Value) : Prop := ∃ cl : Cell, Arr Z h a cl ty ∧ cl.slots.size = n ∧ ∀ i, i < n → cl.slots[i]? = some (f i)
theorem Av.lt {a : Addr} {ty : FieldType} {n : Nat} {f : Nat → Value} (F : Av Z h a ty n f) : a < h.size := by obtain ⟨cl, A, -⟩ := F; exact A.lt
theorem Av.ext {h' : Heap} {a : Addr} {ty : FieldType} {n : Nat} {f : Nat → Value} (F : Av Z h a ty n f) (E : Ext h h') : Av Z h' a ty n f := by obtain ⟨cl, A, B⟩ := F; exact ⟨cl, A.ext E, B⟩
theorem Av.other {h' : Heap} {a b : Addr} {sl : Nat} {v : Value} {ty : FieldType} {n : Nat} {f : Nat → Value} (F : Av Z h b ty n f) (W : Wr h h' a sl v) (q : b ≠ a) : Av Z h' b ty n f := by obtain ⟨cl, A, B⟩ := F; exact ⟨cl, A.other W q, B⟩
theorem Av.keep {h' : Heap} {a : Addr} {ws : List Addr} {ty : FieldType} {n : Nat} {f : Nat → Value} (F : Av Z h a ty n f) (K : Keep h h' ws) (q : a ∉ ws) : Av Z h' a ty n f := by obtain ⟨cl, A, B⟩ := F; exact ⟨cl, ⟨K.2.1 a cl A.1 q, A.2⟩, B⟩
theorem Av.new {a : Addr} {cA : ClassId} {ty : FieldType} {n : Int32} (A : Arr Z h a (newA cA ty n) ty) : Av Z h a ty n.toNatClampNeg (fun _ => defaultValue ty) := ⟨_, A, sz_new _ _ _, fun i hi => by simp [newA, hi]⟩
theorem Av.newK {a : Addr} {cA : ClassId} {ty : FieldType} {n : Int32} {k : Nat} (A : Arr Z h a (newA cA ty n) ty) (hk : n.toNatClampNeg = k) : Av Z h a ty k (fun _ => defaultValue ty) := hk ▸ Av.new A
theorem Av.congr {a : Addr} {ty : FieldType} {n : Nat} {f f' : Nat → Value} (F : Av Z h a ty n f) (q : ∀ i, i < n → f i = f' i) : Av Z h a ty n f' := by obtain ⟨cl, A, B, C⟩ := F; exact ⟨cl, A, B, fun i hi => by rw [C i hi, q i hi]⟩
theorem Av.same {h' : Heap} {a : Addr} {i : Nat} {v : Value} {ty : FieldType} {n : Nat} {f : Nat → Value} (F : Av Z h a ty n f) (W : Wr h h' a i v) : Av Z h' a ty n (fun j => if j = i then v else f j) := by
  obtain ⟨cl, A, B, C⟩ := F
  refine ⟨_, A.same W, by rw [sz_set]; exact B, fun j hj => ?_⟩
  obtain ⟨cb, hb1, -, -, -, -, hb2, hb3⟩ := wr_at W A.1
  have e1 := (A.same W).1
  have e2 : cb = cl.setSlot i v := Option.some.inj (hb1.symm.trans e1)
  by_cases q : j = i
  · subst q; rw [← e2, (hb3 rfl).2.1]; simp
  · rw [← e2, hb2 j q, C j hj]; simp [q]
theorem out_idx {j : Int32} {n : Nat} (h0 : 0 ≤ j.toInt) (h1 : j.toInt < n) : ¬ (j < 0 ∨ n ≤ j.toNatClampNeg) := by
  have e : (j.toNatClampNeg : Int) = j.toInt := by rw [Int32.toNatClampNeg]; omega
  intro q
  rcases q with q | q
  · have := Int32.lt_iff_toInt_lt.mp q; simp at this; omega
  · omega
theorem g_iaload (X : Stand p l e R s m args below meth c T locs cells slots) (hx : p.tables.exec = Jvm.exec) (hZ : Z.Warmed39 s.vm) (eT : T.heap = h) {a : Addr} {n : Nat} {f : Nat → Value} (F : Av Z h a .int n f) {j : Int32} {i : Nat} {v : Value} (hj0 : 0 ≤ j.toInt) (hj1 : j.toInt < n) (hi : j.toNatClampNeg = i) (hv : f i = v) (hd : decode c.code pc = .ok (.iaload, 1)) (q : Go p e below P (T.setTop (mkF m (pc + 1) Ls (v :: st)))) : Go p e below P (T.setTop (mkF m pc Ls (.int j :: .ref a :: st))) := by
  obtain ⟨cl, A, B, C⟩ := F
  have hin := out_idx hj0 hj1
  subst hi hv
  exact q.by fun t r => X.iaload hx (by rw [eT]; exact A.1) (State.isArrayOf_alike hZ.alike A.2.1) A.2.2 (by rw [B]; exact hin) (C _ (by omega)) (g := mkF m pc Ls (.int j :: .ref a :: st)) rfl rfl hd t r
theorem g_laload (X : Stand p l e R s m args below meth c T locs cells slots) (hx : p.tables.exec = Jvm.exec) (hZ : Z.Warmed39 s.vm) (eT : T.heap = h) {a : Addr} {n : Nat} {f : Nat → Value} (F : Av Z h a .long n f) {j : Int32} {i : Nat} {v : Value} (hj0 : 0 ≤ j.toInt) (hj1 : j.toInt < n) (hi : j.toNatClampNeg = i) (hv : f i = v) (hd : decode c.code pc = .ok (.laload, 1)) (q : Go p e below P (T.setTop (mkF m (pc + 1) Ls (v :: st)))) : Go p e below P (T.setTop (mkF m pc Ls (.int j :: .ref a :: st))) := by
  obtain ⟨cl, A, B, C⟩ := F
  have hin := out_idx hj0 hj1
  subst hi hv
  exact q.by fun t r => X.laload hx (by rw [eT]; exact A.1) (State.isArrayOf_alike hZ.alike A.2.1) A.2.2 (by rw [B]; exact hin) (C _ (by omega)) (g := mkF m pc Ls (.int j :: .ref a :: st)) rfl rfl hd t r
theorem g_daload (X : Stand p l e R s m args below meth c T locs cells slots) (hx : p.tables.exec = Jvm.exec) (hZ : Z.Warmed39 s.vm) (eT : T.heap = h) {a : Addr} {n : Nat} {f : Nat → Value} (F : Av Z h a .double n f) {j : Int32} {i : Nat} {v : Value} (hj0 : 0 ≤ j.toInt) (hj1 : j.toInt < n) (hi : j.toNatClampNeg = i) (hv : f i = v) (hd : decode c.code pc = .ok (.daload, 1)) (q : Go p e below P (T.setTop (mkF m (pc + 1) Ls (v :: st)))) : Go p e below P (T.setTop (mkF m pc Ls (.int j :: .ref a :: st))) := by
  obtain ⟨cl, A, B, C⟩ := F
  have hin := out_idx hj0 hj1
  subst hi hv
  exact q.by fun t r => X.daload hx (by rw [eT]; exact A.1) (State.isArrayOf_alike hZ.alike A.2.1) A.2.2 (by rw [B]; exact hin) (C _ (by omega)) (g := mkF m pc Ls (.int j :: .ref a :: st)) rfl rfl hd t r
theorem g_caload (X : Stand p l e R s m args below meth c T locs cells slots) (hx : p.tables.exec = Jvm.exec) (hZ : Z.Warmed39 s.vm) (eT : T.heap = h) {a : Addr} {n : Nat} {f : Nat → Value} (F : Av Z h a .char n f) {j : Int32} {i : Nat} {v : Value} (hj0 : 0 ≤ j.toInt) (hj1 : j.toInt < n) (hi : j.toNatClampNeg = i) (hv : f i = v) (hd : decode c.code pc = .ok (.caload, 1)) (q : Go p e below P (T.setTop (mkF m (pc + 1) Ls (v :: st)))) : Go p e below P (T.setTop (mkF m pc Ls (.int j :: .ref a :: st))) := by
  obtain ⟨cl, A, B, C⟩ := F
  have hin := out_idx hj0 hj1
  subst hi hv
  exact q.by fun t r => X.caload hx (by rw [eT]; exact A.1) (State.isArrayOf_alike hZ.alike A.2.1) A.2.2 (by rw [B]; exact hin) (C _ (by omega)) (g := mkF m pc Ls (.int j :: .ref a :: st)) rfl rfl hd t r
theorem g_baloadB (X : Stand p l e R s m args below meth c T locs cells slots) (hx : p.tables.exec = Jvm.exec) (hZ : Z.Warmed39 s.vm) (eT : T.heap = h) {a : Addr} {n : Nat} {f : Nat → Value} (F : Av Z h a .byte n f) {j : Int32} {i : Nat} {v : Value} (hj0 : 0 ≤ j.toInt) (hj1 : j.toInt < n) (hi : j.toNatClampNeg = i) (hv : f i = v) (hd : decode c.code pc = .ok (.baload, 1)) (q : Go p e below P (T.setTop (mkF m (pc + 1) Ls (v :: st)))) : Go p e below P (T.setTop (mkF m pc Ls (.int j :: .ref a :: st))) := by
  obtain ⟨cl, A, B, C⟩ := F
  have hin := out_idx hj0 hj1
  subst hi hv
  exact q.by fun t r => X.baloadBytes hx (by rw [eT]; exact A.1) (State.isArrayOf_alike hZ.alike A.2.1) A.2.2 (by rw [B]; exact hin) (C _ (by omega)) (g := mkF m pc Ls (.int j :: .ref a :: st)) rfl rfl hd t r
theorem g_baloadZ (X : Stand p l e R s m args below meth c T locs cells slots) (hx : p.tables.exec = Jvm.exec) (hZ : Z.Warmed39 s.vm) (eT : T.heap = h) {a : Addr} {n : Nat} {f : Nat → Value} (F : Av Z h a .boolean n f) {j : Int32} {i : Nat} {v : Value} (hj0 : 0 ≤ j.toInt) (hj1 : j.toInt < n) (hi : j.toNatClampNeg = i) (hv : f i = v) (hd : decode c.code pc = .ok (.baload, 1)) (q : Go p e below P (T.setTop (mkF m (pc + 1) Ls (v :: st)))) : Go p e below P (T.setTop (mkF m pc Ls (.int j :: .ref a :: st))) := by
  obtain ⟨cl, A, B, C⟩ := F
  have hin := out_idx hj0 hj1
  subst hi hv
  exact q.by fun t r => X.baloadBooleans hx (by rw [eT]; exact A.1) (State.isArrayOf_alike hZ.alike A.2.1) A.2.2 (by rw [B]; exact hin) (C _ (by omega)) (g := mkF m pc Ls (.int j :: .ref a :: st)) rfl rfl hd t r
theorem g_iastore (X : Stand p l e R s m args below meth c T locs cells slots) (hx : p.tables.exec = Jvm.exec) (hZ : Z.Warmed39 s.vm) (eT : T.heap = h) {a : Addr} {n : Nat} {f : Nat → Value} (F : Av Z h a .int n f) {j : Int32} {i : Nat} {x : Int32} (hj0 : 0 ≤ j.toInt) (hj1 : j.toInt < n) (hi : j.toNatClampNeg = i) (hd : decode c.code pc = .ok (.iastore, 1))
    (k : ∀ T' h', Stand p l e R s m args below meth c T' (locs ++ [⟨a, i⟩]) cells slots → T'.heap = h' → Wr h h' a i (.int x) → Go p e below P (T'.setTop (mkF m (pc + 1) Ls st))) : Go p e below P (T.setTop (mkF m pc Ls (.int x :: .int j :: .ref a :: st))) := by
  obtain ⟨cl, A, B, C⟩ := F
  have hin := out_idx hj0 hj1
  subst hi
  obtain ⟨T', h', X', e', W, stp⟩ := stI X hx hZ eT A (x := x) (by rw [B]; exact hin) (g := mkF m pc Ls (.int x :: .int j :: .ref a :: st)) rfl rfl hd
  exact (k T' h' X' e' W).by stp
theorem g_lastore (X : Stand p l e R s m args below meth c T locs cells slots) (hx : p.tables.exec = Jvm.exec) (hZ : Z.Warmed39 s.vm) (eT : T.heap = h) {a : Addr} {n : Nat} {f : Nat → Value} (F : Av Z h a .long n f) {j : Int32} {i : Nat} {x : Int64} (hj0 : 0 ≤ j.toInt) (hj1 : j.toInt < n) (hi : j.toNatClampNeg = i) (hd : decode c.code pc = .ok (.lastore, 1))
    (k : ∀ T' h', Stand p l e R s m args below meth c T' (locs ++ [⟨a, i⟩]) cells slots → T'.heap = h' → Wr h h' a i (.long x) → Go p e below P (T'.setTop (mkF m (pc + 1) Ls st))) : Go p e below P (T.setTop (mkF m pc Ls (.long x :: .int j :: .ref a :: st))) := by
  obtain ⟨cl, A, B, C⟩ := F
  have hin := out_idx hj0 hj1
  subst hi
  obtain ⟨T', h', X', e', W, stp⟩ := stJ X hx hZ eT A (x := x) (by rw [B]; exact hin) (g := mkF m pc Ls (.long x :: .int j :: .ref a :: st)) rfl rfl hd
  exact (k T' h' X' e' W).by stp
theorem g_dastore (X : Stand p l e R s m args below meth c T locs cells slots) (hx : p.tables.exec = Jvm.exec) (hZ : Z.Warmed39 s.vm) (eT : T.heap = h) {a : Addr} {n : Nat} {f : Nat → Value} (F : Av Z h a .double n f) {j : Int32} {i : Nat} {x : UInt64} (hj0 : 0 ≤ j.toInt) (hj1 : j.toInt < n) (hi : j.toNatClampNeg = i) (hd : decode c.code pc = .ok (.dastore, 1))
    (k : ∀ T' h', Stand p l e R s m args below meth c T' (locs ++ [⟨a, i⟩]) cells slots → T'.heap = h' → Wr h h' a i (.double x) → Go p e below P (T'.setTop (mkF m (pc + 1) Ls st))) : Go p e below P (T.setTop (mkF m pc Ls (.double x :: .int j :: .ref a :: st))) := by
  obtain ⟨cl, A, B, C⟩ := F
  have hin := out_idx hj0 hj1
  subst hi
  obtain ⟨T', h', X', e', W, stp⟩ := stD X hx hZ eT A (x := x) (by rw [B]; exact hin) (g := mkF m pc Ls (.double x :: .int j :: .ref a :: st)) rfl rfl hd
  exact (k T' h' X' e' W).by stp
theorem g_castore (X : Stand p l e R s m args below meth c T locs cells slots) (hx : p.tables.exec = Jvm.exec) (hZ : Z.Warmed39 s.vm) (eT : T.heap = h) {a : Addr} {n : Nat} {f : Nat → Value} (F : Av Z h a .char n f) {j : Int32} {i : Nat} {x : Int32} (hj0 : 0 ≤ j.toInt) (hj1 : j.toInt < n) (hi : j.toNatClampNeg = i) (hd : decode c.code pc = .ok (.castore, 1))
    (k : ∀ T' h', Stand p l e R s m args below meth c T' (locs ++ [⟨a, i⟩]) cells slots → T'.heap = h' → Wr h h' a i (.int (nar .char x)) → Go p e below P (T'.setTop (mkF m (pc + 1) Ls st))) : Go p e below P (T.setTop (mkF m pc Ls (.int x :: .int j :: .ref a :: st))) := by
  obtain ⟨cl, A, B, C⟩ := F
  have hin := out_idx hj0 hj1
  subst hi
  obtain ⟨T', h', X', e', W, stp⟩ := stC X hx hZ eT A (x := x) (by rw [B]; exact hin) (g := mkF m pc Ls (.int x :: .int j :: .ref a :: st)) rfl rfl hd
  exact (k T' h' X' e' W).by stp
theorem g_bastoreB (X : Stand p l e R s m args below meth c T locs cells slots) (hx : p.tables.exec = Jvm.exec) (hZ : Z.Warmed39 s.vm) (eT : T.heap = h) {a : Addr} {n : Nat} {f : Nat → Value} (F : Av Z h a .byte n f) {j : Int32} {i : Nat} {x : Int32} (hj0 : 0 ≤ j.toInt) (hj1 : j.toInt < n) (hi : j.toNatClampNeg = i) (hd : decode c.code pc = .ok (.bastore, 1))
    (k : ∀ T' h', Stand p l e R s m args below meth c T' (locs ++ [⟨a, i⟩]) cells slots → T'.heap = h' → Wr h h' a i (.int (nar .byte x)) → Go p e below P (T'.setTop (mkF m (pc + 1) Ls st))) : Go p e below P (T.setTop (mkF m pc Ls (.int x :: .int j :: .ref a :: st))) := by
  obtain ⟨cl, A, B, C⟩ := F
  have hin := out_idx hj0 hj1
  subst hi
  obtain ⟨T', h', X', e', W, stp⟩ := stB X hx hZ eT A (x := x) (by rw [B]; exact hin) (g := mkF m pc Ls (.int x :: .int j :: .ref a :: st)) rfl rfl hd
  exact (k T' h' X' e' W).by stp
theorem g_bastoreZ (X : Stand p l e R s m args below meth c T locs cells slots) (hx : p.tables.exec = Jvm.exec) (hZ : Z.Warmed39 s.vm) (eT : T.heap = h) {a : Addr} {n : Nat} {f : Nat → Value} (F : Av Z h a .boolean n f) {j : Int32} {i : Nat} {x : Int32} (hj0 : 0 ≤ j.toInt) (hj1 : j.toInt < n) (hi : j.toNatClampNeg = i) (hd : decode c.code pc = .ok (.bastore, 1))
    (k : ∀ T' h', Stand p l e R s m args below meth c T' (locs ++ [⟨a, i⟩]) cells slots → T'.heap = h' → Wr h h' a i (.int (nar .boolean x)) → Go p e below P (T'.setTop (mkF m (pc + 1) Ls st))) : Go p e below P (T.setTop (mkF m pc Ls (.int x :: .int j :: .ref a :: st))) := by
  obtain ⟨cl, A, B, C⟩ := F
  have hin := out_idx hj0 hj1
  subst hi
  obtain ⟨T', h', X', e', W, stp⟩ := stZ X hx hZ eT A (x := x) (by rw [B]; exact hin) (g := mkF m pc Ls (.int x :: .int j :: .ref a :: st)) rfl rfl hd
  exact (k T' h' X' e' W).by stp
theorem g_arraylength (X : Stand p l e R s m args below meth c T locs cells slots) (hx : p.tables.exec = Jvm.exec) (hZ : Z.Warmed39 s.vm) (eT : T.heap = h) {a : Addr} {ty : FieldType} {n : Nat} {f : Nat → Value} (F : Av Z h a ty n f) {v : Int32} (hv : n.toInt32 = v) (hd : decode c.code pc = .ok (.arraylength, 1)) (q : Go p e below P (T.setTop (mkF m (pc + 1) Ls (.int v :: st)))) : Go p e below P (T.setTop (mkF m pc Ls (.ref a :: st))) := by
  obtain ⟨cl, A, B, C⟩ := F
  subst hv B
  exact q.by fun t r => X.arraylength hx (by rw [eT]; exact A.1) (State.isArrayOf_alike hZ.alike A.2.1) (g := mkF m pc Ls (.ref a :: st)) rfl rfl hd t r
theorem g_newRA (X : Stand p l e R s m args below meth c T locs cells slots) (hx : p.tables.exec = Jvm.exec) (hZ : Z.Warmed39 s.vm) (hown : s.vm.findClass own = some m.cls) {C : String} {ty : FieldType} (hC : (FieldType.array ty).toString = C) (w1 : (Cond.classLink own index C).before a0 Z = true) (w2 : (Cond.arrayOver (.array ty)).before a0 Z = true) (eT : T.heap = h) (hd : decode c.code pc = .ok (.anewarray index, 3)) {n : Int32} (hn : ¬ n < 0) {cap : Nat} (hcap : n.toNatClampNeg ≤ cap) (hb : cap * 8 ≤ 536870912) (hc : cells + 1 ≤ R.cells) (hl : slots + cap ≤ R.slots) {ad : String} (had : "[" ++ C = ad)
    (k : ∀ T' h' a cA, a = h.size → Stand p l e R s m args below meth c T' locs (cells + 1) (slots + cap) → T'.heap = h' → Ext h h' → Arr Z h' a (newA cA (.array ty) n) (.array ty) → Exa Z h' a ad → OvrA Z cA ty C → Go p e below P (T'.setTop (mkF m (pc + 3) Ls (.ref a :: st)))) : Go p e below P (T.setTop (mkF m pc Ls (.int n :: st))) := by
  obtain ⟨T', h', cA, X', e', E, A, EX, O, stp⟩ := newRA X hx hZ hown hC w1 w2 eT (g := mkF m pc Ls (.int n :: st)) rfl hd rfl hn hcap hb hc hl had
  exact (k T' h' _ cA rfl X' e' E A EX O).by stp
theorem g_newPE (X : Stand p l e R s m args below meth c T locs cells slots) (hx : p.tables.exec = Jvm.exec) (hZ : Z.Warmed39 s.vm) {aty : ArrayType} {ty : FieldType} (hty : newarray.typeOf aty = ty) (w : (Cond.arrayClass ty).before a0 Z = true) (eT : T.heap = h) (hd : decode c.code pc = .ok (.newarray aty, 2)) {n : Int32} (hn : ¬ n < 0) {cap : Nat} (hcap : n.toNatClampNeg ≤ cap) (hb : cap * 8 ≤ 536870912) (hc : cells + 1 ≤ R.cells) (hl : slots + cap ≤ R.slots) {ad : String} (had : "[" ++ ty.toString = ad)
    (k : ∀ T' h' a cA, a = h.size → Stand p l e R s m args below meth c T' locs (cells + 1) (slots + cap) → T'.heap = h' → Ext h h' → Arr Z h' a (newA cA ty n) ty → Exa Z h' a ad → Go p e below P (T'.setTop (mkF m (pc + 2) Ls (.ref a :: st)))) : Go p e below P (T.setTop (mkF m pc Ls (.int n :: st))) := by
  subst hty
  obtain ⟨T', h', cA, X', e', E, A, EX, stp⟩ := newPE X hx hZ w eT (g := mkF m pc Ls (.int n :: st)) rfl hd rfl hn hcap hb hc hl had
  exact (k T' h' _ cA rfl X' e' E A EX).by stp
theorem g_aaload (X : Stand p l e R s m args below meth c T locs cells slots) (hx : p.tables.exec = Jvm.exec) (hZ : Z.Warmed39 s.vm) (eT : T.heap = h) {a : Addr} {ty : FieldType} {n : Nat} {f : Nat → Value} (F : Av Z h a ty n f) (hty : ty.isReference = true) {j : Int32} {i : Nat} {v : Value} (hj0 : 0 ≤ j.toInt) (hj1 : j.toInt < n) (hi : j.toNatClampNeg = i) (hv : f i = v) (hd : decode c.code pc = .ok (.aaload, 1)) (q : Go p e below P (T.setTop (mkF m (pc + 1) Ls (v :: st)))) : Go p e below P (T.setTop (mkF m pc Ls (.int j :: .ref a :: st))) := by
  obtain ⟨cl, A, B, C⟩ := F
  have hin := out_idx hj0 hj1
  subst hi hv
  exact q.by fun t r => X.aaload hx (by rw [eT]; exact A.1) (State.isArrayOf_alike hZ.alike A.2.1) hty A.2.2 (by rw [B]; exact hin) (C _ (by omega)) (g := mkF m pc Ls (.int j :: .ref a :: st)) rfl rfl hd t r
theorem g_aastore (X : Stand p l e R s m args below meth c T locs cells slots) (hx : p.tables.exec = Jvm.exec) (hZ : Z.Warmed39 s.vm) (eT : T.heap = h) {a : Addr} {ty : FieldType} {n : Nat} {f : Nat → Value} (F : Av Z h a ty n f) (hty : ty.isReference = true) {v : Value} (S : Sto Z h a v) {j : Int32} {i : Nat} (hj0 : 0 ≤ j.toInt) (hj1 : j.toInt < n) (hi : j.toNatClampNeg = i) (hd : decode c.code pc = .ok (.aastore, 1))
    (k : ∀ T' h', Stand p l e R s m args below meth c T' (locs ++ [⟨a, i⟩]) cells slots → T'.heap = h' → Wr h h' a i v → Go p e below P (T'.setTop (mkF m (pc + 1) Ls st))) : Go p e below P (T.setTop (mkF m pc Ls (v :: .int j :: .ref a :: st))) := by
  obtain ⟨cl, A, B, C⟩ := F
  have hin := out_idx hj0 hj1
  subst hi
  obtain ⟨T', h', X', e', W, stp⟩ := stR X hx hZ eT A (by rw [B]; exact hin) hty S (g := mkF m pc Ls (v :: .int j :: .ref a :: st)) rfl rfl hd
  exact (k T' h' X' e' W).by stp
theorem Av.some {h' : Heap} {a b : Addr} {sl : Nat} {v : Value} {ty : FieldType} {n : Nat} {f : Nat → Value} (F : Av Z h b ty n f) (W : Wr h h' a sl v) : ∃ g, Av Z h' b ty n g := by
  by_cases q : b = a
  · subst q; exact ⟨_, F.same W⟩
  · exact ⟨_, F.other W q⟩
theorem cv_g_lt (r : Option Ordering) : cmpValue r .g < 0 ↔ r = some .lt := by rcases r with _ | (_ | _ | _) <;> decide
theorem cv_g_gt (r : Option Ordering) : 0 < cmpValue r .g ↔ (r = some .gt ∨ r = none) := by rcases r with _ | (_ | _ | _) <;> decide
theorem cv_l_lt (r : Option Ordering) : cmpValue r .l < 0 ↔ (r = some .lt ∨ r = none) := by rcases r with _ | (_ | _ | _) <;> decide
theorem cv_l_gt (r : Option Ordering) : 0 < cmpValue r .l ↔ r = some .gt := by rcases r with _ | (_ | _ | _) <;> decide
theorem cv_g_eq (r : Option Ordering) : cmpValue r .g = 0 ↔ r = some .eq := by rcases r with _ | (_ | _ | _) <;> decide
theorem cv_l_eq (r : Option Ordering) : cmpValue r .l = 0 ↔ r = some .eq := by rcases r with _ | (_ | _ | _) <;> decide
end OwnKit

def own_min (a b : Int32) : Int32 := if b < a then b else a
def own_max (a b : Int32) : Int32 := if a < b then b else a
theorem own_minT (a b : Int32) : (own_min a b).toInt = min a.toInt b.toInt := by
  unfold own_min
  by_cases h : b < a
  · rw [if_pos h]; have := Int32.lt_iff_toInt_lt.mp h; omega
  · rw [if_neg h]; have : ¬ b.toInt < a.toInt := fun q => h (Int32.lt_iff_toInt_lt.mpr q); omega
theorem own_maxT (a b : Int32) : (own_max a b).toInt = max a.toInt b.toInt := by
  unfold own_max
  by_cases h : a < b
  · rw [if_pos h]; have := Int32.lt_iff_toInt_lt.mp h; omega
  · rw [if_neg h]; have : ¬ a.toInt < b.toInt := fun q => h (Int32.lt_iff_toInt_lt.mpr q); omega
/-- the sizes, one band grown by one -/
def own_add (S : Nat → Int32) (b k : Nat) : Int32 := if k = b then S k + 1 else S k
def own_cnt (S : Nat → Int32) (n : Nat) : Prop := ∀ k, 0 ≤ (S k).toInt ∧ (S k).toInt ≤ n
theorem own_one {x : Int32} {n : Nat} (h : 0 ≤ x.toInt ∧ x.toInt ≤ n) (hn : n ≤ 10) : (x + 1).toInt = x.toInt + 1 := by
  have a := c_iadd x 1
  have z : (1 : Int32).toInt = 1 := rfl
  have r := rng32 (x + 1)
  omega
theorem own_add_cnt {S : Nat → Int32} {n b : Nat} (h : own_cnt S n) (hn : n ≤ 10) : own_cnt (own_add S b) (n + 1) := by
  intro k
  unfold own_add
  have q := h k
  by_cases z : k = b
  · rw [if_pos z, own_one q hn]; omega
  · rw [if_neg z]; omega
theorem own_add_ne {S : Nat → Int32} {n b k : Nat} (h : own_cnt S n) (hn : n ≤ 10) : own_add S b k ≠ 0 ↔ (k = b ∨ S k ≠ 0) := by
  unfold own_add
  by_cases z : k = b
  · rw [if_pos z]
    refine ⟨fun _ => Or.inl z, fun _ q => ?_⟩
    have e := own_one (h k) hn
    have q1 := h k
    rw [q] at e
    have z0 : (0 : Int32).toInt = 0 := rfl
    omega
  · rw [if_neg z]; simp [z]
def own_nil : Nat → Int32 := fun _ => 0
theorem own_zero_cnt : own_cnt own_nil 0 := fun _ => by simp [own_nil]
/-- the least held band from q on is the one that is found -/
theorem own_found {S : Nat → Int32} {q r E : Int} (h1 : q ≤ r) (h2 : r ≤ 4096) (h3 : ∀ k : Nat, q ≤ k → (k : Int) < r → S k = 0) (h4 : r = 4096 ∨ S r.toNat ≠ 0) (hq : 0 ≤ q)
    (e1 : E = 4096 ∨ (q ≤ E ∧ E < 4096 ∧ S E.toNat ≠ 0)) (e2 : ∀ k : Nat, q ≤ k → (k : Int) < 4096 → S k ≠ 0 → E ≤ k) : r = E := by
  have a : r ≤ E := by
    rcases e1 with e1 | ⟨k1, k2, k3⟩
    · omega
    · rcases Int.lt_or_le E r with z | z
      · exact absurd (h3 E.toNat (by omega) (by omega)) k3
      · exact z
  have b : E ≤ r := by
    rcases h4 with h4 | h4
    · rcases e1 with e1 | ⟨k1, k2, k3⟩ <;> omega
    · rcases Int.lt_or_le r 4096 with z | z
      · have := e2 r.toNat (by omega) (by omega) h4; omega
      · rcases e1 with e1 | ⟨k1, k2, k3⟩ <;> omega
  omega
def own_OZ (Z : State) : Prop := ∃ cA, Z.vm.findClass "[[J" = some cA ∧ OvrA Z cA .long "[J"
def own_E (Z : State) (h : Heap) (n0 : Nat) (b en sz : Addr) (f : Nat → Value) : Prop := ∀ k, k < 4096 → f k = .null ∨ ∃ y g, f k = .ref y ∧ n0 ≤ y ∧ y ≠ b ∧ y ≠ en ∧ y ≠ sz ∧ Av Z h y .long 16 g
theorem own_E.ext {Z : State} {h h' : Heap} {n0 : Nat} {b en sz : Addr} {f : Nat → Value} (F : own_E Z h n0 b en sz f) (E : Ext h h') : own_E Z h' n0 b en sz f := fun k hk => by
  rcases F k hk with q | ⟨y, g, q1, q2, q3, q4, q5, q6⟩
  · exact Or.inl q
  · exact Or.inr ⟨y, g, q1, q2, q3, q4, q5, q6.ext E⟩
theorem own_E.wr {Z : State} {h h' : Heap} {n0 : Nat} {b en sz a : Addr} {sl : Nat} {v : Value} {f : Nat → Value} (F : own_E Z h n0 b en sz f) (W : Wr h h' a sl v) : own_E Z h' n0 b en sz f := fun k hk => by
  rcases F k hk with q | ⟨y, g, q1, q2, q3, q4, q5, q6⟩
  · exact Or.inl q
  · obtain ⟨g', q7⟩ := q6.some W
    exact Or.inr ⟨y, g', q1, q2, q3, q4, q5, q7⟩
theorem own_E.upd {Z : State} {h : Heap} {n0 : Nat} {b en sz y : Addr} {i : Nat} {f g : Nat → Value} (F : own_E Z h n0 b en sz f) (q2 : n0 ≤ y) (q3 : y ≠ b) (q4 : y ≠ en) (q5 : y ≠ sz) (q6 : Av Z h y .long 16 g) : own_E Z h n0 b en sz (fun j => if j = i then .ref y else f j) := fun k hk => by
  by_cases z : k = i
  · simp only [z, if_true]; exact Or.inr ⟨y, g, rfl, q2, q3, q4, q5, q6⟩
  · simp only [z, if_false]; exact F k hk
theorem own_sto {Z : State} {h : Heap} {en y : Addr} {f : Nat → Value} (O : own_OZ Z) (E : Exa Z h en "[[J") (A : Av Z h en (.array .long) 4096 f) (Y : Exa Z h y "[J") : Sto Z h en (.ref y) := by
  obtain ⟨cA, o1, o2⟩ := O
  obtain ⟨cl, A1, -, -⟩ := A
  obtain ⟨cell, k, e1, e2, -⟩ := E
  cases A1.1.symm.trans e1
  cases o1.symm.trans e2
  exact Sto.ofVA A1 rfl o2 (Ins.self Y)
def own_B (Z : State) (h : Heap) (n0 : Nat) (b en sz : Addr) (f : Nat → Value) (S : Nat → Int32) : Prop :=
  Exa Z h b "com/example/skywright/skywright/search/Bands" ∧ Fld Z h b "com/example/skywright/skywright/search/Bands" "entries" "[[J" (.ref en) ∧ Fld Z h b "com/example/skywright/skywright/search/Bands" "sizes" "[I" (.ref sz) ∧ Exa Z h en "[[J" ∧ Av Z h en (.array .long) 4096 f ∧ own_E Z h n0 b en sz f ∧ Av Z h sz .int 4096 (fun k => .int (S k)) ∧ b ≠ en ∧ b ≠ sz ∧ en ≠ sz ∧ n0 ≤ b ∧ n0 ≤ en ∧ n0 ≤ sz
theorem dm_0 : decode jdk_29_method_69_code 0 = .ok (.iload_n 0, 1) := by decide +kernel
theorem dm_1 : decode jdk_29_method_69_code 1 = .ok (.iload_n 1, 1) := by decide +kernel
theorem dm_2 : decode jdk_29_method_69_code 2 = .ok (.if_icmp .gt 7, 3) := by decide +kernel
theorem dm_5 : decode jdk_29_method_69_code 5 = .ok (.iload_n 0, 1) := by decide +kernel
theorem dm_6 : decode jdk_29_method_69_code 6 = .ok (.goto 4, 3) := by decide +kernel
theorem dm_9 : decode jdk_29_method_69_code 9 = .ok (.iload_n 1, 1) := by decide +kernel
theorem dm_10 : decode jdk_29_method_69_code 10 = .ok (.ireturn, 1) := by decide +kernel
theorem efm (m : MethodId) (z0 : Int32) (z1 : Int32) : entryFrame m #[(.int z0), (.int z1)] 2 = mkF m 0 #[.val (.int z0), .val (.int z1)] [] := by first | (simp [entryFrame, mkF, argsToLocals, Value.category]; done) | rfl
def Qm (Z : State) (q1 : Int32) (q2 : Int32) (h0 : Heap) (n0 : Nat) (v : Option Value) (h : Heap) (L : List Loc) : Prop := v = some (.int (own_min q1 q2)) ∧ Fr n0 L ∧ h = h0
set_option maxRecDepth 65536 in
set_option maxHeartbeats 40000000 in
theorem rmm (l : Launch) (Z : State) (a0 : Array Value) (hw : ∀ d ∈ tables_1, d.before a0 Z = true) (ws : List Jvm.Cond) (q1 : Int32) (q2 : Int32) (h0 : Heap) (n0 : Nat) (Z0 : n0 ≤ h0.size)  :
    MetFree l (⟨"java/lang/Math", "min", "(II)I"⟩ : MethodName) (head1 (Jvm.Cond.code (⟨"java/lang/Math", "min", "(II)I"⟩ : MethodName) jdk_29_method_69_code 2 (Option.some Jvm.ClassFile.FieldType.int) :: ws) ({ frames := 0, cells := 0, slots := 0, locals := 0 } : Room)) (fun a U => a = #[(.int q1), (.int q2)] ∧ Z.Warmed39 U.vm ∧ U.heap = h0) (fun _ _ _ _ _ => True) (fun _ U o U' => ∃ v L, o = .returned v ∧ Qm Z q1 q2 h0 n0 v U'.heap L ∧ FrameEnd U o U' L ({ frames := 0, cells := 0, slots := 0, locals := 0 } : Room).cells ({ frames := 0, cells := 0, slots := 0, locals := 0 } : Room).slots) := by
  refine MetFree.of_bodySF (by decide +kernel) hisR ?_
  intro p e s m args below meth c s₁ Bd hml0 hP hK
  obtain ⟨rfl, hZ, hh⟩ := hP
  have hx := Bd.exec
  have hby := Bd.bytes
  have hml : c.maxLocals = 2 := hml0
  have hown : s.vm.findClass "java/lang/Math" = some m.cls := findClass_of_methodNamed Bd.named
  have hnm := (name_of_methodNamed Bd.named Bd.method).1
  have X0 : Stand p l e ({ frames := 0, cells := 0, slots := 0, locals := 0 } : Room) s m #[(.int q1), (.int q2)] below meth c s₁ [] 0 0 := Stand.of_body Bd
  have e0 : s₁.heap = h0 := by rw [← hh, Bd.state]; rfl
  have N0 := Fr.nil n0
  show Go p e below (Ret s (Qm Z q1 q2 h0 n0) ({ frames := 0, cells := 0, slots := 0, locals := 0 } : Room).cells ({ frames := 0, cells := 0, slots := 0, locals := 0 } : Room).slots) (s₁.setTop (entryFrame m #[(.int q1), (.int q2)] 2))
  rw [efm m q1 q2]
  refine g_iloadN X0 hx (hb hby dm_0) rfl ?_
  refine g_iloadN X0 hx (hb hby dm_1) rfl ?_
  by_cases hc2_1 : q2 < q1
  ·
    refine g_icmpYes X0 hx (hb hby dm_2) (tlt hc2_1).2.2.1 (by decide) (pc' := 9) (by decide) ?_
    refine g_iloadN X0 hx (hb hby dm_9) rfl ?_
    refine g_ireturn X0 hx Bd.notSynchronized Bd.returns rfl (by simp) (hb hby dm_10) (by decide) (by decide) ?_
    exact ⟨by simp only [own_min, hc2_1, if_true, if_false], N0, e0⟩
  ·
    refine g_icmpNo X0 hx (hb hby dm_2) (flt hc2_1).2.2.1 ?_
    refine g_iloadN X0 hx (hb hby dm_5) rfl ?_
    refine g_goto X0 hx (hb hby dm_6) (by decide) (pc' := 10) (by decide) ?_
    refine g_ireturn X0 hx Bd.notSynchronized Bd.returns rfl (by simp) (hb hby dm_10) (by decide) (by decide) ?_
    exact ⟨by simp only [own_min, hc2_1, if_true, if_false], N0, e0⟩
theorem dx_0 : decode jdk_29_method_65_code 0 = .ok (.iload_n 0, 1) := by decide +kernel
theorem dx_1 : decode jdk_29_method_65_code 1 = .ok (.iload_n 1, 1) := by decide +kernel
theorem dx_2 : decode jdk_29_method_65_code 2 = .ok (.if_icmp .lt 7, 3) := by decide +kernel
theorem dx_5 : decode jdk_29_method_65_code 5 = .ok (.iload_n 0, 1) := by decide +kernel
theorem dx_6 : decode jdk_29_method_65_code 6 = .ok (.goto 4, 3) := by decide +kernel
theorem dx_9 : decode jdk_29_method_65_code 9 = .ok (.iload_n 1, 1) := by decide +kernel
theorem dx_10 : decode jdk_29_method_65_code 10 = .ok (.ireturn, 1) := by decide +kernel
theorem efx (m : MethodId) (z0 : Int32) (z1 : Int32) : entryFrame m #[(.int z0), (.int z1)] 2 = mkF m 0 #[.val (.int z0), .val (.int z1)] [] := by first | (simp [entryFrame, mkF, argsToLocals, Value.category]; done) | rfl
def Qx (Z : State) (q1 : Int32) (q2 : Int32) (h0 : Heap) (n0 : Nat) (v : Option Value) (h : Heap) (L : List Loc) : Prop := v = some (.int (own_max q1 q2)) ∧ Fr n0 L ∧ h = h0
set_option maxRecDepth 65536 in
set_option maxHeartbeats 40000000 in
theorem rmx (l : Launch) (Z : State) (a0 : Array Value) (hw : ∀ d ∈ tables_1, d.before a0 Z = true) (ws : List Jvm.Cond) (q1 : Int32) (q2 : Int32) (h0 : Heap) (n0 : Nat) (Z0 : n0 ≤ h0.size)  :
    MetFree l (⟨"java/lang/Math", "max", "(II)I"⟩ : MethodName) (head1 (Jvm.Cond.code (⟨"java/lang/Math", "max", "(II)I"⟩ : MethodName) jdk_29_method_65_code 2 (Option.some Jvm.ClassFile.FieldType.int) :: ws) ({ frames := 0, cells := 0, slots := 0, locals := 0 } : Room)) (fun a U => a = #[(.int q1), (.int q2)] ∧ Z.Warmed39 U.vm ∧ U.heap = h0) (fun _ _ _ _ _ => True) (fun _ U o U' => ∃ v L, o = .returned v ∧ Qx Z q1 q2 h0 n0 v U'.heap L ∧ FrameEnd U o U' L ({ frames := 0, cells := 0, slots := 0, locals := 0 } : Room).cells ({ frames := 0, cells := 0, slots := 0, locals := 0 } : Room).slots) := by
  refine MetFree.of_bodySF (by decide +kernel) hisR ?_
  intro p e s m args below meth c s₁ Bd hml0 hP hK
  obtain ⟨rfl, hZ, hh⟩ := hP
  have hx := Bd.exec
  have hby := Bd.bytes
  have hml : c.maxLocals = 2 := hml0
  have hown : s.vm.findClass "java/lang/Math" = some m.cls := findClass_of_methodNamed Bd.named
  have hnm := (name_of_methodNamed Bd.named Bd.method).1
  have X0 : Stand p l e ({ frames := 0, cells := 0, slots := 0, locals := 0 } : Room) s m #[(.int q1), (.int q2)] below meth c s₁ [] 0 0 := Stand.of_body Bd
  have e0 : s₁.heap = h0 := by rw [← hh, Bd.state]; rfl
  have N0 := Fr.nil n0
  show Go p e below (Ret s (Qx Z q1 q2 h0 n0) ({ frames := 0, cells := 0, slots := 0, locals := 0 } : Room).cells ({ frames := 0, cells := 0, slots := 0, locals := 0 } : Room).slots) (s₁.setTop (entryFrame m #[(.int q1), (.int q2)] 2))
  rw [efx m q1 q2]
  refine g_iloadN X0 hx (hb hby dx_0) rfl ?_
  refine g_iloadN X0 hx (hb hby dx_1) rfl ?_
  by_cases hc2_1 : q1 < q2
  ·
    refine g_icmpYes X0 hx (hb hby dx_2) (tlt hc2_1).1 (by decide) (pc' := 9) (by decide) ?_
    refine g_iloadN X0 hx (hb hby dx_9) rfl ?_
    refine g_ireturn X0 hx Bd.notSynchronized Bd.returns rfl (by simp) (hb hby dx_10) (by decide) (by decide) ?_
    exact ⟨by simp only [own_max, hc2_1, if_true, if_false], N0, e0⟩
  ·
    refine g_icmpNo X0 hx (hb hby dx_2) (flt hc2_1).1 ?_
    refine g_iloadN X0 hx (hb hby dx_5) rfl ?_
    refine g_goto X0 hx (hb hby dx_6) (by decide) (pc' := 10) (by decide) ?_
    refine g_ireturn X0 hx Bd.notSynchronized Bd.returns rfl (by simp) (hb hby dx_10) (by decide) (by decide) ?_
    exact ⟨by simp only [own_max, hc2_1, if_true, if_false], N0, e0⟩
theorem di_0 : decode prog_27_method_1_code 0 = .ok (.aload_n 0, 1) := by decide +kernel
theorem di_1 : decode prog_27_method_1_code 1 = .ok (.invokespecial 1, 3) := by decide +kernel
theorem di_4 : decode prog_27_method_1_code 4 = .ok (.aload_n 0, 1) := by decide +kernel
theorem di_5 : decode prog_27_method_1_code 5 = .ok (.sipush 4096, 3) := by decide +kernel
theorem di_8 : decode prog_27_method_1_code 8 = .ok (.anewarray 9, 3) := by decide +kernel
theorem di_11 : decode prog_27_method_1_code 11 = .ok (.putfield 11, 3) := by decide +kernel
theorem di_14 : decode prog_27_method_1_code 14 = .ok (.aload_n 0, 1) := by decide +kernel
theorem di_15 : decode prog_27_method_1_code 15 = .ok (.sipush 4096, 3) := by decide +kernel
theorem di_18 : decode prog_27_method_1_code 18 = .ok (.newarray .int, 2) := by decide +kernel
theorem di_20 : decode prog_27_method_1_code 20 = .ok (.putfield 15, 3) := by decide +kernel
theorem di_23 : decode prog_27_method_1_code 23 = .ok (.aload_n 0, 1) := by decide +kernel
theorem di_24 : decode prog_27_method_1_code 24 = .ok (.dload_n 1, 1) := by decide +kernel
theorem di_25 : decode prog_27_method_1_code 25 = .ok (.putfield 19, 3) := by decide +kernel
theorem di_28 : decode prog_27_method_1_code 28 = .ok (.aload_n 0, 1) := by decide +kernel
theorem di_29 : decode prog_27_method_1_code 29 = .ok (.dload_n 3, 1) := by decide +kernel
theorem di_30 : decode prog_27_method_1_code 30 = .ok (.dload_n 1, 1) := by decide +kernel
theorem di_31 : decode prog_27_method_1_code 31 = .ok (.dcmp .l, 1) := by decide +kernel
theorem di_32 : decode prog_27_method_1_code 32 = .ok (.ifCond .le 13, 3) := by decide +kernel
theorem di_35 : decode prog_27_method_1_code 35 = .ok (.dload_n 3, 1) := by decide +kernel
theorem di_36 : decode prog_27_method_1_code 36 = .ok (.dload_n 1, 1) := by decide +kernel
theorem di_37 : decode prog_27_method_1_code 37 = .ok (.dsub, 1) := by decide +kernel
theorem di_38 : decode prog_27_method_1_code 38 = .ok (.ldc2_w 23, 3) := by decide +kernel
theorem di_41 : decode prog_27_method_1_code 41 = .ok (.ddiv, 1) := by decide +kernel
theorem di_42 : decode prog_27_method_1_code 42 = .ok (.goto 6, 3) := by decide +kernel
theorem di_48 : decode prog_27_method_1_code 48 = .ok (.putfield 29, 3) := by decide +kernel
theorem di_51 : decode prog_27_method_1_code 51 = .ok (.return_, 1) := by decide +kernel
theorem pni : plainName "com/example/skywright/skywright/search/Bands" = true := by first | (simp [plainName, overriddenIn]; done) | decide +kernel
theorem efi (m : MethodId) (z0 : Addr) (z1 : UInt64) (z2 : UInt64) : entryFrame m #[(.ref z0), (.double z1), (.double z2)] 5 = mkF m 0 #[.val (.ref z0), .val (.double z1), .second, .val (.double z2), .second] [] := by first | (simp [entryFrame, mkF, argsToLocals, Value.category]; done) | rfl
def Qi (Z : State) (q1 : Addr) (h0 : Heap) (n0 : Nat) (v : Option Value) (h : Heap) (L : List Loc) : Prop := v = none ∧ Fr n0 L ∧ n0 ≤ h.size ∧ own_OZ Z ∧ ∃ en sz f, own_B Z h n0 q1 en sz f own_nil
set_option maxRecDepth 65536 in
set_option maxHeartbeats 40000000 in
theorem rmi (l : Launch) (Z : State) (a0 : Array Value) (hw : ∀ d ∈ tables_1, d.before a0 Z = true) (ws : List Jvm.Cond) (q1 : Addr) (h0 : Heap) (n0 : Nat) (Z0 : n0 ≤ h0.size) (E0 : Exa Z h0 q1 "com/example/skywright/skywright/search/Bands") (F0 : Fld Z h0 q1 "com/example/skywright/skywright/search/Bands" "entries" "[[J" .null) (g1 : n0 ≤ q1) :
    MetFree l (⟨"com/example/skywright/skywright/search/Bands", "<init>", "(DD)V"⟩ : MethodName) (head1 (Jvm.Cond.code (⟨"com/example/skywright/skywright/search/Bands", "<init>", "(DD)V"⟩ : MethodName) prog_27_method_1_code 5 (Option.none : Option Jvm.ClassFile.FieldType) :: ws) ({ frames := 1, cells := 2, slots := 8192, locals := 12 } : Room)) (fun a U => a = #[(.ref q1), (.double (0 : UInt64)), (.double (4607182418800017408 : UInt64))] ∧ Z.Warmed39 U.vm ∧ U.heap = h0) (fun _ _ _ _ _ => True) (fun _ U o U' => ∃ v L, o = .returned v ∧ Qi Z q1 h0 n0 v U'.heap L ∧ FrameEnd U o U' L ({ frames := 1, cells := 2, slots := 8192, locals := 12 } : Room).cells ({ frames := 1, cells := 2, slots := 8192, locals := 12 } : Room).slots) := by
  refine MetFree.of_bodySF (plainFor_of_name pni) hisR ?_
  intro p e s m args below meth c s₁ Bd hml0 hP hK
  obtain ⟨rfl, hZ, hh⟩ := hP
  have hx := Bd.exec
  have hby := Bd.bytes
  have hml : c.maxLocals = 5 := hml0
  have hown : s.vm.findClass "com/example/skywright/skywright/search/Bands" = some m.cls := findClass_of_methodNamed Bd.named
  have hnm := (name_of_methodNamed Bd.named Bd.method).1
  have X0 : Stand p l e ({ frames := 1, cells := 2, slots := 8192, locals := 12 } : Room) s m #[(.ref q1), (.double (0 : UInt64)), (.double (4607182418800017408 : UInt64))] below meth c s₁ [] 0 0 := Stand.of_body Bd
  have e0 : s₁.heap = h0 := by rw [← hh, Bd.state]; rfl
  have N0 := Fr.nil n0
  show Go p e below (Ret s (Qi Z q1 h0 n0) ({ frames := 1, cells := 2, slots := 8192, locals := 12 } : Room).cells ({ frames := 1, cells := 2, slots := 8192, locals := 12 } : Room).slots) (s₁.setTop (entryFrame m #[(.ref q1), (.double (0 : UInt64)), (.double (4607182418800017408 : UInt64))] 5))
  rw [efi m q1 (0 : UInt64) (4607182418800017408 : UInt64)]
  refine g_aloadN X0 hx (hb hby di_0) rfl rfl ?_
  refine g_objInit X0 hx hZ hown (hw _ (List.mem_of_getElem? (i := 7) rfl)) (hw _ (List.mem_of_getElem? (i := 8) rfl)) (hw _ (List.mem_of_getElem? (i := 9) rfl)) e0 (by rw [hml]; rfl) (hb hby di_1) (by decide) (W := 0) (Nat.le_of_eq rfl) (by decide) ?_
  intro T1 X2 e3
  refine g_aloadN X2 hx (hb hby di_4) rfl rfl ?_
  refine g_sipush X2 hx (hb hby di_5) (v := (4096 : Int32)) (by decide) ?_
  refine g_newRA X2 hx hZ hown (ty := .long) (by decide) (hw _ (List.mem_of_getElem? (i := 10) rfl)) (hw _ (List.mem_of_getElem? (i := 11) rfl)) e3 (hb hby di_8) (by decide) (cap := 4096) (by decide) (by decide) (by decide) (by decide) (ad := "[[J") (by decide) ?_
  intro T4 h7 en cA12 gen X5 e6 E8 F9 F10 O11
  have ne_q1_en : q1 ≠ en := fun q => absurd E0.lt (by rw [q, gen]; exact Nat.lt_irrefl _)
  have ge_en : n0 ≤ en := by rw [gen]; exact Z0
  have F13 := E0.ext E8
  have F14 := F0.ext E8
  have Z15 : n0 ≤ h7.size := Nat.le_trans Z0 E8.1
  have F16 : Av Z h7 en (.array .long) 4096 (fun _ => .null) := Av.newK F9 (by decide)
  have hOZ : own_OZ Z := by
    obtain ⟨cell, k, e1, e2, -⟩ := F10
    cases F9.1.symm.trans e1
    exact ⟨_, e2, O11⟩
  refine g_putF X5 hx hZ hown (hw _ (List.mem_of_getElem? (i := 12) rfl)) e6 F14 F13 (Or.inr ⟨(hw _ (List.mem_of_getElem? (i := 13) rfl)), rfl, hnm⟩) (hw _ (List.mem_of_getElem? (i := 2) rfl)) (ty := (.array (.array .long))) (by decide) rfl rfl (hb hby di_11) ?_
  intro T19 h22 X20 e21 W23
  have F25 := F13.wr W23
  have F26 := F16.other W23 ne_q1_en.symm
  have F27 := F10.wr W23
  have F28 := F14.same W23
  have Z29 : n0 ≤ h22.size := by rw [W23.size]; exact Z15
  have N30 := Fr.snoc X20 N0 g1
  refine g_aloadN X20 hx (hb hby di_14) rfl rfl ?_
  refine g_sipush X20 hx (hb hby di_15) (v := (4096 : Int32)) (by decide) ?_
  refine g_newP X20 hx hZ (ty := .int) rfl (hw _ (List.mem_of_getElem? (i := 14) rfl)) e21 (hb hby di_18) (by decide) (cap := 4096) (by decide) (by decide) (by decide) (by decide) ?_
  intro T31 h34 sz cA38 gsz X32 e33 E35 F36 
  have ne_q1_sz : q1 ≠ sz := fun q => absurd F25.lt (by rw [q, gsz]; exact Nat.lt_irrefl _)
  have ne_en_sz : en ≠ sz := fun q => absurd F26.lt (by rw [q, gsz]; exact Nat.lt_irrefl _)
  have ge_sz : n0 ≤ sz := by rw [gsz]; exact Z29
  have F40 := F25.ext E35
  have F41 := F26.ext E35
  have F42 := F27.ext E35
  have F43 := F28.ext E35
  have Z44 : n0 ≤ h34.size := Nat.le_trans Z29 E35.1
  have F39 : Av Z h34 sz .int 4096 (fun _ => .int 0) := Av.newK F36 (by decide)
  obtain ⟨o47, F46⟩ := fld_any F40 F43 (hw _ (List.mem_of_getElem? (i := 2) rfl)) (Or.inr (hw _ (List.mem_of_getElem? (i := 16) rfl)))
  refine g_putF X32 hx hZ hown (hw _ (List.mem_of_getElem? (i := 15) rfl)) e33 F46 F40 (Or.inr ⟨(hw _ (List.mem_of_getElem? (i := 16) rfl)), rfl, hnm⟩) (hw _ (List.mem_of_getElem? (i := 2) rfl)) (ty := (.array .int)) (by decide) rfl rfl (hb hby di_20) ?_
  intro T49 h52 X50 e51 W53
  have F55 := F40.wr W53
  have F56 := F41.other W53 ne_q1_en.symm
  have F57 := F42.wr W53
  have F58 := F43.other W53 (Or.inr (slot_ne (Or.inr (hw _ (List.mem_of_getElem? (i := 13) rfl))) (Or.inr (hw _ (List.mem_of_getElem? (i := 16) rfl))) (by decide) (t := (.array (.array .long))) (t' := (.array .int)) (by decide) (by decide)))
  have F59 := F39.other W53 ne_q1_sz.symm
  have F60 := F46.same W53
  have Z61 : n0 ≤ h52.size := by rw [W53.size]; exact Z44
  have N62 := Fr.snoc X50 N30 g1
  refine g_aloadN X50 hx (hb hby di_23) rfl rfl ?_
  refine g_dloadN X50 hx (hb hby di_24) rfl ?_
  obtain ⟨o64, F63⟩ := fld_any F55 F58 (hw _ (List.mem_of_getElem? (i := 2) rfl)) (Or.inr (hw _ (List.mem_of_getElem? (i := 18) rfl)))
  refine g_putF X50 hx hZ hown (hw _ (List.mem_of_getElem? (i := 17) rfl)) e51 F63 F55 (Or.inr ⟨(hw _ (List.mem_of_getElem? (i := 18) rfl)), rfl, hnm⟩) (hw _ (List.mem_of_getElem? (i := 2) rfl)) (ty := .double) (by decide) rfl rfl (hb hby di_25) ?_
  intro T66 h69 X67 e68 W70
  have F72 := F55.wr W70
  have F73 := F56.other W70 ne_q1_en.symm
  have F74 := F57.wr W70
  have F75 := F58.other W70 (Or.inr (slot_ne (Or.inr (hw _ (List.mem_of_getElem? (i := 13) rfl))) (Or.inr (hw _ (List.mem_of_getElem? (i := 18) rfl))) (by decide) (t := (.array (.array .long))) (t' := .double) (by decide) (by decide)))
  have F76 := F59.other W70 ne_q1_sz.symm
  have F77 := F60.other W70 (Or.inr (slot_ne (Or.inr (hw _ (List.mem_of_getElem? (i := 16) rfl))) (Or.inr (hw _ (List.mem_of_getElem? (i := 18) rfl))) (by decide) (t := (.array .int)) (t' := .double) (by decide) (by decide)))
  have F78 := F63.same W70
  have Z79 : n0 ≤ h69.size := by rw [W70.size]; exact Z61
  have N80 := Fr.snoc X67 N62 g1
  refine g_aloadN X67 hx (hb hby di_28) rfl rfl ?_
  refine g_dloadN X67 hx (hb hby di_29) rfl ?_
  refine g_dloadN X67 hx (hb hby di_30) rfl ?_
  refine g_dcmp X67 hx (hb hby di_31) ?_
  have hc32_81 : FP.dcmp (4607182418800017408 : UInt64) (0 : UInt64) = some .gt := (by decide +kernel)
  refine g_ifNo X67 hx (hb hby di_32) (tlt ((cv_l_gt _).mpr hc32_81)).2.2.2 ?_
  refine g_dloadN X67 hx (hb hby di_35) rfl ?_
  refine g_dloadN X67 hx (hb hby di_36) rfl ?_
  have n82 : Jvm.Free.Fl.NoNaN64 (FP.dsub (4607182418800017408 : UInt64) (0 : UInt64)) := (by unfold Jvm.Free.Fl.NoNaN64; decide +kernel)
  obtain ⟨d83, hd83⟩ : ∃ v : UInt64, FP.dsub (4607182418800017408 : UInt64) (0 : UInt64) = v := ⟨_, rfl⟩
  have nn_d83 : Jvm.Free.Fl.NoNaN64 d83 := by rw [← hd83]; exact n82
  refine g_dsub X67 hx (hb hby di_37) n82 hd83 ?_
  refine g_ldc2D X67 hx hZ hown (hw _ (List.mem_of_getElem? (i := 19) rfl)) (hb hby di_38) ?_
  have n84 : Jvm.Free.Fl.NoNaN64 (FP.ddiv d83 (4661225614328463360 : UInt64)) := (by rw [← hd83]; unfold Jvm.Free.Fl.NoNaN64; decide +kernel)
  obtain ⟨d85, hd85⟩ : ∃ v : UInt64, FP.ddiv d83 (4661225614328463360 : UInt64) = v := ⟨_, rfl⟩
  have nn_d85 : Jvm.Free.Fl.NoNaN64 d85 := by rw [← hd85]; exact n84
  refine g_ddiv X67 hx (hb hby di_41) n84 hd85 ?_
  refine g_goto X67 hx (hb hby di_42) (by decide) (pc' := 48) (by decide) ?_
  obtain ⟨o87, F86⟩ := fld_any F72 F75 (hw _ (List.mem_of_getElem? (i := 2) rfl)) (Or.inr (hw _ (List.mem_of_getElem? (i := 21) rfl)))
  refine g_putF X67 hx hZ hown (hw _ (List.mem_of_getElem? (i := 20) rfl)) e68 F86 F72 (Or.inr ⟨(hw _ (List.mem_of_getElem? (i := 21) rfl)), rfl, hnm⟩) (hw _ (List.mem_of_getElem? (i := 2) rfl)) (ty := .double) (by decide) rfl rfl (hb hby di_48) ?_
  intro T89 h92 X90 e91 W93
  have F95 := F72.wr W93
  have F96 := F73.other W93 ne_q1_en.symm
  have F97 := F74.wr W93
  have F98 := F75.other W93 (Or.inr (slot_ne (Or.inr (hw _ (List.mem_of_getElem? (i := 13) rfl))) (Or.inr (hw _ (List.mem_of_getElem? (i := 21) rfl))) (by decide) (t := (.array (.array .long))) (t' := .double) (by decide) (by decide)))
  have F99 := F76.other W93 ne_q1_sz.symm
  have F100 := F77.other W93 (Or.inr (slot_ne (Or.inr (hw _ (List.mem_of_getElem? (i := 16) rfl))) (Or.inr (hw _ (List.mem_of_getElem? (i := 21) rfl))) (by decide) (t := (.array .int)) (t' := .double) (by decide) (by decide)))
  have F101 := F78.other W93 (Or.inr (slot_ne (Or.inr (hw _ (List.mem_of_getElem? (i := 18) rfl))) (Or.inr (hw _ (List.mem_of_getElem? (i := 21) rfl))) (by decide) (t := .double) (t' := .double) (by decide) (by decide)))
  have F102 := F86.same W93
  have Z103 : n0 ≤ h92.size := by rw [W93.size]; exact Z79
  have N104 := Fr.snoc X90 N80 g1
  refine g_return X90 hx Bd.notSynchronized Bd.returns (hb hby di_51) (by decide) (by decide) ?_
  rw [e91]
  exact ⟨rfl, N104, Z103, hOZ, en, sz, _, F95, F98, F100, F97, F96, fun _ _ => Or.inl rfl, F99, ne_q1_en, ne_q1_sz, ne_en_sz, g1, ge_en, ge_sz⟩
theorem da_0 : decode prog_27_method_4_code 0 = .ok (.aload_n 0, 1) := by decide +kernel
theorem da_1 : decode prog_27_method_4_code 1 = .ok (.getfield 11, 3) := by decide +kernel
theorem da_4 : decode prog_27_method_4_code 4 = .ok (.iload_n 1, 1) := by decide +kernel
theorem da_5 : decode prog_27_method_4_code 5 = .ok (.aaload, 1) := by decide +kernel
theorem da_6 : decode prog_27_method_4_code 6 = .ok (.ifnonnull 16, 3) := by decide +kernel
theorem da_9 : decode prog_27_method_4_code 9 = .ok (.aload_n 0, 1) := by decide +kernel
theorem da_10 : decode prog_27_method_4_code 10 = .ok (.getfield 11, 3) := by decide +kernel
theorem da_13 : decode prog_27_method_4_code 13 = .ok (.iload_n 1, 1) := by decide +kernel
theorem da_14 : decode prog_27_method_4_code 14 = .ok (.bipush 16, 2) := by decide +kernel
theorem da_16 : decode prog_27_method_4_code 16 = .ok (.newarray .long, 2) := by decide +kernel
theorem da_18 : decode prog_27_method_4_code 18 = .ok (.aastore, 1) := by decide +kernel
theorem da_19 : decode prog_27_method_4_code 19 = .ok (.goto 42, 3) := by decide +kernel
theorem da_22 : decode prog_27_method_4_code 22 = .ok (.aload_n 0, 1) := by decide +kernel
theorem da_23 : decode prog_27_method_4_code 23 = .ok (.getfield 15, 3) := by decide +kernel
theorem da_26 : decode prog_27_method_4_code 26 = .ok (.iload_n 1, 1) := by decide +kernel
theorem da_27 : decode prog_27_method_4_code 27 = .ok (.iaload, 1) := by decide +kernel
theorem da_28 : decode prog_27_method_4_code 28 = .ok (.aload_n 0, 1) := by decide +kernel
theorem da_29 : decode prog_27_method_4_code 29 = .ok (.getfield 11, 3) := by decide +kernel
theorem da_32 : decode prog_27_method_4_code 32 = .ok (.iload_n 1, 1) := by decide +kernel
theorem da_33 : decode prog_27_method_4_code 33 = .ok (.aaload, 1) := by decide +kernel
theorem da_34 : decode prog_27_method_4_code 34 = .ok (.arraylength, 1) := by decide +kernel
theorem da_35 : decode prog_27_method_4_code 35 = .ok (.if_icmp .ne 26, 3) := by decide +kernel
theorem da_61 : decode prog_27_method_4_code 61 = .ok (.aload_n 0, 1) := by decide +kernel
theorem da_62 : decode prog_27_method_4_code 62 = .ok (.getfield 11, 3) := by decide +kernel
theorem da_65 : decode prog_27_method_4_code 65 = .ok (.iload_n 1, 1) := by decide +kernel
theorem da_66 : decode prog_27_method_4_code 66 = .ok (.aaload, 1) := by decide +kernel
theorem da_67 : decode prog_27_method_4_code 67 = .ok (.aload_n 0, 1) := by decide +kernel
theorem da_68 : decode prog_27_method_4_code 68 = .ok (.getfield 15, 3) := by decide +kernel
theorem da_71 : decode prog_27_method_4_code 71 = .ok (.iload_n 1, 1) := by decide +kernel
theorem da_72 : decode prog_27_method_4_code 72 = .ok (.dup2, 1) := by decide +kernel
theorem da_73 : decode prog_27_method_4_code 73 = .ok (.iaload, 1) := by decide +kernel
theorem da_74 : decode prog_27_method_4_code 74 = .ok (.dup_x2, 1) := by decide +kernel
theorem da_75 : decode prog_27_method_4_code 75 = .ok (.iconst 1, 1) := by decide +kernel
theorem da_76 : decode prog_27_method_4_code 76 = .ok (.iadd, 1) := by decide +kernel
theorem da_77 : decode prog_27_method_4_code 77 = .ok (.iastore, 1) := by decide +kernel
theorem da_78 : decode prog_27_method_4_code 78 = .ok (.lload_n 2, 1) := by decide +kernel
theorem da_79 : decode prog_27_method_4_code 79 = .ok (.lastore, 1) := by decide +kernel
theorem da_80 : decode prog_27_method_4_code 80 = .ok (.return_, 1) := by decide +kernel
theorem pna : plainName "com/example/skywright/skywright/search/Bands" = true := by first | (simp [plainName, overriddenIn]; done) | decide +kernel
theorem efa (m : MethodId) (z0 : Addr) (z1 : Int32) (z2 : Int64) : entryFrame m #[(.ref z0), (.int z1), (.long z2)] 4 = mkF m 0 #[.val (.ref z0), .val (.int z1), .val (.long z2), .second] [] := by first | (simp [entryFrame, mkF, argsToLocals, Value.category]; done) | rfl
def Qa (Z : State) (q1 : Addr) (q2 : Int32) (q3 : Int64) (en : Addr) (sz : Addr) (f : Nat → Value) (S : Nat → Int32) (h0 : Heap) (n0 : Nat) (v : Option Value) (h : Heap) (L : List Loc) : Prop := v = none ∧ Fr n0 L ∧ n0 ≤ h.size ∧ ∃ f', own_B Z h n0 q1 en sz f' (own_add S q2.toInt.toNat)
set_option maxRecDepth 65536 in
set_option maxHeartbeats 40000000 in
theorem rma (l : Launch) (Z : State) (a0 : Array Value) (hw : ∀ d ∈ tables_1, d.before a0 Z = true) (ws : List Jvm.Cond) (q1 : Addr) (q2 : Int32) (q3 : Int64) (en : Addr) (sz : Addr) (f : Nat → Value) (S : Nat → Int32) (h0 : Heap) (n0 : Nat) (Z0 : n0 ≤ h0.size) (hOZ : own_OZ Z) (hB : own_B Z h0 n0 q1 en sz f S) (hS : own_cnt S 10) (hbd : 0 ≤ q2.toInt ∧ q2.toInt < ((4096 : Nat) : Int)) :
    MetFree l (⟨"com/example/skywright/skywright/search/Bands", "add", "(IJ)V"⟩ : MethodName) (head1 (Jvm.Cond.code (⟨"com/example/skywright/skywright/search/Bands", "add", "(IJ)V"⟩ : MethodName) prog_27_method_4_code 4 (Option.none : Option Jvm.ClassFile.FieldType) :: ws) ({ frames := 0, cells := 1, slots := 16, locals := 0 } : Room)) (fun a U => a = #[(.ref q1), (.int q2), (.long q3)] ∧ Z.Warmed39 U.vm ∧ U.heap = h0) (fun _ _ _ _ _ => True) (fun _ U o U' => ∃ v L, o = .returned v ∧ Qa Z q1 q2 q3 en sz f S h0 n0 v U'.heap L ∧ FrameEnd U o U' L ({ frames := 0, cells := 1, slots := 16, locals := 0 } : Room).cells ({ frames := 0, cells := 1, slots := 16, locals := 0 } : Room).slots) := by
  refine MetFree.of_bodySF (plainFor_of_name pna) hisR ?_
  intro p e s m args below meth c s₁ Bd hml0 hP hK
  obtain ⟨rfl, hZ, hh⟩ := hP
  have hx := Bd.exec
  have hby := Bd.bytes
  have hml : c.maxLocals = 4 := hml0
  have hown : s.vm.findClass "com/example/skywright/skywright/search/Bands" = some m.cls := findClass_of_methodNamed Bd.named
  have hnm := (name_of_methodNamed Bd.named Bd.method).1
  have X0 : Stand p l e ({ frames := 0, cells := 1, slots := 16, locals := 0 } : Room) s m #[(.ref q1), (.int q2), (.long q3)] below meth c s₁ [] 0 0 := Stand.of_body Bd
  have e0 : s₁.heap = h0 := by rw [← hh, Bd.state]; rfl
  have N0 := Fr.nil n0
  show Go p e below (Ret s (Qa Z q1 q2 q3 en sz f S h0 n0) ({ frames := 0, cells := 1, slots := 16, locals := 0 } : Room).cells ({ frames := 0, cells := 1, slots := 16, locals := 0 } : Room).slots) (s₁.setTop (entryFrame m #[(.ref q1), (.int q2), (.long q3)] 4))
  rw [efa m q1 q2 q3]
  obtain ⟨E0, F1, F2, E1, A1, hE, A2, hne1, hne2, hne3, g1, g2, g3⟩ := hB
  have ne_q1_en := hne1
  have ne_q1_sz := hne2
  have ne_en_sz := hne3
  refine g_aloadN X0 hx (hb hby da_0) rfl rfl ?_
  refine g_getF X0 hx hZ hown (hw _ (List.mem_of_getElem? (i := 12) rfl)) e0 F1 (hb hby da_1) ?_
  intro T1 X2 e3
  refine g_iloadN X2 hx (hb hby da_4) rfl ?_
  rcases hE q2.toInt.toNat (by omega) with hnl | ⟨y, gy, hyr, gey, ney1, ney2, ney3, Fy⟩
  ·
    refine g_aaload X2 hx hZ e3 A1 rfl hbd.1 hbd.2 (i := q2.toInt.toNat) rfl hnl (hb hby da_5) ?_
    refine g_ifnonnullNo X2 hx (hb hby da_6) ?_
    refine g_aloadN X2 hx (hb hby da_9) rfl rfl ?_
    refine g_getF X2 hx hZ hown (hw _ (List.mem_of_getElem? (i := 12) rfl)) e3 F1 (hb hby da_10) ?_
    intro T4 X5 e6
    refine g_iloadN X5 hx (hb hby da_13) rfl ?_
    refine g_bipush X5 hx (hb hby da_14) (v := (16 : Int32)) (by decide) ?_
    refine g_newPE X5 hx hZ (ty := .long) rfl (hw _ (List.mem_of_getElem? (i := 32) rfl)) e6 (hb hby da_16) (by decide) (cap := 16) (by decide) (by decide) (by decide) (by decide) (ad := "[J") (by decide) ?_
    intro T7 h10 yn cA14 gyn X8 e9 E11 F12 F16
    have ne_q1_yn : q1 ≠ yn := fun q => absurd E0.lt (by rw [q, gyn]; exact Nat.lt_irrefl _)
    have ne_en_yn : en ≠ yn := fun q => absurd E1.lt (by rw [q, gyn]; exact Nat.lt_irrefl _)
    have ne_sz_yn : sz ≠ yn := fun q => absurd A2.lt (by rw [q, gyn]; exact Nat.lt_irrefl _)
    have ge_yn : n0 ≤ yn := by rw [gyn]; exact Z0
    have F17 := E0.ext E11
    have F18 := F1.ext E11
    have F19 := F2.ext E11
    have F20 := E1.ext E11
    have F21 := A1.ext E11
    have F22 := hE.ext E11
    have F23 := A2.ext E11
    have Z24 : n0 ≤ h10.size := Nat.le_trans Z0 E11.1
    have F15 : Av Z h10 yn .long 16 (fun _ => .long 0) := Av.newK F12 (by decide)
    refine g_aastore X8 hx hZ e9 F21 rfl (own_sto hOZ F20 F21 F16) (i := q2.toInt.toNat) hbd.1 hbd.2 rfl (hb hby da_18) ?_
    intro T27 h30 X28 e29 W31
    have F32 := F17.wr W31
    have F33 := F18.other W31 (Or.inl ne_q1_en)
    have F34 := F19.other W31 (Or.inl ne_q1_en)
    have F35 := F20.wr W31
    have F36 := F21.same W31
    have F37 := F22.wr W31
    have F38 := F23.other W31 ne_en_sz.symm
    have F39 := F16.wr W31
    have F40 := F15.other W31 ne_en_yn.symm
    have Z41 : n0 ≤ h30.size := by rw [W31.size]; exact Z24
    have N42 := Fr.snoc X28 N0 g2
    refine g_goto X28 hx (hb hby da_19) (by decide) (pc' := 61) (by decide) ?_
    refine g_aloadN X28 hx (hb hby da_61) rfl rfl ?_
    refine g_getF X28 hx hZ hown (hw _ (List.mem_of_getElem? (i := 12) rfl)) e29 F33 (hb hby da_62) ?_
    intro T43 X44 e45
    refine g_iloadN X44 hx (hb hby da_65) rfl ?_
    refine g_aaload X44 hx hZ e45 F36 rfl hbd.1 hbd.2 (i := q2.toInt.toNat) rfl (if_pos rfl) (hb hby da_66) ?_
    refine g_aloadN X44 hx (hb hby da_67) rfl rfl ?_
    refine g_getF X44 hx hZ hown (hw _ (List.mem_of_getElem? (i := 15) rfl)) e45 F34 (hb hby da_68) ?_
    intro T46 X47 e48
    refine g_iloadN X47 hx (hb hby da_71) rfl ?_
    refine g_dup2 X47 hx (hb hby da_72) rfl rfl ?_
    refine g_iaload X47 hx hZ e48 F38 hbd.1 hbd.2 (i := q2.toInt.toNat) rfl rfl (hb hby da_73) ?_
    refine g_dup_x2 X47 hx (hb hby da_74) rfl rfl rfl ?_
    refine g_iconst X47 hx (hb hby da_75) (v := (1 : Int32)) (by decide) ?_
    obtain ⟨s1, hs1⟩ : ∃ v : Int32, (S q2.toInt.toNat) + (1 : Int32) = v := ⟨_, rfl⟩
    refine g_iadd X47 hx (hb hby da_76) hs1 ?_
    refine g_iastore X47 hx hZ e48 F38 (i := q2.toInt.toNat) hbd.1 hbd.2 rfl (hb hby da_77) ?_
    intro T49 h52 X50 e51 W53
    have F54 := F32.wr W53
    have F55 := F33.other W53 (Or.inl ne_q1_sz)
    have F56 := F34.other W53 (Or.inl ne_q1_sz)
    have F57 := F35.wr W53
    have F58 := F36.other W53 ne_en_sz
    have F59 := F37.wr W53
    have F60 := F38.same W53
    have F61 := F39.wr W53
    have F62 := F40.other W53 ne_sz_yn.symm
    have Z63 : n0 ≤ h52.size := by rw [W53.size]; exact Z41
    have N64 := Fr.snoc X50 N42 g3
    refine g_lloadN X50 hx (hb hby da_78) rfl ?_
    refine g_lastore X50 hx hZ e51 F62 (i := (S q2.toInt.toNat).toInt.toNat) (hS _).1 (by have := (hS q2.toInt.toNat).2; omega) rfl (hb hby da_79) ?_
    intro T65 h68 X66 e67 W69
    have F70 := F54.wr W69
    have F71 := F55.other W69 (Or.inl ne_q1_yn)
    have F72 := F56.other W69 (Or.inl ne_q1_yn)
    have F73 := F57.wr W69
    have F74 := F58.other W69 ne_en_yn
    have F75 := F59.wr W69
    have F76 := F60.other W69 ne_sz_yn
    have F77 := F61.wr W69
    have F78 := F62.same W69
    have Z79 : n0 ≤ h68.size := by rw [W69.size]; exact Z63
    have N80 := Fr.snoc X66 N64 ge_yn
    refine g_return X66 hx Bd.notSynchronized Bd.returns (hb hby da_80) (by decide) (by decide) ?_
    rw [e67]
    have FS : Av Z h68 sz .int 4096 (fun k => .int (own_add S q2.toInt.toNat k)) := F76.congr (by
      intro k _
      unfold own_add
      by_cases z : k = q2.toInt.toNat
      · rw [if_pos z, if_pos z, ← hs1, z]
      · rw [if_neg z, if_neg z])
    exact ⟨rfl, N80, Z79, _, F70, F71, F72, F73, F74, (F75.upd ge_yn ne_q1_yn.symm ne_en_yn.symm ne_sz_yn.symm F78), FS, hne1, hne2, hne3, g1, g2, g3⟩
  ·
    have ne_y_q1 := ney1
    have ne_y_en := ney2
    have ne_y_sz := ney3
    refine g_aaload X2 hx hZ e3 A1 rfl hbd.1 hbd.2 (i := q2.toInt.toNat) rfl hyr (hb hby da_5) ?_
    refine g_ifnonnullYes X2 hx (hb hby da_6) (by decide) (pc' := 22) (by decide) ?_
    refine g_aloadN X2 hx (hb hby da_22) rfl rfl ?_
    refine g_getF X2 hx hZ hown (hw _ (List.mem_of_getElem? (i := 15) rfl)) e3 F2 (hb hby da_23) ?_
    intro T82 X83 e84
    refine g_iloadN X83 hx (hb hby da_26) rfl ?_
    refine g_iaload X83 hx hZ e84 A2 hbd.1 hbd.2 (i := q2.toInt.toNat) rfl rfl (hb hby da_27) ?_
    refine g_aloadN X83 hx (hb hby da_28) rfl rfl ?_
    refine g_getF X83 hx hZ hown (hw _ (List.mem_of_getElem? (i := 12) rfl)) e84 F1 (hb hby da_29) ?_
    intro T85 X86 e87
    refine g_iloadN X86 hx (hb hby da_32) rfl ?_
    refine g_aaload X86 hx hZ e87 A1 rfl hbd.1 hbd.2 (i := q2.toInt.toNat) rfl hyr (hb hby da_33) ?_
    refine g_arraylength X86 hx hZ e87 Fy (show Nat.toInt32 16 = (16 : Int32) from by decide) (hb hby da_34) ?_
    have hc35_88 : ¬ ((S q2.toInt.toNat) = (16 : Int32)) := (fun q => by have := hS q2.toInt.toNat; rw [q] at this; have z : (16 : Int32).toInt = 16 := rfl; omega)
    refine g_icmpYes X86 hx (hb hby da_35) (feq hc35_88).2 (by decide) (pc' := 61) (by decide) ?_
    refine g_aloadN X86 hx (hb hby da_61) rfl rfl ?_
    refine g_getF X86 hx hZ hown (hw _ (List.mem_of_getElem? (i := 12) rfl)) e87 F1 (hb hby da_62) ?_
    intro T89 X90 e91
    refine g_iloadN X90 hx (hb hby da_65) rfl ?_
    refine g_aaload X90 hx hZ e91 A1 rfl hbd.1 hbd.2 (i := q2.toInt.toNat) rfl hyr (hb hby da_66) ?_
    refine g_aloadN X90 hx (hb hby da_67) rfl rfl ?_
    refine g_getF X90 hx hZ hown (hw _ (List.mem_of_getElem? (i := 15) rfl)) e91 F2 (hb hby da_68) ?_
    intro T92 X93 e94
    refine g_iloadN X93 hx (hb hby da_71) rfl ?_
    refine g_dup2 X93 hx (hb hby da_72) rfl rfl ?_
    refine g_iaload X93 hx hZ e94 A2 hbd.1 hbd.2 (i := q2.toInt.toNat) rfl rfl (hb hby da_73) ?_
    refine g_dup_x2 X93 hx (hb hby da_74) rfl rfl rfl ?_
    refine g_iconst X93 hx (hb hby da_75) (v := (1 : Int32)) (by decide) ?_
    obtain ⟨s1, hs1⟩ : ∃ v : Int32, (S q2.toInt.toNat) + (1 : Int32) = v := ⟨_, rfl⟩
    refine g_iadd X93 hx (hb hby da_76) hs1 ?_
    refine g_iastore X93 hx hZ e94 A2 (i := q2.toInt.toNat) hbd.1 hbd.2 rfl (hb hby da_77) ?_
    intro T95 h98 X96 e97 W99
    have F100 := E0.wr W99
    have F101 := F1.other W99 (Or.inl ne_q1_sz)
    have F102 := F2.other W99 (Or.inl ne_q1_sz)
    have F103 := E1.wr W99
    have F104 := A1.other W99 ne_en_sz
    have F105 := hE.wr W99
    have F106 := A2.same W99
    have F107 := Fy.other W99 ne_y_sz
    have Z108 : n0 ≤ h98.size := by rw [W99.size]; exact Z0
    have N109 := Fr.snoc X96 N0 g3
    refine g_lloadN X96 hx (hb hby da_78) rfl ?_
    refine g_lastore X96 hx hZ e97 F107 (i := (S q2.toInt.toNat).toInt.toNat) (hS _).1 (by have := (hS q2.toInt.toNat).2; omega) rfl (hb hby da_79) ?_
    intro T110 h113 X111 e112 W114
    have F115 := F100.wr W114
    have F116 := F101.other W114 (Or.inl ne_y_q1.symm)
    have F117 := F102.other W114 (Or.inl ne_y_q1.symm)
    have F118 := F103.wr W114
    have F119 := F104.other W114 ne_y_en.symm
    have F120 := F105.wr W114
    have F121 := F106.other W114 ne_y_sz.symm
    have F122 := F107.same W114
    have Z123 : n0 ≤ h113.size := by rw [W114.size]; exact Z108
    have N124 := Fr.snoc X111 N109 gey
    refine g_return X111 hx Bd.notSynchronized Bd.returns (hb hby da_80) (by decide) (by decide) ?_
    rw [e112]
    have FS : Av Z h113 sz .int 4096 (fun k => .int (own_add S q2.toInt.toNat k)) := F121.congr (by
      intro k _
      unfold own_add
      by_cases z : k = q2.toInt.toNat
      · rw [if_pos z, if_pos z, ← hs1, z]
      · rw [if_neg z, if_neg z])
    exact ⟨rfl, N124, Z123, _, F115, F116, F117, F118, F119, F120, FS, hne1, hne2, hne3, g1, g2, g3⟩
theorem dn_0 : decode prog_27_method_5_code 0 = .ok (.iload_n 1, 1) := by decide +kernel
theorem dn_1 : decode prog_27_method_5_code 1 = .ok (.istore_n 2, 1) := by decide +kernel
theorem dn_2 : decode prog_27_method_5_code 2 = .ok (.iload_n 2, 1) := by decide +kernel
theorem dn_3 : decode prog_27_method_5_code 3 = .ok (.sipush 4096, 3) := by decide +kernel
theorem dn_6 : decode prog_27_method_5_code 6 = .ok (.if_icmp .ge 18, 3) := by decide +kernel
theorem dn_9 : decode prog_27_method_5_code 9 = .ok (.aload_n 0, 1) := by decide +kernel
theorem dn_10 : decode prog_27_method_5_code 10 = .ok (.getfield 15, 3) := by decide +kernel
theorem dn_13 : decode prog_27_method_5_code 13 = .ok (.iload_n 2, 1) := by decide +kernel
theorem dn_14 : decode prog_27_method_5_code 14 = .ok (.iaload, 1) := by decide +kernel
theorem dn_15 : decode prog_27_method_5_code 15 = .ok (.ifCond .ne 9, 3) := by decide +kernel
theorem dn_18 : decode prog_27_method_5_code 18 = .ok (.iinc 2 1, 3) := by decide +kernel
theorem dn_21 : decode prog_27_method_5_code 21 = .ok (.goto (-19), 3) := by decide +kernel
theorem dn_24 : decode prog_27_method_5_code 24 = .ok (.iload_n 2, 1) := by decide +kernel
theorem dn_25 : decode prog_27_method_5_code 25 = .ok (.ireturn, 1) := by decide +kernel
theorem pnn : plainName "com/example/skywright/skywright/search/Bands" = true := by first | (simp [plainName, overriddenIn]; done) | decide +kernel
theorem efn (m : MethodId) (z0 : Addr) (z1 : Int32) : entryFrame m #[(.ref z0), (.int z1)] 3 = mkF m 0 #[.val (.ref z0), .val (.int z1), .unset] [] := by first | (simp [entryFrame, mkF, argsToLocals, Value.category]; done) | rfl
def Qn (Z : State) (q1 : Addr) (q2 : Int32) (sz : Addr) (S : Nat → Int32) (h0 : Heap) (n0 : Nat) (v : Option Value) (h : Heap) (L : List Loc) : Prop := ∃ r : Int32, (v = some (.int r) ∧ q2.toInt ≤ r.toInt ∧ r.toInt ≤ 4096 ∧ (∀ k : Nat, q2.toInt ≤ k → (k : Int) < r.toInt → S k = 0) ∧ (r.toInt = 4096 ∨ S r.toInt.toNat ≠ 0)) ∧ Fr n0 L ∧ h = h0
set_option maxRecDepth 65536 in
set_option maxHeartbeats 40000000 in
theorem rmn (l : Launch) (Z : State) (a0 : Array Value) (hw : ∀ d ∈ tables_1, d.before a0 Z = true) (ws : List Jvm.Cond) (q1 : Addr) (q2 : Int32) (sz : Addr) (S : Nat → Int32) (h0 : Heap) (n0 : Nat) (Z0 : n0 ≤ h0.size) (F2 : Fld Z h0 q1 "com/example/skywright/skywright/search/Bands" "sizes" "[I" (.ref sz)) (A2 : Av Z h0 sz .int 4096 (fun k => .int (S k))) (hq : 0 ≤ q2.toInt ∧ q2.toInt ≤ 4096) :
    MetFree l (⟨"com/example/skywright/skywright/search/Bands", "nextHeld", "(I)I"⟩ : MethodName) (head1 (Jvm.Cond.code (⟨"com/example/skywright/skywright/search/Bands", "nextHeld", "(I)I"⟩ : MethodName) prog_27_method_5_code 3 (Option.some Jvm.ClassFile.FieldType.int) :: ws) ({ frames := 0, cells := 0, slots := 0, locals := 0 } : Room)) (fun a U => a = #[(.ref q1), (.int q2)] ∧ Z.Warmed39 U.vm ∧ U.heap = h0) (fun _ _ _ _ _ => True) (fun _ U o U' => ∃ v L, o = .returned v ∧ Qn Z q1 q2 sz S h0 n0 v U'.heap L ∧ FrameEnd U o U' L ({ frames := 0, cells := 0, slots := 0, locals := 0 } : Room).cells ({ frames := 0, cells := 0, slots := 0, locals := 0 } : Room).slots) := by
  refine MetFree.of_bodySF (plainFor_of_name pnn) hisR ?_
  intro p e s m args below meth c s₁ Bd hml0 hP hK
  obtain ⟨rfl, hZ, hh⟩ := hP
  have hx := Bd.exec
  have hby := Bd.bytes
  have hml : c.maxLocals = 3 := hml0
  have hown : s.vm.findClass "com/example/skywright/skywright/search/Bands" = some m.cls := findClass_of_methodNamed Bd.named
  have hnm := (name_of_methodNamed Bd.named Bd.method).1
  have X0 : Stand p l e ({ frames := 0, cells := 0, slots := 0, locals := 0 } : Room) s m #[(.ref q1), (.int q2)] below meth c s₁ [] 0 0 := Stand.of_body Bd
  have e0 : s₁.heap = h0 := by rw [← hh, Bd.state]; rfl
  have N0 := Fr.nil n0
  show Go p e below (Ret s (Qn Z q1 q2 sz S h0 n0) ({ frames := 0, cells := 0, slots := 0, locals := 0 } : Room).cells ({ frames := 0, cells := 0, slots := 0, locals := 0 } : Room).slots) (s₁.setTop (entryFrame m #[(.ref q1), (.int q2)] 3))
  rw [efn m q1 q2]
  refine g_iloadN X0 hx (hb hby dn_0) rfl ?_
  refine g_istoreN X0 hx (hb hby dn_1) (L' := #[.val (.ref q1), .val (.int q2), .val (.int q2)]) rfl ?_
  have L2 : ∀ (N : Nat) (T1 : State) (lo5 : List Loc) (_ : Stand p l e ({ frames := 0, cells := 0, slots := 0, locals := 0 } : Room) s m #[(.ref q1), (.int q2)] below meth c T1 lo5 0 0) (_ : T1.heap = h0) (_ : Fr n0 lo5) (i : Int32), (4096 - i.toInt).toNat ≤ N ∧ q2.toInt ≤ i.toInt ∧ i.toInt ≤ 4096 ∧ (∀ k : Nat, q2.toInt ≤ k → (k : Int) < i.toInt → S k = 0) → Go p e below (Ret s (Qn Z q1 q2 sz S h0 n0) ({ frames := 0, cells := 0, slots := 0, locals := 0 } : Room).cells ({ frames := 0, cells := 0, slots := 0, locals := 0 } : Room).slots) (T1.setTop (mkF m 2 #[.val (.ref q1), .val (.int q2), .val (.int i)] [])) := by
    intro N
    induction N using Nat.strongRecOn with
    | ind N ih =>
      intro T1 lo5 X2 e3 N4 i hL2
      refine g_iloadN X2 hx (hb hby dn_2) rfl ?_
      refine g_sipush X2 hx (hb hby dn_3) (v := (4096 : Int32)) (by decide) ?_
      by_cases hc6_6 : i < (4096 : Int32)
      ·
        refine g_icmpNo X2 hx (hb hby dn_6) (tlt hc6_6).2.1 ?_
        have l_i := Int32.lt_iff_toInt_lt.mp hc6_6
        have z_4 : (4096 : Int32).toInt = 4096 := rfl
        refine g_aloadN X2 hx (hb hby dn_9) rfl rfl ?_
        refine g_getF X2 hx hZ hown (hw _ (List.mem_of_getElem? (i := 15) rfl)) e3 F2 (hb hby dn_10) ?_
        intro T7 X8 e9
        refine g_iloadN X8 hx (hb hby dn_13) rfl ?_
        refine g_iaload X8 hx hZ e9 A2 (by omega) (by omega) (i := i.toInt.toNat) rfl rfl (hb hby dn_14) ?_
        by_cases hc15_10 : (S i.toInt.toNat) = (0 : Int32)
        ·
          refine g_ifNo X8 hx (hb hby dn_15) (teq hc15_10).2 ?_
          refine g_iinc X8 hx (hb hby dn_18) rfl (L' := #[.val (.ref q1), .val (.int q2), .val (.int (i + Int32.ofInt 1))]) rfl ?_
          refine g_goto X8 hx (hb hby dn_21) (by decide) (pc' := 2) (by decide) ?_
          have t_i : (i + Int32.ofInt 1).toInt = i.toInt + 1 := by
            have a := c_iadd i (Int32.ofInt 1)
            have z : (Int32.ofInt 1).toInt = 1 := rfl
            have r := rng32 (i + Int32.ofInt 1)
            omega
          exact ih (4096 - (i + Int32.ofInt 1).toInt).toNat (by omega) _ _ X8 e9 N4 (i + Int32.ofInt 1) ⟨by omega, by omega, by omega, fun k h1 h2 => by
            by_cases z : (k : Int) = i.toInt
            · rw [show k = i.toInt.toNat from by omega]; exact hc15_10
            · exact hL2.2.2.2 k h1 (by omega)⟩
        ·
          refine g_ifYes X8 hx (hb hby dn_15) (feq hc15_10).2 (by decide) (pc' := 24) (by decide) ?_
          refine g_iloadN X8 hx (hb hby dn_24) rfl ?_
          refine g_ireturn X8 hx Bd.notSynchronized Bd.returns rfl (by simp) (hb hby dn_25) (by decide) (by decide) ?_
          exact ⟨_, ⟨rfl, hL2.2.1, hL2.2.2.1, hL2.2.2.2, Or.inr hc15_10⟩, N4, e9⟩
      ·
        refine g_icmpYes X2 hx (hb hby dn_6) (flt hc6_6).2.1 (by decide) (pc' := 24) (by decide) ?_
        refine g_iloadN X2 hx (hb hby dn_24) rfl ?_
        refine g_ireturn X2 hx Bd.notSynchronized Bd.returns rfl (by simp) (hb hby dn_25) (by decide) (by decide) ?_
        have l_i : ¬ i.toInt < (4096 : Int32).toInt := fun z => hc6_6 (Int32.lt_iff_toInt_lt.mpr z)
        have z_4 : (4096 : Int32).toInt = 4096 := rfl
        exact ⟨_, ⟨rfl, hL2.2.1, hL2.2.2.1, hL2.2.2.2, Or.inl (by omega)⟩, N4, e3⟩
  exact L2 (4096 - q2.toInt).toNat _ _ X0 e0 N0 q2 ⟨by omega, by omega, by omega, fun k h1 h2 => by omega⟩
theorem pn0 : plainName "com/example/skywright/skywright/search/BandsNextHeldPinLaw" = true := by first | (simp [plainName, overriddenIn]; done) | decide +kernel
theorem pd0_0 : parseMethodDescriptor "(DD)V" = some ⟨[.double, .double], none⟩ := by decide +kernel
theorem pd0_1 : parseMethodDescriptor "(I)I" = some ⟨[.int], some .int⟩ := by decide +kernel
theorem pd0_2 : parseMethodDescriptor "(II)I" = some ⟨[.int, .int], some .int⟩ := by decide +kernel
theorem pd0_3 : parseMethodDescriptor "(IJ)V" = some ⟨[.int, .long], none⟩ := by decide +kernel
theorem ef0 (m : MethodId) (z0 : Int32) (z1 : Int32) (z2 : Int32) (z3 : Int32) (z4 : Int32) (z5 : Int64) : entryFrame m #[(.int z0), (.int z1), (.int z2), (.int z3), (.int z4), (.long z5)] maxLocals = mkF m 0 #[.val (.int z0), .val (.int z1), .val (.int z2), .val (.int z3), .val (.int z4), .val (.long z5), .second, .unset, .unset, .unset, .unset, .unset, .unset, .unset, .unset, .unset, .unset] [] := by first | (simp [entryFrame, mkF, argsToLocals, Value.category, maxLocals]; done) | rfl
def Q0 (Z : State) (q0 : Int32) (q1 : Int32) (q2 : Int32) (q3 : Int32) (q4 : Int32) (q5 : Int64) (h0 : Heap) (n0 : Nat) (v : Option Value) (h : Heap) (L : List Loc) : Prop := v = some (.int 1) ∧ Fr n0 L
set_option maxRecDepth 65536 in
set_option maxHeartbeats 40000000 in
theorem rm0 (l : Launch) (Z : State) (a0 : Array Value) (hw : ∀ d ∈ tables_1, d.before a0 Z = true) (ws : List Jvm.Cond) (q0 : Int32) (q1 : Int32) (q2 : Int32) (q3 : Int32) (q4 : Int32) (q5 : Int64) (h0 : Heap) (n0 : Nat) (Z0 : n0 ≤ h0.size)  :
    MetFree l x (head1 (Jvm.Cond.code x code maxLocals ret :: ws) room_1) (fun a U => a = #[(.int q0), (.int q1), (.int q2), (.int q3), (.int q4), (.long q5)] ∧ Z.Warmed39 U.vm ∧ U.heap = h0) (fun _ _ _ _ _ => True) (fun _ U o U' => ∃ v L, o = .returned v ∧ Q0 Z q0 q1 q2 q3 q4 q5 h0 n0 v U'.heap L ∧ FrameEnd U o U' L 24 16576) := by
  refine MetFree.of_bodySF (plainFor_of_name pn0) hisR ?_
  intro p e s m args below meth c s₁ Bd hml0 hP hK
  obtain ⟨rfl, hZ, hh⟩ := hP
  have hx := Bd.exec
  have hby := Bd.bytes
  have hml : c.maxLocals = 17 := hml0
  have hown : s.vm.findClass "com/example/skywright/skywright/search/BandsNextHeldPinLaw" = some m.cls := findClass_of_methodNamed Bd.named
  have hnm := (name_of_methodNamed Bd.named Bd.method).1
  have X0 : Stand p l e room_1 s m #[(.int q0), (.int q1), (.int q2), (.int q3), (.int q4), (.long q5)] below meth c s₁ [] 0 0 := Stand.of_body Bd
  have e0 : s₁.heap = h0 := by rw [← hh, Bd.state]; rfl
  have N0 := Fr.nil n0
  show Go p e below (Ret s (Q0 Z q0 q1 q2 q3 q4 q5 h0 n0) 24 16576) (s₁.setTop (entryFrame m #[(.int q0), (.int q1), (.int q2), (.int q3), (.int q4), (.long q5)] maxLocals))
  rw [ef0 m q0 q1 q2 q3 q4 q5]
  refine g_iloadN X0 hx (hb hby at_0) rfl ?_
  refine g_ldcI X0 hx hZ hown (hw _ (List.mem_of_getElem? (i := 0) rfl)) (hb hby at_1) ?_
  obtain ⟨i1, hi1⟩ : ∃ v : Int32, q0 &&& (2147483647 : Int32) = v := ⟨_, rfl⟩
  refine g_iand X0 hx (hb hby at_3) hi1 ?_
  refine g_sipush X0 hx (hb hby at_4) (v := (4096 : Int32)) (by decide) ?_
  obtain ⟨ba, hba⟩ : ∃ v : Int32, i1 % (4096 : Int32) = v := ⟨_, rfl⟩
  refine g_irem X0 hx (hb hby at_7) (by decide) hba ?_
  have b_ba : 0 ≤ ba.toInt ∧ ba.toInt < 4096 := by
    have a := c_and q0 (2147483647 : Int32) (by decide)
    rw [hi1] at a
    have b := (c_iremV i1 (4096 : Int32)).1 a.1 (by decide)
    rw [hba] at b
    have z : (4096 : Int32).toInt = 4096 := rfl
    omega
  refine g_istore X0 hx (hb hby at_8) (L' := #[.val (.int q0), .val (.int q1), .val (.int q2), .val (.int q3), .val (.int q4), .val (.long q5), .second, .val (.int ba), .unset, .unset, .unset, .unset, .unset, .unset, .unset, .unset, .unset]) rfl ?_
  refine g_iloadN X0 hx (hb hby at_10) rfl ?_
  refine g_ldcI X0 hx hZ hown (hw _ (List.mem_of_getElem? (i := 0) rfl)) (hb hby at_11) ?_
  obtain ⟨i2, hi2⟩ : ∃ v : Int32, q1 &&& (2147483647 : Int32) = v := ⟨_, rfl⟩
  refine g_iand X0 hx (hb hby at_13) hi2 ?_
  refine g_sipush X0 hx (hb hby at_14) (v := (4096 : Int32)) (by decide) ?_
  obtain ⟨bb, hbb⟩ : ∃ v : Int32, i2 % (4096 : Int32) = v := ⟨_, rfl⟩
  refine g_irem X0 hx (hb hby at_17) (by decide) hbb ?_
  have b_bb : 0 ≤ bb.toInt ∧ bb.toInt < 4096 := by
    have a := c_and q1 (2147483647 : Int32) (by decide)
    rw [hi2] at a
    have b := (c_iremV i2 (4096 : Int32)).1 a.1 (by decide)
    rw [hbb] at b
    have z : (4096 : Int32).toInt = 4096 := rfl
    omega
  refine g_istore X0 hx (hb hby at_18) (L' := #[.val (.int q0), .val (.int q1), .val (.int q2), .val (.int q3), .val (.int q4), .val (.long q5), .second, .val (.int ba), .val (.int bb), .unset, .unset, .unset, .unset, .unset, .unset, .unset, .unset]) rfl ?_
  refine g_iloadN X0 hx (hb hby at_20) rfl ?_
  refine g_ldcI X0 hx hZ hown (hw _ (List.mem_of_getElem? (i := 0) rfl)) (hb hby at_21) ?_
  obtain ⟨i3, hi3⟩ : ∃ v : Int32, q2 &&& (2147483647 : Int32) = v := ⟨_, rfl⟩
  refine g_iand X0 hx (hb hby at_23) hi3 ?_
  refine g_sipush X0 hx (hb hby at_24) (v := (4096 : Int32)) (by decide) ?_
  obtain ⟨bc, hbc⟩ : ∃ v : Int32, i3 % (4096 : Int32) = v := ⟨_, rfl⟩
  refine g_irem X0 hx (hb hby at_27) (by decide) hbc ?_
  have b_bc : 0 ≤ bc.toInt ∧ bc.toInt < 4096 := by
    have a := c_and q2 (2147483647 : Int32) (by decide)
    rw [hi3] at a
    have b := (c_iremV i3 (4096 : Int32)).1 a.1 (by decide)
    rw [hbc] at b
    have z : (4096 : Int32).toInt = 4096 := rfl
    omega
  refine g_istore X0 hx (hb hby at_28) (L' := #[.val (.int q0), .val (.int q1), .val (.int q2), .val (.int q3), .val (.int q4), .val (.long q5), .second, .val (.int ba), .val (.int bb), .val (.int bc), .unset, .unset, .unset, .unset, .unset, .unset, .unset]) rfl ?_
  refine g_iload X0 hx (hb hby at_30) rfl ?_
  refine g_iconst X0 hx (hb hby at_32) (v := (1 : Int32)) (by decide) ?_
  obtain ⟨i4, hi4⟩ : ∃ v : Int32, q4 &&& (1 : Int32) = v := ⟨_, rfl⟩
  refine g_iand X0 hx (hb hby at_33) hi4 ?_
  by_cases hc34_5 : i4 = (0 : Int32)
  ·
    refine g_ifYes X0 hx (hb hby at_34) (teq hc34_5).1 (by decide) (pc' := 41) (by decide) ?_
    refine g_iconst X0 hx (hb hby at_41) (v := (0 : Int32)) (by decide) ?_
    refine g_istore X0 hx (hb hby at_42) (L' := #[.val (.int q0), .val (.int q1), .val (.int q2), .val (.int q3), .val (.int q4), .val (.long q5), .second, .val (.int ba), .val (.int bb), .val (.int bc), .val (.int (0 : Int32)), .unset, .unset, .unset, .unset, .unset, .unset]) rfl ?_
    refine g_iload X0 hx (hb hby at_44) rfl ?_
    refine g_iconst X0 hx (hb hby at_46) (v := (2 : Int32)) (by decide) ?_
    obtain ⟨i6, hi6⟩ : ∃ v : Int32, q4 &&& (2 : Int32) = v := ⟨_, rfl⟩
    refine g_iand X0 hx (hb hby at_47) hi6 ?_
    by_cases hc48_7 : i6 = (0 : Int32)
    ·
      refine g_ifYes X0 hx (hb hby at_48) (teq hc48_7).1 (by decide) (pc' := 55) (by decide) ?_
      refine g_iconst X0 hx (hb hby at_55) (v := (0 : Int32)) (by decide) ?_
      refine g_istore X0 hx (hb hby at_56) (L' := #[.val (.int q0), .val (.int q1), .val (.int q2), .val (.int q3), .val (.int q4), .val (.long q5), .second, .val (.int ba), .val (.int bb), .val (.int bc), .val (.int (0 : Int32)), .val (.int (0 : Int32)), .unset, .unset, .unset, .unset, .unset]) rfl ?_
      refine g_iload X0 hx (hb hby at_58) rfl ?_
      refine g_iconst X0 hx (hb hby at_60) (v := (4 : Int32)) (by decide) ?_
      obtain ⟨i8, hi8⟩ : ∃ v : Int32, q4 &&& (4 : Int32) = v := ⟨_, rfl⟩
      refine g_iand X0 hx (hb hby at_61) hi8 ?_
      by_cases hc62_9 : i8 = (0 : Int32)
      ·
        refine g_ifYes X0 hx (hb hby at_62) (teq hc62_9).1 (by decide) (pc' := 69) (by decide) ?_
        refine g_iconst X0 hx (hb hby at_69) (v := (0 : Int32)) (by decide) ?_
        refine g_istore X0 hx (hb hby at_70) (L' := #[.val (.int q0), .val (.int q1), .val (.int q2), .val (.int q3), .val (.int q4), .val (.long q5), .second, .val (.int ba), .val (.int bb), .val (.int bc), .val (.int (0 : Int32)), .val (.int (0 : Int32)), .val (.int (0 : Int32)), .unset, .unset, .unset, .unset]) rfl ?_
        refine g_iload X0 hx (hb hby at_72) rfl ?_
        refine g_iconst X0 hx (hb hby at_74) (v := (3 : Int32)) (by decide) ?_
        obtain ⟨i10, hi10⟩ : ∃ v : Int32, (q4.toUInt32 >>> ((3 : Int32) &&& 31).toUInt32).toInt32 = v := ⟨_, rfl⟩
        refine g_iushr X0 hx (hb hby at_75) hi10 ?_
        refine g_iconst X0 hx (hb hby at_76) (v := (3 : Int32)) (by decide) ?_
        obtain ⟨i11, hi11⟩ : ∃ v : Int32, i10 &&& (3 : Int32) = v := ⟨_, rfl⟩
        refine g_iand X0 hx (hb hby at_77) hi11 ?_
        refine g_istore X0 hx (hb hby at_78) (L' := #[.val (.int q0), .val (.int q1), .val (.int q2), .val (.int q3), .val (.int q4), .val (.long q5), .second, .val (.int ba), .val (.int bb), .val (.int bc), .val (.int (0 : Int32)), .val (.int (0 : Int32)), .val (.int (0 : Int32)), .val (.int i11), .unset, .unset, .unset]) rfl ?_
        refine g_iload X0 hx (hb hby at_80) rfl ?_
        have J136 : ∀ (T12 : State) (lo16 : List Loc) (_ : Stand p l e room_1 s m #[(.int q0), (.int q1), (.int q2), (.int q3), (.int q4), (.long q5)] below meth c T12 lo16 0 0) (_ : T12.heap = h0) (_ : Fr n0 lo16) (qy : Int32), 0 ≤ qy.toInt ∧ qy.toInt ≤ 4096 → Go p e below (Ret s (Q0 Z q0 q1 q2 q3 q4 q5 h0 n0) 24 16576) (T12.setTop (mkF m 136 #[.val (.int q0), .val (.int q1), .val (.int q2), .val (.int q3), .val (.int q4), .val (.long q5), .second, .val (.int ba), .val (.int bb), .val (.int bc), .val (.int (0 : Int32)), .val (.int (0 : Int32)), .val (.int (0 : Int32)), .val (.int i11), .val (.int qy), .unset, .unset] [])) := by
          intro T12 lo16 X13 e14 N15 qy hqy
          refine g_new X13 hx hZ hown (hw _ (List.mem_of_getElem? (i := 1) rfl)) (hw _ (List.mem_of_getElem? (i := 2) rfl)) (hw _ (List.mem_of_getElem? (i := 3) rfl)) e14 (hb hby at_136) (by decide) (by decide) ?_
          intro T17 h20 bd gbd X18 e19 E21 F22 D23
          have ge_bd : n0 ≤ bd := by rw [gbd]; exact Z0
          have Z25 : n0 ≤ h20.size := Nat.le_trans Z0 E21.1
          have F27 : Fld Z h20 bd "com/example/skywright/skywright/search/Bands" "entries" "[[J" .null := D23 (Or.inr (hw _ (List.mem_of_getElem? (i := 13) rfl))) (ty := (.array (.array .long))) (by decide)
          refine g_dup X18 hx (hb hby at_139) rfl ?_
          refine g_dconst0 X18 hx (hb hby at_140) ?_
          refine g_dconst1 X18 hx (hb hby at_141) ?_
          refine g_init X18 hx hZ hown rfl (hw _ (List.mem_of_getElem? (i := 4) rfl)) (hw _ (List.mem_of_getElem? (i := 5) rfl)) (hw _ (List.mem_of_getElem? (i := 3) rfl)) (hw _ (List.mem_of_getElem? (i := 6) rfl)) (by decide) (rmi l Z a0 hw [] bd h20 n0 Z25 F22 F27 ge_bd) e19 (W := 1) (by decide) (by decide) (by rw [hml]; rfl) bd [(.double (0 : UInt64)), (.double (4607182418800017408 : UInt64))] [(.ref bd)] (lenOf pd0_0 rfl) rfl rfl (Nat.le_of_eq rfl) (hb hby at_142) (by decide) (by decide) ?_
          intro v33 T29 L32 X30 hQ31
          obtain ⟨rfl, N34, Z35, hOZ, en, sz, f36, HB37⟩ := hQ31
          have N38 := Fr.app N15 N34
          show Go p e below (Ret s (Q0 Z q0 q1 q2 q3 q4 q5 h0 n0) 24 16576) (T29.setTop (mkF m 145 #[.val (.int q0), .val (.int q1), .val (.int q2), .val (.int q3), .val (.int q4), .val (.long q5), .second, .val (.int ba), .val (.int bb), .val (.int bc), .val (.int (0 : Int32)), .val (.int (0 : Int32)), .val (.int (0 : Int32)), .val (.int i11), .val (.int qy), .unset, .unset] [(.ref bd)]))
          have hcn0 := own_zero_cnt
          refine g_astore X30 hx (hb hby at_145) rfl (L' := #[.val (.int q0), .val (.int q1), .val (.int q2), .val (.int q3), .val (.int q4), .val (.long q5), .second, .val (.int ba), .val (.int bb), .val (.int bc), .val (.int (0 : Int32)), .val (.int (0 : Int32)), .val (.int (0 : Int32)), .val (.int i11), .val (.int qy), .val (.ref bd), .unset]) rfl ?_
          refine g_iload X30 hx (hb hby at_147) rfl ?_
          have hc149_39 : (0 : Int32) = (0 : Int32) := (by decide)
          refine g_ifYes X30 hx (hb hby at_149) (teq hc149_39).1 (by decide) (pc' := 161) (by decide) ?_
          refine g_iload X30 hx (hb hby at_161) rfl ?_
          have hc163_40 : (0 : Int32) = (0 : Int32) := (by decide)
          refine g_ifYes X30 hx (hb hby at_163) (teq hc163_40).1 (by decide) (pc' := 177) (by decide) ?_
          refine g_iload X30 hx (hb hby at_177) rfl ?_
          have hc179_41 : (0 : Int32) = (0 : Int32) := (by decide)
          refine g_ifYes X30 hx (hb hby at_179) (teq hc179_41).1 (by decide) (pc' := 193) (by decide) ?_
          refine g_sipush X30 hx (hb hby at_193) (v := (4096 : Int32)) (by decide) ?_
          refine g_istore X30 hx (hb hby at_196) (L' := #[.val (.int q0), .val (.int q1), .val (.int q2), .val (.int q3), .val (.int q4), .val (.long q5), .second, .val (.int ba), .val (.int bb), .val (.int bc), .val (.int (0 : Int32)), .val (.int (0 : Int32)), .val (.int (0 : Int32)), .val (.int i11), .val (.int qy), .val (.ref bd), .val (.int (4096 : Int32))]) rfl ?_
          refine g_iload X30 hx (hb hby at_198) rfl ?_
          have hc200_42 : (0 : Int32) = (0 : Int32) := (by decide)
          refine g_ifYes X30 hx (hb hby at_200) (teq hc200_42).1 (by decide) (pc' := 219) (by decide) ?_
          refine g_iload X30 hx (hb hby at_219) rfl ?_
          have hc221_43 : (0 : Int32) = (0 : Int32) := (by decide)
          refine g_ifYes X30 hx (hb hby at_221) (teq hc221_43).1 (by decide) (pc' := 240) (by decide) ?_
          refine g_iload X30 hx (hb hby at_240) rfl ?_
          have hc242_44 : (0 : Int32) = (0 : Int32) := (by decide)
          refine g_ifYes X30 hx (hb hby at_242) (teq hc242_44).1 (by decide) (pc' := 261) (by decide) ?_
          refine g_aload X30 hx (hb hby at_261) rfl rfl ?_
          refine g_iload X30 hx (hb hby at_263) rfl ?_
          refine g_callV X30 hx hZ hown (hw _ (List.mem_of_getElem? (i := 22) rfl)) (hw _ (List.mem_of_getElem? (i := 23) rfl)) (hw _ (List.mem_of_getElem? (i := 25) rfl)) (hw _ (List.mem_of_getElem? (i := 24) rfl)) (hw _ (List.mem_of_getElem? (i := 3) rfl)) (hw _ (List.mem_of_getElem? (i := 26) rfl)) (by decide) (rmn l Z a0 hw [] bd qy sz own_nil T29.heap n0 Z35 HB37.2.2.1 HB37.2.2.2.2.2.2.1 hqy) rfl (W := 0) (by decide) (by decide) (by rw [hml]; rfl) bd HB37.1 [(.int qy)] [] (lenOf pd0_1 rfl) rfl rfl (Nat.le_of_eq rfl) (hb hby at_265) (by decide) (by decide) ?_
          intro v49 T45 L48 X46 hQ47
          obtain ⟨got, ⟨rfl, k1, k2, k3, k4⟩, N50, e51⟩ := hQ47
          have N52 := Fr.app N38 N50
          show Go p e below (Ret s (Q0 Z q0 q1 q2 q3 q4 q5 h0 n0) 24 16576) (T45.setTop (mkF m 268 #[.val (.int q0), .val (.int q1), .val (.int q2), .val (.int q3), .val (.int q4), .val (.long q5), .second, .val (.int ba), .val (.int bb), .val (.int bc), .val (.int (0 : Int32)), .val (.int (0 : Int32)), .val (.int (0 : Int32)), .val (.int i11), .val (.int qy), .val (.ref bd), .val (.int (4096 : Int32))] [(.int got)]))
          refine g_iload X46 hx (hb hby at_268) rfl ?_
          have hc270_53 : got = (4096 : Int32) := (by
            apply Int32.toInt_inj.mp
            have z4 : (4096 : Int32).toInt = 4096 := rfl
            have hz : ∀ k : Nat, own_nil k ≠ 0 ↔ (False) := by
              intro k
              simp [own_nil]
            refine own_found k1 k2 k3 k4 hqy.1 ?_ ?_
            · simp only [hz]; omega
            · intro k q1 q2 q3
              rcases (hz k).mp q3 with q3 <;> first | exact q3.elim | omega)
          refine g_icmpNo X46 hx (hb hby at_270) (teq hc270_53).2 ?_
          refine g_iconst X46 hx (hb hby at_273) (v := (1 : Int32)) (by decide) ?_
          refine g_goto X46 hx (hb hby at_274) (by decide) (pc' := 278) (by decide) ?_
          refine g_ireturn X46 hx Bd.notSynchronized Bd.returns rfl (by simp) (hb hby at_278) (by decide) (by decide) ?_
          exact ⟨rfl, N52⟩
        by_cases hc82_54 : i11 = (0 : Int32)
        ·
          refine g_ifNo X0 hx (hb hby at_82) (teq hc82_54).2 ?_
          refine g_iloadN X0 hx (hb hby at_85) rfl ?_
          refine g_ldcI X0 hx hZ hown (hw _ (List.mem_of_getElem? (i := 0) rfl)) (hb hby at_86) ?_
          obtain ⟨i55, hi55⟩ : ∃ v : Int32, q3 &&& (2147483647 : Int32) = v := ⟨_, rfl⟩
          refine g_iand X0 hx (hb hby at_88) hi55 ?_
          refine g_sipush X0 hx (hb hby at_89) (v := (4097 : Int32)) (by decide) ?_
          obtain ⟨qm, hqm⟩ : ∃ v : Int32, i55 % (4097 : Int32) = v := ⟨_, rfl⟩
          refine g_irem X0 hx (hb hby at_92) (by decide) hqm ?_
          have b_qm : 0 ≤ qm.toInt ∧ qm.toInt < 4097 := by
            have a := c_and q3 (2147483647 : Int32) (by decide)
            rw [hi55] at a
            have b := (c_iremV i55 (4097 : Int32)).1 a.1 (by decide)
            rw [hqm] at b
            have z : (4097 : Int32).toInt = 4097 := rfl
            omega
          refine g_istore X0 hx (hb hby at_93) (L' := #[.val (.int q0), .val (.int q1), .val (.int q2), .val (.int q3), .val (.int q4), .val (.long q5), .second, .val (.int ba), .val (.int bb), .val (.int bc), .val (.int (0 : Int32)), .val (.int (0 : Int32)), .val (.int (0 : Int32)), .val (.int i11), .val (.int qm), .unset, .unset]) rfl ?_
          refine g_goto X0 hx (hb hby at_95) (by decide) (pc' := 136) (by decide) ?_
          exact J136 _ _ X0 e0 N0 qm (by omega)
        ·
          refine g_ifYes X0 hx (hb hby at_82) (feq hc82_54).2 (by decide) (pc' := 98) (by decide) ?_
          refine g_iload X0 hx (hb hby at_98) rfl ?_
          refine g_iconst X0 hx (hb hby at_100) (v := (1 : Int32)) (by decide) ?_
          by_cases hc101_56 : i11 = (1 : Int32)
          ·
            refine g_icmpNo X0 hx (hb hby at_101) (teq hc101_56).2 ?_
            refine g_iload X0 hx (hb hby at_104) rfl ?_
            refine g_istore X0 hx (hb hby at_106) (L' := #[.val (.int q0), .val (.int q1), .val (.int q2), .val (.int q3), .val (.int q4), .val (.long q5), .second, .val (.int ba), .val (.int bb), .val (.int bc), .val (.int (0 : Int32)), .val (.int (0 : Int32)), .val (.int (0 : Int32)), .val (.int i11), .val (.int ba), .unset, .unset]) rfl ?_
            refine g_goto X0 hx (hb hby at_108) (by decide) (pc' := 136) (by decide) ?_
            exact J136 _ _ X0 e0 N0 ba (by omega)
          ·
            refine g_icmpYes X0 hx (hb hby at_101) (feq hc101_56).2 (by decide) (pc' := 111) (by decide) ?_
            refine g_iload X0 hx (hb hby at_111) rfl ?_
            refine g_iconst X0 hx (hb hby at_113) (v := (2 : Int32)) (by decide) ?_
            by_cases hc114_57 : i11 = (2 : Int32)
            ·
              refine g_icmpNo X0 hx (hb hby at_114) (teq hc114_57).2 ?_
              refine g_iload X0 hx (hb hby at_117) rfl ?_
              refine g_iconst X0 hx (hb hby at_119) (v := (1 : Int32)) (by decide) ?_
              obtain ⟨ba1, hba1⟩ : ∃ v : Int32, ba + (1 : Int32) = v := ⟨_, rfl⟩
              refine g_iadd X0 hx (hb hby at_120) hba1 ?_
              refine g_istore X0 hx (hb hby at_121) (L' := #[.val (.int q0), .val (.int q1), .val (.int q2), .val (.int q3), .val (.int q4), .val (.long q5), .second, .val (.int ba), .val (.int bb), .val (.int bc), .val (.int (0 : Int32)), .val (.int (0 : Int32)), .val (.int (0 : Int32)), .val (.int i11), .val (.int ba1), .unset, .unset]) rfl ?_
              refine g_goto X0 hx (hb hby at_123) (by decide) (pc' := 136) (by decide) ?_
              exact J136 _ _ X0 e0 N0 ba1 (by
                have a := c_iadd ba 1; rw [hba1] at a
                have z : (1 : Int32).toInt = 1 := rfl
                have r := rng32 ba1
                omega)
            ·
              refine g_icmpYes X0 hx (hb hby at_114) (feq hc114_57).2 (by decide) (pc' := 126) (by decide) ?_
              refine g_iconst X0 hx (hb hby at_126) (v := (0 : Int32)) (by decide) ?_
              refine g_iload X0 hx (hb hby at_127) rfl ?_
              refine g_iconst X0 hx (hb hby at_129) (v := (1 : Int32)) (by decide) ?_
              obtain ⟨bam, hbam⟩ : ∃ v : Int32, ba - (1 : Int32) = v := ⟨_, rfl⟩
              refine g_isub X0 hx (hb hby at_130) hbam ?_
              refine g_callS X0 hx hZ hown (hw _ (List.mem_of_getElem? (i := 38) rfl)) (hw _ (List.mem_of_getElem? (i := 39) rfl)) (hw _ (List.mem_of_getElem? (i := 36) rfl)) (hw _ (List.mem_of_getElem? (i := 40) rfl)) (by decide) (rmx l Z a0 hw [] (0 : Int32) bam h0 n0 Z0) e0 (W := 0) (by decide) (by decide) (by rw [hml]; rfl) [(.int (0 : Int32)), (.int bam)] [] (lenOf pd0_2 rfl) rfl rfl (Nat.le_of_eq rfl) (hb hby at_131) (by decide) (by decide) ?_
              intro v62 T58 L61 X59 hQ60
              obtain ⟨rfl, N63, e64⟩ := hQ60
              have N65 := Fr.app N0 N63
              show Go p e below (Ret s (Q0 Z q0 q1 q2 q3 q4 q5 h0 n0) 24 16576) (T58.setTop (mkF m 134 #[.val (.int q0), .val (.int q1), .val (.int q2), .val (.int q3), .val (.int q4), .val (.long q5), .second, .val (.int ba), .val (.int bb), .val (.int bc), .val (.int (0 : Int32)), .val (.int (0 : Int32)), .val (.int (0 : Int32)), .val (.int i11), .unset, .unset, .unset] [(.int (own_max (0 : Int32) bam))]))
              refine g_istore X59 hx (hb hby at_134) (L' := #[.val (.int q0), .val (.int q1), .val (.int q2), .val (.int q3), .val (.int q4), .val (.long q5), .second, .val (.int ba), .val (.int bb), .val (.int bc), .val (.int (0 : Int32)), .val (.int (0 : Int32)), .val (.int (0 : Int32)), .val (.int i11), .val (.int (own_max (0 : Int32) bam)), .unset, .unset]) rfl ?_
              exact J136 _ _ X59 e64 N65 (own_max (0 : Int32) bam) (by
                rw [own_maxT]
                have a := c_isub ba 1; rw [hbam] at a
                have z : (1 : Int32).toInt = 1 := rfl
                have z0 : (0 : Int32).toInt = 0 := rfl
                have r := rng32 bam
                omega)
      ·
        refine g_ifNo X0 hx (hb hby at_62) (feq hc62_9).1 ?_
        refine g_iconst X0 hx (hb hby at_65) (v := (1 : Int32)) (by decide) ?_
        refine g_goto X0 hx (hb hby at_66) (by decide) (pc' := 70) (by decide) ?_
        refine g_istore X0 hx (hb hby at_70) (L' := #[.val (.int q0), .val (.int q1), .val (.int q2), .val (.int q3), .val (.int q4), .val (.long q5), .second, .val (.int ba), .val (.int bb), .val (.int bc), .val (.int (0 : Int32)), .val (.int (0 : Int32)), .val (.int (1 : Int32)), .unset, .unset, .unset, .unset]) rfl ?_
        refine g_iload X0 hx (hb hby at_72) rfl ?_
        refine g_iconst X0 hx (hb hby at_74) (v := (3 : Int32)) (by decide) ?_
        obtain ⟨i66, hi66⟩ : ∃ v : Int32, (q4.toUInt32 >>> ((3 : Int32) &&& 31).toUInt32).toInt32 = v := ⟨_, rfl⟩
        refine g_iushr X0 hx (hb hby at_75) hi66 ?_
        refine g_iconst X0 hx (hb hby at_76) (v := (3 : Int32)) (by decide) ?_
        obtain ⟨i67, hi67⟩ : ∃ v : Int32, i66 &&& (3 : Int32) = v := ⟨_, rfl⟩
        refine g_iand X0 hx (hb hby at_77) hi67 ?_
        refine g_istore X0 hx (hb hby at_78) (L' := #[.val (.int q0), .val (.int q1), .val (.int q2), .val (.int q3), .val (.int q4), .val (.long q5), .second, .val (.int ba), .val (.int bb), .val (.int bc), .val (.int (0 : Int32)), .val (.int (0 : Int32)), .val (.int (1 : Int32)), .val (.int i67), .unset, .unset, .unset]) rfl ?_
        refine g_iload X0 hx (hb hby at_80) rfl ?_
        have J136 : ∀ (T68 : State) (lo72 : List Loc) (_ : Stand p l e room_1 s m #[(.int q0), (.int q1), (.int q2), (.int q3), (.int q4), (.long q5)] below meth c T68 lo72 0 0) (_ : T68.heap = h0) (_ : Fr n0 lo72) (qy : Int32), 0 ≤ qy.toInt ∧ qy.toInt ≤ 4096 → Go p e below (Ret s (Q0 Z q0 q1 q2 q3 q4 q5 h0 n0) 24 16576) (T68.setTop (mkF m 136 #[.val (.int q0), .val (.int q1), .val (.int q2), .val (.int q3), .val (.int q4), .val (.long q5), .second, .val (.int ba), .val (.int bb), .val (.int bc), .val (.int (0 : Int32)), .val (.int (0 : Int32)), .val (.int (1 : Int32)), .val (.int i67), .val (.int qy), .unset, .unset] [])) := by
          intro T68 lo72 X69 e70 N71 qy hqy
          refine g_new X69 hx hZ hown (hw _ (List.mem_of_getElem? (i := 1) rfl)) (hw _ (List.mem_of_getElem? (i := 2) rfl)) (hw _ (List.mem_of_getElem? (i := 3) rfl)) e70 (hb hby at_136) (by decide) (by decide) ?_
          intro T73 h76 bd gbd X74 e75 E77 F78 D79
          have ge_bd : n0 ≤ bd := by rw [gbd]; exact Z0
          have Z81 : n0 ≤ h76.size := Nat.le_trans Z0 E77.1
          have F83 : Fld Z h76 bd "com/example/skywright/skywright/search/Bands" "entries" "[[J" .null := D79 (Or.inr (hw _ (List.mem_of_getElem? (i := 13) rfl))) (ty := (.array (.array .long))) (by decide)
          refine g_dup X74 hx (hb hby at_139) rfl ?_
          refine g_dconst0 X74 hx (hb hby at_140) ?_
          refine g_dconst1 X74 hx (hb hby at_141) ?_
          refine g_init X74 hx hZ hown rfl (hw _ (List.mem_of_getElem? (i := 4) rfl)) (hw _ (List.mem_of_getElem? (i := 5) rfl)) (hw _ (List.mem_of_getElem? (i := 3) rfl)) (hw _ (List.mem_of_getElem? (i := 6) rfl)) (by decide) (rmi l Z a0 hw [] bd h76 n0 Z81 F78 F83 ge_bd) e75 (W := 1) (by decide) (by decide) (by rw [hml]; rfl) bd [(.double (0 : UInt64)), (.double (4607182418800017408 : UInt64))] [(.ref bd)] (lenOf pd0_0 rfl) rfl rfl (Nat.le_of_eq rfl) (hb hby at_142) (by decide) (by decide) ?_
          intro v89 T85 L88 X86 hQ87
          obtain ⟨rfl, N90, Z91, hOZ, en, sz, f92, HB93⟩ := hQ87
          have N94 := Fr.app N71 N90
          show Go p e below (Ret s (Q0 Z q0 q1 q2 q3 q4 q5 h0 n0) 24 16576) (T85.setTop (mkF m 145 #[.val (.int q0), .val (.int q1), .val (.int q2), .val (.int q3), .val (.int q4), .val (.long q5), .second, .val (.int ba), .val (.int bb), .val (.int bc), .val (.int (0 : Int32)), .val (.int (0 : Int32)), .val (.int (1 : Int32)), .val (.int i67), .val (.int qy), .unset, .unset] [(.ref bd)]))
          have hcn0 := own_zero_cnt
          refine g_astore X86 hx (hb hby at_145) rfl (L' := #[.val (.int q0), .val (.int q1), .val (.int q2), .val (.int q3), .val (.int q4), .val (.long q5), .second, .val (.int ba), .val (.int bb), .val (.int bc), .val (.int (0 : Int32)), .val (.int (0 : Int32)), .val (.int (1 : Int32)), .val (.int i67), .val (.int qy), .val (.ref bd), .unset]) rfl ?_
          refine g_iload X86 hx (hb hby at_147) rfl ?_
          have hc149_95 : (0 : Int32) = (0 : Int32) := (by decide)
          refine g_ifYes X86 hx (hb hby at_149) (teq hc149_95).1 (by decide) (pc' := 161) (by decide) ?_
          refine g_iload X86 hx (hb hby at_161) rfl ?_
          have hc163_96 : (0 : Int32) = (0 : Int32) := (by decide)
          refine g_ifYes X86 hx (hb hby at_163) (teq hc163_96).1 (by decide) (pc' := 177) (by decide) ?_
          refine g_iload X86 hx (hb hby at_177) rfl ?_
          have hc179_97 : ¬ ((1 : Int32) = (0 : Int32)) := (by decide)
          refine g_ifNo X86 hx (hb hby at_179) (feq hc179_97).1 ?_
          refine g_aload X86 hx (hb hby at_182) rfl rfl ?_
          refine g_iload X86 hx (hb hby at_184) rfl ?_
          refine g_lload X86 hx (hb hby at_186) rfl ?_
          refine g_lconst1 X86 hx (hb hby at_188) ?_
          obtain ⟨l98, hl98⟩ : ∃ v : Int64, q5 - (1 : Int64) = v := ⟨_, rfl⟩
          refine g_lsub X86 hx (hb hby at_189) hl98 ?_
          refine g_callV X86 hx hZ hown (hw _ (List.mem_of_getElem? (i := 27) rfl)) (hw _ (List.mem_of_getElem? (i := 28) rfl)) (hw _ (List.mem_of_getElem? (i := 30) rfl)) (hw _ (List.mem_of_getElem? (i := 29) rfl)) (hw _ (List.mem_of_getElem? (i := 3) rfl)) (hw _ (List.mem_of_getElem? (i := 31) rfl)) (by decide) (rma l Z a0 hw [] bd bc l98 en sz f92 own_nil T85.heap n0 Z91 hOZ HB93 (fun k => ⟨(hcn0 k).1, by have := (hcn0 k).2; omega⟩) (by omega)) rfl (W := 0) (by decide) (by decide) (by rw [hml]; rfl) bd HB93.1 [(.int bc), (.long l98)] [] (lenOf pd0_3 rfl) rfl rfl (Nat.le_of_eq rfl) (hb hby at_190) (by decide) (by decide) ?_
          intro v103 T99 L102 X100 hQ101
          obtain ⟨rfl, N104, Z105, f106, HB107⟩ := hQ101
          have N108 := Fr.app N94 N104
          show Go p e below (Ret s (Q0 Z q0 q1 q2 q3 q4 q5 h0 n0) 24 16576) (T99.setTop (mkF m 193 #[.val (.int q0), .val (.int q1), .val (.int q2), .val (.int q3), .val (.int q4), .val (.long q5), .second, .val (.int ba), .val (.int bb), .val (.int bc), .val (.int (0 : Int32)), .val (.int (0 : Int32)), .val (.int (1 : Int32)), .val (.int i67), .val (.int qy), .val (.ref bd), .unset] []))
          have hcn1 : own_cnt (own_add own_nil bc.toInt.toNat) 1 := own_add_cnt hcn0 (by decide)
          refine g_sipush X100 hx (hb hby at_193) (v := (4096 : Int32)) (by decide) ?_
          refine g_istore X100 hx (hb hby at_196) (L' := #[.val (.int q0), .val (.int q1), .val (.int q2), .val (.int q3), .val (.int q4), .val (.long q5), .second, .val (.int ba), .val (.int bb), .val (.int bc), .val (.int (0 : Int32)), .val (.int (0 : Int32)), .val (.int (1 : Int32)), .val (.int i67), .val (.int qy), .val (.ref bd), .val (.int (4096 : Int32))]) rfl ?_
          refine g_iload X100 hx (hb hby at_198) rfl ?_
          have hc200_109 : (0 : Int32) = (0 : Int32) := (by decide)
          refine g_ifYes X100 hx (hb hby at_200) (teq hc200_109).1 (by decide) (pc' := 219) (by decide) ?_
          refine g_iload X100 hx (hb hby at_219) rfl ?_
          have hc221_110 : (0 : Int32) = (0 : Int32) := (by decide)
          refine g_ifYes X100 hx (hb hby at_221) (teq hc221_110).1 (by decide) (pc' := 240) (by decide) ?_
          refine g_iload X100 hx (hb hby at_240) rfl ?_
          have hc242_111 : ¬ ((1 : Int32) = (0 : Int32)) := (by decide)
          refine g_ifNo X100 hx (hb hby at_242) (feq hc242_111).1 ?_
          refine g_iload X100 hx (hb hby at_245) rfl ?_
          refine g_iload X100 hx (hb hby at_247) rfl ?_
          by_cases hc249_112 : bc < qy
          ·
            refine g_icmpYes X100 hx (hb hby at_249) (tlt hc249_112).1 (by decide) (pc' := 261) (by decide) ?_
            refine g_aload X100 hx (hb hby at_261) rfl rfl ?_
            refine g_iload X100 hx (hb hby at_263) rfl ?_
            refine g_callV X100 hx hZ hown (hw _ (List.mem_of_getElem? (i := 22) rfl)) (hw _ (List.mem_of_getElem? (i := 23) rfl)) (hw _ (List.mem_of_getElem? (i := 25) rfl)) (hw _ (List.mem_of_getElem? (i := 24) rfl)) (hw _ (List.mem_of_getElem? (i := 3) rfl)) (hw _ (List.mem_of_getElem? (i := 26) rfl)) (by decide) (rmn l Z a0 hw [] bd qy sz (own_add own_nil bc.toInt.toNat) T99.heap n0 Z105 HB107.2.2.1 HB107.2.2.2.2.2.2.1 hqy) rfl (W := 0) (by decide) (by decide) (by rw [hml]; rfl) bd HB107.1 [(.int qy)] [] (lenOf pd0_1 rfl) rfl rfl (Nat.le_of_eq rfl) (hb hby at_265) (by decide) (by decide) ?_
            intro v117 T113 L116 X114 hQ115
            obtain ⟨got, ⟨rfl, k1, k2, k3, k4⟩, N118, e119⟩ := hQ115
            have N120 := Fr.app N108 N118
            show Go p e below (Ret s (Q0 Z q0 q1 q2 q3 q4 q5 h0 n0) 24 16576) (T113.setTop (mkF m 268 #[.val (.int q0), .val (.int q1), .val (.int q2), .val (.int q3), .val (.int q4), .val (.long q5), .second, .val (.int ba), .val (.int bb), .val (.int bc), .val (.int (0 : Int32)), .val (.int (0 : Int32)), .val (.int (1 : Int32)), .val (.int i67), .val (.int qy), .val (.ref bd), .val (.int (4096 : Int32))] [(.int got)]))
            refine g_iload X114 hx (hb hby at_268) rfl ?_
            have hc270_121 : got = (4096 : Int32) := (by
              apply Int32.toInt_inj.mp
              have z4 : (4096 : Int32).toInt = 4096 := rfl
              have l_bc := Int32.lt_iff_toInt_lt.mp hc249_112
              have hz : ∀ k : Nat, (own_add own_nil bc.toInt.toNat) k ≠ 0 ↔ (k = bc.toInt.toNat ∨ False) := by
                intro k
                rw [own_add_ne hcn0 (by decide)]
                simp [own_nil]
              refine own_found k1 k2 k3 k4 hqy.1 ?_ ?_
              · simp only [hz]; omega
              · intro k q1 q2 q3
                rcases (hz k).mp q3 with q3 | q3 <;> first | exact q3.elim | omega)
            refine g_icmpNo X114 hx (hb hby at_270) (teq hc270_121).2 ?_
            refine g_iconst X114 hx (hb hby at_273) (v := (1 : Int32)) (by decide) ?_
            refine g_goto X114 hx (hb hby at_274) (by decide) (pc' := 278) (by decide) ?_
            refine g_ireturn X114 hx Bd.notSynchronized Bd.returns rfl (by simp) (hb hby at_278) (by decide) (by decide) ?_
            exact ⟨rfl, N120⟩
          ·
            refine g_icmpNo X100 hx (hb hby at_249) (flt hc249_112).1 ?_
            refine g_iload X100 hx (hb hby at_252) rfl ?_
            refine g_iload X100 hx (hb hby at_254) rfl ?_
            refine g_callS X100 hx hZ hown (hw _ (List.mem_of_getElem? (i := 34) rfl)) (hw _ (List.mem_of_getElem? (i := 35) rfl)) (hw _ (List.mem_of_getElem? (i := 36) rfl)) (hw _ (List.mem_of_getElem? (i := 37) rfl)) (by decide) (rmm l Z a0 hw [] (4096 : Int32) bc T99.heap n0 Z105) rfl (W := 0) (by decide) (by decide) (by rw [hml]; rfl) [(.int (4096 : Int32)), (.int bc)] [] (lenOf pd0_2 rfl) rfl rfl (Nat.le_of_eq rfl) (hb hby at_256) (by decide) (by decide) ?_
            intro v126 T122 L125 X123 hQ124
            obtain ⟨rfl, N127, e128⟩ := hQ124
            have N129 := Fr.app N108 N127
            show Go p e below (Ret s (Q0 Z q0 q1 q2 q3 q4 q5 h0 n0) 24 16576) (T122.setTop (mkF m 259 #[.val (.int q0), .val (.int q1), .val (.int q2), .val (.int q3), .val (.int q4), .val (.long q5), .second, .val (.int ba), .val (.int bb), .val (.int bc), .val (.int (0 : Int32)), .val (.int (0 : Int32)), .val (.int (1 : Int32)), .val (.int i67), .val (.int qy), .val (.ref bd), .val (.int (4096 : Int32))] [(.int (own_min (4096 : Int32) bc))]))
            refine g_istore X123 hx (hb hby at_259) (L' := #[.val (.int q0), .val (.int q1), .val (.int q2), .val (.int q3), .val (.int q4), .val (.long q5), .second, .val (.int ba), .val (.int bb), .val (.int bc), .val (.int (0 : Int32)), .val (.int (0 : Int32)), .val (.int (1 : Int32)), .val (.int i67), .val (.int qy), .val (.ref bd), .val (.int (own_min (4096 : Int32) bc))]) rfl ?_
            refine g_aload X123 hx (hb hby at_261) rfl rfl ?_
            refine g_iload X123 hx (hb hby at_263) rfl ?_
            refine g_callV X123 hx hZ hown (hw _ (List.mem_of_getElem? (i := 22) rfl)) (hw _ (List.mem_of_getElem? (i := 23) rfl)) (hw _ (List.mem_of_getElem? (i := 25) rfl)) (hw _ (List.mem_of_getElem? (i := 24) rfl)) (hw _ (List.mem_of_getElem? (i := 3) rfl)) (hw _ (List.mem_of_getElem? (i := 26) rfl)) (by decide) (rmn l Z a0 hw [] bd qy sz (own_add own_nil bc.toInt.toNat) T99.heap n0 Z105 HB107.2.2.1 HB107.2.2.2.2.2.2.1 hqy) e128 (W := 0) (by decide) (by decide) (by rw [hml]; rfl) bd HB107.1 [(.int qy)] [] (lenOf pd0_1 rfl) rfl rfl (Nat.le_of_eq rfl) (hb hby at_265) (by decide) (by decide) ?_
            intro v134 T130 L133 X131 hQ132
            obtain ⟨got, ⟨rfl, k1, k2, k3, k4⟩, N135, e136⟩ := hQ132
            have N137 := Fr.app N129 N135
            show Go p e below (Ret s (Q0 Z q0 q1 q2 q3 q4 q5 h0 n0) 24 16576) (T130.setTop (mkF m 268 #[.val (.int q0), .val (.int q1), .val (.int q2), .val (.int q3), .val (.int q4), .val (.long q5), .second, .val (.int ba), .val (.int bb), .val (.int bc), .val (.int (0 : Int32)), .val (.int (0 : Int32)), .val (.int (1 : Int32)), .val (.int i67), .val (.int qy), .val (.ref bd), .val (.int (own_min (4096 : Int32) bc))] [(.int got)]))
            refine g_iload X131 hx (hb hby at_268) rfl ?_
            have hc270_138 : got = (own_min (4096 : Int32) bc) := (by
              apply Int32.toInt_inj.mp
              have m0 := own_minT (4096 : Int32) bc
              have z4 : (4096 : Int32).toInt = 4096 := rfl
              have l_bc : ¬ bc.toInt < qy.toInt := fun z => hc249_112 (Int32.lt_iff_toInt_lt.mpr z)
              have hz : ∀ k : Nat, (own_add own_nil bc.toInt.toNat) k ≠ 0 ↔ (k = bc.toInt.toNat ∨ False) := by
                intro k
                rw [own_add_ne hcn0 (by decide)]
                simp [own_nil]
              refine own_found k1 k2 k3 k4 hqy.1 ?_ ?_
              · simp only [hz]; omega
              · intro k q1 q2 q3
                rcases (hz k).mp q3 with q3 | q3 <;> first | exact q3.elim | omega)
            refine g_icmpNo X131 hx (hb hby at_270) (teq hc270_138).2 ?_
            refine g_iconst X131 hx (hb hby at_273) (v := (1 : Int32)) (by decide) ?_
            refine g_goto X131 hx (hb hby at_274) (by decide) (pc' := 278) (by decide) ?_
            refine g_ireturn X131 hx Bd.notSynchronized Bd.returns rfl (by simp) (hb hby at_278) (by decide) (by decide) ?_
            exact ⟨rfl, N137⟩
        by_cases hc82_139 : i67 = (0 : Int32)
        ·
          refine g_ifNo X0 hx (hb hby at_82) (teq hc82_139).2 ?_
          refine g_iloadN X0 hx (hb hby at_85) rfl ?_
          refine g_ldcI X0 hx hZ hown (hw _ (List.mem_of_getElem? (i := 0) rfl)) (hb hby at_86) ?_
          obtain ⟨i140, hi140⟩ : ∃ v : Int32, q3 &&& (2147483647 : Int32) = v := ⟨_, rfl⟩
          refine g_iand X0 hx (hb hby at_88) hi140 ?_
          refine g_sipush X0 hx (hb hby at_89) (v := (4097 : Int32)) (by decide) ?_
          obtain ⟨qm, hqm⟩ : ∃ v : Int32, i140 % (4097 : Int32) = v := ⟨_, rfl⟩
          refine g_irem X0 hx (hb hby at_92) (by decide) hqm ?_
          have b_qm : 0 ≤ qm.toInt ∧ qm.toInt < 4097 := by
            have a := c_and q3 (2147483647 : Int32) (by decide)
            rw [hi140] at a
            have b := (c_iremV i140 (4097 : Int32)).1 a.1 (by decide)
            rw [hqm] at b
            have z : (4097 : Int32).toInt = 4097 := rfl
            omega
          refine g_istore X0 hx (hb hby at_93) (L' := #[.val (.int q0), .val (.int q1), .val (.int q2), .val (.int q3), .val (.int q4), .val (.long q5), .second, .val (.int ba), .val (.int bb), .val (.int bc), .val (.int (0 : Int32)), .val (.int (0 : Int32)), .val (.int (1 : Int32)), .val (.int i67), .val (.int qm), .unset, .unset]) rfl ?_
          refine g_goto X0 hx (hb hby at_95) (by decide) (pc' := 136) (by decide) ?_
          exact J136 _ _ X0 e0 N0 qm (by omega)
        ·
          refine g_ifYes X0 hx (hb hby at_82) (feq hc82_139).2 (by decide) (pc' := 98) (by decide) ?_
          refine g_iload X0 hx (hb hby at_98) rfl ?_
          refine g_iconst X0 hx (hb hby at_100) (v := (1 : Int32)) (by decide) ?_
          by_cases hc101_141 : i67 = (1 : Int32)
          ·
            refine g_icmpNo X0 hx (hb hby at_101) (teq hc101_141).2 ?_
            refine g_iload X0 hx (hb hby at_104) rfl ?_
            refine g_istore X0 hx (hb hby at_106) (L' := #[.val (.int q0), .val (.int q1), .val (.int q2), .val (.int q3), .val (.int q4), .val (.long q5), .second, .val (.int ba), .val (.int bb), .val (.int bc), .val (.int (0 : Int32)), .val (.int (0 : Int32)), .val (.int (1 : Int32)), .val (.int i67), .val (.int ba), .unset, .unset]) rfl ?_
            refine g_goto X0 hx (hb hby at_108) (by decide) (pc' := 136) (by decide) ?_
            exact J136 _ _ X0 e0 N0 ba (by omega)
          ·
            refine g_icmpYes X0 hx (hb hby at_101) (feq hc101_141).2 (by decide) (pc' := 111) (by decide) ?_
            refine g_iload X0 hx (hb hby at_111) rfl ?_
            refine g_iconst X0 hx (hb hby at_113) (v := (2 : Int32)) (by decide) ?_
            by_cases hc114_142 : i67 = (2 : Int32)
            ·
              refine g_icmpNo X0 hx (hb hby at_114) (teq hc114_142).2 ?_
              refine g_iload X0 hx (hb hby at_117) rfl ?_
              refine g_iconst X0 hx (hb hby at_119) (v := (1 : Int32)) (by decide) ?_
              obtain ⟨ba1, hba1⟩ : ∃ v : Int32, ba + (1 : Int32) = v := ⟨_, rfl⟩
              refine g_iadd X0 hx (hb hby at_120) hba1 ?_
              refine g_istore X0 hx (hb hby at_121) (L' := #[.val (.int q0), .val (.int q1), .val (.int q2), .val (.int q3), .val (.int q4), .val (.long q5), .second, .val (.int ba), .val (.int bb), .val (.int bc), .val (.int (0 : Int32)), .val (.int (0 : Int32)), .val (.int (1 : Int32)), .val (.int i67), .val (.int ba1), .unset, .unset]) rfl ?_
              refine g_goto X0 hx (hb hby at_123) (by decide) (pc' := 136) (by decide) ?_
              exact J136 _ _ X0 e0 N0 ba1 (by
                have a := c_iadd ba 1; rw [hba1] at a
                have z : (1 : Int32).toInt = 1 := rfl
                have r := rng32 ba1
                omega)
            ·
              refine g_icmpYes X0 hx (hb hby at_114) (feq hc114_142).2 (by decide) (pc' := 126) (by decide) ?_
              refine g_iconst X0 hx (hb hby at_126) (v := (0 : Int32)) (by decide) ?_
              refine g_iload X0 hx (hb hby at_127) rfl ?_
              refine g_iconst X0 hx (hb hby at_129) (v := (1 : Int32)) (by decide) ?_
              obtain ⟨bam, hbam⟩ : ∃ v : Int32, ba - (1 : Int32) = v := ⟨_, rfl⟩
              refine g_isub X0 hx (hb hby at_130) hbam ?_
              refine g_callS X0 hx hZ hown (hw _ (List.mem_of_getElem? (i := 38) rfl)) (hw _ (List.mem_of_getElem? (i := 39) rfl)) (hw _ (List.mem_of_getElem? (i := 36) rfl)) (hw _ (List.mem_of_getElem? (i := 40) rfl)) (by decide) (rmx l Z a0 hw [] (0 : Int32) bam h0 n0 Z0) e0 (W := 0) (by decide) (by decide) (by rw [hml]; rfl) [(.int (0 : Int32)), (.int bam)] [] (lenOf pd0_2 rfl) rfl rfl (Nat.le_of_eq rfl) (hb hby at_131) (by decide) (by decide) ?_
              intro v147 T143 L146 X144 hQ145
              obtain ⟨rfl, N148, e149⟩ := hQ145
              have N150 := Fr.app N0 N148
              show Go p e below (Ret s (Q0 Z q0 q1 q2 q3 q4 q5 h0 n0) 24 16576) (T143.setTop (mkF m 134 #[.val (.int q0), .val (.int q1), .val (.int q2), .val (.int q3), .val (.int q4), .val (.long q5), .second, .val (.int ba), .val (.int bb), .val (.int bc), .val (.int (0 : Int32)), .val (.int (0 : Int32)), .val (.int (1 : Int32)), .val (.int i67), .unset, .unset, .unset] [(.int (own_max (0 : Int32) bam))]))
              refine g_istore X144 hx (hb hby at_134) (L' := #[.val (.int q0), .val (.int q1), .val (.int q2), .val (.int q3), .val (.int q4), .val (.long q5), .second, .val (.int ba), .val (.int bb), .val (.int bc), .val (.int (0 : Int32)), .val (.int (0 : Int32)), .val (.int (1 : Int32)), .val (.int i67), .val (.int (own_max (0 : Int32) bam)), .unset, .unset]) rfl ?_
              exact J136 _ _ X144 e149 N150 (own_max (0 : Int32) bam) (by
                rw [own_maxT]
                have a := c_isub ba 1; rw [hbam] at a
                have z : (1 : Int32).toInt = 1 := rfl
                have z0 : (0 : Int32).toInt = 0 := rfl
                have r := rng32 bam
                omega)
    ·
      refine g_ifNo X0 hx (hb hby at_48) (feq hc48_7).1 ?_
      refine g_iconst X0 hx (hb hby at_51) (v := (1 : Int32)) (by decide) ?_
      refine g_goto X0 hx (hb hby at_52) (by decide) (pc' := 56) (by decide) ?_
      refine g_istore X0 hx (hb hby at_56) (L' := #[.val (.int q0), .val (.int q1), .val (.int q2), .val (.int q3), .val (.int q4), .val (.long q5), .second, .val (.int ba), .val (.int bb), .val (.int bc), .val (.int (0 : Int32)), .val (.int (1 : Int32)), .unset, .unset, .unset, .unset, .unset]) rfl ?_
      refine g_iload X0 hx (hb hby at_58) rfl ?_
      refine g_iconst X0 hx (hb hby at_60) (v := (4 : Int32)) (by decide) ?_
      obtain ⟨i151, hi151⟩ : ∃ v : Int32, q4 &&& (4 : Int32) = v := ⟨_, rfl⟩
      refine g_iand X0 hx (hb hby at_61) hi151 ?_
      by_cases hc62_152 : i151 = (0 : Int32)
      ·
        refine g_ifYes X0 hx (hb hby at_62) (teq hc62_152).1 (by decide) (pc' := 69) (by decide) ?_
        refine g_iconst X0 hx (hb hby at_69) (v := (0 : Int32)) (by decide) ?_
        refine g_istore X0 hx (hb hby at_70) (L' := #[.val (.int q0), .val (.int q1), .val (.int q2), .val (.int q3), .val (.int q4), .val (.long q5), .second, .val (.int ba), .val (.int bb), .val (.int bc), .val (.int (0 : Int32)), .val (.int (1 : Int32)), .val (.int (0 : Int32)), .unset, .unset, .unset, .unset]) rfl ?_
        refine g_iload X0 hx (hb hby at_72) rfl ?_
        refine g_iconst X0 hx (hb hby at_74) (v := (3 : Int32)) (by decide) ?_
        obtain ⟨i153, hi153⟩ : ∃ v : Int32, (q4.toUInt32 >>> ((3 : Int32) &&& 31).toUInt32).toInt32 = v := ⟨_, rfl⟩
        refine g_iushr X0 hx (hb hby at_75) hi153 ?_
        refine g_iconst X0 hx (hb hby at_76) (v := (3 : Int32)) (by decide) ?_
        obtain ⟨i154, hi154⟩ : ∃ v : Int32, i153 &&& (3 : Int32) = v := ⟨_, rfl⟩
        refine g_iand X0 hx (hb hby at_77) hi154 ?_
        refine g_istore X0 hx (hb hby at_78) (L' := #[.val (.int q0), .val (.int q1), .val (.int q2), .val (.int q3), .val (.int q4), .val (.long q5), .second, .val (.int ba), .val (.int bb), .val (.int bc), .val (.int (0 : Int32)), .val (.int (1 : Int32)), .val (.int (0 : Int32)), .val (.int i154), .unset, .unset, .unset]) rfl ?_
        refine g_iload X0 hx (hb hby at_80) rfl ?_
        have J136 : ∀ (T155 : State) (lo159 : List Loc) (_ : Stand p l e room_1 s m #[(.int q0), (.int q1), (.int q2), (.int q3), (.int q4), (.long q5)] below meth c T155 lo159 0 0) (_ : T155.heap = h0) (_ : Fr n0 lo159) (qy : Int32), 0 ≤ qy.toInt ∧ qy.toInt ≤ 4096 → Go p e below (Ret s (Q0 Z q0 q1 q2 q3 q4 q5 h0 n0) 24 16576) (T155.setTop (mkF m 136 #[.val (.int q0), .val (.int q1), .val (.int q2), .val (.int q3), .val (.int q4), .val (.long q5), .second, .val (.int ba), .val (.int bb), .val (.int bc), .val (.int (0 : Int32)), .val (.int (1 : Int32)), .val (.int (0 : Int32)), .val (.int i154), .val (.int qy), .unset, .unset] [])) := by
          intro T155 lo159 X156 e157 N158 qy hqy
          refine g_new X156 hx hZ hown (hw _ (List.mem_of_getElem? (i := 1) rfl)) (hw _ (List.mem_of_getElem? (i := 2) rfl)) (hw _ (List.mem_of_getElem? (i := 3) rfl)) e157 (hb hby at_136) (by decide) (by decide) ?_
          intro T160 h163 bd gbd X161 e162 E164 F165 D166
          have ge_bd : n0 ≤ bd := by rw [gbd]; exact Z0
          have Z168 : n0 ≤ h163.size := Nat.le_trans Z0 E164.1
          have F170 : Fld Z h163 bd "com/example/skywright/skywright/search/Bands" "entries" "[[J" .null := D166 (Or.inr (hw _ (List.mem_of_getElem? (i := 13) rfl))) (ty := (.array (.array .long))) (by decide)
          refine g_dup X161 hx (hb hby at_139) rfl ?_
          refine g_dconst0 X161 hx (hb hby at_140) ?_
          refine g_dconst1 X161 hx (hb hby at_141) ?_
          refine g_init X161 hx hZ hown rfl (hw _ (List.mem_of_getElem? (i := 4) rfl)) (hw _ (List.mem_of_getElem? (i := 5) rfl)) (hw _ (List.mem_of_getElem? (i := 3) rfl)) (hw _ (List.mem_of_getElem? (i := 6) rfl)) (by decide) (rmi l Z a0 hw [] bd h163 n0 Z168 F165 F170 ge_bd) e162 (W := 1) (by decide) (by decide) (by rw [hml]; rfl) bd [(.double (0 : UInt64)), (.double (4607182418800017408 : UInt64))] [(.ref bd)] (lenOf pd0_0 rfl) rfl rfl (Nat.le_of_eq rfl) (hb hby at_142) (by decide) (by decide) ?_
          intro v176 T172 L175 X173 hQ174
          obtain ⟨rfl, N177, Z178, hOZ, en, sz, f179, HB180⟩ := hQ174
          have N181 := Fr.app N158 N177
          show Go p e below (Ret s (Q0 Z q0 q1 q2 q3 q4 q5 h0 n0) 24 16576) (T172.setTop (mkF m 145 #[.val (.int q0), .val (.int q1), .val (.int q2), .val (.int q3), .val (.int q4), .val (.long q5), .second, .val (.int ba), .val (.int bb), .val (.int bc), .val (.int (0 : Int32)), .val (.int (1 : Int32)), .val (.int (0 : Int32)), .val (.int i154), .val (.int qy), .unset, .unset] [(.ref bd)]))
          have hcn0 := own_zero_cnt
          refine g_astore X173 hx (hb hby at_145) rfl (L' := #[.val (.int q0), .val (.int q1), .val (.int q2), .val (.int q3), .val (.int q4), .val (.long q5), .second, .val (.int ba), .val (.int bb), .val (.int bc), .val (.int (0 : Int32)), .val (.int (1 : Int32)), .val (.int (0 : Int32)), .val (.int i154), .val (.int qy), .val (.ref bd), .unset]) rfl ?_
          refine g_iload X173 hx (hb hby at_147) rfl ?_
          have hc149_182 : (0 : Int32) = (0 : Int32) := (by decide)
          refine g_ifYes X173 hx (hb hby at_149) (teq hc149_182).1 (by decide) (pc' := 161) (by decide) ?_
          refine g_iload X173 hx (hb hby at_161) rfl ?_
          have hc163_183 : ¬ ((1 : Int32) = (0 : Int32)) := (by decide)
          refine g_ifNo X173 hx (hb hby at_163) (feq hc163_183).1 ?_
          refine g_aload X173 hx (hb hby at_166) rfl rfl ?_
          refine g_iload X173 hx (hb hby at_168) rfl ?_
          refine g_lload X173 hx (hb hby at_170) rfl ?_
          refine g_lconst1 X173 hx (hb hby at_172) ?_
          obtain ⟨l184, hl184⟩ : ∃ v : Int64, q5 + (1 : Int64) = v := ⟨_, rfl⟩
          refine g_ladd X173 hx (hb hby at_173) hl184 ?_
          refine g_callV X173 hx hZ hown (hw _ (List.mem_of_getElem? (i := 27) rfl)) (hw _ (List.mem_of_getElem? (i := 28) rfl)) (hw _ (List.mem_of_getElem? (i := 30) rfl)) (hw _ (List.mem_of_getElem? (i := 29) rfl)) (hw _ (List.mem_of_getElem? (i := 3) rfl)) (hw _ (List.mem_of_getElem? (i := 31) rfl)) (by decide) (rma l Z a0 hw [] bd bb l184 en sz f179 own_nil T172.heap n0 Z178 hOZ HB180 (fun k => ⟨(hcn0 k).1, by have := (hcn0 k).2; omega⟩) (by omega)) rfl (W := 0) (by decide) (by decide) (by rw [hml]; rfl) bd HB180.1 [(.int bb), (.long l184)] [] (lenOf pd0_3 rfl) rfl rfl (Nat.le_of_eq rfl) (hb hby at_174) (by decide) (by decide) ?_
          intro v189 T185 L188 X186 hQ187
          obtain ⟨rfl, N190, Z191, f192, HB193⟩ := hQ187
          have N194 := Fr.app N181 N190
          show Go p e below (Ret s (Q0 Z q0 q1 q2 q3 q4 q5 h0 n0) 24 16576) (T185.setTop (mkF m 177 #[.val (.int q0), .val (.int q1), .val (.int q2), .val (.int q3), .val (.int q4), .val (.long q5), .second, .val (.int ba), .val (.int bb), .val (.int bc), .val (.int (0 : Int32)), .val (.int (1 : Int32)), .val (.int (0 : Int32)), .val (.int i154), .val (.int qy), .val (.ref bd), .unset] []))
          have hcn1 : own_cnt (own_add own_nil bb.toInt.toNat) 1 := own_add_cnt hcn0 (by decide)
          refine g_iload X186 hx (hb hby at_177) rfl ?_
          have hc179_195 : (0 : Int32) = (0 : Int32) := (by decide)
          refine g_ifYes X186 hx (hb hby at_179) (teq hc179_195).1 (by decide) (pc' := 193) (by decide) ?_
          refine g_sipush X186 hx (hb hby at_193) (v := (4096 : Int32)) (by decide) ?_
          refine g_istore X186 hx (hb hby at_196) (L' := #[.val (.int q0), .val (.int q1), .val (.int q2), .val (.int q3), .val (.int q4), .val (.long q5), .second, .val (.int ba), .val (.int bb), .val (.int bc), .val (.int (0 : Int32)), .val (.int (1 : Int32)), .val (.int (0 : Int32)), .val (.int i154), .val (.int qy), .val (.ref bd), .val (.int (4096 : Int32))]) rfl ?_
          refine g_iload X186 hx (hb hby at_198) rfl ?_
          have hc200_196 : (0 : Int32) = (0 : Int32) := (by decide)
          refine g_ifYes X186 hx (hb hby at_200) (teq hc200_196).1 (by decide) (pc' := 219) (by decide) ?_
          refine g_iload X186 hx (hb hby at_219) rfl ?_
          have hc221_197 : ¬ ((1 : Int32) = (0 : Int32)) := (by decide)
          refine g_ifNo X186 hx (hb hby at_221) (feq hc221_197).1 ?_
          refine g_iload X186 hx (hb hby at_224) rfl ?_
          refine g_iload X186 hx (hb hby at_226) rfl ?_
          by_cases hc228_198 : bb < qy
          ·
            refine g_icmpYes X186 hx (hb hby at_228) (tlt hc228_198).1 (by decide) (pc' := 240) (by decide) ?_
            refine g_iload X186 hx (hb hby at_240) rfl ?_
            have hc242_199 : (0 : Int32) = (0 : Int32) := (by decide)
            refine g_ifYes X186 hx (hb hby at_242) (teq hc242_199).1 (by decide) (pc' := 261) (by decide) ?_
            refine g_aload X186 hx (hb hby at_261) rfl rfl ?_
            refine g_iload X186 hx (hb hby at_263) rfl ?_
            refine g_callV X186 hx hZ hown (hw _ (List.mem_of_getElem? (i := 22) rfl)) (hw _ (List.mem_of_getElem? (i := 23) rfl)) (hw _ (List.mem_of_getElem? (i := 25) rfl)) (hw _ (List.mem_of_getElem? (i := 24) rfl)) (hw _ (List.mem_of_getElem? (i := 3) rfl)) (hw _ (List.mem_of_getElem? (i := 26) rfl)) (by decide) (rmn l Z a0 hw [] bd qy sz (own_add own_nil bb.toInt.toNat) T185.heap n0 Z191 HB193.2.2.1 HB193.2.2.2.2.2.2.1 hqy) rfl (W := 0) (by decide) (by decide) (by rw [hml]; rfl) bd HB193.1 [(.int qy)] [] (lenOf pd0_1 rfl) rfl rfl (Nat.le_of_eq rfl) (hb hby at_265) (by decide) (by decide) ?_
            intro v204 T200 L203 X201 hQ202
            obtain ⟨got, ⟨rfl, k1, k2, k3, k4⟩, N205, e206⟩ := hQ202
            have N207 := Fr.app N194 N205
            show Go p e below (Ret s (Q0 Z q0 q1 q2 q3 q4 q5 h0 n0) 24 16576) (T200.setTop (mkF m 268 #[.val (.int q0), .val (.int q1), .val (.int q2), .val (.int q3), .val (.int q4), .val (.long q5), .second, .val (.int ba), .val (.int bb), .val (.int bc), .val (.int (0 : Int32)), .val (.int (1 : Int32)), .val (.int (0 : Int32)), .val (.int i154), .val (.int qy), .val (.ref bd), .val (.int (4096 : Int32))] [(.int got)]))
            refine g_iload X201 hx (hb hby at_268) rfl ?_
            have hc270_208 : got = (4096 : Int32) := (by
              apply Int32.toInt_inj.mp
              have z4 : (4096 : Int32).toInt = 4096 := rfl
              have l_bb := Int32.lt_iff_toInt_lt.mp hc228_198
              have hz : ∀ k : Nat, (own_add own_nil bb.toInt.toNat) k ≠ 0 ↔ (k = bb.toInt.toNat ∨ False) := by
                intro k
                rw [own_add_ne hcn0 (by decide)]
                simp [own_nil]
              refine own_found k1 k2 k3 k4 hqy.1 ?_ ?_
              · simp only [hz]; omega
              · intro k q1 q2 q3
                rcases (hz k).mp q3 with q3 | q3 <;> first | exact q3.elim | omega)
            refine g_icmpNo X201 hx (hb hby at_270) (teq hc270_208).2 ?_
            refine g_iconst X201 hx (hb hby at_273) (v := (1 : Int32)) (by decide) ?_
            refine g_goto X201 hx (hb hby at_274) (by decide) (pc' := 278) (by decide) ?_
            refine g_ireturn X201 hx Bd.notSynchronized Bd.returns rfl (by simp) (hb hby at_278) (by decide) (by decide) ?_
            exact ⟨rfl, N207⟩
          ·
            refine g_icmpNo X186 hx (hb hby at_228) (flt hc228_198).1 ?_
            refine g_iload X186 hx (hb hby at_231) rfl ?_
            refine g_iload X186 hx (hb hby at_233) rfl ?_
            refine g_callS X186 hx hZ hown (hw _ (List.mem_of_getElem? (i := 34) rfl)) (hw _ (List.mem_of_getElem? (i := 35) rfl)) (hw _ (List.mem_of_getElem? (i := 36) rfl)) (hw _ (List.mem_of_getElem? (i := 37) rfl)) (by decide) (rmm l Z a0 hw [] (4096 : Int32) bb T185.heap n0 Z191) rfl (W := 0) (by decide) (by decide) (by rw [hml]; rfl) [(.int (4096 : Int32)), (.int bb)] [] (lenOf pd0_2 rfl) rfl rfl (Nat.le_of_eq rfl) (hb hby at_235) (by decide) (by decide) ?_
            intro v213 T209 L212 X210 hQ211
            obtain ⟨rfl, N214, e215⟩ := hQ211
            have N216 := Fr.app N194 N214
            show Go p e below (Ret s (Q0 Z q0 q1 q2 q3 q4 q5 h0 n0) 24 16576) (T209.setTop (mkF m 238 #[.val (.int q0), .val (.int q1), .val (.int q2), .val (.int q3), .val (.int q4), .val (.long q5), .second, .val (.int ba), .val (.int bb), .val (.int bc), .val (.int (0 : Int32)), .val (.int (1 : Int32)), .val (.int (0 : Int32)), .val (.int i154), .val (.int qy), .val (.ref bd), .val (.int (4096 : Int32))] [(.int (own_min (4096 : Int32) bb))]))
            refine g_istore X210 hx (hb hby at_238) (L' := #[.val (.int q0), .val (.int q1), .val (.int q2), .val (.int q3), .val (.int q4), .val (.long q5), .second, .val (.int ba), .val (.int bb), .val (.int bc), .val (.int (0 : Int32)), .val (.int (1 : Int32)), .val (.int (0 : Int32)), .val (.int i154), .val (.int qy), .val (.ref bd), .val (.int (own_min (4096 : Int32) bb))]) rfl ?_
            refine g_iload X210 hx (hb hby at_240) rfl ?_
            have hc242_217 : (0 : Int32) = (0 : Int32) := (by decide)
            refine g_ifYes X210 hx (hb hby at_242) (teq hc242_217).1 (by decide) (pc' := 261) (by decide) ?_
            refine g_aload X210 hx (hb hby at_261) rfl rfl ?_
            refine g_iload X210 hx (hb hby at_263) rfl ?_
            refine g_callV X210 hx hZ hown (hw _ (List.mem_of_getElem? (i := 22) rfl)) (hw _ (List.mem_of_getElem? (i := 23) rfl)) (hw _ (List.mem_of_getElem? (i := 25) rfl)) (hw _ (List.mem_of_getElem? (i := 24) rfl)) (hw _ (List.mem_of_getElem? (i := 3) rfl)) (hw _ (List.mem_of_getElem? (i := 26) rfl)) (by decide) (rmn l Z a0 hw [] bd qy sz (own_add own_nil bb.toInt.toNat) T185.heap n0 Z191 HB193.2.2.1 HB193.2.2.2.2.2.2.1 hqy) e215 (W := 0) (by decide) (by decide) (by rw [hml]; rfl) bd HB193.1 [(.int qy)] [] (lenOf pd0_1 rfl) rfl rfl (Nat.le_of_eq rfl) (hb hby at_265) (by decide) (by decide) ?_
            intro v222 T218 L221 X219 hQ220
            obtain ⟨got, ⟨rfl, k1, k2, k3, k4⟩, N223, e224⟩ := hQ220
            have N225 := Fr.app N216 N223
            show Go p e below (Ret s (Q0 Z q0 q1 q2 q3 q4 q5 h0 n0) 24 16576) (T218.setTop (mkF m 268 #[.val (.int q0), .val (.int q1), .val (.int q2), .val (.int q3), .val (.int q4), .val (.long q5), .second, .val (.int ba), .val (.int bb), .val (.int bc), .val (.int (0 : Int32)), .val (.int (1 : Int32)), .val (.int (0 : Int32)), .val (.int i154), .val (.int qy), .val (.ref bd), .val (.int (own_min (4096 : Int32) bb))] [(.int got)]))
            refine g_iload X219 hx (hb hby at_268) rfl ?_
            have hc270_226 : got = (own_min (4096 : Int32) bb) := (by
              apply Int32.toInt_inj.mp
              have m0 := own_minT (4096 : Int32) bb
              have z4 : (4096 : Int32).toInt = 4096 := rfl
              have l_bb : ¬ bb.toInt < qy.toInt := fun z => hc228_198 (Int32.lt_iff_toInt_lt.mpr z)
              have hz : ∀ k : Nat, (own_add own_nil bb.toInt.toNat) k ≠ 0 ↔ (k = bb.toInt.toNat ∨ False) := by
                intro k
                rw [own_add_ne hcn0 (by decide)]
                simp [own_nil]
              refine own_found k1 k2 k3 k4 hqy.1 ?_ ?_
              · simp only [hz]; omega
              · intro k q1 q2 q3
                rcases (hz k).mp q3 with q3 | q3 <;> first | exact q3.elim | omega)
            refine g_icmpNo X219 hx (hb hby at_270) (teq hc270_226).2 ?_
            refine g_iconst X219 hx (hb hby at_273) (v := (1 : Int32)) (by decide) ?_
            refine g_goto X219 hx (hb hby at_274) (by decide) (pc' := 278) (by decide) ?_
            refine g_ireturn X219 hx Bd.notSynchronized Bd.returns rfl (by simp) (hb hby at_278) (by decide) (by decide) ?_
            exact ⟨rfl, N225⟩
        by_cases hc82_227 : i154 = (0 : Int32)
        ·
          refine g_ifNo X0 hx (hb hby at_82) (teq hc82_227).2 ?_
          refine g_iloadN X0 hx (hb hby at_85) rfl ?_
          refine g_ldcI X0 hx hZ hown (hw _ (List.mem_of_getElem? (i := 0) rfl)) (hb hby at_86) ?_
          obtain ⟨i228, hi228⟩ : ∃ v : Int32, q3 &&& (2147483647 : Int32) = v := ⟨_, rfl⟩
          refine g_iand X0 hx (hb hby at_88) hi228 ?_
          refine g_sipush X0 hx (hb hby at_89) (v := (4097 : Int32)) (by decide) ?_
          obtain ⟨qm, hqm⟩ : ∃ v : Int32, i228 % (4097 : Int32) = v := ⟨_, rfl⟩
          refine g_irem X0 hx (hb hby at_92) (by decide) hqm ?_
          have b_qm : 0 ≤ qm.toInt ∧ qm.toInt < 4097 := by
            have a := c_and q3 (2147483647 : Int32) (by decide)
            rw [hi228] at a
            have b := (c_iremV i228 (4097 : Int32)).1 a.1 (by decide)
            rw [hqm] at b
            have z : (4097 : Int32).toInt = 4097 := rfl
            omega
          refine g_istore X0 hx (hb hby at_93) (L' := #[.val (.int q0), .val (.int q1), .val (.int q2), .val (.int q3), .val (.int q4), .val (.long q5), .second, .val (.int ba), .val (.int bb), .val (.int bc), .val (.int (0 : Int32)), .val (.int (1 : Int32)), .val (.int (0 : Int32)), .val (.int i154), .val (.int qm), .unset, .unset]) rfl ?_
          refine g_goto X0 hx (hb hby at_95) (by decide) (pc' := 136) (by decide) ?_
          exact J136 _ _ X0 e0 N0 qm (by omega)
        ·
          refine g_ifYes X0 hx (hb hby at_82) (feq hc82_227).2 (by decide) (pc' := 98) (by decide) ?_
          refine g_iload X0 hx (hb hby at_98) rfl ?_
          refine g_iconst X0 hx (hb hby at_100) (v := (1 : Int32)) (by decide) ?_
          by_cases hc101_229 : i154 = (1 : Int32)
          ·
            refine g_icmpNo X0 hx (hb hby at_101) (teq hc101_229).2 ?_
            refine g_iload X0 hx (hb hby at_104) rfl ?_
            refine g_istore X0 hx (hb hby at_106) (L' := #[.val (.int q0), .val (.int q1), .val (.int q2), .val (.int q3), .val (.int q4), .val (.long q5), .second, .val (.int ba), .val (.int bb), .val (.int bc), .val (.int (0 : Int32)), .val (.int (1 : Int32)), .val (.int (0 : Int32)), .val (.int i154), .val (.int ba), .unset, .unset]) rfl ?_
            refine g_goto X0 hx (hb hby at_108) (by decide) (pc' := 136) (by decide) ?_
            exact J136 _ _ X0 e0 N0 ba (by omega)
          ·
            refine g_icmpYes X0 hx (hb hby at_101) (feq hc101_229).2 (by decide) (pc' := 111) (by decide) ?_
            refine g_iload X0 hx (hb hby at_111) rfl ?_
            refine g_iconst X0 hx (hb hby at_113) (v := (2 : Int32)) (by decide) ?_
            by_cases hc114_230 : i154 = (2 : Int32)
            ·
              refine g_icmpNo X0 hx (hb hby at_114) (teq hc114_230).2 ?_
              refine g_iload X0 hx (hb hby at_117) rfl ?_
              refine g_iconst X0 hx (hb hby at_119) (v := (1 : Int32)) (by decide) ?_
              obtain ⟨ba1, hba1⟩ : ∃ v : Int32, ba + (1 : Int32) = v := ⟨_, rfl⟩
              refine g_iadd X0 hx (hb hby at_120) hba1 ?_
              refine g_istore X0 hx (hb hby at_121) (L' := #[.val (.int q0), .val (.int q1), .val (.int q2), .val (.int q3), .val (.int q4), .val (.long q5), .second, .val (.int ba), .val (.int bb), .val (.int bc), .val (.int (0 : Int32)), .val (.int (1 : Int32)), .val (.int (0 : Int32)), .val (.int i154), .val (.int ba1), .unset, .unset]) rfl ?_
              refine g_goto X0 hx (hb hby at_123) (by decide) (pc' := 136) (by decide) ?_
              exact J136 _ _ X0 e0 N0 ba1 (by
                have a := c_iadd ba 1; rw [hba1] at a
                have z : (1 : Int32).toInt = 1 := rfl
                have r := rng32 ba1
                omega)
            ·
              refine g_icmpYes X0 hx (hb hby at_114) (feq hc114_230).2 (by decide) (pc' := 126) (by decide) ?_
              refine g_iconst X0 hx (hb hby at_126) (v := (0 : Int32)) (by decide) ?_
              refine g_iload X0 hx (hb hby at_127) rfl ?_
              refine g_iconst X0 hx (hb hby at_129) (v := (1 : Int32)) (by decide) ?_
              obtain ⟨bam, hbam⟩ : ∃ v : Int32, ba - (1 : Int32) = v := ⟨_, rfl⟩
              refine g_isub X0 hx (hb hby at_130) hbam ?_
              refine g_callS X0 hx hZ hown (hw _ (List.mem_of_getElem? (i := 38) rfl)) (hw _ (List.mem_of_getElem? (i := 39) rfl)) (hw _ (List.mem_of_getElem? (i := 36) rfl)) (hw _ (List.mem_of_getElem? (i := 40) rfl)) (by decide) (rmx l Z a0 hw [] (0 : Int32) bam h0 n0 Z0) e0 (W := 0) (by decide) (by decide) (by rw [hml]; rfl) [(.int (0 : Int32)), (.int bam)] [] (lenOf pd0_2 rfl) rfl rfl (Nat.le_of_eq rfl) (hb hby at_131) (by decide) (by decide) ?_
              intro v235 T231 L234 X232 hQ233
              obtain ⟨rfl, N236, e237⟩ := hQ233
              have N238 := Fr.app N0 N236
              show Go p e below (Ret s (Q0 Z q0 q1 q2 q3 q4 q5 h0 n0) 24 16576) (T231.setTop (mkF m 134 #[.val (.int q0), .val (.int q1), .val (.int q2), .val (.int q3), .val (.int q4), .val (.long q5), .second, .val (.int ba), .val (.int bb), .val (.int bc), .val (.int (0 : Int32)), .val (.int (1 : Int32)), .val (.int (0 : Int32)), .val (.int i154), .unset, .unset, .unset] [(.int (own_max (0 : Int32) bam))]))
              refine g_istore X232 hx (hb hby at_134) (L' := #[.val (.int q0), .val (.int q1), .val (.int q2), .val (.int q3), .val (.int q4), .val (.long q5), .second, .val (.int ba), .val (.int bb), .val (.int bc), .val (.int (0 : Int32)), .val (.int (1 : Int32)), .val (.int (0 : Int32)), .val (.int i154), .val (.int (own_max (0 : Int32) bam)), .unset, .unset]) rfl ?_
              exact J136 _ _ X232 e237 N238 (own_max (0 : Int32) bam) (by
                rw [own_maxT]
                have a := c_isub ba 1; rw [hbam] at a
                have z : (1 : Int32).toInt = 1 := rfl
                have z0 : (0 : Int32).toInt = 0 := rfl
                have r := rng32 bam
                omega)
      ·
        refine g_ifNo X0 hx (hb hby at_62) (feq hc62_152).1 ?_
        refine g_iconst X0 hx (hb hby at_65) (v := (1 : Int32)) (by decide) ?_
        refine g_goto X0 hx (hb hby at_66) (by decide) (pc' := 70) (by decide) ?_
        refine g_istore X0 hx (hb hby at_70) (L' := #[.val (.int q0), .val (.int q1), .val (.int q2), .val (.int q3), .val (.int q4), .val (.long q5), .second, .val (.int ba), .val (.int bb), .val (.int bc), .val (.int (0 : Int32)), .val (.int (1 : Int32)), .val (.int (1 : Int32)), .unset, .unset, .unset, .unset]) rfl ?_
        refine g_iload X0 hx (hb hby at_72) rfl ?_
        refine g_iconst X0 hx (hb hby at_74) (v := (3 : Int32)) (by decide) ?_
        obtain ⟨i239, hi239⟩ : ∃ v : Int32, (q4.toUInt32 >>> ((3 : Int32) &&& 31).toUInt32).toInt32 = v := ⟨_, rfl⟩
        refine g_iushr X0 hx (hb hby at_75) hi239 ?_
        refine g_iconst X0 hx (hb hby at_76) (v := (3 : Int32)) (by decide) ?_
        obtain ⟨i240, hi240⟩ : ∃ v : Int32, i239 &&& (3 : Int32) = v := ⟨_, rfl⟩
        refine g_iand X0 hx (hb hby at_77) hi240 ?_
        refine g_istore X0 hx (hb hby at_78) (L' := #[.val (.int q0), .val (.int q1), .val (.int q2), .val (.int q3), .val (.int q4), .val (.long q5), .second, .val (.int ba), .val (.int bb), .val (.int bc), .val (.int (0 : Int32)), .val (.int (1 : Int32)), .val (.int (1 : Int32)), .val (.int i240), .unset, .unset, .unset]) rfl ?_
        refine g_iload X0 hx (hb hby at_80) rfl ?_
        have J136 : ∀ (T241 : State) (lo245 : List Loc) (_ : Stand p l e room_1 s m #[(.int q0), (.int q1), (.int q2), (.int q3), (.int q4), (.long q5)] below meth c T241 lo245 0 0) (_ : T241.heap = h0) (_ : Fr n0 lo245) (qy : Int32), 0 ≤ qy.toInt ∧ qy.toInt ≤ 4096 → Go p e below (Ret s (Q0 Z q0 q1 q2 q3 q4 q5 h0 n0) 24 16576) (T241.setTop (mkF m 136 #[.val (.int q0), .val (.int q1), .val (.int q2), .val (.int q3), .val (.int q4), .val (.long q5), .second, .val (.int ba), .val (.int bb), .val (.int bc), .val (.int (0 : Int32)), .val (.int (1 : Int32)), .val (.int (1 : Int32)), .val (.int i240), .val (.int qy), .unset, .unset] [])) := by
          intro T241 lo245 X242 e243 N244 qy hqy
          refine g_new X242 hx hZ hown (hw _ (List.mem_of_getElem? (i := 1) rfl)) (hw _ (List.mem_of_getElem? (i := 2) rfl)) (hw _ (List.mem_of_getElem? (i := 3) rfl)) e243 (hb hby at_136) (by decide) (by decide) ?_
          intro T246 h249 bd gbd X247 e248 E250 F251 D252
          have ge_bd : n0 ≤ bd := by rw [gbd]; exact Z0
          have Z254 : n0 ≤ h249.size := Nat.le_trans Z0 E250.1
          have F256 : Fld Z h249 bd "com/example/skywright/skywright/search/Bands" "entries" "[[J" .null := D252 (Or.inr (hw _ (List.mem_of_getElem? (i := 13) rfl))) (ty := (.array (.array .long))) (by decide)
          refine g_dup X247 hx (hb hby at_139) rfl ?_
          refine g_dconst0 X247 hx (hb hby at_140) ?_
          refine g_dconst1 X247 hx (hb hby at_141) ?_
          refine g_init X247 hx hZ hown rfl (hw _ (List.mem_of_getElem? (i := 4) rfl)) (hw _ (List.mem_of_getElem? (i := 5) rfl)) (hw _ (List.mem_of_getElem? (i := 3) rfl)) (hw _ (List.mem_of_getElem? (i := 6) rfl)) (by decide) (rmi l Z a0 hw [] bd h249 n0 Z254 F251 F256 ge_bd) e248 (W := 1) (by decide) (by decide) (by rw [hml]; rfl) bd [(.double (0 : UInt64)), (.double (4607182418800017408 : UInt64))] [(.ref bd)] (lenOf pd0_0 rfl) rfl rfl (Nat.le_of_eq rfl) (hb hby at_142) (by decide) (by decide) ?_
          intro v262 T258 L261 X259 hQ260
          obtain ⟨rfl, N263, Z264, hOZ, en, sz, f265, HB266⟩ := hQ260
          have N267 := Fr.app N244 N263
          show Go p e below (Ret s (Q0 Z q0 q1 q2 q3 q4 q5 h0 n0) 24 16576) (T258.setTop (mkF m 145 #[.val (.int q0), .val (.int q1), .val (.int q2), .val (.int q3), .val (.int q4), .val (.long q5), .second, .val (.int ba), .val (.int bb), .val (.int bc), .val (.int (0 : Int32)), .val (.int (1 : Int32)), .val (.int (1 : Int32)), .val (.int i240), .val (.int qy), .unset, .unset] [(.ref bd)]))
          have hcn0 := own_zero_cnt
          refine g_astore X259 hx (hb hby at_145) rfl (L' := #[.val (.int q0), .val (.int q1), .val (.int q2), .val (.int q3), .val (.int q4), .val (.long q5), .second, .val (.int ba), .val (.int bb), .val (.int bc), .val (.int (0 : Int32)), .val (.int (1 : Int32)), .val (.int (1 : Int32)), .val (.int i240), .val (.int qy), .val (.ref bd), .unset]) rfl ?_
          refine g_iload X259 hx (hb hby at_147) rfl ?_
          have hc149_268 : (0 : Int32) = (0 : Int32) := (by decide)
          refine g_ifYes X259 hx (hb hby at_149) (teq hc149_268).1 (by decide) (pc' := 161) (by decide) ?_
          refine g_iload X259 hx (hb hby at_161) rfl ?_
          have hc163_269 : ¬ ((1 : Int32) = (0 : Int32)) := (by decide)
          refine g_ifNo X259 hx (hb hby at_163) (feq hc163_269).1 ?_
          refine g_aload X259 hx (hb hby at_166) rfl rfl ?_
          refine g_iload X259 hx (hb hby at_168) rfl ?_
          refine g_lload X259 hx (hb hby at_170) rfl ?_
          refine g_lconst1 X259 hx (hb hby at_172) ?_
          obtain ⟨l270, hl270⟩ : ∃ v : Int64, q5 + (1 : Int64) = v := ⟨_, rfl⟩
          refine g_ladd X259 hx (hb hby at_173) hl270 ?_
          refine g_callV X259 hx hZ hown (hw _ (List.mem_of_getElem? (i := 27) rfl)) (hw _ (List.mem_of_getElem? (i := 28) rfl)) (hw _ (List.mem_of_getElem? (i := 30) rfl)) (hw _ (List.mem_of_getElem? (i := 29) rfl)) (hw _ (List.mem_of_getElem? (i := 3) rfl)) (hw _ (List.mem_of_getElem? (i := 31) rfl)) (by decide) (rma l Z a0 hw [] bd bb l270 en sz f265 own_nil T258.heap n0 Z264 hOZ HB266 (fun k => ⟨(hcn0 k).1, by have := (hcn0 k).2; omega⟩) (by omega)) rfl (W := 0) (by decide) (by decide) (by rw [hml]; rfl) bd HB266.1 [(.int bb), (.long l270)] [] (lenOf pd0_3 rfl) rfl rfl (Nat.le_of_eq rfl) (hb hby at_174) (by decide) (by decide) ?_
          intro v275 T271 L274 X272 hQ273
          obtain ⟨rfl, N276, Z277, f278, HB279⟩ := hQ273
          have N280 := Fr.app N267 N276
          show Go p e below (Ret s (Q0 Z q0 q1 q2 q3 q4 q5 h0 n0) 24 16576) (T271.setTop (mkF m 177 #[.val (.int q0), .val (.int q1), .val (.int q2), .val (.int q3), .val (.int q4), .val (.long q5), .second, .val (.int ba), .val (.int bb), .val (.int bc), .val (.int (0 : Int32)), .val (.int (1 : Int32)), .val (.int (1 : Int32)), .val (.int i240), .val (.int qy), .val (.ref bd), .unset] []))
          have hcn1 : own_cnt (own_add own_nil bb.toInt.toNat) 1 := own_add_cnt hcn0 (by decide)
          refine g_iload X272 hx (hb hby at_177) rfl ?_
          have hc179_281 : ¬ ((1 : Int32) = (0 : Int32)) := (by decide)
          refine g_ifNo X272 hx (hb hby at_179) (feq hc179_281).1 ?_
          refine g_aload X272 hx (hb hby at_182) rfl rfl ?_
          refine g_iload X272 hx (hb hby at_184) rfl ?_
          refine g_lload X272 hx (hb hby at_186) rfl ?_
          refine g_lconst1 X272 hx (hb hby at_188) ?_
          obtain ⟨l282, hl282⟩ : ∃ v : Int64, q5 - (1 : Int64) = v := ⟨_, rfl⟩
          refine g_lsub X272 hx (hb hby at_189) hl282 ?_
          refine g_callV X272 hx hZ hown (hw _ (List.mem_of_getElem? (i := 27) rfl)) (hw _ (List.mem_of_getElem? (i := 28) rfl)) (hw _ (List.mem_of_getElem? (i := 30) rfl)) (hw _ (List.mem_of_getElem? (i := 29) rfl)) (hw _ (List.mem_of_getElem? (i := 3) rfl)) (hw _ (List.mem_of_getElem? (i := 31) rfl)) (by decide) (rma l Z a0 hw [] bd bc l282 en sz f278 (own_add own_nil bb.toInt.toNat) T271.heap n0 Z277 hOZ HB279 (fun k => ⟨(hcn1 k).1, by have := (hcn1 k).2; omega⟩) (by omega)) rfl (W := 0) (by decide) (by decide) (by rw [hml]; rfl) bd HB279.1 [(.int bc), (.long l282)] [] (lenOf pd0_3 rfl) rfl rfl (Nat.le_of_eq rfl) (hb hby at_190) (by decide) (by decide) ?_
          intro v287 T283 L286 X284 hQ285
          obtain ⟨rfl, N288, Z289, f290, HB291⟩ := hQ285
          have N292 := Fr.app N280 N288
          show Go p e below (Ret s (Q0 Z q0 q1 q2 q3 q4 q5 h0 n0) 24 16576) (T283.setTop (mkF m 193 #[.val (.int q0), .val (.int q1), .val (.int q2), .val (.int q3), .val (.int q4), .val (.long q5), .second, .val (.int ba), .val (.int bb), .val (.int bc), .val (.int (0 : Int32)), .val (.int (1 : Int32)), .val (.int (1 : Int32)), .val (.int i240), .val (.int qy), .val (.ref bd), .unset] []))
          have hcn2 : own_cnt (own_add (own_add own_nil bb.toInt.toNat) bc.toInt.toNat) 2 := own_add_cnt hcn1 (by decide)
          refine g_sipush X284 hx (hb hby at_193) (v := (4096 : Int32)) (by decide) ?_
          refine g_istore X284 hx (hb hby at_196) (L' := #[.val (.int q0), .val (.int q1), .val (.int q2), .val (.int q3), .val (.int q4), .val (.long q5), .second, .val (.int ba), .val (.int bb), .val (.int bc), .val (.int (0 : Int32)), .val (.int (1 : Int32)), .val (.int (1 : Int32)), .val (.int i240), .val (.int qy), .val (.ref bd), .val (.int (4096 : Int32))]) rfl ?_
          refine g_iload X284 hx (hb hby at_198) rfl ?_
          have hc200_293 : (0 : Int32) = (0 : Int32) := (by decide)
          refine g_ifYes X284 hx (hb hby at_200) (teq hc200_293).1 (by decide) (pc' := 219) (by decide) ?_
          refine g_iload X284 hx (hb hby at_219) rfl ?_
          have hc221_294 : ¬ ((1 : Int32) = (0 : Int32)) := (by decide)
          refine g_ifNo X284 hx (hb hby at_221) (feq hc221_294).1 ?_
          refine g_iload X284 hx (hb hby at_224) rfl ?_
          refine g_iload X284 hx (hb hby at_226) rfl ?_
          by_cases hc228_295 : bb < qy
          ·
            refine g_icmpYes X284 hx (hb hby at_228) (tlt hc228_295).1 (by decide) (pc' := 240) (by decide) ?_
            refine g_iload X284 hx (hb hby at_240) rfl ?_
            have hc242_296 : ¬ ((1 : Int32) = (0 : Int32)) := (by decide)
            refine g_ifNo X284 hx (hb hby at_242) (feq hc242_296).1 ?_
            refine g_iload X284 hx (hb hby at_245) rfl ?_
            refine g_iload X284 hx (hb hby at_247) rfl ?_
            by_cases hc249_297 : bc < qy
            ·
              refine g_icmpYes X284 hx (hb hby at_249) (tlt hc249_297).1 (by decide) (pc' := 261) (by decide) ?_
              refine g_aload X284 hx (hb hby at_261) rfl rfl ?_
              refine g_iload X284 hx (hb hby at_263) rfl ?_
              refine g_callV X284 hx hZ hown (hw _ (List.mem_of_getElem? (i := 22) rfl)) (hw _ (List.mem_of_getElem? (i := 23) rfl)) (hw _ (List.mem_of_getElem? (i := 25) rfl)) (hw _ (List.mem_of_getElem? (i := 24) rfl)) (hw _ (List.mem_of_getElem? (i := 3) rfl)) (hw _ (List.mem_of_getElem? (i := 26) rfl)) (by decide) (rmn l Z a0 hw [] bd qy sz (own_add (own_add own_nil bb.toInt.toNat) bc.toInt.toNat) T283.heap n0 Z289 HB291.2.2.1 HB291.2.2.2.2.2.2.1 hqy) rfl (W := 0) (by decide) (by decide) (by rw [hml]; rfl) bd HB291.1 [(.int qy)] [] (lenOf pd0_1 rfl) rfl rfl (Nat.le_of_eq rfl) (hb hby at_265) (by decide) (by decide) ?_
              intro v302 T298 L301 X299 hQ300
              obtain ⟨got, ⟨rfl, k1, k2, k3, k4⟩, N303, e304⟩ := hQ300
              have N305 := Fr.app N292 N303
              show Go p e below (Ret s (Q0 Z q0 q1 q2 q3 q4 q5 h0 n0) 24 16576) (T298.setTop (mkF m 268 #[.val (.int q0), .val (.int q1), .val (.int q2), .val (.int q3), .val (.int q4), .val (.long q5), .second, .val (.int ba), .val (.int bb), .val (.int bc), .val (.int (0 : Int32)), .val (.int (1 : Int32)), .val (.int (1 : Int32)), .val (.int i240), .val (.int qy), .val (.ref bd), .val (.int (4096 : Int32))] [(.int got)]))
              refine g_iload X299 hx (hb hby at_268) rfl ?_
              have hc270_306 : got = (4096 : Int32) := (by
                apply Int32.toInt_inj.mp
                have z4 : (4096 : Int32).toInt = 4096 := rfl
                have l_bb := Int32.lt_iff_toInt_lt.mp hc228_295
                have l_bc := Int32.lt_iff_toInt_lt.mp hc249_297
                have hz : ∀ k : Nat, (own_add (own_add own_nil bb.toInt.toNat) bc.toInt.toNat) k ≠ 0 ↔ (k = bc.toInt.toNat ∨ k = bb.toInt.toNat ∨ False) := by
                  intro k
                  rw [own_add_ne hcn1 (by decide)]
                  rw [own_add_ne hcn0 (by decide)]
                  simp [own_nil]
                refine own_found k1 k2 k3 k4 hqy.1 ?_ ?_
                · simp only [hz]; omega
                · intro k q1 q2 q3
                  rcases (hz k).mp q3 with q3 | q3 | q3 <;> first | exact q3.elim | omega)
              refine g_icmpNo X299 hx (hb hby at_270) (teq hc270_306).2 ?_
              refine g_iconst X299 hx (hb hby at_273) (v := (1 : Int32)) (by decide) ?_
              refine g_goto X299 hx (hb hby at_274) (by decide) (pc' := 278) (by decide) ?_
              refine g_ireturn X299 hx Bd.notSynchronized Bd.returns rfl (by simp) (hb hby at_278) (by decide) (by decide) ?_
              exact ⟨rfl, N305⟩
            ·
              refine g_icmpNo X284 hx (hb hby at_249) (flt hc249_297).1 ?_
              refine g_iload X284 hx (hb hby at_252) rfl ?_
              refine g_iload X284 hx (hb hby at_254) rfl ?_
              refine g_callS X284 hx hZ hown (hw _ (List.mem_of_getElem? (i := 34) rfl)) (hw _ (List.mem_of_getElem? (i := 35) rfl)) (hw _ (List.mem_of_getElem? (i := 36) rfl)) (hw _ (List.mem_of_getElem? (i := 37) rfl)) (by decide) (rmm l Z a0 hw [] (4096 : Int32) bc T283.heap n0 Z289) rfl (W := 0) (by decide) (by decide) (by rw [hml]; rfl) [(.int (4096 : Int32)), (.int bc)] [] (lenOf pd0_2 rfl) rfl rfl (Nat.le_of_eq rfl) (hb hby at_256) (by decide) (by decide) ?_
              intro v311 T307 L310 X308 hQ309
              obtain ⟨rfl, N312, e313⟩ := hQ309
              have N314 := Fr.app N292 N312
              show Go p e below (Ret s (Q0 Z q0 q1 q2 q3 q4 q5 h0 n0) 24 16576) (T307.setTop (mkF m 259 #[.val (.int q0), .val (.int q1), .val (.int q2), .val (.int q3), .val (.int q4), .val (.long q5), .second, .val (.int ba), .val (.int bb), .val (.int bc), .val (.int (0 : Int32)), .val (.int (1 : Int32)), .val (.int (1 : Int32)), .val (.int i240), .val (.int qy), .val (.ref bd), .val (.int (4096 : Int32))] [(.int (own_min (4096 : Int32) bc))]))
              refine g_istore X308 hx (hb hby at_259) (L' := #[.val (.int q0), .val (.int q1), .val (.int q2), .val (.int q3), .val (.int q4), .val (.long q5), .second, .val (.int ba), .val (.int bb), .val (.int bc), .val (.int (0 : Int32)), .val (.int (1 : Int32)), .val (.int (1 : Int32)), .val (.int i240), .val (.int qy), .val (.ref bd), .val (.int (own_min (4096 : Int32) bc))]) rfl ?_
              refine g_aload X308 hx (hb hby at_261) rfl rfl ?_
              refine g_iload X308 hx (hb hby at_263) rfl ?_
              refine g_callV X308 hx hZ hown (hw _ (List.mem_of_getElem? (i := 22) rfl)) (hw _ (List.mem_of_getElem? (i := 23) rfl)) (hw _ (List.mem_of_getElem? (i := 25) rfl)) (hw _ (List.mem_of_getElem? (i := 24) rfl)) (hw _ (List.mem_of_getElem? (i := 3) rfl)) (hw _ (List.mem_of_getElem? (i := 26) rfl)) (by decide) (rmn l Z a0 hw [] bd qy sz (own_add (own_add own_nil bb.toInt.toNat) bc.toInt.toNat) T283.heap n0 Z289 HB291.2.2.1 HB291.2.2.2.2.2.2.1 hqy) e313 (W := 0) (by decide) (by decide) (by rw [hml]; rfl) bd HB291.1 [(.int qy)] [] (lenOf pd0_1 rfl) rfl rfl (Nat.le_of_eq rfl) (hb hby at_265) (by decide) (by decide) ?_
              intro v319 T315 L318 X316 hQ317
              obtain ⟨got, ⟨rfl, k1, k2, k3, k4⟩, N320, e321⟩ := hQ317
              have N322 := Fr.app N314 N320
              show Go p e below (Ret s (Q0 Z q0 q1 q2 q3 q4 q5 h0 n0) 24 16576) (T315.setTop (mkF m 268 #[.val (.int q0), .val (.int q1), .val (.int q2), .val (.int q3), .val (.int q4), .val (.long q5), .second, .val (.int ba), .val (.int bb), .val (.int bc), .val (.int (0 : Int32)), .val (.int (1 : Int32)), .val (.int (1 : Int32)), .val (.int i240), .val (.int qy), .val (.ref bd), .val (.int (own_min (4096 : Int32) bc))] [(.int got)]))
              refine g_iload X316 hx (hb hby at_268) rfl ?_
              have hc270_323 : got = (own_min (4096 : Int32) bc) := (by
                apply Int32.toInt_inj.mp
                have m0 := own_minT (4096 : Int32) bc
                have z4 : (4096 : Int32).toInt = 4096 := rfl
                have l_bb := Int32.lt_iff_toInt_lt.mp hc228_295
                have l_bc : ¬ bc.toInt < qy.toInt := fun z => hc249_297 (Int32.lt_iff_toInt_lt.mpr z)
                have hz : ∀ k : Nat, (own_add (own_add own_nil bb.toInt.toNat) bc.toInt.toNat) k ≠ 0 ↔ (k = bc.toInt.toNat ∨ k = bb.toInt.toNat ∨ False) := by
                  intro k
                  rw [own_add_ne hcn1 (by decide)]
                  rw [own_add_ne hcn0 (by decide)]
                  simp [own_nil]
                refine own_found k1 k2 k3 k4 hqy.1 ?_ ?_
                · simp only [hz]; omega
                · intro k q1 q2 q3
                  rcases (hz k).mp q3 with q3 | q3 | q3 <;> first | exact q3.elim | omega)
              refine g_icmpNo X316 hx (hb hby at_270) (teq hc270_323).2 ?_
              refine g_iconst X316 hx (hb hby at_273) (v := (1 : Int32)) (by decide) ?_
              refine g_goto X316 hx (hb hby at_274) (by decide) (pc' := 278) (by decide) ?_
              refine g_ireturn X316 hx Bd.notSynchronized Bd.returns rfl (by simp) (hb hby at_278) (by decide) (by decide) ?_
              exact ⟨rfl, N322⟩
          ·
            refine g_icmpNo X284 hx (hb hby at_228) (flt hc228_295).1 ?_
            refine g_iload X284 hx (hb hby at_231) rfl ?_
            refine g_iload X284 hx (hb hby at_233) rfl ?_
            refine g_callS X284 hx hZ hown (hw _ (List.mem_of_getElem? (i := 34) rfl)) (hw _ (List.mem_of_getElem? (i := 35) rfl)) (hw _ (List.mem_of_getElem? (i := 36) rfl)) (hw _ (List.mem_of_getElem? (i := 37) rfl)) (by decide) (rmm l Z a0 hw [] (4096 : Int32) bb T283.heap n0 Z289) rfl (W := 0) (by decide) (by decide) (by rw [hml]; rfl) [(.int (4096 : Int32)), (.int bb)] [] (lenOf pd0_2 rfl) rfl rfl (Nat.le_of_eq rfl) (hb hby at_235) (by decide) (by decide) ?_
            intro v328 T324 L327 X325 hQ326
            obtain ⟨rfl, N329, e330⟩ := hQ326
            have N331 := Fr.app N292 N329
            show Go p e below (Ret s (Q0 Z q0 q1 q2 q3 q4 q5 h0 n0) 24 16576) (T324.setTop (mkF m 238 #[.val (.int q0), .val (.int q1), .val (.int q2), .val (.int q3), .val (.int q4), .val (.long q5), .second, .val (.int ba), .val (.int bb), .val (.int bc), .val (.int (0 : Int32)), .val (.int (1 : Int32)), .val (.int (1 : Int32)), .val (.int i240), .val (.int qy), .val (.ref bd), .val (.int (4096 : Int32))] [(.int (own_min (4096 : Int32) bb))]))
            refine g_istore X325 hx (hb hby at_238) (L' := #[.val (.int q0), .val (.int q1), .val (.int q2), .val (.int q3), .val (.int q4), .val (.long q5), .second, .val (.int ba), .val (.int bb), .val (.int bc), .val (.int (0 : Int32)), .val (.int (1 : Int32)), .val (.int (1 : Int32)), .val (.int i240), .val (.int qy), .val (.ref bd), .val (.int (own_min (4096 : Int32) bb))]) rfl ?_
            refine g_iload X325 hx (hb hby at_240) rfl ?_
            have hc242_332 : ¬ ((1 : Int32) = (0 : Int32)) := (by decide)
            refine g_ifNo X325 hx (hb hby at_242) (feq hc242_332).1 ?_
            refine g_iload X325 hx (hb hby at_245) rfl ?_
            refine g_iload X325 hx (hb hby at_247) rfl ?_
            by_cases hc249_333 : bc < qy
            ·
              refine g_icmpYes X325 hx (hb hby at_249) (tlt hc249_333).1 (by decide) (pc' := 261) (by decide) ?_
              refine g_aload X325 hx (hb hby at_261) rfl rfl ?_
              refine g_iload X325 hx (hb hby at_263) rfl ?_
              refine g_callV X325 hx hZ hown (hw _ (List.mem_of_getElem? (i := 22) rfl)) (hw _ (List.mem_of_getElem? (i := 23) rfl)) (hw _ (List.mem_of_getElem? (i := 25) rfl)) (hw _ (List.mem_of_getElem? (i := 24) rfl)) (hw _ (List.mem_of_getElem? (i := 3) rfl)) (hw _ (List.mem_of_getElem? (i := 26) rfl)) (by decide) (rmn l Z a0 hw [] bd qy sz (own_add (own_add own_nil bb.toInt.toNat) bc.toInt.toNat) T283.heap n0 Z289 HB291.2.2.1 HB291.2.2.2.2.2.2.1 hqy) e330 (W := 0) (by decide) (by decide) (by rw [hml]; rfl) bd HB291.1 [(.int qy)] [] (lenOf pd0_1 rfl) rfl rfl (Nat.le_of_eq rfl) (hb hby at_265) (by decide) (by decide) ?_
              intro v338 T334 L337 X335 hQ336
              obtain ⟨got, ⟨rfl, k1, k2, k3, k4⟩, N339, e340⟩ := hQ336
              have N341 := Fr.app N331 N339
              show Go p e below (Ret s (Q0 Z q0 q1 q2 q3 q4 q5 h0 n0) 24 16576) (T334.setTop (mkF m 268 #[.val (.int q0), .val (.int q1), .val (.int q2), .val (.int q3), .val (.int q4), .val (.long q5), .second, .val (.int ba), .val (.int bb), .val (.int bc), .val (.int (0 : Int32)), .val (.int (1 : Int32)), .val (.int (1 : Int32)), .val (.int i240), .val (.int qy), .val (.ref bd), .val (.int (own_min (4096 : Int32) bb))] [(.int got)]))
              refine g_iload X335 hx (hb hby at_268) rfl ?_
              have hc270_342 : got = (own_min (4096 : Int32) bb) := (by
                apply Int32.toInt_inj.mp
                have m0 := own_minT (4096 : Int32) bb
                have z4 : (4096 : Int32).toInt = 4096 := rfl
                have l_bb : ¬ bb.toInt < qy.toInt := fun z => hc228_295 (Int32.lt_iff_toInt_lt.mpr z)
                have l_bc := Int32.lt_iff_toInt_lt.mp hc249_333
                have hz : ∀ k : Nat, (own_add (own_add own_nil bb.toInt.toNat) bc.toInt.toNat) k ≠ 0 ↔ (k = bc.toInt.toNat ∨ k = bb.toInt.toNat ∨ False) := by
                  intro k
                  rw [own_add_ne hcn1 (by decide)]
                  rw [own_add_ne hcn0 (by decide)]
                  simp [own_nil]
                refine own_found k1 k2 k3 k4 hqy.1 ?_ ?_
                · simp only [hz]; omega
                · intro k q1 q2 q3
                  rcases (hz k).mp q3 with q3 | q3 | q3 <;> first | exact q3.elim | omega)
              refine g_icmpNo X335 hx (hb hby at_270) (teq hc270_342).2 ?_
              refine g_iconst X335 hx (hb hby at_273) (v := (1 : Int32)) (by decide) ?_
              refine g_goto X335 hx (hb hby at_274) (by decide) (pc' := 278) (by decide) ?_
              refine g_ireturn X335 hx Bd.notSynchronized Bd.returns rfl (by simp) (hb hby at_278) (by decide) (by decide) ?_
              exact ⟨rfl, N341⟩
            ·
              refine g_icmpNo X325 hx (hb hby at_249) (flt hc249_333).1 ?_
              refine g_iload X325 hx (hb hby at_252) rfl ?_
              refine g_iload X325 hx (hb hby at_254) rfl ?_
              refine g_callS X325 hx hZ hown (hw _ (List.mem_of_getElem? (i := 34) rfl)) (hw _ (List.mem_of_getElem? (i := 35) rfl)) (hw _ (List.mem_of_getElem? (i := 36) rfl)) (hw _ (List.mem_of_getElem? (i := 37) rfl)) (by decide) (rmm l Z a0 hw [] (own_min (4096 : Int32) bb) bc T283.heap n0 Z289) e330 (W := 0) (by decide) (by decide) (by rw [hml]; rfl) [(.int (own_min (4096 : Int32) bb)), (.int bc)] [] (lenOf pd0_2 rfl) rfl rfl (Nat.le_of_eq rfl) (hb hby at_256) (by decide) (by decide) ?_
              intro v347 T343 L346 X344 hQ345
              obtain ⟨rfl, N348, e349⟩ := hQ345
              have N350 := Fr.app N331 N348
              show Go p e below (Ret s (Q0 Z q0 q1 q2 q3 q4 q5 h0 n0) 24 16576) (T343.setTop (mkF m 259 #[.val (.int q0), .val (.int q1), .val (.int q2), .val (.int q3), .val (.int q4), .val (.long q5), .second, .val (.int ba), .val (.int bb), .val (.int bc), .val (.int (0 : Int32)), .val (.int (1 : Int32)), .val (.int (1 : Int32)), .val (.int i240), .val (.int qy), .val (.ref bd), .val (.int (own_min (4096 : Int32) bb))] [(.int (own_min (own_min (4096 : Int32) bb) bc))]))
              refine g_istore X344 hx (hb hby at_259) (L' := #[.val (.int q0), .val (.int q1), .val (.int q2), .val (.int q3), .val (.int q4), .val (.long q5), .second, .val (.int ba), .val (.int bb), .val (.int bc), .val (.int (0 : Int32)), .val (.int (1 : Int32)), .val (.int (1 : Int32)), .val (.int i240), .val (.int qy), .val (.ref bd), .val (.int (own_min (own_min (4096 : Int32) bb) bc))]) rfl ?_
              refine g_aload X344 hx (hb hby at_261) rfl rfl ?_
              refine g_iload X344 hx (hb hby at_263) rfl ?_
              refine g_callV X344 hx hZ hown (hw _ (List.mem_of_getElem? (i := 22) rfl)) (hw _ (List.mem_of_getElem? (i := 23) rfl)) (hw _ (List.mem_of_getElem? (i := 25) rfl)) (hw _ (List.mem_of_getElem? (i := 24) rfl)) (hw _ (List.mem_of_getElem? (i := 3) rfl)) (hw _ (List.mem_of_getElem? (i := 26) rfl)) (by decide) (rmn l Z a0 hw [] bd qy sz (own_add (own_add own_nil bb.toInt.toNat) bc.toInt.toNat) T283.heap n0 Z289 HB291.2.2.1 HB291.2.2.2.2.2.2.1 hqy) e349 (W := 0) (by decide) (by decide) (by rw [hml]; rfl) bd HB291.1 [(.int qy)] [] (lenOf pd0_1 rfl) rfl rfl (Nat.le_of_eq rfl) (hb hby at_265) (by decide) (by decide) ?_
              intro v355 T351 L354 X352 hQ353
              obtain ⟨got, ⟨rfl, k1, k2, k3, k4⟩, N356, e357⟩ := hQ353
              have N358 := Fr.app N350 N356
              show Go p e below (Ret s (Q0 Z q0 q1 q2 q3 q4 q5 h0 n0) 24 16576) (T351.setTop (mkF m 268 #[.val (.int q0), .val (.int q1), .val (.int q2), .val (.int q3), .val (.int q4), .val (.long q5), .second, .val (.int ba), .val (.int bb), .val (.int bc), .val (.int (0 : Int32)), .val (.int (1 : Int32)), .val (.int (1 : Int32)), .val (.int i240), .val (.int qy), .val (.ref bd), .val (.int (own_min (own_min (4096 : Int32) bb) bc))] [(.int got)]))
              refine g_iload X352 hx (hb hby at_268) rfl ?_
              have hc270_359 : got = (own_min (own_min (4096 : Int32) bb) bc) := (by
                apply Int32.toInt_inj.mp
                have m0 := own_minT (own_min (4096 : Int32) bb) bc
                have m1 := own_minT (4096 : Int32) bb
                have z4 : (4096 : Int32).toInt = 4096 := rfl
                have l_bb : ¬ bb.toInt < qy.toInt := fun z => hc228_295 (Int32.lt_iff_toInt_lt.mpr z)
                have l_bc : ¬ bc.toInt < qy.toInt := fun z => hc249_333 (Int32.lt_iff_toInt_lt.mpr z)
                have hz : ∀ k : Nat, (own_add (own_add own_nil bb.toInt.toNat) bc.toInt.toNat) k ≠ 0 ↔ (k = bc.toInt.toNat ∨ k = bb.toInt.toNat ∨ False) := by
                  intro k
                  rw [own_add_ne hcn1 (by decide)]
                  rw [own_add_ne hcn0 (by decide)]
                  simp [own_nil]
                refine own_found k1 k2 k3 k4 hqy.1 ?_ ?_
                · simp only [hz]; omega
                · intro k q1 q2 q3
                  rcases (hz k).mp q3 with q3 | q3 | q3 <;> first | exact q3.elim | omega)
              refine g_icmpNo X352 hx (hb hby at_270) (teq hc270_359).2 ?_
              refine g_iconst X352 hx (hb hby at_273) (v := (1 : Int32)) (by decide) ?_
              refine g_goto X352 hx (hb hby at_274) (by decide) (pc' := 278) (by decide) ?_
              refine g_ireturn X352 hx Bd.notSynchronized Bd.returns rfl (by simp) (hb hby at_278) (by decide) (by decide) ?_
              exact ⟨rfl, N358⟩
        by_cases hc82_360 : i240 = (0 : Int32)
        ·
          refine g_ifNo X0 hx (hb hby at_82) (teq hc82_360).2 ?_
          refine g_iloadN X0 hx (hb hby at_85) rfl ?_
          refine g_ldcI X0 hx hZ hown (hw _ (List.mem_of_getElem? (i := 0) rfl)) (hb hby at_86) ?_
          obtain ⟨i361, hi361⟩ : ∃ v : Int32, q3 &&& (2147483647 : Int32) = v := ⟨_, rfl⟩
          refine g_iand X0 hx (hb hby at_88) hi361 ?_
          refine g_sipush X0 hx (hb hby at_89) (v := (4097 : Int32)) (by decide) ?_
          obtain ⟨qm, hqm⟩ : ∃ v : Int32, i361 % (4097 : Int32) = v := ⟨_, rfl⟩
          refine g_irem X0 hx (hb hby at_92) (by decide) hqm ?_
          have b_qm : 0 ≤ qm.toInt ∧ qm.toInt < 4097 := by
            have a := c_and q3 (2147483647 : Int32) (by decide)
            rw [hi361] at a
            have b := (c_iremV i361 (4097 : Int32)).1 a.1 (by decide)
            rw [hqm] at b
            have z : (4097 : Int32).toInt = 4097 := rfl
            omega
          refine g_istore X0 hx (hb hby at_93) (L' := #[.val (.int q0), .val (.int q1), .val (.int q2), .val (.int q3), .val (.int q4), .val (.long q5), .second, .val (.int ba), .val (.int bb), .val (.int bc), .val (.int (0 : Int32)), .val (.int (1 : Int32)), .val (.int (1 : Int32)), .val (.int i240), .val (.int qm), .unset, .unset]) rfl ?_
          refine g_goto X0 hx (hb hby at_95) (by decide) (pc' := 136) (by decide) ?_
          exact J136 _ _ X0 e0 N0 qm (by omega)
        ·
          refine g_ifYes X0 hx (hb hby at_82) (feq hc82_360).2 (by decide) (pc' := 98) (by decide) ?_
          refine g_iload X0 hx (hb hby at_98) rfl ?_
          refine g_iconst X0 hx (hb hby at_100) (v := (1 : Int32)) (by decide) ?_
          by_cases hc101_362 : i240 = (1 : Int32)
          ·
            refine g_icmpNo X0 hx (hb hby at_101) (teq hc101_362).2 ?_
            refine g_iload X0 hx (hb hby at_104) rfl ?_
            refine g_istore X0 hx (hb hby at_106) (L' := #[.val (.int q0), .val (.int q1), .val (.int q2), .val (.int q3), .val (.int q4), .val (.long q5), .second, .val (.int ba), .val (.int bb), .val (.int bc), .val (.int (0 : Int32)), .val (.int (1 : Int32)), .val (.int (1 : Int32)), .val (.int i240), .val (.int ba), .unset, .unset]) rfl ?_
            refine g_goto X0 hx (hb hby at_108) (by decide) (pc' := 136) (by decide) ?_
            exact J136 _ _ X0 e0 N0 ba (by omega)
          ·
            refine g_icmpYes X0 hx (hb hby at_101) (feq hc101_362).2 (by decide) (pc' := 111) (by decide) ?_
            refine g_iload X0 hx (hb hby at_111) rfl ?_
            refine g_iconst X0 hx (hb hby at_113) (v := (2 : Int32)) (by decide) ?_
            by_cases hc114_363 : i240 = (2 : Int32)
            ·
              refine g_icmpNo X0 hx (hb hby at_114) (teq hc114_363).2 ?_
              refine g_iload X0 hx (hb hby at_117) rfl ?_
              refine g_iconst X0 hx (hb hby at_119) (v := (1 : Int32)) (by decide) ?_
              obtain ⟨ba1, hba1⟩ : ∃ v : Int32, ba + (1 : Int32) = v := ⟨_, rfl⟩
              refine g_iadd X0 hx (hb hby at_120) hba1 ?_
              refine g_istore X0 hx (hb hby at_121) (L' := #[.val (.int q0), .val (.int q1), .val (.int q2), .val (.int q3), .val (.int q4), .val (.long q5), .second, .val (.int ba), .val (.int bb), .val (.int bc), .val (.int (0 : Int32)), .val (.int (1 : Int32)), .val (.int (1 : Int32)), .val (.int i240), .val (.int ba1), .unset, .unset]) rfl ?_
              refine g_goto X0 hx (hb hby at_123) (by decide) (pc' := 136) (by decide) ?_
              exact J136 _ _ X0 e0 N0 ba1 (by
                have a := c_iadd ba 1; rw [hba1] at a
                have z : (1 : Int32).toInt = 1 := rfl
                have r := rng32 ba1
                omega)
            ·
              refine g_icmpYes X0 hx (hb hby at_114) (feq hc114_363).2 (by decide) (pc' := 126) (by decide) ?_
              refine g_iconst X0 hx (hb hby at_126) (v := (0 : Int32)) (by decide) ?_
              refine g_iload X0 hx (hb hby at_127) rfl ?_
              refine g_iconst X0 hx (hb hby at_129) (v := (1 : Int32)) (by decide) ?_
              obtain ⟨bam, hbam⟩ : ∃ v : Int32, ba - (1 : Int32) = v := ⟨_, rfl⟩
              refine g_isub X0 hx (hb hby at_130) hbam ?_
              refine g_callS X0 hx hZ hown (hw _ (List.mem_of_getElem? (i := 38) rfl)) (hw _ (List.mem_of_getElem? (i := 39) rfl)) (hw _ (List.mem_of_getElem? (i := 36) rfl)) (hw _ (List.mem_of_getElem? (i := 40) rfl)) (by decide) (rmx l Z a0 hw [] (0 : Int32) bam h0 n0 Z0) e0 (W := 0) (by decide) (by decide) (by rw [hml]; rfl) [(.int (0 : Int32)), (.int bam)] [] (lenOf pd0_2 rfl) rfl rfl (Nat.le_of_eq rfl) (hb hby at_131) (by decide) (by decide) ?_
              intro v368 T364 L367 X365 hQ366
              obtain ⟨rfl, N369, e370⟩ := hQ366
              have N371 := Fr.app N0 N369
              show Go p e below (Ret s (Q0 Z q0 q1 q2 q3 q4 q5 h0 n0) 24 16576) (T364.setTop (mkF m 134 #[.val (.int q0), .val (.int q1), .val (.int q2), .val (.int q3), .val (.int q4), .val (.long q5), .second, .val (.int ba), .val (.int bb), .val (.int bc), .val (.int (0 : Int32)), .val (.int (1 : Int32)), .val (.int (1 : Int32)), .val (.int i240), .unset, .unset, .unset] [(.int (own_max (0 : Int32) bam))]))
              refine g_istore X365 hx (hb hby at_134) (L' := #[.val (.int q0), .val (.int q1), .val (.int q2), .val (.int q3), .val (.int q4), .val (.long q5), .second, .val (.int ba), .val (.int bb), .val (.int bc), .val (.int (0 : Int32)), .val (.int (1 : Int32)), .val (.int (1 : Int32)), .val (.int i240), .val (.int (own_max (0 : Int32) bam)), .unset, .unset]) rfl ?_
              exact J136 _ _ X365 e370 N371 (own_max (0 : Int32) bam) (by
                rw [own_maxT]
                have a := c_isub ba 1; rw [hbam] at a
                have z : (1 : Int32).toInt = 1 := rfl
                have z0 : (0 : Int32).toInt = 0 := rfl
                have r := rng32 bam
                omega)
  ·
    refine g_ifNo X0 hx (hb hby at_34) (feq hc34_5).1 ?_
    refine g_iconst X0 hx (hb hby at_37) (v := (1 : Int32)) (by decide) ?_
    refine g_goto X0 hx (hb hby at_38) (by decide) (pc' := 42) (by decide) ?_
    refine g_istore X0 hx (hb hby at_42) (L' := #[.val (.int q0), .val (.int q1), .val (.int q2), .val (.int q3), .val (.int q4), .val (.long q5), .second, .val (.int ba), .val (.int bb), .val (.int bc), .val (.int (1 : Int32)), .unset, .unset, .unset, .unset, .unset, .unset]) rfl ?_
    refine g_iload X0 hx (hb hby at_44) rfl ?_
    refine g_iconst X0 hx (hb hby at_46) (v := (2 : Int32)) (by decide) ?_
    obtain ⟨i372, hi372⟩ : ∃ v : Int32, q4 &&& (2 : Int32) = v := ⟨_, rfl⟩
    refine g_iand X0 hx (hb hby at_47) hi372 ?_
    by_cases hc48_373 : i372 = (0 : Int32)
    ·
      refine g_ifYes X0 hx (hb hby at_48) (teq hc48_373).1 (by decide) (pc' := 55) (by decide) ?_
      refine g_iconst X0 hx (hb hby at_55) (v := (0 : Int32)) (by decide) ?_
      refine g_istore X0 hx (hb hby at_56) (L' := #[.val (.int q0), .val (.int q1), .val (.int q2), .val (.int q3), .val (.int q4), .val (.long q5), .second, .val (.int ba), .val (.int bb), .val (.int bc), .val (.int (1 : Int32)), .val (.int (0 : Int32)), .unset, .unset, .unset, .unset, .unset]) rfl ?_
      refine g_iload X0 hx (hb hby at_58) rfl ?_
      refine g_iconst X0 hx (hb hby at_60) (v := (4 : Int32)) (by decide) ?_
      obtain ⟨i374, hi374⟩ : ∃ v : Int32, q4 &&& (4 : Int32) = v := ⟨_, rfl⟩
      refine g_iand X0 hx (hb hby at_61) hi374 ?_
      by_cases hc62_375 : i374 = (0 : Int32)
      ·
        refine g_ifYes X0 hx (hb hby at_62) (teq hc62_375).1 (by decide) (pc' := 69) (by decide) ?_
        refine g_iconst X0 hx (hb hby at_69) (v := (0 : Int32)) (by decide) ?_
        refine g_istore X0 hx (hb hby at_70) (L' := #[.val (.int q0), .val (.int q1), .val (.int q2), .val (.int q3), .val (.int q4), .val (.long q5), .second, .val (.int ba), .val (.int bb), .val (.int bc), .val (.int (1 : Int32)), .val (.int (0 : Int32)), .val (.int (0 : Int32)), .unset, .unset, .unset, .unset]) rfl ?_
        refine g_iload X0 hx (hb hby at_72) rfl ?_
        refine g_iconst X0 hx (hb hby at_74) (v := (3 : Int32)) (by decide) ?_
        obtain ⟨i376, hi376⟩ : ∃ v : Int32, (q4.toUInt32 >>> ((3 : Int32) &&& 31).toUInt32).toInt32 = v := ⟨_, rfl⟩
        refine g_iushr X0 hx (hb hby at_75) hi376 ?_
        refine g_iconst X0 hx (hb hby at_76) (v := (3 : Int32)) (by decide) ?_
        obtain ⟨i377, hi377⟩ : ∃ v : Int32, i376 &&& (3 : Int32) = v := ⟨_, rfl⟩
        refine g_iand X0 hx (hb hby at_77) hi377 ?_
        refine g_istore X0 hx (hb hby at_78) (L' := #[.val (.int q0), .val (.int q1), .val (.int q2), .val (.int q3), .val (.int q4), .val (.long q5), .second, .val (.int ba), .val (.int bb), .val (.int bc), .val (.int (1 : Int32)), .val (.int (0 : Int32)), .val (.int (0 : Int32)), .val (.int i377), .unset, .unset, .unset]) rfl ?_
        refine g_iload X0 hx (hb hby at_80) rfl ?_
        have J136 : ∀ (T378 : State) (lo382 : List Loc) (_ : Stand p l e room_1 s m #[(.int q0), (.int q1), (.int q2), (.int q3), (.int q4), (.long q5)] below meth c T378 lo382 0 0) (_ : T378.heap = h0) (_ : Fr n0 lo382) (qy : Int32), 0 ≤ qy.toInt ∧ qy.toInt ≤ 4096 → Go p e below (Ret s (Q0 Z q0 q1 q2 q3 q4 q5 h0 n0) 24 16576) (T378.setTop (mkF m 136 #[.val (.int q0), .val (.int q1), .val (.int q2), .val (.int q3), .val (.int q4), .val (.long q5), .second, .val (.int ba), .val (.int bb), .val (.int bc), .val (.int (1 : Int32)), .val (.int (0 : Int32)), .val (.int (0 : Int32)), .val (.int i377), .val (.int qy), .unset, .unset] [])) := by
          intro T378 lo382 X379 e380 N381 qy hqy
          refine g_new X379 hx hZ hown (hw _ (List.mem_of_getElem? (i := 1) rfl)) (hw _ (List.mem_of_getElem? (i := 2) rfl)) (hw _ (List.mem_of_getElem? (i := 3) rfl)) e380 (hb hby at_136) (by decide) (by decide) ?_
          intro T383 h386 bd gbd X384 e385 E387 F388 D389
          have ge_bd : n0 ≤ bd := by rw [gbd]; exact Z0
          have Z391 : n0 ≤ h386.size := Nat.le_trans Z0 E387.1
          have F393 : Fld Z h386 bd "com/example/skywright/skywright/search/Bands" "entries" "[[J" .null := D389 (Or.inr (hw _ (List.mem_of_getElem? (i := 13) rfl))) (ty := (.array (.array .long))) (by decide)
          refine g_dup X384 hx (hb hby at_139) rfl ?_
          refine g_dconst0 X384 hx (hb hby at_140) ?_
          refine g_dconst1 X384 hx (hb hby at_141) ?_
          refine g_init X384 hx hZ hown rfl (hw _ (List.mem_of_getElem? (i := 4) rfl)) (hw _ (List.mem_of_getElem? (i := 5) rfl)) (hw _ (List.mem_of_getElem? (i := 3) rfl)) (hw _ (List.mem_of_getElem? (i := 6) rfl)) (by decide) (rmi l Z a0 hw [] bd h386 n0 Z391 F388 F393 ge_bd) e385 (W := 1) (by decide) (by decide) (by rw [hml]; rfl) bd [(.double (0 : UInt64)), (.double (4607182418800017408 : UInt64))] [(.ref bd)] (lenOf pd0_0 rfl) rfl rfl (Nat.le_of_eq rfl) (hb hby at_142) (by decide) (by decide) ?_
          intro v399 T395 L398 X396 hQ397
          obtain ⟨rfl, N400, Z401, hOZ, en, sz, f402, HB403⟩ := hQ397
          have N404 := Fr.app N381 N400
          show Go p e below (Ret s (Q0 Z q0 q1 q2 q3 q4 q5 h0 n0) 24 16576) (T395.setTop (mkF m 145 #[.val (.int q0), .val (.int q1), .val (.int q2), .val (.int q3), .val (.int q4), .val (.long q5), .second, .val (.int ba), .val (.int bb), .val (.int bc), .val (.int (1 : Int32)), .val (.int (0 : Int32)), .val (.int (0 : Int32)), .val (.int i377), .val (.int qy), .unset, .unset] [(.ref bd)]))
          have hcn0 := own_zero_cnt
          refine g_astore X396 hx (hb hby at_145) rfl (L' := #[.val (.int q0), .val (.int q1), .val (.int q2), .val (.int q3), .val (.int q4), .val (.long q5), .second, .val (.int ba), .val (.int bb), .val (.int bc), .val (.int (1 : Int32)), .val (.int (0 : Int32)), .val (.int (0 : Int32)), .val (.int i377), .val (.int qy), .val (.ref bd), .unset]) rfl ?_
          refine g_iload X396 hx (hb hby at_147) rfl ?_
          have hc149_405 : ¬ ((1 : Int32) = (0 : Int32)) := (by decide)
          refine g_ifNo X396 hx (hb hby at_149) (feq hc149_405).1 ?_
          refine g_aload X396 hx (hb hby at_152) rfl rfl ?_
          refine g_iload X396 hx (hb hby at_154) rfl ?_
          refine g_lload X396 hx (hb hby at_156) rfl ?_
          refine g_callV X396 hx hZ hown (hw _ (List.mem_of_getElem? (i := 27) rfl)) (hw _ (List.mem_of_getElem? (i := 28) rfl)) (hw _ (List.mem_of_getElem? (i := 30) rfl)) (hw _ (List.mem_of_getElem? (i := 29) rfl)) (hw _ (List.mem_of_getElem? (i := 3) rfl)) (hw _ (List.mem_of_getElem? (i := 31) rfl)) (by decide) (rma l Z a0 hw [] bd ba q5 en sz f402 own_nil T395.heap n0 Z401 hOZ HB403 (fun k => ⟨(hcn0 k).1, by have := (hcn0 k).2; omega⟩) (by omega)) rfl (W := 0) (by decide) (by decide) (by rw [hml]; rfl) bd HB403.1 [(.int ba), (.long q5)] [] (lenOf pd0_3 rfl) rfl rfl (Nat.le_of_eq rfl) (hb hby at_158) (by decide) (by decide) ?_
          intro v410 T406 L409 X407 hQ408
          obtain ⟨rfl, N411, Z412, f413, HB414⟩ := hQ408
          have N415 := Fr.app N404 N411
          show Go p e below (Ret s (Q0 Z q0 q1 q2 q3 q4 q5 h0 n0) 24 16576) (T406.setTop (mkF m 161 #[.val (.int q0), .val (.int q1), .val (.int q2), .val (.int q3), .val (.int q4), .val (.long q5), .second, .val (.int ba), .val (.int bb), .val (.int bc), .val (.int (1 : Int32)), .val (.int (0 : Int32)), .val (.int (0 : Int32)), .val (.int i377), .val (.int qy), .val (.ref bd), .unset] []))
          have hcn1 : own_cnt (own_add own_nil ba.toInt.toNat) 1 := own_add_cnt hcn0 (by decide)
          refine g_iload X407 hx (hb hby at_161) rfl ?_
          have hc163_416 : (0 : Int32) = (0 : Int32) := (by decide)
          refine g_ifYes X407 hx (hb hby at_163) (teq hc163_416).1 (by decide) (pc' := 177) (by decide) ?_
          refine g_iload X407 hx (hb hby at_177) rfl ?_
          have hc179_417 : (0 : Int32) = (0 : Int32) := (by decide)
          refine g_ifYes X407 hx (hb hby at_179) (teq hc179_417).1 (by decide) (pc' := 193) (by decide) ?_
          refine g_sipush X407 hx (hb hby at_193) (v := (4096 : Int32)) (by decide) ?_
          refine g_istore X407 hx (hb hby at_196) (L' := #[.val (.int q0), .val (.int q1), .val (.int q2), .val (.int q3), .val (.int q4), .val (.long q5), .second, .val (.int ba), .val (.int bb), .val (.int bc), .val (.int (1 : Int32)), .val (.int (0 : Int32)), .val (.int (0 : Int32)), .val (.int i377), .val (.int qy), .val (.ref bd), .val (.int (4096 : Int32))]) rfl ?_
          refine g_iload X407 hx (hb hby at_198) rfl ?_
          have hc200_418 : ¬ ((1 : Int32) = (0 : Int32)) := (by decide)
          refine g_ifNo X407 hx (hb hby at_200) (feq hc200_418).1 ?_
          refine g_iload X407 hx (hb hby at_203) rfl ?_
          refine g_iload X407 hx (hb hby at_205) rfl ?_
          by_cases hc207_419 : ba < qy
          ·
            refine g_icmpYes X407 hx (hb hby at_207) (tlt hc207_419).1 (by decide) (pc' := 219) (by decide) ?_
            refine g_iload X407 hx (hb hby at_219) rfl ?_
            have hc221_420 : (0 : Int32) = (0 : Int32) := (by decide)
            refine g_ifYes X407 hx (hb hby at_221) (teq hc221_420).1 (by decide) (pc' := 240) (by decide) ?_
            refine g_iload X407 hx (hb hby at_240) rfl ?_
            have hc242_421 : (0 : Int32) = (0 : Int32) := (by decide)
            refine g_ifYes X407 hx (hb hby at_242) (teq hc242_421).1 (by decide) (pc' := 261) (by decide) ?_
            refine g_aload X407 hx (hb hby at_261) rfl rfl ?_
            refine g_iload X407 hx (hb hby at_263) rfl ?_
            refine g_callV X407 hx hZ hown (hw _ (List.mem_of_getElem? (i := 22) rfl)) (hw _ (List.mem_of_getElem? (i := 23) rfl)) (hw _ (List.mem_of_getElem? (i := 25) rfl)) (hw _ (List.mem_of_getElem? (i := 24) rfl)) (hw _ (List.mem_of_getElem? (i := 3) rfl)) (hw _ (List.mem_of_getElem? (i := 26) rfl)) (by decide) (rmn l Z a0 hw [] bd qy sz (own_add own_nil ba.toInt.toNat) T406.heap n0 Z412 HB414.2.2.1 HB414.2.2.2.2.2.2.1 hqy) rfl (W := 0) (by decide) (by decide) (by rw [hml]; rfl) bd HB414.1 [(.int qy)] [] (lenOf pd0_1 rfl) rfl rfl (Nat.le_of_eq rfl) (hb hby at_265) (by decide) (by decide) ?_
            intro v426 T422 L425 X423 hQ424
            obtain ⟨got, ⟨rfl, k1, k2, k3, k4⟩, N427, e428⟩ := hQ424
            have N429 := Fr.app N415 N427
            show Go p e below (Ret s (Q0 Z q0 q1 q2 q3 q4 q5 h0 n0) 24 16576) (T422.setTop (mkF m 268 #[.val (.int q0), .val (.int q1), .val (.int q2), .val (.int q3), .val (.int q4), .val (.long q5), .second, .val (.int ba), .val (.int bb), .val (.int bc), .val (.int (1 : Int32)), .val (.int (0 : Int32)), .val (.int (0 : Int32)), .val (.int i377), .val (.int qy), .val (.ref bd), .val (.int (4096 : Int32))] [(.int got)]))
            refine g_iload X423 hx (hb hby at_268) rfl ?_
            have hc270_430 : got = (4096 : Int32) := (by
              apply Int32.toInt_inj.mp
              have z4 : (4096 : Int32).toInt = 4096 := rfl
              have l_ba := Int32.lt_iff_toInt_lt.mp hc207_419
              have hz : ∀ k : Nat, (own_add own_nil ba.toInt.toNat) k ≠ 0 ↔ (k = ba.toInt.toNat ∨ False) := by
                intro k
                rw [own_add_ne hcn0 (by decide)]
                simp [own_nil]
              refine own_found k1 k2 k3 k4 hqy.1 ?_ ?_
              · simp only [hz]; omega
              · intro k q1 q2 q3
                rcases (hz k).mp q3 with q3 | q3 <;> first | exact q3.elim | omega)
            refine g_icmpNo X423 hx (hb hby at_270) (teq hc270_430).2 ?_
            refine g_iconst X423 hx (hb hby at_273) (v := (1 : Int32)) (by decide) ?_
            refine g_goto X423 hx (hb hby at_274) (by decide) (pc' := 278) (by decide) ?_
            refine g_ireturn X423 hx Bd.notSynchronized Bd.returns rfl (by simp) (hb hby at_278) (by decide) (by decide) ?_
            exact ⟨rfl, N429⟩
          ·
            refine g_icmpNo X407 hx (hb hby at_207) (flt hc207_419).1 ?_
            refine g_iload X407 hx (hb hby at_210) rfl ?_
            refine g_iload X407 hx (hb hby at_212) rfl ?_
            refine g_callS X407 hx hZ hown (hw _ (List.mem_of_getElem? (i := 34) rfl)) (hw _ (List.mem_of_getElem? (i := 35) rfl)) (hw _ (List.mem_of_getElem? (i := 36) rfl)) (hw _ (List.mem_of_getElem? (i := 37) rfl)) (by decide) (rmm l Z a0 hw [] (4096 : Int32) ba T406.heap n0 Z412) rfl (W := 0) (by decide) (by decide) (by rw [hml]; rfl) [(.int (4096 : Int32)), (.int ba)] [] (lenOf pd0_2 rfl) rfl rfl (Nat.le_of_eq rfl) (hb hby at_214) (by decide) (by decide) ?_
            intro v435 T431 L434 X432 hQ433
            obtain ⟨rfl, N436, e437⟩ := hQ433
            have N438 := Fr.app N415 N436
            show Go p e below (Ret s (Q0 Z q0 q1 q2 q3 q4 q5 h0 n0) 24 16576) (T431.setTop (mkF m 217 #[.val (.int q0), .val (.int q1), .val (.int q2), .val (.int q3), .val (.int q4), .val (.long q5), .second, .val (.int ba), .val (.int bb), .val (.int bc), .val (.int (1 : Int32)), .val (.int (0 : Int32)), .val (.int (0 : Int32)), .val (.int i377), .val (.int qy), .val (.ref bd), .val (.int (4096 : Int32))] [(.int (own_min (4096 : Int32) ba))]))
            refine g_istore X432 hx (hb hby at_217) (L' := #[.val (.int q0), .val (.int q1), .val (.int q2), .val (.int q3), .val (.int q4), .val (.long q5), .second, .val (.int ba), .val (.int bb), .val (.int bc), .val (.int (1 : Int32)), .val (.int (0 : Int32)), .val (.int (0 : Int32)), .val (.int i377), .val (.int qy), .val (.ref bd), .val (.int (own_min (4096 : Int32) ba))]) rfl ?_
            refine g_iload X432 hx (hb hby at_219) rfl ?_
            have hc221_439 : (0 : Int32) = (0 : Int32) := (by decide)
            refine g_ifYes X432 hx (hb hby at_221) (teq hc221_439).1 (by decide) (pc' := 240) (by decide) ?_
            refine g_iload X432 hx (hb hby at_240) rfl ?_
            have hc242_440 : (0 : Int32) = (0 : Int32) := (by decide)
            refine g_ifYes X432 hx (hb hby at_242) (teq hc242_440).1 (by decide) (pc' := 261) (by decide) ?_
            refine g_aload X432 hx (hb hby at_261) rfl rfl ?_
            refine g_iload X432 hx (hb hby at_263) rfl ?_
            refine g_callV X432 hx hZ hown (hw _ (List.mem_of_getElem? (i := 22) rfl)) (hw _ (List.mem_of_getElem? (i := 23) rfl)) (hw _ (List.mem_of_getElem? (i := 25) rfl)) (hw _ (List.mem_of_getElem? (i := 24) rfl)) (hw _ (List.mem_of_getElem? (i := 3) rfl)) (hw _ (List.mem_of_getElem? (i := 26) rfl)) (by decide) (rmn l Z a0 hw [] bd qy sz (own_add own_nil ba.toInt.toNat) T406.heap n0 Z412 HB414.2.2.1 HB414.2.2.2.2.2.2.1 hqy) e437 (W := 0) (by decide) (by decide) (by rw [hml]; rfl) bd HB414.1 [(.int qy)] [] (lenOf pd0_1 rfl) rfl rfl (Nat.le_of_eq rfl) (hb hby at_265) (by decide) (by decide) ?_
            intro v445 T441 L444 X442 hQ443
            obtain ⟨got, ⟨rfl, k1, k2, k3, k4⟩, N446, e447⟩ := hQ443
            have N448 := Fr.app N438 N446
            show Go p e below (Ret s (Q0 Z q0 q1 q2 q3 q4 q5 h0 n0) 24 16576) (T441.setTop (mkF m 268 #[.val (.int q0), .val (.int q1), .val (.int q2), .val (.int q3), .val (.int q4), .val (.long q5), .second, .val (.int ba), .val (.int bb), .val (.int bc), .val (.int (1 : Int32)), .val (.int (0 : Int32)), .val (.int (0 : Int32)), .val (.int i377), .val (.int qy), .val (.ref bd), .val (.int (own_min (4096 : Int32) ba))] [(.int got)]))
            refine g_iload X442 hx (hb hby at_268) rfl ?_
            have hc270_449 : got = (own_min (4096 : Int32) ba) := (by
              apply Int32.toInt_inj.mp
              have m0 := own_minT (4096 : Int32) ba
              have z4 : (4096 : Int32).toInt = 4096 := rfl
              have l_ba : ¬ ba.toInt < qy.toInt := fun z => hc207_419 (Int32.lt_iff_toInt_lt.mpr z)
              have hz : ∀ k : Nat, (own_add own_nil ba.toInt.toNat) k ≠ 0 ↔ (k = ba.toInt.toNat ∨ False) := by
                intro k
                rw [own_add_ne hcn0 (by decide)]
                simp [own_nil]
              refine own_found k1 k2 k3 k4 hqy.1 ?_ ?_
              · simp only [hz]; omega
              · intro k q1 q2 q3
                rcases (hz k).mp q3 with q3 | q3 <;> first | exact q3.elim | omega)
            refine g_icmpNo X442 hx (hb hby at_270) (teq hc270_449).2 ?_
            refine g_iconst X442 hx (hb hby at_273) (v := (1 : Int32)) (by decide) ?_
            refine g_goto X442 hx (hb hby at_274) (by decide) (pc' := 278) (by decide) ?_
            refine g_ireturn X442 hx Bd.notSynchronized Bd.returns rfl (by simp) (hb hby at_278) (by decide) (by decide) ?_
            exact ⟨rfl, N448⟩
        by_cases hc82_450 : i377 = (0 : Int32)
        ·
          refine g_ifNo X0 hx (hb hby at_82) (teq hc82_450).2 ?_
          refine g_iloadN X0 hx (hb hby at_85) rfl ?_
          refine g_ldcI X0 hx hZ hown (hw _ (List.mem_of_getElem? (i := 0) rfl)) (hb hby at_86) ?_
          obtain ⟨i451, hi451⟩ : ∃ v : Int32, q3 &&& (2147483647 : Int32) = v := ⟨_, rfl⟩
          refine g_iand X0 hx (hb hby at_88) hi451 ?_
          refine g_sipush X0 hx (hb hby at_89) (v := (4097 : Int32)) (by decide) ?_
          obtain ⟨qm, hqm⟩ : ∃ v : Int32, i451 % (4097 : Int32) = v := ⟨_, rfl⟩
          refine g_irem X0 hx (hb hby at_92) (by decide) hqm ?_
          have b_qm : 0 ≤ qm.toInt ∧ qm.toInt < 4097 := by
            have a := c_and q3 (2147483647 : Int32) (by decide)
            rw [hi451] at a
            have b := (c_iremV i451 (4097 : Int32)).1 a.1 (by decide)
            rw [hqm] at b
            have z : (4097 : Int32).toInt = 4097 := rfl
            omega
          refine g_istore X0 hx (hb hby at_93) (L' := #[.val (.int q0), .val (.int q1), .val (.int q2), .val (.int q3), .val (.int q4), .val (.long q5), .second, .val (.int ba), .val (.int bb), .val (.int bc), .val (.int (1 : Int32)), .val (.int (0 : Int32)), .val (.int (0 : Int32)), .val (.int i377), .val (.int qm), .unset, .unset]) rfl ?_
          refine g_goto X0 hx (hb hby at_95) (by decide) (pc' := 136) (by decide) ?_
          exact J136 _ _ X0 e0 N0 qm (by omega)
        ·
          refine g_ifYes X0 hx (hb hby at_82) (feq hc82_450).2 (by decide) (pc' := 98) (by decide) ?_
          refine g_iload X0 hx (hb hby at_98) rfl ?_
          refine g_iconst X0 hx (hb hby at_100) (v := (1 : Int32)) (by decide) ?_
          by_cases hc101_452 : i377 = (1 : Int32)
          ·
            refine g_icmpNo X0 hx (hb hby at_101) (teq hc101_452).2 ?_
            refine g_iload X0 hx (hb hby at_104) rfl ?_
            refine g_istore X0 hx (hb hby at_106) (L' := #[.val (.int q0), .val (.int q1), .val (.int q2), .val (.int q3), .val (.int q4), .val (.long q5), .second, .val (.int ba), .val (.int bb), .val (.int bc), .val (.int (1 : Int32)), .val (.int (0 : Int32)), .val (.int (0 : Int32)), .val (.int i377), .val (.int ba), .unset, .unset]) rfl ?_
            refine g_goto X0 hx (hb hby at_108) (by decide) (pc' := 136) (by decide) ?_
            exact J136 _ _ X0 e0 N0 ba (by omega)
          ·
            refine g_icmpYes X0 hx (hb hby at_101) (feq hc101_452).2 (by decide) (pc' := 111) (by decide) ?_
            refine g_iload X0 hx (hb hby at_111) rfl ?_
            refine g_iconst X0 hx (hb hby at_113) (v := (2 : Int32)) (by decide) ?_
            by_cases hc114_453 : i377 = (2 : Int32)
            ·
              refine g_icmpNo X0 hx (hb hby at_114) (teq hc114_453).2 ?_
              refine g_iload X0 hx (hb hby at_117) rfl ?_
              refine g_iconst X0 hx (hb hby at_119) (v := (1 : Int32)) (by decide) ?_
              obtain ⟨ba1, hba1⟩ : ∃ v : Int32, ba + (1 : Int32) = v := ⟨_, rfl⟩
              refine g_iadd X0 hx (hb hby at_120) hba1 ?_
              refine g_istore X0 hx (hb hby at_121) (L' := #[.val (.int q0), .val (.int q1), .val (.int q2), .val (.int q3), .val (.int q4), .val (.long q5), .second, .val (.int ba), .val (.int bb), .val (.int bc), .val (.int (1 : Int32)), .val (.int (0 : Int32)), .val (.int (0 : Int32)), .val (.int i377), .val (.int ba1), .unset, .unset]) rfl ?_
              refine g_goto X0 hx (hb hby at_123) (by decide) (pc' := 136) (by decide) ?_
              exact J136 _ _ X0 e0 N0 ba1 (by
                have a := c_iadd ba 1; rw [hba1] at a
                have z : (1 : Int32).toInt = 1 := rfl
                have r := rng32 ba1
                omega)
            ·
              refine g_icmpYes X0 hx (hb hby at_114) (feq hc114_453).2 (by decide) (pc' := 126) (by decide) ?_
              refine g_iconst X0 hx (hb hby at_126) (v := (0 : Int32)) (by decide) ?_
              refine g_iload X0 hx (hb hby at_127) rfl ?_
              refine g_iconst X0 hx (hb hby at_129) (v := (1 : Int32)) (by decide) ?_
              obtain ⟨bam, hbam⟩ : ∃ v : Int32, ba - (1 : Int32) = v := ⟨_, rfl⟩
              refine g_isub X0 hx (hb hby at_130) hbam ?_
              refine g_callS X0 hx hZ hown (hw _ (List.mem_of_getElem? (i := 38) rfl)) (hw _ (List.mem_of_getElem? (i := 39) rfl)) (hw _ (List.mem_of_getElem? (i := 36) rfl)) (hw _ (List.mem_of_getElem? (i := 40) rfl)) (by decide) (rmx l Z a0 hw [] (0 : Int32) bam h0 n0 Z0) e0 (W := 0) (by decide) (by decide) (by rw [hml]; rfl) [(.int (0 : Int32)), (.int bam)] [] (lenOf pd0_2 rfl) rfl rfl (Nat.le_of_eq rfl) (hb hby at_131) (by decide) (by decide) ?_
              intro v458 T454 L457 X455 hQ456
              obtain ⟨rfl, N459, e460⟩ := hQ456
              have N461 := Fr.app N0 N459
              show Go p e below (Ret s (Q0 Z q0 q1 q2 q3 q4 q5 h0 n0) 24 16576) (T454.setTop (mkF m 134 #[.val (.int q0), .val (.int q1), .val (.int q2), .val (.int q3), .val (.int q4), .val (.long q5), .second, .val (.int ba), .val (.int bb), .val (.int bc), .val (.int (1 : Int32)), .val (.int (0 : Int32)), .val (.int (0 : Int32)), .val (.int i377), .unset, .unset, .unset] [(.int (own_max (0 : Int32) bam))]))
              refine g_istore X455 hx (hb hby at_134) (L' := #[.val (.int q0), .val (.int q1), .val (.int q2), .val (.int q3), .val (.int q4), .val (.long q5), .second, .val (.int ba), .val (.int bb), .val (.int bc), .val (.int (1 : Int32)), .val (.int (0 : Int32)), .val (.int (0 : Int32)), .val (.int i377), .val (.int (own_max (0 : Int32) bam)), .unset, .unset]) rfl ?_
              exact J136 _ _ X455 e460 N461 (own_max (0 : Int32) bam) (by
                rw [own_maxT]
                have a := c_isub ba 1; rw [hbam] at a
                have z : (1 : Int32).toInt = 1 := rfl
                have z0 : (0 : Int32).toInt = 0 := rfl
                have r := rng32 bam
                omega)
      ·
        refine g_ifNo X0 hx (hb hby at_62) (feq hc62_375).1 ?_
        refine g_iconst X0 hx (hb hby at_65) (v := (1 : Int32)) (by decide) ?_
        refine g_goto X0 hx (hb hby at_66) (by decide) (pc' := 70) (by decide) ?_
        refine g_istore X0 hx (hb hby at_70) (L' := #[.val (.int q0), .val (.int q1), .val (.int q2), .val (.int q3), .val (.int q4), .val (.long q5), .second, .val (.int ba), .val (.int bb), .val (.int bc), .val (.int (1 : Int32)), .val (.int (0 : Int32)), .val (.int (1 : Int32)), .unset, .unset, .unset, .unset]) rfl ?_
        refine g_iload X0 hx (hb hby at_72) rfl ?_
        refine g_iconst X0 hx (hb hby at_74) (v := (3 : Int32)) (by decide) ?_
        obtain ⟨i462, hi462⟩ : ∃ v : Int32, (q4.toUInt32 >>> ((3 : Int32) &&& 31).toUInt32).toInt32 = v := ⟨_, rfl⟩
        refine g_iushr X0 hx (hb hby at_75) hi462 ?_
        refine g_iconst X0 hx (hb hby at_76) (v := (3 : Int32)) (by decide) ?_
        obtain ⟨i463, hi463⟩ : ∃ v : Int32, i462 &&& (3 : Int32) = v := ⟨_, rfl⟩
        refine g_iand X0 hx (hb hby at_77) hi463 ?_
        refine g_istore X0 hx (hb hby at_78) (L' := #[.val (.int q0), .val (.int q1), .val (.int q2), .val (.int q3), .val (.int q4), .val (.long q5), .second, .val (.int ba), .val (.int bb), .val (.int bc), .val (.int (1 : Int32)), .val (.int (0 : Int32)), .val (.int (1 : Int32)), .val (.int i463), .unset, .unset, .unset]) rfl ?_
        refine g_iload X0 hx (hb hby at_80) rfl ?_
        have J136 : ∀ (T464 : State) (lo468 : List Loc) (_ : Stand p l e room_1 s m #[(.int q0), (.int q1), (.int q2), (.int q3), (.int q4), (.long q5)] below meth c T464 lo468 0 0) (_ : T464.heap = h0) (_ : Fr n0 lo468) (qy : Int32), 0 ≤ qy.toInt ∧ qy.toInt ≤ 4096 → Go p e below (Ret s (Q0 Z q0 q1 q2 q3 q4 q5 h0 n0) 24 16576) (T464.setTop (mkF m 136 #[.val (.int q0), .val (.int q1), .val (.int q2), .val (.int q3), .val (.int q4), .val (.long q5), .second, .val (.int ba), .val (.int bb), .val (.int bc), .val (.int (1 : Int32)), .val (.int (0 : Int32)), .val (.int (1 : Int32)), .val (.int i463), .val (.int qy), .unset, .unset] [])) := by
          intro T464 lo468 X465 e466 N467 qy hqy
          refine g_new X465 hx hZ hown (hw _ (List.mem_of_getElem? (i := 1) rfl)) (hw _ (List.mem_of_getElem? (i := 2) rfl)) (hw _ (List.mem_of_getElem? (i := 3) rfl)) e466 (hb hby at_136) (by decide) (by decide) ?_
          intro T469 h472 bd gbd X470 e471 E473 F474 D475
          have ge_bd : n0 ≤ bd := by rw [gbd]; exact Z0
          have Z477 : n0 ≤ h472.size := Nat.le_trans Z0 E473.1
          have F479 : Fld Z h472 bd "com/example/skywright/skywright/search/Bands" "entries" "[[J" .null := D475 (Or.inr (hw _ (List.mem_of_getElem? (i := 13) rfl))) (ty := (.array (.array .long))) (by decide)
          refine g_dup X470 hx (hb hby at_139) rfl ?_
          refine g_dconst0 X470 hx (hb hby at_140) ?_
          refine g_dconst1 X470 hx (hb hby at_141) ?_
          refine g_init X470 hx hZ hown rfl (hw _ (List.mem_of_getElem? (i := 4) rfl)) (hw _ (List.mem_of_getElem? (i := 5) rfl)) (hw _ (List.mem_of_getElem? (i := 3) rfl)) (hw _ (List.mem_of_getElem? (i := 6) rfl)) (by decide) (rmi l Z a0 hw [] bd h472 n0 Z477 F474 F479 ge_bd) e471 (W := 1) (by decide) (by decide) (by rw [hml]; rfl) bd [(.double (0 : UInt64)), (.double (4607182418800017408 : UInt64))] [(.ref bd)] (lenOf pd0_0 rfl) rfl rfl (Nat.le_of_eq rfl) (hb hby at_142) (by decide) (by decide) ?_
          intro v485 T481 L484 X482 hQ483
          obtain ⟨rfl, N486, Z487, hOZ, en, sz, f488, HB489⟩ := hQ483
          have N490 := Fr.app N467 N486
          show Go p e below (Ret s (Q0 Z q0 q1 q2 q3 q4 q5 h0 n0) 24 16576) (T481.setTop (mkF m 145 #[.val (.int q0), .val (.int q1), .val (.int q2), .val (.int q3), .val (.int q4), .val (.long q5), .second, .val (.int ba), .val (.int bb), .val (.int bc), .val (.int (1 : Int32)), .val (.int (0 : Int32)), .val (.int (1 : Int32)), .val (.int i463), .val (.int qy), .unset, .unset] [(.ref bd)]))
          have hcn0 := own_zero_cnt
          refine g_astore X482 hx (hb hby at_145) rfl (L' := #[.val (.int q0), .val (.int q1), .val (.int q2), .val (.int q3), .val (.int q4), .val (.long q5), .second, .val (.int ba), .val (.int bb), .val (.int bc), .val (.int (1 : Int32)), .val (.int (0 : Int32)), .val (.int (1 : Int32)), .val (.int i463), .val (.int qy), .val (.ref bd), .unset]) rfl ?_
          refine g_iload X482 hx (hb hby at_147) rfl ?_
          have hc149_491 : ¬ ((1 : Int32) = (0 : Int32)) := (by decide)
          refine g_ifNo X482 hx (hb hby at_149) (feq hc149_491).1 ?_
          refine g_aload X482 hx (hb hby at_152) rfl rfl ?_
          refine g_iload X482 hx (hb hby at_154) rfl ?_
          refine g_lload X482 hx (hb hby at_156) rfl ?_
          refine g_callV X482 hx hZ hown (hw _ (List.mem_of_getElem? (i := 27) rfl)) (hw _ (List.mem_of_getElem? (i := 28) rfl)) (hw _ (List.mem_of_getElem? (i := 30) rfl)) (hw _ (List.mem_of_getElem? (i := 29) rfl)) (hw _ (List.mem_of_getElem? (i := 3) rfl)) (hw _ (List.mem_of_getElem? (i := 31) rfl)) (by decide) (rma l Z a0 hw [] bd ba q5 en sz f488 own_nil T481.heap n0 Z487 hOZ HB489 (fun k => ⟨(hcn0 k).1, by have := (hcn0 k).2; omega⟩) (by omega)) rfl (W := 0) (by decide) (by decide) (by rw [hml]; rfl) bd HB489.1 [(.int ba), (.long q5)] [] (lenOf pd0_3 rfl) rfl rfl (Nat.le_of_eq rfl) (hb hby at_158) (by decide) (by decide) ?_
          intro v496 T492 L495 X493 hQ494
          obtain ⟨rfl, N497, Z498, f499, HB500⟩ := hQ494
          have N501 := Fr.app N490 N497
          show Go p e below (Ret s (Q0 Z q0 q1 q2 q3 q4 q5 h0 n0) 24 16576) (T492.setTop (mkF m 161 #[.val (.int q0), .val (.int q1), .val (.int q2), .val (.int q3), .val (.int q4), .val (.long q5), .second, .val (.int ba), .val (.int bb), .val (.int bc), .val (.int (1 : Int32)), .val (.int (0 : Int32)), .val (.int (1 : Int32)), .val (.int i463), .val (.int qy), .val (.ref bd), .unset] []))
          have hcn1 : own_cnt (own_add own_nil ba.toInt.toNat) 1 := own_add_cnt hcn0 (by decide)
          refine g_iload X493 hx (hb hby at_161) rfl ?_
          have hc163_502 : (0 : Int32) = (0 : Int32) := (by decide)
          refine g_ifYes X493 hx (hb hby at_163) (teq hc163_502).1 (by decide) (pc' := 177) (by decide) ?_
          refine g_iload X493 hx (hb hby at_177) rfl ?_
          have hc179_503 : ¬ ((1 : Int32) = (0 : Int32)) := (by decide)
          refine g_ifNo X493 hx (hb hby at_179) (feq hc179_503).1 ?_
          refine g_aload X493 hx (hb hby at_182) rfl rfl ?_
          refine g_iload X493 hx (hb hby at_184) rfl ?_
          refine g_lload X493 hx (hb hby at_186) rfl ?_
          refine g_lconst1 X493 hx (hb hby at_188) ?_
          obtain ⟨l504, hl504⟩ : ∃ v : Int64, q5 - (1 : Int64) = v := ⟨_, rfl⟩
          refine g_lsub X493 hx (hb hby at_189) hl504 ?_
          refine g_callV X493 hx hZ hown (hw _ (List.mem_of_getElem? (i := 27) rfl)) (hw _ (List.mem_of_getElem? (i := 28) rfl)) (hw _ (List.mem_of_getElem? (i := 30) rfl)) (hw _ (List.mem_of_getElem? (i := 29) rfl)) (hw _ (List.mem_of_getElem? (i := 3) rfl)) (hw _ (List.mem_of_getElem? (i := 31) rfl)) (by decide) (rma l Z a0 hw [] bd bc l504 en sz f499 (own_add own_nil ba.toInt.toNat) T492.heap n0 Z498 hOZ HB500 (fun k => ⟨(hcn1 k).1, by have := (hcn1 k).2; omega⟩) (by omega)) rfl (W := 0) (by decide) (by decide) (by rw [hml]; rfl) bd HB500.1 [(.int bc), (.long l504)] [] (lenOf pd0_3 rfl) rfl rfl (Nat.le_of_eq rfl) (hb hby at_190) (by decide) (by decide) ?_
          intro v509 T505 L508 X506 hQ507
          obtain ⟨rfl, N510, Z511, f512, HB513⟩ := hQ507
          have N514 := Fr.app N501 N510
          show Go p e below (Ret s (Q0 Z q0 q1 q2 q3 q4 q5 h0 n0) 24 16576) (T505.setTop (mkF m 193 #[.val (.int q0), .val (.int q1), .val (.int q2), .val (.int q3), .val (.int q4), .val (.long q5), .second, .val (.int ba), .val (.int bb), .val (.int bc), .val (.int (1 : Int32)), .val (.int (0 : Int32)), .val (.int (1 : Int32)), .val (.int i463), .val (.int qy), .val (.ref bd), .unset] []))
          have hcn2 : own_cnt (own_add (own_add own_nil ba.toInt.toNat) bc.toInt.toNat) 2 := own_add_cnt hcn1 (by decide)
          refine g_sipush X506 hx (hb hby at_193) (v := (4096 : Int32)) (by decide) ?_
          refine g_istore X506 hx (hb hby at_196) (L' := #[.val (.int q0), .val (.int q1), .val (.int q2), .val (.int q3), .val (.int q4), .val (.long q5), .second, .val (.int ba), .val (.int bb), .val (.int bc), .val (.int (1 : Int32)), .val (.int (0 : Int32)), .val (.int (1 : Int32)), .val (.int i463), .val (.int qy), .val (.ref bd), .val (.int (4096 : Int32))]) rfl ?_
          refine g_iload X506 hx (hb hby at_198) rfl ?_
          have hc200_515 : ¬ ((1 : Int32) = (0 : Int32)) := (by decide)
          refine g_ifNo X506 hx (hb hby at_200) (feq hc200_515).1 ?_
          refine g_iload X506 hx (hb hby at_203) rfl ?_
          refine g_iload X506 hx (hb hby at_205) rfl ?_
          by_cases hc207_516 : ba < qy
          ·
            refine g_icmpYes X506 hx (hb hby at_207) (tlt hc207_516).1 (by decide) (pc' := 219) (by decide) ?_
            refine g_iload X506 hx (hb hby at_219) rfl ?_
            have hc221_517 : (0 : Int32) = (0 : Int32) := (by decide)
            refine g_ifYes X506 hx (hb hby at_221) (teq hc221_517).1 (by decide) (pc' := 240) (by decide) ?_
            refine g_iload X506 hx (hb hby at_240) rfl ?_
            have hc242_518 : ¬ ((1 : Int32) = (0 : Int32)) := (by decide)
            refine g_ifNo X506 hx (hb hby at_242) (feq hc242_518).1 ?_
            refine g_iload X506 hx (hb hby at_245) rfl ?_
            refine g_iload X506 hx (hb hby at_247) rfl ?_
            by_cases hc249_519 : bc < qy
            ·
              refine g_icmpYes X506 hx (hb hby at_249) (tlt hc249_519).1 (by decide) (pc' := 261) (by decide) ?_
              refine g_aload X506 hx (hb hby at_261) rfl rfl ?_
              refine g_iload X506 hx (hb hby at_263) rfl ?_
              refine g_callV X506 hx hZ hown (hw _ (List.mem_of_getElem? (i := 22) rfl)) (hw _ (List.mem_of_getElem? (i := 23) rfl)) (hw _ (List.mem_of_getElem? (i := 25) rfl)) (hw _ (List.mem_of_getElem? (i := 24) rfl)) (hw _ (List.mem_of_getElem? (i := 3) rfl)) (hw _ (List.mem_of_getElem? (i := 26) rfl)) (by decide) (rmn l Z a0 hw [] bd qy sz (own_add (own_add own_nil ba.toInt.toNat) bc.toInt.toNat) T505.heap n0 Z511 HB513.2.2.1 HB513.2.2.2.2.2.2.1 hqy) rfl (W := 0) (by decide) (by decide) (by rw [hml]; rfl) bd HB513.1 [(.int qy)] [] (lenOf pd0_1 rfl) rfl rfl (Nat.le_of_eq rfl) (hb hby at_265) (by decide) (by decide) ?_
              intro v524 T520 L523 X521 hQ522
              obtain ⟨got, ⟨rfl, k1, k2, k3, k4⟩, N525, e526⟩ := hQ522
              have N527 := Fr.app N514 N525
              show Go p e below (Ret s (Q0 Z q0 q1 q2 q3 q4 q5 h0 n0) 24 16576) (T520.setTop (mkF m 268 #[.val (.int q0), .val (.int q1), .val (.int q2), .val (.int q3), .val (.int q4), .val (.long q5), .second, .val (.int ba), .val (.int bb), .val (.int bc), .val (.int (1 : Int32)), .val (.int (0 : Int32)), .val (.int (1 : Int32)), .val (.int i463), .val (.int qy), .val (.ref bd), .val (.int (4096 : Int32))] [(.int got)]))
              refine g_iload X521 hx (hb hby at_268) rfl ?_
              have hc270_528 : got = (4096 : Int32) := (by
                apply Int32.toInt_inj.mp
                have z4 : (4096 : Int32).toInt = 4096 := rfl
                have l_ba := Int32.lt_iff_toInt_lt.mp hc207_516
                have l_bc := Int32.lt_iff_toInt_lt.mp hc249_519
                have hz : ∀ k : Nat, (own_add (own_add own_nil ba.toInt.toNat) bc.toInt.toNat) k ≠ 0 ↔ (k = bc.toInt.toNat ∨ k = ba.toInt.toNat ∨ False) := by
                  intro k
                  rw [own_add_ne hcn1 (by decide)]
                  rw [own_add_ne hcn0 (by decide)]
                  simp [own_nil]
                refine own_found k1 k2 k3 k4 hqy.1 ?_ ?_
                · simp only [hz]; omega
                · intro k q1 q2 q3
                  rcases (hz k).mp q3 with q3 | q3 | q3 <;> first | exact q3.elim | omega)
              refine g_icmpNo X521 hx (hb hby at_270) (teq hc270_528).2 ?_
              refine g_iconst X521 hx (hb hby at_273) (v := (1 : Int32)) (by decide) ?_
              refine g_goto X521 hx (hb hby at_274) (by decide) (pc' := 278) (by decide) ?_
              refine g_ireturn X521 hx Bd.notSynchronized Bd.returns rfl (by simp) (hb hby at_278) (by decide) (by decide) ?_
              exact ⟨rfl, N527⟩
            ·
              refine g_icmpNo X506 hx (hb hby at_249) (flt hc249_519).1 ?_
              refine g_iload X506 hx (hb hby at_252) rfl ?_
              refine g_iload X506 hx (hb hby at_254) rfl ?_
              refine g_callS X506 hx hZ hown (hw _ (List.mem_of_getElem? (i := 34) rfl)) (hw _ (List.mem_of_getElem? (i := 35) rfl)) (hw _ (List.mem_of_getElem? (i := 36) rfl)) (hw _ (List.mem_of_getElem? (i := 37) rfl)) (by decide) (rmm l Z a0 hw [] (4096 : Int32) bc T505.heap n0 Z511) rfl (W := 0) (by decide) (by decide) (by rw [hml]; rfl) [(.int (4096 : Int32)), (.int bc)] [] (lenOf pd0_2 rfl) rfl rfl (Nat.le_of_eq rfl) (hb hby at_256) (by decide) (by decide) ?_
              intro v533 T529 L532 X530 hQ531
              obtain ⟨rfl, N534, e535⟩ := hQ531
              have N536 := Fr.app N514 N534
              show Go p e below (Ret s (Q0 Z q0 q1 q2 q3 q4 q5 h0 n0) 24 16576) (T529.setTop (mkF m 259 #[.val (.int q0), .val (.int q1), .val (.int q2), .val (.int q3), .val (.int q4), .val (.long q5), .second, .val (.int ba), .val (.int bb), .val (.int bc), .val (.int (1 : Int32)), .val (.int (0 : Int32)), .val (.int (1 : Int32)), .val (.int i463), .val (.int qy), .val (.ref bd), .val (.int (4096 : Int32))] [(.int (own_min (4096 : Int32) bc))]))
              refine g_istore X530 hx (hb hby at_259) (L' := #[.val (.int q0), .val (.int q1), .val (.int q2), .val (.int q3), .val (.int q4), .val (.long q5), .second, .val (.int ba), .val (.int bb), .val (.int bc), .val (.int (1 : Int32)), .val (.int (0 : Int32)), .val (.int (1 : Int32)), .val (.int i463), .val (.int qy), .val (.ref bd), .val (.int (own_min (4096 : Int32) bc))]) rfl ?_
              refine g_aload X530 hx (hb hby at_261) rfl rfl ?_
              refine g_iload X530 hx (hb hby at_263) rfl ?_
              refine g_callV X530 hx hZ hown (hw _ (List.mem_of_getElem? (i := 22) rfl)) (hw _ (List.mem_of_getElem? (i := 23) rfl)) (hw _ (List.mem_of_getElem? (i := 25) rfl)) (hw _ (List.mem_of_getElem? (i := 24) rfl)) (hw _ (List.mem_of_getElem? (i := 3) rfl)) (hw _ (List.mem_of_getElem? (i := 26) rfl)) (by decide) (rmn l Z a0 hw [] bd qy sz (own_add (own_add own_nil ba.toInt.toNat) bc.toInt.toNat) T505.heap n0 Z511 HB513.2.2.1 HB513.2.2.2.2.2.2.1 hqy) e535 (W := 0) (by decide) (by decide) (by rw [hml]; rfl) bd HB513.1 [(.int qy)] [] (lenOf pd0_1 rfl) rfl rfl (Nat.le_of_eq rfl) (hb hby at_265) (by decide) (by decide) ?_
              intro v541 T537 L540 X538 hQ539
              obtain ⟨got, ⟨rfl, k1, k2, k3, k4⟩, N542, e543⟩ := hQ539
              have N544 := Fr.app N536 N542
              show Go p e below (Ret s (Q0 Z q0 q1 q2 q3 q4 q5 h0 n0) 24 16576) (T537.setTop (mkF m 268 #[.val (.int q0), .val (.int q1), .val (.int q2), .val (.int q3), .val (.int q4), .val (.long q5), .second, .val (.int ba), .val (.int bb), .val (.int bc), .val (.int (1 : Int32)), .val (.int (0 : Int32)), .val (.int (1 : Int32)), .val (.int i463), .val (.int qy), .val (.ref bd), .val (.int (own_min (4096 : Int32) bc))] [(.int got)]))
              refine g_iload X538 hx (hb hby at_268) rfl ?_
              have hc270_545 : got = (own_min (4096 : Int32) bc) := (by
                apply Int32.toInt_inj.mp
                have m0 := own_minT (4096 : Int32) bc
                have z4 : (4096 : Int32).toInt = 4096 := rfl
                have l_ba := Int32.lt_iff_toInt_lt.mp hc207_516
                have l_bc : ¬ bc.toInt < qy.toInt := fun z => hc249_519 (Int32.lt_iff_toInt_lt.mpr z)
                have hz : ∀ k : Nat, (own_add (own_add own_nil ba.toInt.toNat) bc.toInt.toNat) k ≠ 0 ↔ (k = bc.toInt.toNat ∨ k = ba.toInt.toNat ∨ False) := by
                  intro k
                  rw [own_add_ne hcn1 (by decide)]
                  rw [own_add_ne hcn0 (by decide)]
                  simp [own_nil]
                refine own_found k1 k2 k3 k4 hqy.1 ?_ ?_
                · simp only [hz]; omega
                · intro k q1 q2 q3
                  rcases (hz k).mp q3 with q3 | q3 | q3 <;> first | exact q3.elim | omega)
              refine g_icmpNo X538 hx (hb hby at_270) (teq hc270_545).2 ?_
              refine g_iconst X538 hx (hb hby at_273) (v := (1 : Int32)) (by decide) ?_
              refine g_goto X538 hx (hb hby at_274) (by decide) (pc' := 278) (by decide) ?_
              refine g_ireturn X538 hx Bd.notSynchronized Bd.returns rfl (by simp) (hb hby at_278) (by decide) (by decide) ?_
              exact ⟨rfl, N544⟩
          ·
            refine g_icmpNo X506 hx (hb hby at_207) (flt hc207_516).1 ?_
            refine g_iload X506 hx (hb hby at_210) rfl ?_
            refine g_iload X506 hx (hb hby at_212) rfl ?_
            refine g_callS X506 hx hZ hown (hw _ (List.mem_of_getElem? (i := 34) rfl)) (hw _ (List.mem_of_getElem? (i := 35) rfl)) (hw _ (List.mem_of_getElem? (i := 36) rfl)) (hw _ (List.mem_of_getElem? (i := 37) rfl)) (by decide) (rmm l Z a0 hw [] (4096 : Int32) ba T505.heap n0 Z511) rfl (W := 0) (by decide) (by decide) (by rw [hml]; rfl) [(.int (4096 : Int32)), (.int ba)] [] (lenOf pd0_2 rfl) rfl rfl (Nat.le_of_eq rfl) (hb hby at_214) (by decide) (by decide) ?_
            intro v550 T546 L549 X547 hQ548
            obtain ⟨rfl, N551, e552⟩ := hQ548
            have N553 := Fr.app N514 N551
            show Go p e below (Ret s (Q0 Z q0 q1 q2 q3 q4 q5 h0 n0) 24 16576) (T546.setTop (mkF m 217 #[.val (.int q0), .val (.int q1), .val (.int q2), .val (.int q3), .val (.int q4), .val (.long q5), .second, .val (.int ba), .val (.int bb), .val (.int bc), .val (.int (1 : Int32)), .val (.int (0 : Int32)), .val (.int (1 : Int32)), .val (.int i463), .val (.int qy), .val (.ref bd), .val (.int (4096 : Int32))] [(.int (own_min (4096 : Int32) ba))]))
            refine g_istore X547 hx (hb hby at_217) (L' := #[.val (.int q0), .val (.int q1), .val (.int q2), .val (.int q3), .val (.int q4), .val (.long q5), .second, .val (.int ba), .val (.int bb), .val (.int bc), .val (.int (1 : Int32)), .val (.int (0 : Int32)), .val (.int (1 : Int32)), .val (.int i463), .val (.int qy), .val (.ref bd), .val (.int (own_min (4096 : Int32) ba))]) rfl ?_
            refine g_iload X547 hx (hb hby at_219) rfl ?_
            have hc221_554 : (0 : Int32) = (0 : Int32) := (by decide)
            refine g_ifYes X547 hx (hb hby at_221) (teq hc221_554).1 (by decide) (pc' := 240) (by decide) ?_
            refine g_iload X547 hx (hb hby at_240) rfl ?_
            have hc242_555 : ¬ ((1 : Int32) = (0 : Int32)) := (by decide)
            refine g_ifNo X547 hx (hb hby at_242) (feq hc242_555).1 ?_
            refine g_iload X547 hx (hb hby at_245) rfl ?_
            refine g_iload X547 hx (hb hby at_247) rfl ?_
            by_cases hc249_556 : bc < qy
            ·
              refine g_icmpYes X547 hx (hb hby at_249) (tlt hc249_556).1 (by decide) (pc' := 261) (by decide) ?_
              refine g_aload X547 hx (hb hby at_261) rfl rfl ?_
              refine g_iload X547 hx (hb hby at_263) rfl ?_
              refine g_callV X547 hx hZ hown (hw _ (List.mem_of_getElem? (i := 22) rfl)) (hw _ (List.mem_of_getElem? (i := 23) rfl)) (hw _ (List.mem_of_getElem? (i := 25) rfl)) (hw _ (List.mem_of_getElem? (i := 24) rfl)) (hw _ (List.mem_of_getElem? (i := 3) rfl)) (hw _ (List.mem_of_getElem? (i := 26) rfl)) (by decide) (rmn l Z a0 hw [] bd qy sz (own_add (own_add own_nil ba.toInt.toNat) bc.toInt.toNat) T505.heap n0 Z511 HB513.2.2.1 HB513.2.2.2.2.2.2.1 hqy) e552 (W := 0) (by decide) (by decide) (by rw [hml]; rfl) bd HB513.1 [(.int qy)] [] (lenOf pd0_1 rfl) rfl rfl (Nat.le_of_eq rfl) (hb hby at_265) (by decide) (by decide) ?_
              intro v561 T557 L560 X558 hQ559
              obtain ⟨got, ⟨rfl, k1, k2, k3, k4⟩, N562, e563⟩ := hQ559
              have N564 := Fr.app N553 N562
              show Go p e below (Ret s (Q0 Z q0 q1 q2 q3 q4 q5 h0 n0) 24 16576) (T557.setTop (mkF m 268 #[.val (.int q0), .val (.int q1), .val (.int q2), .val (.int q3), .val (.int q4), .val (.long q5), .second, .val (.int ba), .val (.int bb), .val (.int bc), .val (.int (1 : Int32)), .val (.int (0 : Int32)), .val (.int (1 : Int32)), .val (.int i463), .val (.int qy), .val (.ref bd), .val (.int (own_min (4096 : Int32) ba))] [(.int got)]))
              refine g_iload X558 hx (hb hby at_268) rfl ?_
              have hc270_565 : got = (own_min (4096 : Int32) ba) := (by
                apply Int32.toInt_inj.mp
                have m0 := own_minT (4096 : Int32) ba
                have z4 : (4096 : Int32).toInt = 4096 := rfl
                have l_ba : ¬ ba.toInt < qy.toInt := fun z => hc207_516 (Int32.lt_iff_toInt_lt.mpr z)
                have l_bc := Int32.lt_iff_toInt_lt.mp hc249_556
                have hz : ∀ k : Nat, (own_add (own_add own_nil ba.toInt.toNat) bc.toInt.toNat) k ≠ 0 ↔ (k = bc.toInt.toNat ∨ k = ba.toInt.toNat ∨ False) := by
                  intro k
                  rw [own_add_ne hcn1 (by decide)]
                  rw [own_add_ne hcn0 (by decide)]
                  simp [own_nil]
                refine own_found k1 k2 k3 k4 hqy.1 ?_ ?_
                · simp only [hz]; omega
                · intro k q1 q2 q3
                  rcases (hz k).mp q3 with q3 | q3 | q3 <;> first | exact q3.elim | omega)
              refine g_icmpNo X558 hx (hb hby at_270) (teq hc270_565).2 ?_
              refine g_iconst X558 hx (hb hby at_273) (v := (1 : Int32)) (by decide) ?_
              refine g_goto X558 hx (hb hby at_274) (by decide) (pc' := 278) (by decide) ?_
              refine g_ireturn X558 hx Bd.notSynchronized Bd.returns rfl (by simp) (hb hby at_278) (by decide) (by decide) ?_
              exact ⟨rfl, N564⟩
            ·
              refine g_icmpNo X547 hx (hb hby at_249) (flt hc249_556).1 ?_
              refine g_iload X547 hx (hb hby at_252) rfl ?_
              refine g_iload X547 hx (hb hby at_254) rfl ?_
              refine g_callS X547 hx hZ hown (hw _ (List.mem_of_getElem? (i := 34) rfl)) (hw _ (List.mem_of_getElem? (i := 35) rfl)) (hw _ (List.mem_of_getElem? (i := 36) rfl)) (hw _ (List.mem_of_getElem? (i := 37) rfl)) (by decide) (rmm l Z a0 hw [] (own_min (4096 : Int32) ba) bc T505.heap n0 Z511) e552 (W := 0) (by decide) (by decide) (by rw [hml]; rfl) [(.int (own_min (4096 : Int32) ba)), (.int bc)] [] (lenOf pd0_2 rfl) rfl rfl (Nat.le_of_eq rfl) (hb hby at_256) (by decide) (by decide) ?_
              intro v570 T566 L569 X567 hQ568
              obtain ⟨rfl, N571, e572⟩ := hQ568
              have N573 := Fr.app N553 N571
              show Go p e below (Ret s (Q0 Z q0 q1 q2 q3 q4 q5 h0 n0) 24 16576) (T566.setTop (mkF m 259 #[.val (.int q0), .val (.int q1), .val (.int q2), .val (.int q3), .val (.int q4), .val (.long q5), .second, .val (.int ba), .val (.int bb), .val (.int bc), .val (.int (1 : Int32)), .val (.int (0 : Int32)), .val (.int (1 : Int32)), .val (.int i463), .val (.int qy), .val (.ref bd), .val (.int (own_min (4096 : Int32) ba))] [(.int (own_min (own_min (4096 : Int32) ba) bc))]))
              refine g_istore X567 hx (hb hby at_259) (L' := #[.val (.int q0), .val (.int q1), .val (.int q2), .val (.int q3), .val (.int q4), .val (.long q5), .second, .val (.int ba), .val (.int bb), .val (.int bc), .val (.int (1 : Int32)), .val (.int (0 : Int32)), .val (.int (1 : Int32)), .val (.int i463), .val (.int qy), .val (.ref bd), .val (.int (own_min (own_min (4096 : Int32) ba) bc))]) rfl ?_
              refine g_aload X567 hx (hb hby at_261) rfl rfl ?_
              refine g_iload X567 hx (hb hby at_263) rfl ?_
              refine g_callV X567 hx hZ hown (hw _ (List.mem_of_getElem? (i := 22) rfl)) (hw _ (List.mem_of_getElem? (i := 23) rfl)) (hw _ (List.mem_of_getElem? (i := 25) rfl)) (hw _ (List.mem_of_getElem? (i := 24) rfl)) (hw _ (List.mem_of_getElem? (i := 3) rfl)) (hw _ (List.mem_of_getElem? (i := 26) rfl)) (by decide) (rmn l Z a0 hw [] bd qy sz (own_add (own_add own_nil ba.toInt.toNat) bc.toInt.toNat) T505.heap n0 Z511 HB513.2.2.1 HB513.2.2.2.2.2.2.1 hqy) e572 (W := 0) (by decide) (by decide) (by rw [hml]; rfl) bd HB513.1 [(.int qy)] [] (lenOf pd0_1 rfl) rfl rfl (Nat.le_of_eq rfl) (hb hby at_265) (by decide) (by decide) ?_
              intro v578 T574 L577 X575 hQ576
              obtain ⟨got, ⟨rfl, k1, k2, k3, k4⟩, N579, e580⟩ := hQ576
              have N581 := Fr.app N573 N579
              show Go p e below (Ret s (Q0 Z q0 q1 q2 q3 q4 q5 h0 n0) 24 16576) (T574.setTop (mkF m 268 #[.val (.int q0), .val (.int q1), .val (.int q2), .val (.int q3), .val (.int q4), .val (.long q5), .second, .val (.int ba), .val (.int bb), .val (.int bc), .val (.int (1 : Int32)), .val (.int (0 : Int32)), .val (.int (1 : Int32)), .val (.int i463), .val (.int qy), .val (.ref bd), .val (.int (own_min (own_min (4096 : Int32) ba) bc))] [(.int got)]))
              refine g_iload X575 hx (hb hby at_268) rfl ?_
              have hc270_582 : got = (own_min (own_min (4096 : Int32) ba) bc) := (by
                apply Int32.toInt_inj.mp
                have m0 := own_minT (own_min (4096 : Int32) ba) bc
                have m1 := own_minT (4096 : Int32) ba
                have z4 : (4096 : Int32).toInt = 4096 := rfl
                have l_ba : ¬ ba.toInt < qy.toInt := fun z => hc207_516 (Int32.lt_iff_toInt_lt.mpr z)
                have l_bc : ¬ bc.toInt < qy.toInt := fun z => hc249_556 (Int32.lt_iff_toInt_lt.mpr z)
                have hz : ∀ k : Nat, (own_add (own_add own_nil ba.toInt.toNat) bc.toInt.toNat) k ≠ 0 ↔ (k = bc.toInt.toNat ∨ k = ba.toInt.toNat ∨ False) := by
                  intro k
                  rw [own_add_ne hcn1 (by decide)]
                  rw [own_add_ne hcn0 (by decide)]
                  simp [own_nil]
                refine own_found k1 k2 k3 k4 hqy.1 ?_ ?_
                · simp only [hz]; omega
                · intro k q1 q2 q3
                  rcases (hz k).mp q3 with q3 | q3 | q3 <;> first | exact q3.elim | omega)
              refine g_icmpNo X575 hx (hb hby at_270) (teq hc270_582).2 ?_
              refine g_iconst X575 hx (hb hby at_273) (v := (1 : Int32)) (by decide) ?_
              refine g_goto X575 hx (hb hby at_274) (by decide) (pc' := 278) (by decide) ?_
              refine g_ireturn X575 hx Bd.notSynchronized Bd.returns rfl (by simp) (hb hby at_278) (by decide) (by decide) ?_
              exact ⟨rfl, N581⟩
        by_cases hc82_583 : i463 = (0 : Int32)
        ·
          refine g_ifNo X0 hx (hb hby at_82) (teq hc82_583).2 ?_
          refine g_iloadN X0 hx (hb hby at_85) rfl ?_
          refine g_ldcI X0 hx hZ hown (hw _ (List.mem_of_getElem? (i := 0) rfl)) (hb hby at_86) ?_
          obtain ⟨i584, hi584⟩ : ∃ v : Int32, q3 &&& (2147483647 : Int32) = v := ⟨_, rfl⟩
          refine g_iand X0 hx (hb hby at_88) hi584 ?_
          refine g_sipush X0 hx (hb hby at_89) (v := (4097 : Int32)) (by decide) ?_
          obtain ⟨qm, hqm⟩ : ∃ v : Int32, i584 % (4097 : Int32) = v := ⟨_, rfl⟩
          refine g_irem X0 hx (hb hby at_92) (by decide) hqm ?_
          have b_qm : 0 ≤ qm.toInt ∧ qm.toInt < 4097 := by
            have a := c_and q3 (2147483647 : Int32) (by decide)
            rw [hi584] at a
            have b := (c_iremV i584 (4097 : Int32)).1 a.1 (by decide)
            rw [hqm] at b
            have z : (4097 : Int32).toInt = 4097 := rfl
            omega
          refine g_istore X0 hx (hb hby at_93) (L' := #[.val (.int q0), .val (.int q1), .val (.int q2), .val (.int q3), .val (.int q4), .val (.long q5), .second, .val (.int ba), .val (.int bb), .val (.int bc), .val (.int (1 : Int32)), .val (.int (0 : Int32)), .val (.int (1 : Int32)), .val (.int i463), .val (.int qm), .unset, .unset]) rfl ?_
          refine g_goto X0 hx (hb hby at_95) (by decide) (pc' := 136) (by decide) ?_
          exact J136 _ _ X0 e0 N0 qm (by omega)
        ·
          refine g_ifYes X0 hx (hb hby at_82) (feq hc82_583).2 (by decide) (pc' := 98) (by decide) ?_
          refine g_iload X0 hx (hb hby at_98) rfl ?_
          refine g_iconst X0 hx (hb hby at_100) (v := (1 : Int32)) (by decide) ?_
          by_cases hc101_585 : i463 = (1 : Int32)
          ·
            refine g_icmpNo X0 hx (hb hby at_101) (teq hc101_585).2 ?_
            refine g_iload X0 hx (hb hby at_104) rfl ?_
            refine g_istore X0 hx (hb hby at_106) (L' := #[.val (.int q0), .val (.int q1), .val (.int q2), .val (.int q3), .val (.int q4), .val (.long q5), .second, .val (.int ba), .val (.int bb), .val (.int bc), .val (.int (1 : Int32)), .val (.int (0 : Int32)), .val (.int (1 : Int32)), .val (.int i463), .val (.int ba), .unset, .unset]) rfl ?_
            refine g_goto X0 hx (hb hby at_108) (by decide) (pc' := 136) (by decide) ?_
            exact J136 _ _ X0 e0 N0 ba (by omega)
          ·
            refine g_icmpYes X0 hx (hb hby at_101) (feq hc101_585).2 (by decide) (pc' := 111) (by decide) ?_
            refine g_iload X0 hx (hb hby at_111) rfl ?_
            refine g_iconst X0 hx (hb hby at_113) (v := (2 : Int32)) (by decide) ?_
            by_cases hc114_586 : i463 = (2 : Int32)
            ·
              refine g_icmpNo X0 hx (hb hby at_114) (teq hc114_586).2 ?_
              refine g_iload X0 hx (hb hby at_117) rfl ?_
              refine g_iconst X0 hx (hb hby at_119) (v := (1 : Int32)) (by decide) ?_
              obtain ⟨ba1, hba1⟩ : ∃ v : Int32, ba + (1 : Int32) = v := ⟨_, rfl⟩
              refine g_iadd X0 hx (hb hby at_120) hba1 ?_
              refine g_istore X0 hx (hb hby at_121) (L' := #[.val (.int q0), .val (.int q1), .val (.int q2), .val (.int q3), .val (.int q4), .val (.long q5), .second, .val (.int ba), .val (.int bb), .val (.int bc), .val (.int (1 : Int32)), .val (.int (0 : Int32)), .val (.int (1 : Int32)), .val (.int i463), .val (.int ba1), .unset, .unset]) rfl ?_
              refine g_goto X0 hx (hb hby at_123) (by decide) (pc' := 136) (by decide) ?_
              exact J136 _ _ X0 e0 N0 ba1 (by
                have a := c_iadd ba 1; rw [hba1] at a
                have z : (1 : Int32).toInt = 1 := rfl
                have r := rng32 ba1
                omega)
            ·
              refine g_icmpYes X0 hx (hb hby at_114) (feq hc114_586).2 (by decide) (pc' := 126) (by decide) ?_
              refine g_iconst X0 hx (hb hby at_126) (v := (0 : Int32)) (by decide) ?_
              refine g_iload X0 hx (hb hby at_127) rfl ?_
              refine g_iconst X0 hx (hb hby at_129) (v := (1 : Int32)) (by decide) ?_
              obtain ⟨bam, hbam⟩ : ∃ v : Int32, ba - (1 : Int32) = v := ⟨_, rfl⟩
              refine g_isub X0 hx (hb hby at_130) hbam ?_
              refine g_callS X0 hx hZ hown (hw _ (List.mem_of_getElem? (i := 38) rfl)) (hw _ (List.mem_of_getElem? (i := 39) rfl)) (hw _ (List.mem_of_getElem? (i := 36) rfl)) (hw _ (List.mem_of_getElem? (i := 40) rfl)) (by decide) (rmx l Z a0 hw [] (0 : Int32) bam h0 n0 Z0) e0 (W := 0) (by decide) (by decide) (by rw [hml]; rfl) [(.int (0 : Int32)), (.int bam)] [] (lenOf pd0_2 rfl) rfl rfl (Nat.le_of_eq rfl) (hb hby at_131) (by decide) (by decide) ?_
              intro v591 T587 L590 X588 hQ589
              obtain ⟨rfl, N592, e593⟩ := hQ589
              have N594 := Fr.app N0 N592
              show Go p e below (Ret s (Q0 Z q0 q1 q2 q3 q4 q5 h0 n0) 24 16576) (T587.setTop (mkF m 134 #[.val (.int q0), .val (.int q1), .val (.int q2), .val (.int q3), .val (.int q4), .val (.long q5), .second, .val (.int ba), .val (.int bb), .val (.int bc), .val (.int (1 : Int32)), .val (.int (0 : Int32)), .val (.int (1 : Int32)), .val (.int i463), .unset, .unset, .unset] [(.int (own_max (0 : Int32) bam))]))
              refine g_istore X588 hx (hb hby at_134) (L' := #[.val (.int q0), .val (.int q1), .val (.int q2), .val (.int q3), .val (.int q4), .val (.long q5), .second, .val (.int ba), .val (.int bb), .val (.int bc), .val (.int (1 : Int32)), .val (.int (0 : Int32)), .val (.int (1 : Int32)), .val (.int i463), .val (.int (own_max (0 : Int32) bam)), .unset, .unset]) rfl ?_
              exact J136 _ _ X588 e593 N594 (own_max (0 : Int32) bam) (by
                rw [own_maxT]
                have a := c_isub ba 1; rw [hbam] at a
                have z : (1 : Int32).toInt = 1 := rfl
                have z0 : (0 : Int32).toInt = 0 := rfl
                have r := rng32 bam
                omega)
    ·
      refine g_ifNo X0 hx (hb hby at_48) (feq hc48_373).1 ?_
      refine g_iconst X0 hx (hb hby at_51) (v := (1 : Int32)) (by decide) ?_
      refine g_goto X0 hx (hb hby at_52) (by decide) (pc' := 56) (by decide) ?_
      refine g_istore X0 hx (hb hby at_56) (L' := #[.val (.int q0), .val (.int q1), .val (.int q2), .val (.int q3), .val (.int q4), .val (.long q5), .second, .val (.int ba), .val (.int bb), .val (.int bc), .val (.int (1 : Int32)), .val (.int (1 : Int32)), .unset, .unset, .unset, .unset, .unset]) rfl ?_
      refine g_iload X0 hx (hb hby at_58) rfl ?_
      refine g_iconst X0 hx (hb hby at_60) (v := (4 : Int32)) (by decide) ?_
      obtain ⟨i595, hi595⟩ : ∃ v : Int32, q4 &&& (4 : Int32) = v := ⟨_, rfl⟩
      refine g_iand X0 hx (hb hby at_61) hi595 ?_
      by_cases hc62_596 : i595 = (0 : Int32)
      ·
        refine g_ifYes X0 hx (hb hby at_62) (teq hc62_596).1 (by decide) (pc' := 69) (by decide) ?_
        refine g_iconst X0 hx (hb hby at_69) (v := (0 : Int32)) (by decide) ?_
        refine g_istore X0 hx (hb hby at_70) (L' := #[.val (.int q0), .val (.int q1), .val (.int q2), .val (.int q3), .val (.int q4), .val (.long q5), .second, .val (.int ba), .val (.int bb), .val (.int bc), .val (.int (1 : Int32)), .val (.int (1 : Int32)), .val (.int (0 : Int32)), .unset, .unset, .unset, .unset]) rfl ?_
        refine g_iload X0 hx (hb hby at_72) rfl ?_
        refine g_iconst X0 hx (hb hby at_74) (v := (3 : Int32)) (by decide) ?_
        obtain ⟨i597, hi597⟩ : ∃ v : Int32, (q4.toUInt32 >>> ((3 : Int32) &&& 31).toUInt32).toInt32 = v := ⟨_, rfl⟩
        refine g_iushr X0 hx (hb hby at_75) hi597 ?_
        refine g_iconst X0 hx (hb hby at_76) (v := (3 : Int32)) (by decide) ?_
        obtain ⟨i598, hi598⟩ : ∃ v : Int32, i597 &&& (3 : Int32) = v := ⟨_, rfl⟩
        refine g_iand X0 hx (hb hby at_77) hi598 ?_
        refine g_istore X0 hx (hb hby at_78) (L' := #[.val (.int q0), .val (.int q1), .val (.int q2), .val (.int q3), .val (.int q4), .val (.long q5), .second, .val (.int ba), .val (.int bb), .val (.int bc), .val (.int (1 : Int32)), .val (.int (1 : Int32)), .val (.int (0 : Int32)), .val (.int i598), .unset, .unset, .unset]) rfl ?_
        refine g_iload X0 hx (hb hby at_80) rfl ?_
        have J136 : ∀ (T599 : State) (lo603 : List Loc) (_ : Stand p l e room_1 s m #[(.int q0), (.int q1), (.int q2), (.int q3), (.int q4), (.long q5)] below meth c T599 lo603 0 0) (_ : T599.heap = h0) (_ : Fr n0 lo603) (qy : Int32), 0 ≤ qy.toInt ∧ qy.toInt ≤ 4096 → Go p e below (Ret s (Q0 Z q0 q1 q2 q3 q4 q5 h0 n0) 24 16576) (T599.setTop (mkF m 136 #[.val (.int q0), .val (.int q1), .val (.int q2), .val (.int q3), .val (.int q4), .val (.long q5), .second, .val (.int ba), .val (.int bb), .val (.int bc), .val (.int (1 : Int32)), .val (.int (1 : Int32)), .val (.int (0 : Int32)), .val (.int i598), .val (.int qy), .unset, .unset] [])) := by
          intro T599 lo603 X600 e601 N602 qy hqy
          refine g_new X600 hx hZ hown (hw _ (List.mem_of_getElem? (i := 1) rfl)) (hw _ (List.mem_of_getElem? (i := 2) rfl)) (hw _ (List.mem_of_getElem? (i := 3) rfl)) e601 (hb hby at_136) (by decide) (by decide) ?_
          intro T604 h607 bd gbd X605 e606 E608 F609 D610
          have ge_bd : n0 ≤ bd := by rw [gbd]; exact Z0
          have Z612 : n0 ≤ h607.size := Nat.le_trans Z0 E608.1
          have F614 : Fld Z h607 bd "com/example/skywright/skywright/search/Bands" "entries" "[[J" .null := D610 (Or.inr (hw _ (List.mem_of_getElem? (i := 13) rfl))) (ty := (.array (.array .long))) (by decide)
          refine g_dup X605 hx (hb hby at_139) rfl ?_
          refine g_dconst0 X605 hx (hb hby at_140) ?_
          refine g_dconst1 X605 hx (hb hby at_141) ?_
          refine g_init X605 hx hZ hown rfl (hw _ (List.mem_of_getElem? (i := 4) rfl)) (hw _ (List.mem_of_getElem? (i := 5) rfl)) (hw _ (List.mem_of_getElem? (i := 3) rfl)) (hw _ (List.mem_of_getElem? (i := 6) rfl)) (by decide) (rmi l Z a0 hw [] bd h607 n0 Z612 F609 F614 ge_bd) e606 (W := 1) (by decide) (by decide) (by rw [hml]; rfl) bd [(.double (0 : UInt64)), (.double (4607182418800017408 : UInt64))] [(.ref bd)] (lenOf pd0_0 rfl) rfl rfl (Nat.le_of_eq rfl) (hb hby at_142) (by decide) (by decide) ?_
          intro v620 T616 L619 X617 hQ618
          obtain ⟨rfl, N621, Z622, hOZ, en, sz, f623, HB624⟩ := hQ618
          have N625 := Fr.app N602 N621
          show Go p e below (Ret s (Q0 Z q0 q1 q2 q3 q4 q5 h0 n0) 24 16576) (T616.setTop (mkF m 145 #[.val (.int q0), .val (.int q1), .val (.int q2), .val (.int q3), .val (.int q4), .val (.long q5), .second, .val (.int ba), .val (.int bb), .val (.int bc), .val (.int (1 : Int32)), .val (.int (1 : Int32)), .val (.int (0 : Int32)), .val (.int i598), .val (.int qy), .unset, .unset] [(.ref bd)]))
          have hcn0 := own_zero_cnt
          refine g_astore X617 hx (hb hby at_145) rfl (L' := #[.val (.int q0), .val (.int q1), .val (.int q2), .val (.int q3), .val (.int q4), .val (.long q5), .second, .val (.int ba), .val (.int bb), .val (.int bc), .val (.int (1 : Int32)), .val (.int (1 : Int32)), .val (.int (0 : Int32)), .val (.int i598), .val (.int qy), .val (.ref bd), .unset]) rfl ?_
          refine g_iload X617 hx (hb hby at_147) rfl ?_
          have hc149_626 : ¬ ((1 : Int32) = (0 : Int32)) := (by decide)
          refine g_ifNo X617 hx (hb hby at_149) (feq hc149_626).1 ?_
          refine g_aload X617 hx (hb hby at_152) rfl rfl ?_
          refine g_iload X617 hx (hb hby at_154) rfl ?_
          refine g_lload X617 hx (hb hby at_156) rfl ?_
          refine g_callV X617 hx hZ hown (hw _ (List.mem_of_getElem? (i := 27) rfl)) (hw _ (List.mem_of_getElem? (i := 28) rfl)) (hw _ (List.mem_of_getElem? (i := 30) rfl)) (hw _ (List.mem_of_getElem? (i := 29) rfl)) (hw _ (List.mem_of_getElem? (i := 3) rfl)) (hw _ (List.mem_of_getElem? (i := 31) rfl)) (by decide) (rma l Z a0 hw [] bd ba q5 en sz f623 own_nil T616.heap n0 Z622 hOZ HB624 (fun k => ⟨(hcn0 k).1, by have := (hcn0 k).2; omega⟩) (by omega)) rfl (W := 0) (by decide) (by decide) (by rw [hml]; rfl) bd HB624.1 [(.int ba), (.long q5)] [] (lenOf pd0_3 rfl) rfl rfl (Nat.le_of_eq rfl) (hb hby at_158) (by decide) (by decide) ?_
          intro v631 T627 L630 X628 hQ629
          obtain ⟨rfl, N632, Z633, f634, HB635⟩ := hQ629
          have N636 := Fr.app N625 N632
          show Go p e below (Ret s (Q0 Z q0 q1 q2 q3 q4 q5 h0 n0) 24 16576) (T627.setTop (mkF m 161 #[.val (.int q0), .val (.int q1), .val (.int q2), .val (.int q3), .val (.int q4), .val (.long q5), .second, .val (.int ba), .val (.int bb), .val (.int bc), .val (.int (1 : Int32)), .val (.int (1 : Int32)), .val (.int (0 : Int32)), .val (.int i598), .val (.int qy), .val (.ref bd), .unset] []))
          have hcn1 : own_cnt (own_add own_nil ba.toInt.toNat) 1 := own_add_cnt hcn0 (by decide)
          refine g_iload X628 hx (hb hby at_161) rfl ?_
          have hc163_637 : ¬ ((1 : Int32) = (0 : Int32)) := (by decide)
          refine g_ifNo X628 hx (hb hby at_163) (feq hc163_637).1 ?_
          refine g_aload X628 hx (hb hby at_166) rfl rfl ?_
          refine g_iload X628 hx (hb hby at_168) rfl ?_
          refine g_lload X628 hx (hb hby at_170) rfl ?_
          refine g_lconst1 X628 hx (hb hby at_172) ?_
          obtain ⟨l638, hl638⟩ : ∃ v : Int64, q5 + (1 : Int64) = v := ⟨_, rfl⟩
          refine g_ladd X628 hx (hb hby at_173) hl638 ?_
          refine g_callV X628 hx hZ hown (hw _ (List.mem_of_getElem? (i := 27) rfl)) (hw _ (List.mem_of_getElem? (i := 28) rfl)) (hw _ (List.mem_of_getElem? (i := 30) rfl)) (hw _ (List.mem_of_getElem? (i := 29) rfl)) (hw _ (List.mem_of_getElem? (i := 3) rfl)) (hw _ (List.mem_of_getElem? (i := 31) rfl)) (by decide) (rma l Z a0 hw [] bd bb l638 en sz f634 (own_add own_nil ba.toInt.toNat) T627.heap n0 Z633 hOZ HB635 (fun k => ⟨(hcn1 k).1, by have := (hcn1 k).2; omega⟩) (by omega)) rfl (W := 0) (by decide) (by decide) (by rw [hml]; rfl) bd HB635.1 [(.int bb), (.long l638)] [] (lenOf pd0_3 rfl) rfl rfl (Nat.le_of_eq rfl) (hb hby at_174) (by decide) (by decide) ?_
          intro v643 T639 L642 X640 hQ641
          obtain ⟨rfl, N644, Z645, f646, HB647⟩ := hQ641
          have N648 := Fr.app N636 N644
          show Go p e below (Ret s (Q0 Z q0 q1 q2 q3 q4 q5 h0 n0) 24 16576) (T639.setTop (mkF m 177 #[.val (.int q0), .val (.int q1), .val (.int q2), .val (.int q3), .val (.int q4), .val (.long q5), .second, .val (.int ba), .val (.int bb), .val (.int bc), .val (.int (1 : Int32)), .val (.int (1 : Int32)), .val (.int (0 : Int32)), .val (.int i598), .val (.int qy), .val (.ref bd), .unset] []))
          have hcn2 : own_cnt (own_add (own_add own_nil ba.toInt.toNat) bb.toInt.toNat) 2 := own_add_cnt hcn1 (by decide)
          refine g_iload X640 hx (hb hby at_177) rfl ?_
          have hc179_649 : (0 : Int32) = (0 : Int32) := (by decide)
          refine g_ifYes X640 hx (hb hby at_179) (teq hc179_649).1 (by decide) (pc' := 193) (by decide) ?_
          refine g_sipush X640 hx (hb hby at_193) (v := (4096 : Int32)) (by decide) ?_
          refine g_istore X640 hx (hb hby at_196) (L' := #[.val (.int q0), .val (.int q1), .val (.int q2), .val (.int q3), .val (.int q4), .val (.long q5), .second, .val (.int ba), .val (.int bb), .val (.int bc), .val (.int (1 : Int32)), .val (.int (1 : Int32)), .val (.int (0 : Int32)), .val (.int i598), .val (.int qy), .val (.ref bd), .val (.int (4096 : Int32))]) rfl ?_
          refine g_iload X640 hx (hb hby at_198) rfl ?_
          have hc200_650 : ¬ ((1 : Int32) = (0 : Int32)) := (by decide)
          refine g_ifNo X640 hx (hb hby at_200) (feq hc200_650).1 ?_
          refine g_iload X640 hx (hb hby at_203) rfl ?_
          refine g_iload X640 hx (hb hby at_205) rfl ?_
          by_cases hc207_651 : ba < qy
          ·
            refine g_icmpYes X640 hx (hb hby at_207) (tlt hc207_651).1 (by decide) (pc' := 219) (by decide) ?_
            refine g_iload X640 hx (hb hby at_219) rfl ?_
            have hc221_652 : ¬ ((1 : Int32) = (0 : Int32)) := (by decide)
            refine g_ifNo X640 hx (hb hby at_221) (feq hc221_652).1 ?_
            refine g_iload X640 hx (hb hby at_224) rfl ?_
            refine g_iload X640 hx (hb hby at_226) rfl ?_
            by_cases hc228_653 : bb < qy
            ·
              refine g_icmpYes X640 hx (hb hby at_228) (tlt hc228_653).1 (by decide) (pc' := 240) (by decide) ?_
              refine g_iload X640 hx (hb hby at_240) rfl ?_
              have hc242_654 : (0 : Int32) = (0 : Int32) := (by decide)
              refine g_ifYes X640 hx (hb hby at_242) (teq hc242_654).1 (by decide) (pc' := 261) (by decide) ?_
              refine g_aload X640 hx (hb hby at_261) rfl rfl ?_
              refine g_iload X640 hx (hb hby at_263) rfl ?_
              refine g_callV X640 hx hZ hown (hw _ (List.mem_of_getElem? (i := 22) rfl)) (hw _ (List.mem_of_getElem? (i := 23) rfl)) (hw _ (List.mem_of_getElem? (i := 25) rfl)) (hw _ (List.mem_of_getElem? (i := 24) rfl)) (hw _ (List.mem_of_getElem? (i := 3) rfl)) (hw _ (List.mem_of_getElem? (i := 26) rfl)) (by decide) (rmn l Z a0 hw [] bd qy sz (own_add (own_add own_nil ba.toInt.toNat) bb.toInt.toNat) T639.heap n0 Z645 HB647.2.2.1 HB647.2.2.2.2.2.2.1 hqy) rfl (W := 0) (by decide) (by decide) (by rw [hml]; rfl) bd HB647.1 [(.int qy)] [] (lenOf pd0_1 rfl) rfl rfl (Nat.le_of_eq rfl) (hb hby at_265) (by decide) (by decide) ?_
              intro v659 T655 L658 X656 hQ657
              obtain ⟨got, ⟨rfl, k1, k2, k3, k4⟩, N660, e661⟩ := hQ657
              have N662 := Fr.app N648 N660
              show Go p e below (Ret s (Q0 Z q0 q1 q2 q3 q4 q5 h0 n0) 24 16576) (T655.setTop (mkF m 268 #[.val (.int q0), .val (.int q1), .val (.int q2), .val (.int q3), .val (.int q4), .val (.long q5), .second, .val (.int ba), .val (.int bb), .val (.int bc), .val (.int (1 : Int32)), .val (.int (1 : Int32)), .val (.int (0 : Int32)), .val (.int i598), .val (.int qy), .val (.ref bd), .val (.int (4096 : Int32))] [(.int got)]))
              refine g_iload X656 hx (hb hby at_268) rfl ?_
              have hc270_663 : got = (4096 : Int32) := (by
                apply Int32.toInt_inj.mp
                have z4 : (4096 : Int32).toInt = 4096 := rfl
                have l_ba := Int32.lt_iff_toInt_lt.mp hc207_651
                have l_bb := Int32.lt_iff_toInt_lt.mp hc228_653
                have hz : ∀ k : Nat, (own_add (own_add own_nil ba.toInt.toNat) bb.toInt.toNat) k ≠ 0 ↔ (k = bb.toInt.toNat ∨ k = ba.toInt.toNat ∨ False) := by
                  intro k
                  rw [own_add_ne hcn1 (by decide)]
                  rw [own_add_ne hcn0 (by decide)]
                  simp [own_nil]
                refine own_found k1 k2 k3 k4 hqy.1 ?_ ?_
                · simp only [hz]; omega
                · intro k q1 q2 q3
                  rcases (hz k).mp q3 with q3 | q3 | q3 <;> first | exact q3.elim | omega)
              refine g_icmpNo X656 hx (hb hby at_270) (teq hc270_663).2 ?_
              refine g_iconst X656 hx (hb hby at_273) (v := (1 : Int32)) (by decide) ?_
              refine g_goto X656 hx (hb hby at_274) (by decide) (pc' := 278) (by decide) ?_
              refine g_ireturn X656 hx Bd.notSynchronized Bd.returns rfl (by simp) (hb hby at_278) (by decide) (by decide) ?_
              exact ⟨rfl, N662⟩
            ·
              refine g_icmpNo X640 hx (hb hby at_228) (flt hc228_653).1 ?_
              refine g_iload X640 hx (hb hby at_231) rfl ?_
              refine g_iload X640 hx (hb hby at_233) rfl ?_
              refine g_callS X640 hx hZ hown (hw _ (List.mem_of_getElem? (i := 34) rfl)) (hw _ (List.mem_of_getElem? (i := 35) rfl)) (hw _ (List.mem_of_getElem? (i := 36) rfl)) (hw _ (List.mem_of_getElem? (i := 37) rfl)) (by decide) (rmm l Z a0 hw [] (4096 : Int32) bb T639.heap n0 Z645) rfl (W := 0) (by decide) (by decide) (by rw [hml]; rfl) [(.int (4096 : Int32)), (.int bb)] [] (lenOf pd0_2 rfl) rfl rfl (Nat.le_of_eq rfl) (hb hby at_235) (by decide) (by decide) ?_
              intro v668 T664 L667 X665 hQ666
              obtain ⟨rfl, N669, e670⟩ := hQ666
              have N671 := Fr.app N648 N669
              show Go p e below (Ret s (Q0 Z q0 q1 q2 q3 q4 q5 h0 n0) 24 16576) (T664.setTop (mkF m 238 #[.val (.int q0), .val (.int q1), .val (.int q2), .val (.int q3), .val (.int q4), .val (.long q5), .second, .val (.int ba), .val (.int bb), .val (.int bc), .val (.int (1 : Int32)), .val (.int (1 : Int32)), .val (.int (0 : Int32)), .val (.int i598), .val (.int qy), .val (.ref bd), .val (.int (4096 : Int32))] [(.int (own_min (4096 : Int32) bb))]))
              refine g_istore X665 hx (hb hby at_238) (L' := #[.val (.int q0), .val (.int q1), .val (.int q2), .val (.int q3), .val (.int q4), .val (.long q5), .second, .val (.int ba), .val (.int bb), .val (.int bc), .val (.int (1 : Int32)), .val (.int (1 : Int32)), .val (.int (0 : Int32)), .val (.int i598), .val (.int qy), .val (.ref bd), .val (.int (own_min (4096 : Int32) bb))]) rfl ?_
              refine g_iload X665 hx (hb hby at_240) rfl ?_
              have hc242_672 : (0 : Int32) = (0 : Int32) := (by decide)
              refine g_ifYes X665 hx (hb hby at_242) (teq hc242_672).1 (by decide) (pc' := 261) (by decide) ?_
              refine g_aload X665 hx (hb hby at_261) rfl rfl ?_
              refine g_iload X665 hx (hb hby at_263) rfl ?_
              refine g_callV X665 hx hZ hown (hw _ (List.mem_of_getElem? (i := 22) rfl)) (hw _ (List.mem_of_getElem? (i := 23) rfl)) (hw _ (List.mem_of_getElem? (i := 25) rfl)) (hw _ (List.mem_of_getElem? (i := 24) rfl)) (hw _ (List.mem_of_getElem? (i := 3) rfl)) (hw _ (List.mem_of_getElem? (i := 26) rfl)) (by decide) (rmn l Z a0 hw [] bd qy sz (own_add (own_add own_nil ba.toInt.toNat) bb.toInt.toNat) T639.heap n0 Z645 HB647.2.2.1 HB647.2.2.2.2.2.2.1 hqy) e670 (W := 0) (by decide) (by decide) (by rw [hml]; rfl) bd HB647.1 [(.int qy)] [] (lenOf pd0_1 rfl) rfl rfl (Nat.le_of_eq rfl) (hb hby at_265) (by decide) (by decide) ?_
              intro v677 T673 L676 X674 hQ675
              obtain ⟨got, ⟨rfl, k1, k2, k3, k4⟩, N678, e679⟩ := hQ675
              have N680 := Fr.app N671 N678
              show Go p e below (Ret s (Q0 Z q0 q1 q2 q3 q4 q5 h0 n0) 24 16576) (T673.setTop (mkF m 268 #[.val (.int q0), .val (.int q1), .val (.int q2), .val (.int q3), .val (.int q4), .val (.long q5), .second, .val (.int ba), .val (.int bb), .val (.int bc), .val (.int (1 : Int32)), .val (.int (1 : Int32)), .val (.int (0 : Int32)), .val (.int i598), .val (.int qy), .val (.ref bd), .val (.int (own_min (4096 : Int32) bb))] [(.int got)]))
              refine g_iload X674 hx (hb hby at_268) rfl ?_
              have hc270_681 : got = (own_min (4096 : Int32) bb) := (by
                apply Int32.toInt_inj.mp
                have m0 := own_minT (4096 : Int32) bb
                have z4 : (4096 : Int32).toInt = 4096 := rfl
                have l_ba := Int32.lt_iff_toInt_lt.mp hc207_651
                have l_bb : ¬ bb.toInt < qy.toInt := fun z => hc228_653 (Int32.lt_iff_toInt_lt.mpr z)
                have hz : ∀ k : Nat, (own_add (own_add own_nil ba.toInt.toNat) bb.toInt.toNat) k ≠ 0 ↔ (k = bb.toInt.toNat ∨ k = ba.toInt.toNat ∨ False) := by
                  intro k
                  rw [own_add_ne hcn1 (by decide)]
                  rw [own_add_ne hcn0 (by decide)]
                  simp [own_nil]
                refine own_found k1 k2 k3 k4 hqy.1 ?_ ?_
                · simp only [hz]; omega
                · intro k q1 q2 q3
                  rcases (hz k).mp q3 with q3 | q3 | q3 <;> first | exact q3.elim | omega)
              refine g_icmpNo X674 hx (hb hby at_270) (teq hc270_681).2 ?_
              refine g_iconst X674 hx (hb hby at_273) (v := (1 : Int32)) (by decide) ?_
              refine g_goto X674 hx (hb hby at_274) (by decide) (pc' := 278) (by decide) ?_
              refine g_ireturn X674 hx Bd.notSynchronized Bd.returns rfl (by simp) (hb hby at_278) (by decide) (by decide) ?_
              exact ⟨rfl, N680⟩
          ·
            refine g_icmpNo X640 hx (hb hby at_207) (flt hc207_651).1 ?_
            refine g_iload X640 hx (hb hby at_210) rfl ?_
            refine g_iload X640 hx (hb hby at_212) rfl ?_
            refine g_callS X640 hx hZ hown (hw _ (List.mem_of_getElem? (i := 34) rfl)) (hw _ (List.mem_of_getElem? (i := 35) rfl)) (hw _ (List.mem_of_getElem? (i := 36) rfl)) (hw _ (List.mem_of_getElem? (i := 37) rfl)) (by decide) (rmm l Z a0 hw [] (4096 : Int32) ba T639.heap n0 Z645) rfl (W := 0) (by decide) (by decide) (by rw [hml]; rfl) [(.int (4096 : Int32)), (.int ba)] [] (lenOf pd0_2 rfl) rfl rfl (Nat.le_of_eq rfl) (hb hby at_214) (by decide) (by decide) ?_
            intro v686 T682 L685 X683 hQ684
            obtain ⟨rfl, N687, e688⟩ := hQ684
            have N689 := Fr.app N648 N687
            show Go p e below (Ret s (Q0 Z q0 q1 q2 q3 q4 q5 h0 n0) 24 16576) (T682.setTop (mkF m 217 #[.val (.int q0), .val (.int q1), .val (.int q2), .val (.int q3), .val (.int q4), .val (.long q5), .second, .val (.int ba), .val (.int bb), .val (.int bc), .val (.int (1 : Int32)), .val (.int (1 : Int32)), .val (.int (0 : Int32)), .val (.int i598), .val (.int qy), .val (.ref bd), .val (.int (4096 : Int32))] [(.int (own_min (4096 : Int32) ba))]))
            refine g_istore X683 hx (hb hby at_217) (L' := #[.val (.int q0), .val (.int q1), .val (.int q2), .val (.int q3), .val (.int q4), .val (.long q5), .second, .val (.int ba), .val (.int bb), .val (.int bc), .val (.int (1 : Int32)), .val (.int (1 : Int32)), .val (.int (0 : Int32)), .val (.int i598), .val (.int qy), .val (.ref bd), .val (.int (own_min (4096 : Int32) ba))]) rfl ?_
            refine g_iload X683 hx (hb hby at_219) rfl ?_
            have hc221_690 : ¬ ((1 : Int32) = (0 : Int32)) := (by decide)
            refine g_ifNo X683 hx (hb hby at_221) (feq hc221_690).1 ?_
            refine g_iload X683 hx (hb hby at_224) rfl ?_
            refine g_iload X683 hx (hb hby at_226) rfl ?_
            by_cases hc228_691 : bb < qy
            ·
              refine g_icmpYes X683 hx (hb hby at_228) (tlt hc228_691).1 (by decide) (pc' := 240) (by decide) ?_
              refine g_iload X683 hx (hb hby at_240) rfl ?_
              have hc242_692 : (0 : Int32) = (0 : Int32) := (by decide)
              refine g_ifYes X683 hx (hb hby at_242) (teq hc242_692).1 (by decide) (pc' := 261) (by decide) ?_
              refine g_aload X683 hx (hb hby at_261) rfl rfl ?_
              refine g_iload X683 hx (hb hby at_263) rfl ?_
              refine g_callV X683 hx hZ hown (hw _ (List.mem_of_getElem? (i := 22) rfl)) (hw _ (List.mem_of_getElem? (i := 23) rfl)) (hw _ (List.mem_of_getElem? (i := 25) rfl)) (hw _ (List.mem_of_getElem? (i := 24) rfl)) (hw _ (List.mem_of_getElem? (i := 3) rfl)) (hw _ (List.mem_of_getElem? (i := 26) rfl)) (by decide) (rmn l Z a0 hw [] bd qy sz (own_add (own_add own_nil ba.toInt.toNat) bb.toInt.toNat) T639.heap n0 Z645 HB647.2.2.1 HB647.2.2.2.2.2.2.1 hqy) e688 (W := 0) (by decide) (by decide) (by rw [hml]; rfl) bd HB647.1 [(.int qy)] [] (lenOf pd0_1 rfl) rfl rfl (Nat.le_of_eq rfl) (hb hby at_265) (by decide) (by decide) ?_
              intro v697 T693 L696 X694 hQ695
              obtain ⟨got, ⟨rfl, k1, k2, k3, k4⟩, N698, e699⟩ := hQ695
              have N700 := Fr.app N689 N698
              show Go p e below (Ret s (Q0 Z q0 q1 q2 q3 q4 q5 h0 n0) 24 16576) (T693.setTop (mkF m 268 #[.val (.int q0), .val (.int q1), .val (.int q2), .val (.int q3), .val (.int q4), .val (.long q5), .second, .val (.int ba), .val (.int bb), .val (.int bc), .val (.int (1 : Int32)), .val (.int (1 : Int32)), .val (.int (0 : Int32)), .val (.int i598), .val (.int qy), .val (.ref bd), .val (.int (own_min (4096 : Int32) ba))] [(.int got)]))
              refine g_iload X694 hx (hb hby at_268) rfl ?_
              have hc270_701 : got = (own_min (4096 : Int32) ba) := (by
                apply Int32.toInt_inj.mp
                have m0 := own_minT (4096 : Int32) ba
                have z4 : (4096 : Int32).toInt = 4096 := rfl
                have l_ba : ¬ ba.toInt < qy.toInt := fun z => hc207_651 (Int32.lt_iff_toInt_lt.mpr z)
                have l_bb := Int32.lt_iff_toInt_lt.mp hc228_691
                have hz : ∀ k : Nat, (own_add (own_add own_nil ba.toInt.toNat) bb.toInt.toNat) k ≠ 0 ↔ (k = bb.toInt.toNat ∨ k = ba.toInt.toNat ∨ False) := by
                  intro k
                  rw [own_add_ne hcn1 (by decide)]
                  rw [own_add_ne hcn0 (by decide)]
                  simp [own_nil]
                refine own_found k1 k2 k3 k4 hqy.1 ?_ ?_
                · simp only [hz]; omega
                · intro k q1 q2 q3
                  rcases (hz k).mp q3 with q3 | q3 | q3 <;> first | exact q3.elim | omega)
              refine g_icmpNo X694 hx (hb hby at_270) (teq hc270_701).2 ?_
              refine g_iconst X694 hx (hb hby at_273) (v := (1 : Int32)) (by decide) ?_
              refine g_goto X694 hx (hb hby at_274) (by decide) (pc' := 278) (by decide) ?_
              refine g_ireturn X694 hx Bd.notSynchronized Bd.returns rfl (by simp) (hb hby at_278) (by decide) (by decide) ?_
              exact ⟨rfl, N700⟩
            ·
              refine g_icmpNo X683 hx (hb hby at_228) (flt hc228_691).1 ?_
              refine g_iload X683 hx (hb hby at_231) rfl ?_
              refine g_iload X683 hx (hb hby at_233) rfl ?_
              refine g_callS X683 hx hZ hown (hw _ (List.mem_of_getElem? (i := 34) rfl)) (hw _ (List.mem_of_getElem? (i := 35) rfl)) (hw _ (List.mem_of_getElem? (i := 36) rfl)) (hw _ (List.mem_of_getElem? (i := 37) rfl)) (by decide) (rmm l Z a0 hw [] (own_min (4096 : Int32) ba) bb T639.heap n0 Z645) e688 (W := 0) (by decide) (by decide) (by rw [hml]; rfl) [(.int (own_min (4096 : Int32) ba)), (.int bb)] [] (lenOf pd0_2 rfl) rfl rfl (Nat.le_of_eq rfl) (hb hby at_235) (by decide) (by decide) ?_
              intro v706 T702 L705 X703 hQ704
              obtain ⟨rfl, N707, e708⟩ := hQ704
              have N709 := Fr.app N689 N707
              show Go p e below (Ret s (Q0 Z q0 q1 q2 q3 q4 q5 h0 n0) 24 16576) (T702.setTop (mkF m 238 #[.val (.int q0), .val (.int q1), .val (.int q2), .val (.int q3), .val (.int q4), .val (.long q5), .second, .val (.int ba), .val (.int bb), .val (.int bc), .val (.int (1 : Int32)), .val (.int (1 : Int32)), .val (.int (0 : Int32)), .val (.int i598), .val (.int qy), .val (.ref bd), .val (.int (own_min (4096 : Int32) ba))] [(.int (own_min (own_min (4096 : Int32) ba) bb))]))
              refine g_istore X703 hx (hb hby at_238) (L' := #[.val (.int q0), .val (.int q1), .val (.int q2), .val (.int q3), .val (.int q4), .val (.long q5), .second, .val (.int ba), .val (.int bb), .val (.int bc), .val (.int (1 : Int32)), .val (.int (1 : Int32)), .val (.int (0 : Int32)), .val (.int i598), .val (.int qy), .val (.ref bd), .val (.int (own_min (own_min (4096 : Int32) ba) bb))]) rfl ?_
              refine g_iload X703 hx (hb hby at_240) rfl ?_
              have hc242_710 : (0 : Int32) = (0 : Int32) := (by decide)
              refine g_ifYes X703 hx (hb hby at_242) (teq hc242_710).1 (by decide) (pc' := 261) (by decide) ?_
              refine g_aload X703 hx (hb hby at_261) rfl rfl ?_
              refine g_iload X703 hx (hb hby at_263) rfl ?_
              refine g_callV X703 hx hZ hown (hw _ (List.mem_of_getElem? (i := 22) rfl)) (hw _ (List.mem_of_getElem? (i := 23) rfl)) (hw _ (List.mem_of_getElem? (i := 25) rfl)) (hw _ (List.mem_of_getElem? (i := 24) rfl)) (hw _ (List.mem_of_getElem? (i := 3) rfl)) (hw _ (List.mem_of_getElem? (i := 26) rfl)) (by decide) (rmn l Z a0 hw [] bd qy sz (own_add (own_add own_nil ba.toInt.toNat) bb.toInt.toNat) T639.heap n0 Z645 HB647.2.2.1 HB647.2.2.2.2.2.2.1 hqy) e708 (W := 0) (by decide) (by decide) (by rw [hml]; rfl) bd HB647.1 [(.int qy)] [] (lenOf pd0_1 rfl) rfl rfl (Nat.le_of_eq rfl) (hb hby at_265) (by decide) (by decide) ?_
              intro v715 T711 L714 X712 hQ713
              obtain ⟨got, ⟨rfl, k1, k2, k3, k4⟩, N716, e717⟩ := hQ713
              have N718 := Fr.app N709 N716
              show Go p e below (Ret s (Q0 Z q0 q1 q2 q3 q4 q5 h0 n0) 24 16576) (T711.setTop (mkF m 268 #[.val (.int q0), .val (.int q1), .val (.int q2), .val (.int q3), .val (.int q4), .val (.long q5), .second, .val (.int ba), .val (.int bb), .val (.int bc), .val (.int (1 : Int32)), .val (.int (1 : Int32)), .val (.int (0 : Int32)), .val (.int i598), .val (.int qy), .val (.ref bd), .val (.int (own_min (own_min (4096 : Int32) ba) bb))] [(.int got)]))
              refine g_iload X712 hx (hb hby at_268) rfl ?_
              have hc270_719 : got = (own_min (own_min (4096 : Int32) ba) bb) := (by
                apply Int32.toInt_inj.mp
                have m0 := own_minT (own_min (4096 : Int32) ba) bb
                have m1 := own_minT (4096 : Int32) ba
                have z4 : (4096 : Int32).toInt = 4096 := rfl
                have l_ba : ¬ ba.toInt < qy.toInt := fun z => hc207_651 (Int32.lt_iff_toInt_lt.mpr z)
                have l_bb : ¬ bb.toInt < qy.toInt := fun z => hc228_691 (Int32.lt_iff_toInt_lt.mpr z)
                have hz : ∀ k : Nat, (own_add (own_add own_nil ba.toInt.toNat) bb.toInt.toNat) k ≠ 0 ↔ (k = bb.toInt.toNat ∨ k = ba.toInt.toNat ∨ False) := by
                  intro k
                  rw [own_add_ne hcn1 (by decide)]
                  rw [own_add_ne hcn0 (by decide)]
                  simp [own_nil]
                refine own_found k1 k2 k3 k4 hqy.1 ?_ ?_
                · simp only [hz]; omega
                · intro k q1 q2 q3
                  rcases (hz k).mp q3 with q3 | q3 | q3 <;> first | exact q3.elim | omega)
              refine g_icmpNo X712 hx (hb hby at_270) (teq hc270_719).2 ?_
              refine g_iconst X712 hx (hb hby at_273) (v := (1 : Int32)) (by decide) ?_
              refine g_goto X712 hx (hb hby at_274) (by decide) (pc' := 278) (by decide) ?_
              refine g_ireturn X712 hx Bd.notSynchronized Bd.returns rfl (by simp) (hb hby at_278) (by decide) (by decide) ?_
              exact ⟨rfl, N718⟩
        by_cases hc82_720 : i598 = (0 : Int32)
        ·
          refine g_ifNo X0 hx (hb hby at_82) (teq hc82_720).2 ?_
          refine g_iloadN X0 hx (hb hby at_85) rfl ?_
          refine g_ldcI X0 hx hZ hown (hw _ (List.mem_of_getElem? (i := 0) rfl)) (hb hby at_86) ?_
          obtain ⟨i721, hi721⟩ : ∃ v : Int32, q3 &&& (2147483647 : Int32) = v := ⟨_, rfl⟩
          refine g_iand X0 hx (hb hby at_88) hi721 ?_
          refine g_sipush X0 hx (hb hby at_89) (v := (4097 : Int32)) (by decide) ?_
          obtain ⟨qm, hqm⟩ : ∃ v : Int32, i721 % (4097 : Int32) = v := ⟨_, rfl⟩
          refine g_irem X0 hx (hb hby at_92) (by decide) hqm ?_
          have b_qm : 0 ≤ qm.toInt ∧ qm.toInt < 4097 := by
            have a := c_and q3 (2147483647 : Int32) (by decide)
            rw [hi721] at a
            have b := (c_iremV i721 (4097 : Int32)).1 a.1 (by decide)
            rw [hqm] at b
            have z : (4097 : Int32).toInt = 4097 := rfl
            omega
          refine g_istore X0 hx (hb hby at_93) (L' := #[.val (.int q0), .val (.int q1), .val (.int q2), .val (.int q3), .val (.int q4), .val (.long q5), .second, .val (.int ba), .val (.int bb), .val (.int bc), .val (.int (1 : Int32)), .val (.int (1 : Int32)), .val (.int (0 : Int32)), .val (.int i598), .val (.int qm), .unset, .unset]) rfl ?_
          refine g_goto X0 hx (hb hby at_95) (by decide) (pc' := 136) (by decide) ?_
          exact J136 _ _ X0 e0 N0 qm (by omega)
        ·
          refine g_ifYes X0 hx (hb hby at_82) (feq hc82_720).2 (by decide) (pc' := 98) (by decide) ?_
          refine g_iload X0 hx (hb hby at_98) rfl ?_
          refine g_iconst X0 hx (hb hby at_100) (v := (1 : Int32)) (by decide) ?_
          by_cases hc101_722 : i598 = (1 : Int32)
          ·
            refine g_icmpNo X0 hx (hb hby at_101) (teq hc101_722).2 ?_
            refine g_iload X0 hx (hb hby at_104) rfl ?_
            refine g_istore X0 hx (hb hby at_106) (L' := #[.val (.int q0), .val (.int q1), .val (.int q2), .val (.int q3), .val (.int q4), .val (.long q5), .second, .val (.int ba), .val (.int bb), .val (.int bc), .val (.int (1 : Int32)), .val (.int (1 : Int32)), .val (.int (0 : Int32)), .val (.int i598), .val (.int ba), .unset, .unset]) rfl ?_
            refine g_goto X0 hx (hb hby at_108) (by decide) (pc' := 136) (by decide) ?_
            exact J136 _ _ X0 e0 N0 ba (by omega)
          ·
            refine g_icmpYes X0 hx (hb hby at_101) (feq hc101_722).2 (by decide) (pc' := 111) (by decide) ?_
            refine g_iload X0 hx (hb hby at_111) rfl ?_
            refine g_iconst X0 hx (hb hby at_113) (v := (2 : Int32)) (by decide) ?_
            by_cases hc114_723 : i598 = (2 : Int32)
            ·
              refine g_icmpNo X0 hx (hb hby at_114) (teq hc114_723).2 ?_
              refine g_iload X0 hx (hb hby at_117) rfl ?_
              refine g_iconst X0 hx (hb hby at_119) (v := (1 : Int32)) (by decide) ?_
              obtain ⟨ba1, hba1⟩ : ∃ v : Int32, ba + (1 : Int32) = v := ⟨_, rfl⟩
              refine g_iadd X0 hx (hb hby at_120) hba1 ?_
              refine g_istore X0 hx (hb hby at_121) (L' := #[.val (.int q0), .val (.int q1), .val (.int q2), .val (.int q3), .val (.int q4), .val (.long q5), .second, .val (.int ba), .val (.int bb), .val (.int bc), .val (.int (1 : Int32)), .val (.int (1 : Int32)), .val (.int (0 : Int32)), .val (.int i598), .val (.int ba1), .unset, .unset]) rfl ?_
              refine g_goto X0 hx (hb hby at_123) (by decide) (pc' := 136) (by decide) ?_
              exact J136 _ _ X0 e0 N0 ba1 (by
                have a := c_iadd ba 1; rw [hba1] at a
                have z : (1 : Int32).toInt = 1 := rfl
                have r := rng32 ba1
                omega)
            ·
              refine g_icmpYes X0 hx (hb hby at_114) (feq hc114_723).2 (by decide) (pc' := 126) (by decide) ?_
              refine g_iconst X0 hx (hb hby at_126) (v := (0 : Int32)) (by decide) ?_
              refine g_iload X0 hx (hb hby at_127) rfl ?_
              refine g_iconst X0 hx (hb hby at_129) (v := (1 : Int32)) (by decide) ?_
              obtain ⟨bam, hbam⟩ : ∃ v : Int32, ba - (1 : Int32) = v := ⟨_, rfl⟩
              refine g_isub X0 hx (hb hby at_130) hbam ?_
              refine g_callS X0 hx hZ hown (hw _ (List.mem_of_getElem? (i := 38) rfl)) (hw _ (List.mem_of_getElem? (i := 39) rfl)) (hw _ (List.mem_of_getElem? (i := 36) rfl)) (hw _ (List.mem_of_getElem? (i := 40) rfl)) (by decide) (rmx l Z a0 hw [] (0 : Int32) bam h0 n0 Z0) e0 (W := 0) (by decide) (by decide) (by rw [hml]; rfl) [(.int (0 : Int32)), (.int bam)] [] (lenOf pd0_2 rfl) rfl rfl (Nat.le_of_eq rfl) (hb hby at_131) (by decide) (by decide) ?_
              intro v728 T724 L727 X725 hQ726
              obtain ⟨rfl, N729, e730⟩ := hQ726
              have N731 := Fr.app N0 N729
              show Go p e below (Ret s (Q0 Z q0 q1 q2 q3 q4 q5 h0 n0) 24 16576) (T724.setTop (mkF m 134 #[.val (.int q0), .val (.int q1), .val (.int q2), .val (.int q3), .val (.int q4), .val (.long q5), .second, .val (.int ba), .val (.int bb), .val (.int bc), .val (.int (1 : Int32)), .val (.int (1 : Int32)), .val (.int (0 : Int32)), .val (.int i598), .unset, .unset, .unset] [(.int (own_max (0 : Int32) bam))]))
              refine g_istore X725 hx (hb hby at_134) (L' := #[.val (.int q0), .val (.int q1), .val (.int q2), .val (.int q3), .val (.int q4), .val (.long q5), .second, .val (.int ba), .val (.int bb), .val (.int bc), .val (.int (1 : Int32)), .val (.int (1 : Int32)), .val (.int (0 : Int32)), .val (.int i598), .val (.int (own_max (0 : Int32) bam)), .unset, .unset]) rfl ?_
              exact J136 _ _ X725 e730 N731 (own_max (0 : Int32) bam) (by
                rw [own_maxT]
                have a := c_isub ba 1; rw [hbam] at a
                have z : (1 : Int32).toInt = 1 := rfl
                have z0 : (0 : Int32).toInt = 0 := rfl
                have r := rng32 bam
                omega)
      ·
        refine g_ifNo X0 hx (hb hby at_62) (feq hc62_596).1 ?_
        refine g_iconst X0 hx (hb hby at_65) (v := (1 : Int32)) (by decide) ?_
        refine g_goto X0 hx (hb hby at_66) (by decide) (pc' := 70) (by decide) ?_
        refine g_istore X0 hx (hb hby at_70) (L' := #[.val (.int q0), .val (.int q1), .val (.int q2), .val (.int q3), .val (.int q4), .val (.long q5), .second, .val (.int ba), .val (.int bb), .val (.int bc), .val (.int (1 : Int32)), .val (.int (1 : Int32)), .val (.int (1 : Int32)), .unset, .unset, .unset, .unset]) rfl ?_
        refine g_iload X0 hx (hb hby at_72) rfl ?_
        refine g_iconst X0 hx (hb hby at_74) (v := (3 : Int32)) (by decide) ?_
        obtain ⟨i732, hi732⟩ : ∃ v : Int32, (q4.toUInt32 >>> ((3 : Int32) &&& 31).toUInt32).toInt32 = v := ⟨_, rfl⟩
        refine g_iushr X0 hx (hb hby at_75) hi732 ?_
        refine g_iconst X0 hx (hb hby at_76) (v := (3 : Int32)) (by decide) ?_
        obtain ⟨i733, hi733⟩ : ∃ v : Int32, i732 &&& (3 : Int32) = v := ⟨_, rfl⟩
        refine g_iand X0 hx (hb hby at_77) hi733 ?_
        refine g_istore X0 hx (hb hby at_78) (L' := #[.val (.int q0), .val (.int q1), .val (.int q2), .val (.int q3), .val (.int q4), .val (.long q5), .second, .val (.int ba), .val (.int bb), .val (.int bc), .val (.int (1 : Int32)), .val (.int (1 : Int32)), .val (.int (1 : Int32)), .val (.int i733), .unset, .unset, .unset]) rfl ?_
        refine g_iload X0 hx (hb hby at_80) rfl ?_
        have J136 : ∀ (T734 : State) (lo738 : List Loc) (_ : Stand p l e room_1 s m #[(.int q0), (.int q1), (.int q2), (.int q3), (.int q4), (.long q5)] below meth c T734 lo738 0 0) (_ : T734.heap = h0) (_ : Fr n0 lo738) (qy : Int32), 0 ≤ qy.toInt ∧ qy.toInt ≤ 4096 → Go p e below (Ret s (Q0 Z q0 q1 q2 q3 q4 q5 h0 n0) 24 16576) (T734.setTop (mkF m 136 #[.val (.int q0), .val (.int q1), .val (.int q2), .val (.int q3), .val (.int q4), .val (.long q5), .second, .val (.int ba), .val (.int bb), .val (.int bc), .val (.int (1 : Int32)), .val (.int (1 : Int32)), .val (.int (1 : Int32)), .val (.int i733), .val (.int qy), .unset, .unset] [])) := by
          intro T734 lo738 X735 e736 N737 qy hqy
          refine g_new X735 hx hZ hown (hw _ (List.mem_of_getElem? (i := 1) rfl)) (hw _ (List.mem_of_getElem? (i := 2) rfl)) (hw _ (List.mem_of_getElem? (i := 3) rfl)) e736 (hb hby at_136) (by decide) (by decide) ?_
          intro T739 h742 bd gbd X740 e741 E743 F744 D745
          have ge_bd : n0 ≤ bd := by rw [gbd]; exact Z0
          have Z747 : n0 ≤ h742.size := Nat.le_trans Z0 E743.1
          have F749 : Fld Z h742 bd "com/example/skywright/skywright/search/Bands" "entries" "[[J" .null := D745 (Or.inr (hw _ (List.mem_of_getElem? (i := 13) rfl))) (ty := (.array (.array .long))) (by decide)
          refine g_dup X740 hx (hb hby at_139) rfl ?_
          refine g_dconst0 X740 hx (hb hby at_140) ?_
          refine g_dconst1 X740 hx (hb hby at_141) ?_
          refine g_init X740 hx hZ hown rfl (hw _ (List.mem_of_getElem? (i := 4) rfl)) (hw _ (List.mem_of_getElem? (i := 5) rfl)) (hw _ (List.mem_of_getElem? (i := 3) rfl)) (hw _ (List.mem_of_getElem? (i := 6) rfl)) (by decide) (rmi l Z a0 hw [] bd h742 n0 Z747 F744 F749 ge_bd) e741 (W := 1) (by decide) (by decide) (by rw [hml]; rfl) bd [(.double (0 : UInt64)), (.double (4607182418800017408 : UInt64))] [(.ref bd)] (lenOf pd0_0 rfl) rfl rfl (Nat.le_of_eq rfl) (hb hby at_142) (by decide) (by decide) ?_
          intro v755 T751 L754 X752 hQ753
          obtain ⟨rfl, N756, Z757, hOZ, en, sz, f758, HB759⟩ := hQ753
          have N760 := Fr.app N737 N756
          show Go p e below (Ret s (Q0 Z q0 q1 q2 q3 q4 q5 h0 n0) 24 16576) (T751.setTop (mkF m 145 #[.val (.int q0), .val (.int q1), .val (.int q2), .val (.int q3), .val (.int q4), .val (.long q5), .second, .val (.int ba), .val (.int bb), .val (.int bc), .val (.int (1 : Int32)), .val (.int (1 : Int32)), .val (.int (1 : Int32)), .val (.int i733), .val (.int qy), .unset, .unset] [(.ref bd)]))
          have hcn0 := own_zero_cnt
          refine g_astore X752 hx (hb hby at_145) rfl (L' := #[.val (.int q0), .val (.int q1), .val (.int q2), .val (.int q3), .val (.int q4), .val (.long q5), .second, .val (.int ba), .val (.int bb), .val (.int bc), .val (.int (1 : Int32)), .val (.int (1 : Int32)), .val (.int (1 : Int32)), .val (.int i733), .val (.int qy), .val (.ref bd), .unset]) rfl ?_
          refine g_iload X752 hx (hb hby at_147) rfl ?_
          have hc149_761 : ¬ ((1 : Int32) = (0 : Int32)) := (by decide)
          refine g_ifNo X752 hx (hb hby at_149) (feq hc149_761).1 ?_
          refine g_aload X752 hx (hb hby at_152) rfl rfl ?_
          refine g_iload X752 hx (hb hby at_154) rfl ?_
          refine g_lload X752 hx (hb hby at_156) rfl ?_
          refine g_callV X752 hx hZ hown (hw _ (List.mem_of_getElem? (i := 27) rfl)) (hw _ (List.mem_of_getElem? (i := 28) rfl)) (hw _ (List.mem_of_getElem? (i := 30) rfl)) (hw _ (List.mem_of_getElem? (i := 29) rfl)) (hw _ (List.mem_of_getElem? (i := 3) rfl)) (hw _ (List.mem_of_getElem? (i := 31) rfl)) (by decide) (rma l Z a0 hw [] bd ba q5 en sz f758 own_nil T751.heap n0 Z757 hOZ HB759 (fun k => ⟨(hcn0 k).1, by have := (hcn0 k).2; omega⟩) (by omega)) rfl (W := 0) (by decide) (by decide) (by rw [hml]; rfl) bd HB759.1 [(.int ba), (.long q5)] [] (lenOf pd0_3 rfl) rfl rfl (Nat.le_of_eq rfl) (hb hby at_158) (by decide) (by decide) ?_
          intro v766 T762 L765 X763 hQ764
          obtain ⟨rfl, N767, Z768, f769, HB770⟩ := hQ764
          have N771 := Fr.app N760 N767
          show Go p e below (Ret s (Q0 Z q0 q1 q2 q3 q4 q5 h0 n0) 24 16576) (T762.setTop (mkF m 161 #[.val (.int q0), .val (.int q1), .val (.int q2), .val (.int q3), .val (.int q4), .val (.long q5), .second, .val (.int ba), .val (.int bb), .val (.int bc), .val (.int (1 : Int32)), .val (.int (1 : Int32)), .val (.int (1 : Int32)), .val (.int i733), .val (.int qy), .val (.ref bd), .unset] []))
          have hcn1 : own_cnt (own_add own_nil ba.toInt.toNat) 1 := own_add_cnt hcn0 (by decide)
          refine g_iload X763 hx (hb hby at_161) rfl ?_
          have hc163_772 : ¬ ((1 : Int32) = (0 : Int32)) := (by decide)
          refine g_ifNo X763 hx (hb hby at_163) (feq hc163_772).1 ?_
          refine g_aload X763 hx (hb hby at_166) rfl rfl ?_
          refine g_iload X763 hx (hb hby at_168) rfl ?_
          refine g_lload X763 hx (hb hby at_170) rfl ?_
          refine g_lconst1 X763 hx (hb hby at_172) ?_
          obtain ⟨l773, hl773⟩ : ∃ v : Int64, q5 + (1 : Int64) = v := ⟨_, rfl⟩
          refine g_ladd X763 hx (hb hby at_173) hl773 ?_
          refine g_callV X763 hx hZ hown (hw _ (List.mem_of_getElem? (i := 27) rfl)) (hw _ (List.mem_of_getElem? (i := 28) rfl)) (hw _ (List.mem_of_getElem? (i := 30) rfl)) (hw _ (List.mem_of_getElem? (i := 29) rfl)) (hw _ (List.mem_of_getElem? (i := 3) rfl)) (hw _ (List.mem_of_getElem? (i := 31) rfl)) (by decide) (rma l Z a0 hw [] bd bb l773 en sz f769 (own_add own_nil ba.toInt.toNat) T762.heap n0 Z768 hOZ HB770 (fun k => ⟨(hcn1 k).1, by have := (hcn1 k).2; omega⟩) (by omega)) rfl (W := 0) (by decide) (by decide) (by rw [hml]; rfl) bd HB770.1 [(.int bb), (.long l773)] [] (lenOf pd0_3 rfl) rfl rfl (Nat.le_of_eq rfl) (hb hby at_174) (by decide) (by decide) ?_
          intro v778 T774 L777 X775 hQ776
          obtain ⟨rfl, N779, Z780, f781, HB782⟩ := hQ776
          have N783 := Fr.app N771 N779
          show Go p e below (Ret s (Q0 Z q0 q1 q2 q3 q4 q5 h0 n0) 24 16576) (T774.setTop (mkF m 177 #[.val (.int q0), .val (.int q1), .val (.int q2), .val (.int q3), .val (.int q4), .val (.long q5), .second, .val (.int ba), .val (.int bb), .val (.int bc), .val (.int (1 : Int32)), .val (.int (1 : Int32)), .val (.int (1 : Int32)), .val (.int i733), .val (.int qy), .val (.ref bd), .unset] []))
          have hcn2 : own_cnt (own_add (own_add own_nil ba.toInt.toNat) bb.toInt.toNat) 2 := own_add_cnt hcn1 (by decide)
          refine g_iload X775 hx (hb hby at_177) rfl ?_
          have hc179_784 : ¬ ((1 : Int32) = (0 : Int32)) := (by decide)
          refine g_ifNo X775 hx (hb hby at_179) (feq hc179_784).1 ?_
          refine g_aload X775 hx (hb hby at_182) rfl rfl ?_
          refine g_iload X775 hx (hb hby at_184) rfl ?_
          refine g_lload X775 hx (hb hby at_186) rfl ?_
          refine g_lconst1 X775 hx (hb hby at_188) ?_
          obtain ⟨l785, hl785⟩ : ∃ v : Int64, q5 - (1 : Int64) = v := ⟨_, rfl⟩
          refine g_lsub X775 hx (hb hby at_189) hl785 ?_
          refine g_callV X775 hx hZ hown (hw _ (List.mem_of_getElem? (i := 27) rfl)) (hw _ (List.mem_of_getElem? (i := 28) rfl)) (hw _ (List.mem_of_getElem? (i := 30) rfl)) (hw _ (List.mem_of_getElem? (i := 29) rfl)) (hw _ (List.mem_of_getElem? (i := 3) rfl)) (hw _ (List.mem_of_getElem? (i := 31) rfl)) (by decide) (rma l Z a0 hw [] bd bc l785 en sz f781 (own_add (own_add own_nil ba.toInt.toNat) bb.toInt.toNat) T774.heap n0 Z780 hOZ HB782 (fun k => ⟨(hcn2 k).1, by have := (hcn2 k).2; omega⟩) (by omega)) rfl (W := 0) (by decide) (by decide) (by rw [hml]; rfl) bd HB782.1 [(.int bc), (.long l785)] [] (lenOf pd0_3 rfl) rfl rfl (Nat.le_of_eq rfl) (hb hby at_190) (by decide) (by decide) ?_
          intro v790 T786 L789 X787 hQ788
          obtain ⟨rfl, N791, Z792, f793, HB794⟩ := hQ788
          have N795 := Fr.app N783 N791
          show Go p e below (Ret s (Q0 Z q0 q1 q2 q3 q4 q5 h0 n0) 24 16576) (T786.setTop (mkF m 193 #[.val (.int q0), .val (.int q1), .val (.int q2), .val (.int q3), .val (.int q4), .val (.long q5), .second, .val (.int ba), .val (.int bb), .val (.int bc), .val (.int (1 : Int32)), .val (.int (1 : Int32)), .val (.int (1 : Int32)), .val (.int i733), .val (.int qy), .val (.ref bd), .unset] []))
          have hcn3 : own_cnt (own_add (own_add (own_add own_nil ba.toInt.toNat) bb.toInt.toNat) bc.toInt.toNat) 3 := own_add_cnt hcn2 (by decide)
          refine g_sipush X787 hx (hb hby at_193) (v := (4096 : Int32)) (by decide) ?_
          refine g_istore X787 hx (hb hby at_196) (L' := #[.val (.int q0), .val (.int q1), .val (.int q2), .val (.int q3), .val (.int q4), .val (.long q5), .second, .val (.int ba), .val (.int bb), .val (.int bc), .val (.int (1 : Int32)), .val (.int (1 : Int32)), .val (.int (1 : Int32)), .val (.int i733), .val (.int qy), .val (.ref bd), .val (.int (4096 : Int32))]) rfl ?_
          refine g_iload X787 hx (hb hby at_198) rfl ?_
          have hc200_796 : ¬ ((1 : Int32) = (0 : Int32)) := (by decide)
          refine g_ifNo X787 hx (hb hby at_200) (feq hc200_796).1 ?_
          refine g_iload X787 hx (hb hby at_203) rfl ?_
          refine g_iload X787 hx (hb hby at_205) rfl ?_
          by_cases hc207_797 : ba < qy
          ·
            refine g_icmpYes X787 hx (hb hby at_207) (tlt hc207_797).1 (by decide) (pc' := 219) (by decide) ?_
            refine g_iload X787 hx (hb hby at_219) rfl ?_
            have hc221_798 : ¬ ((1 : Int32) = (0 : Int32)) := (by decide)
            refine g_ifNo X787 hx (hb hby at_221) (feq hc221_798).1 ?_
            refine g_iload X787 hx (hb hby at_224) rfl ?_
            refine g_iload X787 hx (hb hby at_226) rfl ?_
            by_cases hc228_799 : bb < qy
            ·
              refine g_icmpYes X787 hx (hb hby at_228) (tlt hc228_799).1 (by decide) (pc' := 240) (by decide) ?_
              refine g_iload X787 hx (hb hby at_240) rfl ?_
              have hc242_800 : ¬ ((1 : Int32) = (0 : Int32)) := (by decide)
              refine g_ifNo X787 hx (hb hby at_242) (feq hc242_800).1 ?_
              refine g_iload X787 hx (hb hby at_245) rfl ?_
              refine g_iload X787 hx (hb hby at_247) rfl ?_
              by_cases hc249_801 : bc < qy
              ·
                refine g_icmpYes X787 hx (hb hby at_249) (tlt hc249_801).1 (by decide) (pc' := 261) (by decide) ?_
                refine g_aload X787 hx (hb hby at_261) rfl rfl ?_
                refine g_iload X787 hx (hb hby at_263) rfl ?_
                refine g_callV X787 hx hZ hown (hw _ (List.mem_of_getElem? (i := 22) rfl)) (hw _ (List.mem_of_getElem? (i := 23) rfl)) (hw _ (List.mem_of_getElem? (i := 25) rfl)) (hw _ (List.mem_of_getElem? (i := 24) rfl)) (hw _ (List.mem_of_getElem? (i := 3) rfl)) (hw _ (List.mem_of_getElem? (i := 26) rfl)) (by decide) (rmn l Z a0 hw [] bd qy sz (own_add (own_add (own_add own_nil ba.toInt.toNat) bb.toInt.toNat) bc.toInt.toNat) T786.heap n0 Z792 HB794.2.2.1 HB794.2.2.2.2.2.2.1 hqy) rfl (W := 0) (by decide) (by decide) (by rw [hml]; rfl) bd HB794.1 [(.int qy)] [] (lenOf pd0_1 rfl) rfl rfl (Nat.le_of_eq rfl) (hb hby at_265) (by decide) (by decide) ?_
                intro v806 T802 L805 X803 hQ804
                obtain ⟨got, ⟨rfl, k1, k2, k3, k4⟩, N807, e808⟩ := hQ804
                have N809 := Fr.app N795 N807
                show Go p e below (Ret s (Q0 Z q0 q1 q2 q3 q4 q5 h0 n0) 24 16576) (T802.setTop (mkF m 268 #[.val (.int q0), .val (.int q1), .val (.int q2), .val (.int q3), .val (.int q4), .val (.long q5), .second, .val (.int ba), .val (.int bb), .val (.int bc), .val (.int (1 : Int32)), .val (.int (1 : Int32)), .val (.int (1 : Int32)), .val (.int i733), .val (.int qy), .val (.ref bd), .val (.int (4096 : Int32))] [(.int got)]))
                refine g_iload X803 hx (hb hby at_268) rfl ?_
                have hc270_810 : got = (4096 : Int32) := (by
                  apply Int32.toInt_inj.mp
                  have z4 : (4096 : Int32).toInt = 4096 := rfl
                  have l_ba := Int32.lt_iff_toInt_lt.mp hc207_797
                  have l_bb := Int32.lt_iff_toInt_lt.mp hc228_799
                  have l_bc := Int32.lt_iff_toInt_lt.mp hc249_801
                  have hz : ∀ k : Nat, (own_add (own_add (own_add own_nil ba.toInt.toNat) bb.toInt.toNat) bc.toInt.toNat) k ≠ 0 ↔ (k = bc.toInt.toNat ∨ k = bb.toInt.toNat ∨ k = ba.toInt.toNat ∨ False) := by
                    intro k
                    rw [own_add_ne hcn2 (by decide)]
                    rw [own_add_ne hcn1 (by decide)]
                    rw [own_add_ne hcn0 (by decide)]
                    simp [own_nil]
                  refine own_found k1 k2 k3 k4 hqy.1 ?_ ?_
                  · simp only [hz]; omega
                  · intro k q1 q2 q3
                    rcases (hz k).mp q3 with q3 | q3 | q3 | q3 <;> first | exact q3.elim | omega)
                refine g_icmpNo X803 hx (hb hby at_270) (teq hc270_810).2 ?_
                refine g_iconst X803 hx (hb hby at_273) (v := (1 : Int32)) (by decide) ?_
                refine g_goto X803 hx (hb hby at_274) (by decide) (pc' := 278) (by decide) ?_
                refine g_ireturn X803 hx Bd.notSynchronized Bd.returns rfl (by simp) (hb hby at_278) (by decide) (by decide) ?_
                exact ⟨rfl, N809⟩
              ·
                refine g_icmpNo X787 hx (hb hby at_249) (flt hc249_801).1 ?_
                refine g_iload X787 hx (hb hby at_252) rfl ?_
                refine g_iload X787 hx (hb hby at_254) rfl ?_
                refine g_callS X787 hx hZ hown (hw _ (List.mem_of_getElem? (i := 34) rfl)) (hw _ (List.mem_of_getElem? (i := 35) rfl)) (hw _ (List.mem_of_getElem? (i := 36) rfl)) (hw _ (List.mem_of_getElem? (i := 37) rfl)) (by decide) (rmm l Z a0 hw [] (4096 : Int32) bc T786.heap n0 Z792) rfl (W := 0) (by decide) (by decide) (by rw [hml]; rfl) [(.int (4096 : Int32)), (.int bc)] [] (lenOf pd0_2 rfl) rfl rfl (Nat.le_of_eq rfl) (hb hby at_256) (by decide) (by decide) ?_
                intro v815 T811 L814 X812 hQ813
                obtain ⟨rfl, N816, e817⟩ := hQ813
                have N818 := Fr.app N795 N816
                show Go p e below (Ret s (Q0 Z q0 q1 q2 q3 q4 q5 h0 n0) 24 16576) (T811.setTop (mkF m 259 #[.val (.int q0), .val (.int q1), .val (.int q2), .val (.int q3), .val (.int q4), .val (.long q5), .second, .val (.int ba), .val (.int bb), .val (.int bc), .val (.int (1 : Int32)), .val (.int (1 : Int32)), .val (.int (1 : Int32)), .val (.int i733), .val (.int qy), .val (.ref bd), .val (.int (4096 : Int32))] [(.int (own_min (4096 : Int32) bc))]))
                refine g_istore X812 hx (hb hby at_259) (L' := #[.val (.int q0), .val (.int q1), .val (.int q2), .val (.int q3), .val (.int q4), .val (.long q5), .second, .val (.int ba), .val (.int bb), .val (.int bc), .val (.int (1 : Int32)), .val (.int (1 : Int32)), .val (.int (1 : Int32)), .val (.int i733), .val (.int qy), .val (.ref bd), .val (.int (own_min (4096 : Int32) bc))]) rfl ?_
                refine g_aload X812 hx (hb hby at_261) rfl rfl ?_
                refine g_iload X812 hx (hb hby at_263) rfl ?_
                refine g_callV X812 hx hZ hown (hw _ (List.mem_of_getElem? (i := 22) rfl)) (hw _ (List.mem_of_getElem? (i := 23) rfl)) (hw _ (List.mem_of_getElem? (i := 25) rfl)) (hw _ (List.mem_of_getElem? (i := 24) rfl)) (hw _ (List.mem_of_getElem? (i := 3) rfl)) (hw _ (List.mem_of_getElem? (i := 26) rfl)) (by decide) (rmn l Z a0 hw [] bd qy sz (own_add (own_add (own_add own_nil ba.toInt.toNat) bb.toInt.toNat) bc.toInt.toNat) T786.heap n0 Z792 HB794.2.2.1 HB794.2.2.2.2.2.2.1 hqy) e817 (W := 0) (by decide) (by decide) (by rw [hml]; rfl) bd HB794.1 [(.int qy)] [] (lenOf pd0_1 rfl) rfl rfl (Nat.le_of_eq rfl) (hb hby at_265) (by decide) (by decide) ?_
                intro v823 T819 L822 X820 hQ821
                obtain ⟨got, ⟨rfl, k1, k2, k3, k4⟩, N824, e825⟩ := hQ821
                have N826 := Fr.app N818 N824
                show Go p e below (Ret s (Q0 Z q0 q1 q2 q3 q4 q5 h0 n0) 24 16576) (T819.setTop (mkF m 268 #[.val (.int q0), .val (.int q1), .val (.int q2), .val (.int q3), .val (.int q4), .val (.long q5), .second, .val (.int ba), .val (.int bb), .val (.int bc), .val (.int (1 : Int32)), .val (.int (1 : Int32)), .val (.int (1 : Int32)), .val (.int i733), .val (.int qy), .val (.ref bd), .val (.int (own_min (4096 : Int32) bc))] [(.int got)]))
                refine g_iload X820 hx (hb hby at_268) rfl ?_
                have hc270_827 : got = (own_min (4096 : Int32) bc) := (by
                  apply Int32.toInt_inj.mp
                  have m0 := own_minT (4096 : Int32) bc
                  have z4 : (4096 : Int32).toInt = 4096 := rfl
                  have l_ba := Int32.lt_iff_toInt_lt.mp hc207_797
                  have l_bb := Int32.lt_iff_toInt_lt.mp hc228_799
                  have l_bc : ¬ bc.toInt < qy.toInt := fun z => hc249_801 (Int32.lt_iff_toInt_lt.mpr z)
                  have hz : ∀ k : Nat, (own_add (own_add (own_add own_nil ba.toInt.toNat) bb.toInt.toNat) bc.toInt.toNat) k ≠ 0 ↔ (k = bc.toInt.toNat ∨ k = bb.toInt.toNat ∨ k = ba.toInt.toNat ∨ False) := by
                    intro k
                    rw [own_add_ne hcn2 (by decide)]
                    rw [own_add_ne hcn1 (by decide)]
                    rw [own_add_ne hcn0 (by decide)]
                    simp [own_nil]
                  refine own_found k1 k2 k3 k4 hqy.1 ?_ ?_
                  · simp only [hz]; omega
                  · intro k q1 q2 q3
                    rcases (hz k).mp q3 with q3 | q3 | q3 | q3 <;> first | exact q3.elim | omega)
                refine g_icmpNo X820 hx (hb hby at_270) (teq hc270_827).2 ?_
                refine g_iconst X820 hx (hb hby at_273) (v := (1 : Int32)) (by decide) ?_
                refine g_goto X820 hx (hb hby at_274) (by decide) (pc' := 278) (by decide) ?_
                refine g_ireturn X820 hx Bd.notSynchronized Bd.returns rfl (by simp) (hb hby at_278) (by decide) (by decide) ?_
                exact ⟨rfl, N826⟩
            ·
              refine g_icmpNo X787 hx (hb hby at_228) (flt hc228_799).1 ?_
              refine g_iload X787 hx (hb hby at_231) rfl ?_
              refine g_iload X787 hx (hb hby at_233) rfl ?_
              refine g_callS X787 hx hZ hown (hw _ (List.mem_of_getElem? (i := 34) rfl)) (hw _ (List.mem_of_getElem? (i := 35) rfl)) (hw _ (List.mem_of_getElem? (i := 36) rfl)) (hw _ (List.mem_of_getElem? (i := 37) rfl)) (by decide) (rmm l Z a0 hw [] (4096 : Int32) bb T786.heap n0 Z792) rfl (W := 0) (by decide) (by decide) (by rw [hml]; rfl) [(.int (4096 : Int32)), (.int bb)] [] (lenOf pd0_2 rfl) rfl rfl (Nat.le_of_eq rfl) (hb hby at_235) (by decide) (by decide) ?_
              intro v832 T828 L831 X829 hQ830
              obtain ⟨rfl, N833, e834⟩ := hQ830
              have N835 := Fr.app N795 N833
              show Go p e below (Ret s (Q0 Z q0 q1 q2 q3 q4 q5 h0 n0) 24 16576) (T828.setTop (mkF m 238 #[.val (.int q0), .val (.int q1), .val (.int q2), .val (.int q3), .val (.int q4), .val (.long q5), .second, .val (.int ba), .val (.int bb), .val (.int bc), .val (.int (1 : Int32)), .val (.int (1 : Int32)), .val (.int (1 : Int32)), .val (.int i733), .val (.int qy), .val (.ref bd), .val (.int (4096 : Int32))] [(.int (own_min (4096 : Int32) bb))]))
              refine g_istore X829 hx (hb hby at_238) (L' := #[.val (.int q0), .val (.int q1), .val (.int q2), .val (.int q3), .val (.int q4), .val (.long q5), .second, .val (.int ba), .val (.int bb), .val (.int bc), .val (.int (1 : Int32)), .val (.int (1 : Int32)), .val (.int (1 : Int32)), .val (.int i733), .val (.int qy), .val (.ref bd), .val (.int (own_min (4096 : Int32) bb))]) rfl ?_
              refine g_iload X829 hx (hb hby at_240) rfl ?_
              have hc242_836 : ¬ ((1 : Int32) = (0 : Int32)) := (by decide)
              refine g_ifNo X829 hx (hb hby at_242) (feq hc242_836).1 ?_
              refine g_iload X829 hx (hb hby at_245) rfl ?_
              refine g_iload X829 hx (hb hby at_247) rfl ?_
              by_cases hc249_837 : bc < qy
              ·
                refine g_icmpYes X829 hx (hb hby at_249) (tlt hc249_837).1 (by decide) (pc' := 261) (by decide) ?_
                refine g_aload X829 hx (hb hby at_261) rfl rfl ?_
                refine g_iload X829 hx (hb hby at_263) rfl ?_
                refine g_callV X829 hx hZ hown (hw _ (List.mem_of_getElem? (i := 22) rfl)) (hw _ (List.mem_of_getElem? (i := 23) rfl)) (hw _ (List.mem_of_getElem? (i := 25) rfl)) (hw _ (List.mem_of_getElem? (i := 24) rfl)) (hw _ (List.mem_of_getElem? (i := 3) rfl)) (hw _ (List.mem_of_getElem? (i := 26) rfl)) (by decide) (rmn l Z a0 hw [] bd qy sz (own_add (own_add (own_add own_nil ba.toInt.toNat) bb.toInt.toNat) bc.toInt.toNat) T786.heap n0 Z792 HB794.2.2.1 HB794.2.2.2.2.2.2.1 hqy) e834 (W := 0) (by decide) (by decide) (by rw [hml]; rfl) bd HB794.1 [(.int qy)] [] (lenOf pd0_1 rfl) rfl rfl (Nat.le_of_eq rfl) (hb hby at_265) (by decide) (by decide) ?_
                intro v842 T838 L841 X839 hQ840
                obtain ⟨got, ⟨rfl, k1, k2, k3, k4⟩, N843, e844⟩ := hQ840
                have N845 := Fr.app N835 N843
                show Go p e below (Ret s (Q0 Z q0 q1 q2 q3 q4 q5 h0 n0) 24 16576) (T838.setTop (mkF m 268 #[.val (.int q0), .val (.int q1), .val (.int q2), .val (.int q3), .val (.int q4), .val (.long q5), .second, .val (.int ba), .val (.int bb), .val (.int bc), .val (.int (1 : Int32)), .val (.int (1 : Int32)), .val (.int (1 : Int32)), .val (.int i733), .val (.int qy), .val (.ref bd), .val (.int (own_min (4096 : Int32) bb))] [(.int got)]))
                refine g_iload X839 hx (hb hby at_268) rfl ?_
                have hc270_846 : got = (own_min (4096 : Int32) bb) := (by
                  apply Int32.toInt_inj.mp
                  have m0 := own_minT (4096 : Int32) bb
                  have z4 : (4096 : Int32).toInt = 4096 := rfl
                  have l_ba := Int32.lt_iff_toInt_lt.mp hc207_797
                  have l_bb : ¬ bb.toInt < qy.toInt := fun z => hc228_799 (Int32.lt_iff_toInt_lt.mpr z)
                  have l_bc := Int32.lt_iff_toInt_lt.mp hc249_837
                  have hz : ∀ k : Nat, (own_add (own_add (own_add own_nil ba.toInt.toNat) bb.toInt.toNat) bc.toInt.toNat) k ≠ 0 ↔ (k = bc.toInt.toNat ∨ k = bb.toInt.toNat ∨ k = ba.toInt.toNat ∨ False) := by
                    intro k
                    rw [own_add_ne hcn2 (by decide)]
                    rw [own_add_ne hcn1 (by decide)]
                    rw [own_add_ne hcn0 (by decide)]
                    simp [own_nil]
                  refine own_found k1 k2 k3 k4 hqy.1 ?_ ?_
                  · simp only [hz]; omega
                  · intro k q1 q2 q3
                    rcases (hz k).mp q3 with q3 | q3 | q3 | q3 <;> first | exact q3.elim | omega)
                refine g_icmpNo X839 hx (hb hby at_270) (teq hc270_846).2 ?_
                refine g_iconst X839 hx (hb hby at_273) (v := (1 : Int32)) (by decide) ?_
                refine g_goto X839 hx (hb hby at_274) (by decide) (pc' := 278) (by decide) ?_
                refine g_ireturn X839 hx Bd.notSynchronized Bd.returns rfl (by simp) (hb hby at_278) (by decide) (by decide) ?_
                exact ⟨rfl, N845⟩
              ·
                refine g_icmpNo X829 hx (hb hby at_249) (flt hc249_837).1 ?_
                refine g_iload X829 hx (hb hby at_252) rfl ?_
                refine g_iload X829 hx (hb hby at_254) rfl ?_
                refine g_callS X829 hx hZ hown (hw _ (List.mem_of_getElem? (i := 34) rfl)) (hw _ (List.mem_of_getElem? (i := 35) rfl)) (hw _ (List.mem_of_getElem? (i := 36) rfl)) (hw _ (List.mem_of_getElem? (i := 37) rfl)) (by decide) (rmm l Z a0 hw [] (own_min (4096 : Int32) bb) bc T786.heap n0 Z792) e834 (W := 0) (by decide) (by decide) (by rw [hml]; rfl) [(.int (own_min (4096 : Int32) bb)), (.int bc)] [] (lenOf pd0_2 rfl) rfl rfl (Nat.le_of_eq rfl) (hb hby at_256) (by decide) (by decide) ?_
                intro v851 T847 L850 X848 hQ849
                obtain ⟨rfl, N852, e853⟩ := hQ849
                have N854 := Fr.app N835 N852
                show Go p e below (Ret s (Q0 Z q0 q1 q2 q3 q4 q5 h0 n0) 24 16576) (T847.setTop (mkF m 259 #[.val (.int q0), .val (.int q1), .val (.int q2), .val (.int q3), .val (.int q4), .val (.long q5), .second, .val (.int ba), .val (.int bb), .val (.int bc), .val (.int (1 : Int32)), .val (.int (1 : Int32)), .val (.int (1 : Int32)), .val (.int i733), .val (.int qy), .val (.ref bd), .val (.int (own_min (4096 : Int32) bb))] [(.int (own_min (own_min (4096 : Int32) bb) bc))]))
                refine g_istore X848 hx (hb hby at_259) (L' := #[.val (.int q0), .val (.int q1), .val (.int q2), .val (.int q3), .val (.int q4), .val (.long q5), .second, .val (.int ba), .val (.int bb), .val (.int bc), .val (.int (1 : Int32)), .val (.int (1 : Int32)), .val (.int (1 : Int32)), .val (.int i733), .val (.int qy), .val (.ref bd), .val (.int (own_min (own_min (4096 : Int32) bb) bc))]) rfl ?_
                refine g_aload X848 hx (hb hby at_261) rfl rfl ?_
                refine g_iload X848 hx (hb hby at_263) rfl ?_
                refine g_callV X848 hx hZ hown (hw _ (List.mem_of_getElem? (i := 22) rfl)) (hw _ (List.mem_of_getElem? (i := 23) rfl)) (hw _ (List.mem_of_getElem? (i := 25) rfl)) (hw _ (List.mem_of_getElem? (i := 24) rfl)) (hw _ (List.mem_of_getElem? (i := 3) rfl)) (hw _ (List.mem_of_getElem? (i := 26) rfl)) (by decide) (rmn l Z a0 hw [] bd qy sz (own_add (own_add (own_add own_nil ba.toInt.toNat) bb.toInt.toNat) bc.toInt.toNat) T786.heap n0 Z792 HB794.2.2.1 HB794.2.2.2.2.2.2.1 hqy) e853 (W := 0) (by decide) (by decide) (by rw [hml]; rfl) bd HB794.1 [(.int qy)] [] (lenOf pd0_1 rfl) rfl rfl (Nat.le_of_eq rfl) (hb hby at_265) (by decide) (by decide) ?_
                intro v859 T855 L858 X856 hQ857
                obtain ⟨got, ⟨rfl, k1, k2, k3, k4⟩, N860, e861⟩ := hQ857
                have N862 := Fr.app N854 N860
                show Go p e below (Ret s (Q0 Z q0 q1 q2 q3 q4 q5 h0 n0) 24 16576) (T855.setTop (mkF m 268 #[.val (.int q0), .val (.int q1), .val (.int q2), .val (.int q3), .val (.int q4), .val (.long q5), .second, .val (.int ba), .val (.int bb), .val (.int bc), .val (.int (1 : Int32)), .val (.int (1 : Int32)), .val (.int (1 : Int32)), .val (.int i733), .val (.int qy), .val (.ref bd), .val (.int (own_min (own_min (4096 : Int32) bb) bc))] [(.int got)]))
                refine g_iload X856 hx (hb hby at_268) rfl ?_
                have hc270_863 : got = (own_min (own_min (4096 : Int32) bb) bc) := (by
                  apply Int32.toInt_inj.mp
                  have m0 := own_minT (own_min (4096 : Int32) bb) bc
                  have m1 := own_minT (4096 : Int32) bb
                  have z4 : (4096 : Int32).toInt = 4096 := rfl
                  have l_ba := Int32.lt_iff_toInt_lt.mp hc207_797
                  have l_bb : ¬ bb.toInt < qy.toInt := fun z => hc228_799 (Int32.lt_iff_toInt_lt.mpr z)
                  have l_bc : ¬ bc.toInt < qy.toInt := fun z => hc249_837 (Int32.lt_iff_toInt_lt.mpr z)
                  have hz : ∀ k : Nat, (own_add (own_add (own_add own_nil ba.toInt.toNat) bb.toInt.toNat) bc.toInt.toNat) k ≠ 0 ↔ (k = bc.toInt.toNat ∨ k = bb.toInt.toNat ∨ k = ba.toInt.toNat ∨ False) := by
                    intro k
                    rw [own_add_ne hcn2 (by decide)]
                    rw [own_add_ne hcn1 (by decide)]
                    rw [own_add_ne hcn0 (by decide)]
                    simp [own_nil]
                  refine own_found k1 k2 k3 k4 hqy.1 ?_ ?_
                  · simp only [hz]; omega
                  · intro k q1 q2 q3
                    rcases (hz k).mp q3 with q3 | q3 | q3 | q3 <;> first | exact q3.elim | omega)
                refine g_icmpNo X856 hx (hb hby at_270) (teq hc270_863).2 ?_
                refine g_iconst X856 hx (hb hby at_273) (v := (1 : Int32)) (by decide) ?_
                refine g_goto X856 hx (hb hby at_274) (by decide) (pc' := 278) (by decide) ?_
                refine g_ireturn X856 hx Bd.notSynchronized Bd.returns rfl (by simp) (hb hby at_278) (by decide) (by decide) ?_
                exact ⟨rfl, N862⟩
          ·
            refine g_icmpNo X787 hx (hb hby at_207) (flt hc207_797).1 ?_
            refine g_iload X787 hx (hb hby at_210) rfl ?_
            refine g_iload X787 hx (hb hby at_212) rfl ?_
            refine g_callS X787 hx hZ hown (hw _ (List.mem_of_getElem? (i := 34) rfl)) (hw _ (List.mem_of_getElem? (i := 35) rfl)) (hw _ (List.mem_of_getElem? (i := 36) rfl)) (hw _ (List.mem_of_getElem? (i := 37) rfl)) (by decide) (rmm l Z a0 hw [] (4096 : Int32) ba T786.heap n0 Z792) rfl (W := 0) (by decide) (by decide) (by rw [hml]; rfl) [(.int (4096 : Int32)), (.int ba)] [] (lenOf pd0_2 rfl) rfl rfl (Nat.le_of_eq rfl) (hb hby at_214) (by decide) (by decide) ?_
            intro v868 T864 L867 X865 hQ866
            obtain ⟨rfl, N869, e870⟩ := hQ866
            have N871 := Fr.app N795 N869
            show Go p e below (Ret s (Q0 Z q0 q1 q2 q3 q4 q5 h0 n0) 24 16576) (T864.setTop (mkF m 217 #[.val (.int q0), .val (.int q1), .val (.int q2), .val (.int q3), .val (.int q4), .val (.long q5), .second, .val (.int ba), .val (.int bb), .val (.int bc), .val (.int (1 : Int32)), .val (.int (1 : Int32)), .val (.int (1 : Int32)), .val (.int i733), .val (.int qy), .val (.ref bd), .val (.int (4096 : Int32))] [(.int (own_min (4096 : Int32) ba))]))
            refine g_istore X865 hx (hb hby at_217) (L' := #[.val (.int q0), .val (.int q1), .val (.int q2), .val (.int q3), .val (.int q4), .val (.long q5), .second, .val (.int ba), .val (.int bb), .val (.int bc), .val (.int (1 : Int32)), .val (.int (1 : Int32)), .val (.int (1 : Int32)), .val (.int i733), .val (.int qy), .val (.ref bd), .val (.int (own_min (4096 : Int32) ba))]) rfl ?_
            refine g_iload X865 hx (hb hby at_219) rfl ?_
            have hc221_872 : ¬ ((1 : Int32) = (0 : Int32)) := (by decide)
            refine g_ifNo X865 hx (hb hby at_221) (feq hc221_872).1 ?_
            refine g_iload X865 hx (hb hby at_224) rfl ?_
            refine g_iload X865 hx (hb hby at_226) rfl ?_
            by_cases hc228_873 : bb < qy
            ·
              refine g_icmpYes X865 hx (hb hby at_228) (tlt hc228_873).1 (by decide) (pc' := 240) (by decide) ?_
              refine g_iload X865 hx (hb hby at_240) rfl ?_
              have hc242_874 : ¬ ((1 : Int32) = (0 : Int32)) := (by decide)
              refine g_ifNo X865 hx (hb hby at_242) (feq hc242_874).1 ?_
              refine g_iload X865 hx (hb hby at_245) rfl ?_
              refine g_iload X865 hx (hb hby at_247) rfl ?_
              by_cases hc249_875 : bc < qy
              ·
                refine g_icmpYes X865 hx (hb hby at_249) (tlt hc249_875).1 (by decide) (pc' := 261) (by decide) ?_
                refine g_aload X865 hx (hb hby at_261) rfl rfl ?_
                refine g_iload X865 hx (hb hby at_263) rfl ?_
                refine g_callV X865 hx hZ hown (hw _ (List.mem_of_getElem? (i := 22) rfl)) (hw _ (List.mem_of_getElem? (i := 23) rfl)) (hw _ (List.mem_of_getElem? (i := 25) rfl)) (hw _ (List.mem_of_getElem? (i := 24) rfl)) (hw _ (List.mem_of_getElem? (i := 3) rfl)) (hw _ (List.mem_of_getElem? (i := 26) rfl)) (by decide) (rmn l Z a0 hw [] bd qy sz (own_add (own_add (own_add own_nil ba.toInt.toNat) bb.toInt.toNat) bc.toInt.toNat) T786.heap n0 Z792 HB794.2.2.1 HB794.2.2.2.2.2.2.1 hqy) e870 (W := 0) (by decide) (by decide) (by rw [hml]; rfl) bd HB794.1 [(.int qy)] [] (lenOf pd0_1 rfl) rfl rfl (Nat.le_of_eq rfl) (hb hby at_265) (by decide) (by decide) ?_
                intro v880 T876 L879 X877 hQ878
                obtain ⟨got, ⟨rfl, k1, k2, k3, k4⟩, N881, e882⟩ := hQ878
                have N883 := Fr.app N871 N881
                show Go p e below (Ret s (Q0 Z q0 q1 q2 q3 q4 q5 h0 n0) 24 16576) (T876.setTop (mkF m 268 #[.val (.int q0), .val (.int q1), .val (.int q2), .val (.int q3), .val (.int q4), .val (.long q5), .second, .val (.int ba), .val (.int bb), .val (.int bc), .val (.int (1 : Int32)), .val (.int (1 : Int32)), .val (.int (1 : Int32)), .val (.int i733), .val (.int qy), .val (.ref bd), .val (.int (own_min (4096 : Int32) ba))] [(.int got)]))
                refine g_iload X877 hx (hb hby at_268) rfl ?_
                have hc270_884 : got = (own_min (4096 : Int32) ba) := (by
                  apply Int32.toInt_inj.mp
                  have m0 := own_minT (4096 : Int32) ba
                  have z4 : (4096 : Int32).toInt = 4096 := rfl
                  have l_ba : ¬ ba.toInt < qy.toInt := fun z => hc207_797 (Int32.lt_iff_toInt_lt.mpr z)
                  have l_bb := Int32.lt_iff_toInt_lt.mp hc228_873
                  have l_bc := Int32.lt_iff_toInt_lt.mp hc249_875
                  have hz : ∀ k : Nat, (own_add (own_add (own_add own_nil ba.toInt.toNat) bb.toInt.toNat) bc.toInt.toNat) k ≠ 0 ↔ (k = bc.toInt.toNat ∨ k = bb.toInt.toNat ∨ k = ba.toInt.toNat ∨ False) := by
                    intro k
                    rw [own_add_ne hcn2 (by decide)]
                    rw [own_add_ne hcn1 (by decide)]
                    rw [own_add_ne hcn0 (by decide)]
                    simp [own_nil]
                  refine own_found k1 k2 k3 k4 hqy.1 ?_ ?_
                  · simp only [hz]; omega
                  · intro k q1 q2 q3
                    rcases (hz k).mp q3 with q3 | q3 | q3 | q3 <;> first | exact q3.elim | omega)
                refine g_icmpNo X877 hx (hb hby at_270) (teq hc270_884).2 ?_
                refine g_iconst X877 hx (hb hby at_273) (v := (1 : Int32)) (by decide) ?_
                refine g_goto X877 hx (hb hby at_274) (by decide) (pc' := 278) (by decide) ?_
                refine g_ireturn X877 hx Bd.notSynchronized Bd.returns rfl (by simp) (hb hby at_278) (by decide) (by decide) ?_
                exact ⟨rfl, N883⟩
              ·
                refine g_icmpNo X865 hx (hb hby at_249) (flt hc249_875).1 ?_
                refine g_iload X865 hx (hb hby at_252) rfl ?_
                refine g_iload X865 hx (hb hby at_254) rfl ?_
                refine g_callS X865 hx hZ hown (hw _ (List.mem_of_getElem? (i := 34) rfl)) (hw _ (List.mem_of_getElem? (i := 35) rfl)) (hw _ (List.mem_of_getElem? (i := 36) rfl)) (hw _ (List.mem_of_getElem? (i := 37) rfl)) (by decide) (rmm l Z a0 hw [] (own_min (4096 : Int32) ba) bc T786.heap n0 Z792) e870 (W := 0) (by decide) (by decide) (by rw [hml]; rfl) [(.int (own_min (4096 : Int32) ba)), (.int bc)] [] (lenOf pd0_2 rfl) rfl rfl (Nat.le_of_eq rfl) (hb hby at_256) (by decide) (by decide) ?_
                intro v889 T885 L888 X886 hQ887
                obtain ⟨rfl, N890, e891⟩ := hQ887
                have N892 := Fr.app N871 N890
                show Go p e below (Ret s (Q0 Z q0 q1 q2 q3 q4 q5 h0 n0) 24 16576) (T885.setTop (mkF m 259 #[.val (.int q0), .val (.int q1), .val (.int q2), .val (.int q3), .val (.int q4), .val (.long q5), .second, .val (.int ba), .val (.int bb), .val (.int bc), .val (.int (1 : Int32)), .val (.int (1 : Int32)), .val (.int (1 : Int32)), .val (.int i733), .val (.int qy), .val (.ref bd), .val (.int (own_min (4096 : Int32) ba))] [(.int (own_min (own_min (4096 : Int32) ba) bc))]))
                refine g_istore X886 hx (hb hby at_259) (L' := #[.val (.int q0), .val (.int q1), .val (.int q2), .val (.int q3), .val (.int q4), .val (.long q5), .second, .val (.int ba), .val (.int bb), .val (.int bc), .val (.int (1 : Int32)), .val (.int (1 : Int32)), .val (.int (1 : Int32)), .val (.int i733), .val (.int qy), .val (.ref bd), .val (.int (own_min (own_min (4096 : Int32) ba) bc))]) rfl ?_
                refine g_aload X886 hx (hb hby at_261) rfl rfl ?_
                refine g_iload X886 hx (hb hby at_263) rfl ?_
                refine g_callV X886 hx hZ hown (hw _ (List.mem_of_getElem? (i := 22) rfl)) (hw _ (List.mem_of_getElem? (i := 23) rfl)) (hw _ (List.mem_of_getElem? (i := 25) rfl)) (hw _ (List.mem_of_getElem? (i := 24) rfl)) (hw _ (List.mem_of_getElem? (i := 3) rfl)) (hw _ (List.mem_of_getElem? (i := 26) rfl)) (by decide) (rmn l Z a0 hw [] bd qy sz (own_add (own_add (own_add own_nil ba.toInt.toNat) bb.toInt.toNat) bc.toInt.toNat) T786.heap n0 Z792 HB794.2.2.1 HB794.2.2.2.2.2.2.1 hqy) e891 (W := 0) (by decide) (by decide) (by rw [hml]; rfl) bd HB794.1 [(.int qy)] [] (lenOf pd0_1 rfl) rfl rfl (Nat.le_of_eq rfl) (hb hby at_265) (by decide) (by decide) ?_
                intro v897 T893 L896 X894 hQ895
                obtain ⟨got, ⟨rfl, k1, k2, k3, k4⟩, N898, e899⟩ := hQ895
                have N900 := Fr.app N892 N898
                show Go p e below (Ret s (Q0 Z q0 q1 q2 q3 q4 q5 h0 n0) 24 16576) (T893.setTop (mkF m 268 #[.val (.int q0), .val (.int q1), .val (.int q2), .val (.int q3), .val (.int q4), .val (.long q5), .second, .val (.int ba), .val (.int bb), .val (.int bc), .val (.int (1 : Int32)), .val (.int (1 : Int32)), .val (.int (1 : Int32)), .val (.int i733), .val (.int qy), .val (.ref bd), .val (.int (own_min (own_min (4096 : Int32) ba) bc))] [(.int got)]))
                refine g_iload X894 hx (hb hby at_268) rfl ?_
                have hc270_901 : got = (own_min (own_min (4096 : Int32) ba) bc) := (by
                  apply Int32.toInt_inj.mp
                  have m0 := own_minT (own_min (4096 : Int32) ba) bc
                  have m1 := own_minT (4096 : Int32) ba
                  have z4 : (4096 : Int32).toInt = 4096 := rfl
                  have l_ba : ¬ ba.toInt < qy.toInt := fun z => hc207_797 (Int32.lt_iff_toInt_lt.mpr z)
                  have l_bb := Int32.lt_iff_toInt_lt.mp hc228_873
                  have l_bc : ¬ bc.toInt < qy.toInt := fun z => hc249_875 (Int32.lt_iff_toInt_lt.mpr z)
                  have hz : ∀ k : Nat, (own_add (own_add (own_add own_nil ba.toInt.toNat) bb.toInt.toNat) bc.toInt.toNat) k ≠ 0 ↔ (k = bc.toInt.toNat ∨ k = bb.toInt.toNat ∨ k = ba.toInt.toNat ∨ False) := by
                    intro k
                    rw [own_add_ne hcn2 (by decide)]
                    rw [own_add_ne hcn1 (by decide)]
                    rw [own_add_ne hcn0 (by decide)]
                    simp [own_nil]
                  refine own_found k1 k2 k3 k4 hqy.1 ?_ ?_
                  · simp only [hz]; omega
                  · intro k q1 q2 q3
                    rcases (hz k).mp q3 with q3 | q3 | q3 | q3 <;> first | exact q3.elim | omega)
                refine g_icmpNo X894 hx (hb hby at_270) (teq hc270_901).2 ?_
                refine g_iconst X894 hx (hb hby at_273) (v := (1 : Int32)) (by decide) ?_
                refine g_goto X894 hx (hb hby at_274) (by decide) (pc' := 278) (by decide) ?_
                refine g_ireturn X894 hx Bd.notSynchronized Bd.returns rfl (by simp) (hb hby at_278) (by decide) (by decide) ?_
                exact ⟨rfl, N900⟩
            ·
              refine g_icmpNo X865 hx (hb hby at_228) (flt hc228_873).1 ?_
              refine g_iload X865 hx (hb hby at_231) rfl ?_
              refine g_iload X865 hx (hb hby at_233) rfl ?_
              refine g_callS X865 hx hZ hown (hw _ (List.mem_of_getElem? (i := 34) rfl)) (hw _ (List.mem_of_getElem? (i := 35) rfl)) (hw _ (List.mem_of_getElem? (i := 36) rfl)) (hw _ (List.mem_of_getElem? (i := 37) rfl)) (by decide) (rmm l Z a0 hw [] (own_min (4096 : Int32) ba) bb T786.heap n0 Z792) e870 (W := 0) (by decide) (by decide) (by rw [hml]; rfl) [(.int (own_min (4096 : Int32) ba)), (.int bb)] [] (lenOf pd0_2 rfl) rfl rfl (Nat.le_of_eq rfl) (hb hby at_235) (by decide) (by decide) ?_
              intro v906 T902 L905 X903 hQ904
              obtain ⟨rfl, N907, e908⟩ := hQ904
              have N909 := Fr.app N871 N907
              show Go p e below (Ret s (Q0 Z q0 q1 q2 q3 q4 q5 h0 n0) 24 16576) (T902.setTop (mkF m 238 #[.val (.int q0), .val (.int q1), .val (.int q2), .val (.int q3), .val (.int q4), .val (.long q5), .second, .val (.int ba), .val (.int bb), .val (.int bc), .val (.int (1 : Int32)), .val (.int (1 : Int32)), .val (.int (1 : Int32)), .val (.int i733), .val (.int qy), .val (.ref bd), .val (.int (own_min (4096 : Int32) ba))] [(.int (own_min (own_min (4096 : Int32) ba) bb))]))
              refine g_istore X903 hx (hb hby at_238) (L' := #[.val (.int q0), .val (.int q1), .val (.int q2), .val (.int q3), .val (.int q4), .val (.long q5), .second, .val (.int ba), .val (.int bb), .val (.int bc), .val (.int (1 : Int32)), .val (.int (1 : Int32)), .val (.int (1 : Int32)), .val (.int i733), .val (.int qy), .val (.ref bd), .val (.int (own_min (own_min (4096 : Int32) ba) bb))]) rfl ?_
              refine g_iload X903 hx (hb hby at_240) rfl ?_
              have hc242_910 : ¬ ((1 : Int32) = (0 : Int32)) := (by decide)
              refine g_ifNo X903 hx (hb hby at_242) (feq hc242_910).1 ?_
              refine g_iload X903 hx (hb hby at_245) rfl ?_
              refine g_iload X903 hx (hb hby at_247) rfl ?_
              by_cases hc249_911 : bc < qy
              ·
                refine g_icmpYes X903 hx (hb hby at_249) (tlt hc249_911).1 (by decide) (pc' := 261) (by decide) ?_
                refine g_aload X903 hx (hb hby at_261) rfl rfl ?_
                refine g_iload X903 hx (hb hby at_263) rfl ?_
                refine g_callV X903 hx hZ hown (hw _ (List.mem_of_getElem? (i := 22) rfl)) (hw _ (List.mem_of_getElem? (i := 23) rfl)) (hw _ (List.mem_of_getElem? (i := 25) rfl)) (hw _ (List.mem_of_getElem? (i := 24) rfl)) (hw _ (List.mem_of_getElem? (i := 3) rfl)) (hw _ (List.mem_of_getElem? (i := 26) rfl)) (by decide) (rmn l Z a0 hw [] bd qy sz (own_add (own_add (own_add own_nil ba.toInt.toNat) bb.toInt.toNat) bc.toInt.toNat) T786.heap n0 Z792 HB794.2.2.1 HB794.2.2.2.2.2.2.1 hqy) e908 (W := 0) (by decide) (by decide) (by rw [hml]; rfl) bd HB794.1 [(.int qy)] [] (lenOf pd0_1 rfl) rfl rfl (Nat.le_of_eq rfl) (hb hby at_265) (by decide) (by decide) ?_
                intro v916 T912 L915 X913 hQ914
                obtain ⟨got, ⟨rfl, k1, k2, k3, k4⟩, N917, e918⟩ := hQ914
                have N919 := Fr.app N909 N917
                show Go p e below (Ret s (Q0 Z q0 q1 q2 q3 q4 q5 h0 n0) 24 16576) (T912.setTop (mkF m 268 #[.val (.int q0), .val (.int q1), .val (.int q2), .val (.int q3), .val (.int q4), .val (.long q5), .second, .val (.int ba), .val (.int bb), .val (.int bc), .val (.int (1 : Int32)), .val (.int (1 : Int32)), .val (.int (1 : Int32)), .val (.int i733), .val (.int qy), .val (.ref bd), .val (.int (own_min (own_min (4096 : Int32) ba) bb))] [(.int got)]))
                refine g_iload X913 hx (hb hby at_268) rfl ?_
                have hc270_920 : got = (own_min (own_min (4096 : Int32) ba) bb) := (by
                  apply Int32.toInt_inj.mp
                  have m0 := own_minT (own_min (4096 : Int32) ba) bb
                  have m1 := own_minT (4096 : Int32) ba
                  have z4 : (4096 : Int32).toInt = 4096 := rfl
                  have l_ba : ¬ ba.toInt < qy.toInt := fun z => hc207_797 (Int32.lt_iff_toInt_lt.mpr z)
                  have l_bb : ¬ bb.toInt < qy.toInt := fun z => hc228_873 (Int32.lt_iff_toInt_lt.mpr z)
                  have l_bc := Int32.lt_iff_toInt_lt.mp hc249_911
                  have hz : ∀ k : Nat, (own_add (own_add (own_add own_nil ba.toInt.toNat) bb.toInt.toNat) bc.toInt.toNat) k ≠ 0 ↔ (k = bc.toInt.toNat ∨ k = bb.toInt.toNat ∨ k = ba.toInt.toNat ∨ False) := by
                    intro k
                    rw [own_add_ne hcn2 (by decide)]
                    rw [own_add_ne hcn1 (by decide)]
                    rw [own_add_ne hcn0 (by decide)]
                    simp [own_nil]
                  refine own_found k1 k2 k3 k4 hqy.1 ?_ ?_
                  · simp only [hz]; omega
                  · intro k q1 q2 q3
                    rcases (hz k).mp q3 with q3 | q3 | q3 | q3 <;> first | exact q3.elim | omega)
                refine g_icmpNo X913 hx (hb hby at_270) (teq hc270_920).2 ?_
                refine g_iconst X913 hx (hb hby at_273) (v := (1 : Int32)) (by decide) ?_
                refine g_goto X913 hx (hb hby at_274) (by decide) (pc' := 278) (by decide) ?_
                refine g_ireturn X913 hx Bd.notSynchronized Bd.returns rfl (by simp) (hb hby at_278) (by decide) (by decide) ?_
                exact ⟨rfl, N919⟩
              ·
                refine g_icmpNo X903 hx (hb hby at_249) (flt hc249_911).1 ?_
                refine g_iload X903 hx (hb hby at_252) rfl ?_
                refine g_iload X903 hx (hb hby at_254) rfl ?_
                refine g_callS X903 hx hZ hown (hw _ (List.mem_of_getElem? (i := 34) rfl)) (hw _ (List.mem_of_getElem? (i := 35) rfl)) (hw _ (List.mem_of_getElem? (i := 36) rfl)) (hw _ (List.mem_of_getElem? (i := 37) rfl)) (by decide) (rmm l Z a0 hw [] (own_min (own_min (4096 : Int32) ba) bb) bc T786.heap n0 Z792) e908 (W := 0) (by decide) (by decide) (by rw [hml]; rfl) [(.int (own_min (own_min (4096 : Int32) ba) bb)), (.int bc)] [] (lenOf pd0_2 rfl) rfl rfl (Nat.le_of_eq rfl) (hb hby at_256) (by decide) (by decide) ?_
                intro v925 T921 L924 X922 hQ923
                obtain ⟨rfl, N926, e927⟩ := hQ923
                have N928 := Fr.app N909 N926
                show Go p e below (Ret s (Q0 Z q0 q1 q2 q3 q4 q5 h0 n0) 24 16576) (T921.setTop (mkF m 259 #[.val (.int q0), .val (.int q1), .val (.int q2), .val (.int q3), .val (.int q4), .val (.long q5), .second, .val (.int ba), .val (.int bb), .val (.int bc), .val (.int (1 : Int32)), .val (.int (1 : Int32)), .val (.int (1 : Int32)), .val (.int i733), .val (.int qy), .val (.ref bd), .val (.int (own_min (own_min (4096 : Int32) ba) bb))] [(.int (own_min (own_min (own_min (4096 : Int32) ba) bb) bc))]))
                refine g_istore X922 hx (hb hby at_259) (L' := #[.val (.int q0), .val (.int q1), .val (.int q2), .val (.int q3), .val (.int q4), .val (.long q5), .second, .val (.int ba), .val (.int bb), .val (.int bc), .val (.int (1 : Int32)), .val (.int (1 : Int32)), .val (.int (1 : Int32)), .val (.int i733), .val (.int qy), .val (.ref bd), .val (.int (own_min (own_min (own_min (4096 : Int32) ba) bb) bc))]) rfl ?_
                refine g_aload X922 hx (hb hby at_261) rfl rfl ?_
                refine g_iload X922 hx (hb hby at_263) rfl ?_
                refine g_callV X922 hx hZ hown (hw _ (List.mem_of_getElem? (i := 22) rfl)) (hw _ (List.mem_of_getElem? (i := 23) rfl)) (hw _ (List.mem_of_getElem? (i := 25) rfl)) (hw _ (List.mem_of_getElem? (i := 24) rfl)) (hw _ (List.mem_of_getElem? (i := 3) rfl)) (hw _ (List.mem_of_getElem? (i := 26) rfl)) (by decide) (rmn l Z a0 hw [] bd qy sz (own_add (own_add (own_add own_nil ba.toInt.toNat) bb.toInt.toNat) bc.toInt.toNat) T786.heap n0 Z792 HB794.2.2.1 HB794.2.2.2.2.2.2.1 hqy) e927 (W := 0) (by decide) (by decide) (by rw [hml]; rfl) bd HB794.1 [(.int qy)] [] (lenOf pd0_1 rfl) rfl rfl (Nat.le_of_eq rfl) (hb hby at_265) (by decide) (by decide) ?_
                intro v933 T929 L932 X930 hQ931
                obtain ⟨got, ⟨rfl, k1, k2, k3, k4⟩, N934, e935⟩ := hQ931
                have N936 := Fr.app N928 N934
                show Go p e below (Ret s (Q0 Z q0 q1 q2 q3 q4 q5 h0 n0) 24 16576) (T929.setTop (mkF m 268 #[.val (.int q0), .val (.int q1), .val (.int q2), .val (.int q3), .val (.int q4), .val (.long q5), .second, .val (.int ba), .val (.int bb), .val (.int bc), .val (.int (1 : Int32)), .val (.int (1 : Int32)), .val (.int (1 : Int32)), .val (.int i733), .val (.int qy), .val (.ref bd), .val (.int (own_min (own_min (own_min (4096 : Int32) ba) bb) bc))] [(.int got)]))
                refine g_iload X930 hx (hb hby at_268) rfl ?_
                have hc270_937 : got = (own_min (own_min (own_min (4096 : Int32) ba) bb) bc) := (by
                  apply Int32.toInt_inj.mp
                  have m0 := own_minT (own_min (own_min (4096 : Int32) ba) bb) bc
                  have m1 := own_minT (own_min (4096 : Int32) ba) bb
                  have m2 := own_minT (4096 : Int32) ba
                  have z4 : (4096 : Int32).toInt = 4096 := rfl
                  have l_ba : ¬ ba.toInt < qy.toInt := fun z => hc207_797 (Int32.lt_iff_toInt_lt.mpr z)
                  have l_bb : ¬ bb.toInt < qy.toInt := fun z => hc228_873 (Int32.lt_iff_toInt_lt.mpr z)
                  have l_bc : ¬ bc.toInt < qy.toInt := fun z => hc249_911 (Int32.lt_iff_toInt_lt.mpr z)
                  have hz : ∀ k : Nat, (own_add (own_add (own_add own_nil ba.toInt.toNat) bb.toInt.toNat) bc.toInt.toNat) k ≠ 0 ↔ (k = bc.toInt.toNat ∨ k = bb.toInt.toNat ∨ k = ba.toInt.toNat ∨ False) := by
                    intro k
                    rw [own_add_ne hcn2 (by decide)]
                    rw [own_add_ne hcn1 (by decide)]
                    rw [own_add_ne hcn0 (by decide)]
                    simp [own_nil]
                  refine own_found k1 k2 k3 k4 hqy.1 ?_ ?_
                  · simp only [hz]; omega
                  · intro k q1 q2 q3
                    rcases (hz k).mp q3 with q3 | q3 | q3 | q3 <;> first | exact q3.elim | omega)
                refine g_icmpNo X930 hx (hb hby at_270) (teq hc270_937).2 ?_
                refine g_iconst X930 hx (hb hby at_273) (v := (1 : Int32)) (by decide) ?_
                refine g_goto X930 hx (hb hby at_274) (by decide) (pc' := 278) (by decide) ?_
                refine g_ireturn X930 hx Bd.notSynchronized Bd.returns rfl (by simp) (hb hby at_278) (by decide) (by decide) ?_
                exact ⟨rfl, N936⟩
        by_cases hc82_938 : i733 = (0 : Int32)
        ·
          refine g_ifNo X0 hx (hb hby at_82) (teq hc82_938).2 ?_
          refine g_iloadN X0 hx (hb hby at_85) rfl ?_
          refine g_ldcI X0 hx hZ hown (hw _ (List.mem_of_getElem? (i := 0) rfl)) (hb hby at_86) ?_
          obtain ⟨i939, hi939⟩ : ∃ v : Int32, q3 &&& (2147483647 : Int32) = v := ⟨_, rfl⟩
          refine g_iand X0 hx (hb hby at_88) hi939 ?_
          refine g_sipush X0 hx (hb hby at_89) (v := (4097 : Int32)) (by decide) ?_
          obtain ⟨qm, hqm⟩ : ∃ v : Int32, i939 % (4097 : Int32) = v := ⟨_, rfl⟩
          refine g_irem X0 hx (hb hby at_92) (by decide) hqm ?_
          have b_qm : 0 ≤ qm.toInt ∧ qm.toInt < 4097 := by
            have a := c_and q3 (2147483647 : Int32) (by decide)
            rw [hi939] at a
            have b := (c_iremV i939 (4097 : Int32)).1 a.1 (by decide)
            rw [hqm] at b
            have z : (4097 : Int32).toInt = 4097 := rfl
            omega
          refine g_istore X0 hx (hb hby at_93) (L' := #[.val (.int q0), .val (.int q1), .val (.int q2), .val (.int q3), .val (.int q4), .val (.long q5), .second, .val (.int ba), .val (.int bb), .val (.int bc), .val (.int (1 : Int32)), .val (.int (1 : Int32)), .val (.int (1 : Int32)), .val (.int i733), .val (.int qm), .unset, .unset]) rfl ?_
          refine g_goto X0 hx (hb hby at_95) (by decide) (pc' := 136) (by decide) ?_
          exact J136 _ _ X0 e0 N0 qm (by omega)
        ·
          refine g_ifYes X0 hx (hb hby at_82) (feq hc82_938).2 (by decide) (pc' := 98) (by decide) ?_
          refine g_iload X0 hx (hb hby at_98) rfl ?_
          refine g_iconst X0 hx (hb hby at_100) (v := (1 : Int32)) (by decide) ?_
          by_cases hc101_940 : i733 = (1 : Int32)
          ·
            refine g_icmpNo X0 hx (hb hby at_101) (teq hc101_940).2 ?_
            refine g_iload X0 hx (hb hby at_104) rfl ?_
            refine g_istore X0 hx (hb hby at_106) (L' := #[.val (.int q0), .val (.int q1), .val (.int q2), .val (.int q3), .val (.int q4), .val (.long q5), .second, .val (.int ba), .val (.int bb), .val (.int bc), .val (.int (1 : Int32)), .val (.int (1 : Int32)), .val (.int (1 : Int32)), .val (.int i733), .val (.int ba), .unset, .unset]) rfl ?_
            refine g_goto X0 hx (hb hby at_108) (by decide) (pc' := 136) (by decide) ?_
            exact J136 _ _ X0 e0 N0 ba (by omega)
          ·
            refine g_icmpYes X0 hx (hb hby at_101) (feq hc101_940).2 (by decide) (pc' := 111) (by decide) ?_
            refine g_iload X0 hx (hb hby at_111) rfl ?_
            refine g_iconst X0 hx (hb hby at_113) (v := (2 : Int32)) (by decide) ?_
            by_cases hc114_941 : i733 = (2 : Int32)
            ·
              refine g_icmpNo X0 hx (hb hby at_114) (teq hc114_941).2 ?_
              refine g_iload X0 hx (hb hby at_117) rfl ?_
              refine g_iconst X0 hx (hb hby at_119) (v := (1 : Int32)) (by decide) ?_
              obtain ⟨ba1, hba1⟩ : ∃ v : Int32, ba + (1 : Int32) = v := ⟨_, rfl⟩
              refine g_iadd X0 hx (hb hby at_120) hba1 ?_
              refine g_istore X0 hx (hb hby at_121) (L' := #[.val (.int q0), .val (.int q1), .val (.int q2), .val (.int q3), .val (.int q4), .val (.long q5), .second, .val (.int ba), .val (.int bb), .val (.int bc), .val (.int (1 : Int32)), .val (.int (1 : Int32)), .val (.int (1 : Int32)), .val (.int i733), .val (.int ba1), .unset, .unset]) rfl ?_
              refine g_goto X0 hx (hb hby at_123) (by decide) (pc' := 136) (by decide) ?_
              exact J136 _ _ X0 e0 N0 ba1 (by
                have a := c_iadd ba 1; rw [hba1] at a
                have z : (1 : Int32).toInt = 1 := rfl
                have r := rng32 ba1
                omega)
            ·
              refine g_icmpYes X0 hx (hb hby at_114) (feq hc114_941).2 (by decide) (pc' := 126) (by decide) ?_
              refine g_iconst X0 hx (hb hby at_126) (v := (0 : Int32)) (by decide) ?_
              refine g_iload X0 hx (hb hby at_127) rfl ?_
              refine g_iconst X0 hx (hb hby at_129) (v := (1 : Int32)) (by decide) ?_
              obtain ⟨bam, hbam⟩ : ∃ v : Int32, ba - (1 : Int32) = v := ⟨_, rfl⟩
              refine g_isub X0 hx (hb hby at_130) hbam ?_
              refine g_callS X0 hx hZ hown (hw _ (List.mem_of_getElem? (i := 38) rfl)) (hw _ (List.mem_of_getElem? (i := 39) rfl)) (hw _ (List.mem_of_getElem? (i := 36) rfl)) (hw _ (List.mem_of_getElem? (i := 40) rfl)) (by decide) (rmx l Z a0 hw [] (0 : Int32) bam h0 n0 Z0) e0 (W := 0) (by decide) (by decide) (by rw [hml]; rfl) [(.int (0 : Int32)), (.int bam)] [] (lenOf pd0_2 rfl) rfl rfl (Nat.le_of_eq rfl) (hb hby at_131) (by decide) (by decide) ?_
              intro v946 T942 L945 X943 hQ944
              obtain ⟨rfl, N947, e948⟩ := hQ944
              have N949 := Fr.app N0 N947
              show Go p e below (Ret s (Q0 Z q0 q1 q2 q3 q4 q5 h0 n0) 24 16576) (T942.setTop (mkF m 134 #[.val (.int q0), .val (.int q1), .val (.int q2), .val (.int q3), .val (.int q4), .val (.long q5), .second, .val (.int ba), .val (.int bb), .val (.int bc), .val (.int (1 : Int32)), .val (.int (1 : Int32)), .val (.int (1 : Int32)), .val (.int i733), .unset, .unset, .unset] [(.int (own_max (0 : Int32) bam))]))
              refine g_istore X943 hx (hb hby at_134) (L' := #[.val (.int q0), .val (.int q1), .val (.int q2), .val (.int q3), .val (.int q4), .val (.long q5), .second, .val (.int ba), .val (.int bb), .val (.int bc), .val (.int (1 : Int32)), .val (.int (1 : Int32)), .val (.int (1 : Int32)), .val (.int i733), .val (.int (own_max (0 : Int32) bam)), .unset, .unset]) rfl ?_
              exact J136 _ _ X943 e948 N949 (own_max (0 : Int32) bam) (by
                rw [own_maxT]
                have a := c_isub ba 1; rw [hbam] at a
                have z : (1 : Int32).toInt = 1 := rfl
                have z0 : (0 : Int32).toInt = 0 := rfl
                have r := rng32 bam
                omega)
set_option maxRecDepth 65536 in
set_option maxHeartbeats 40000000 in
theorem comes_1 {Post : Tables → Env → Array Value → State → Outcome → State → Prop} (hpost : ∀ tb e args s v u, (limb_1_1.after args s (.returned v) u = true ∧ limb_1_2.after args s (.returned v) u = true ∧ True) → FrameEnd s (.returned v) u (Jvm.fieldLocs frame_1_writes args s ++ Jvm.arrayLocs frame_1_arrays args s ++ Jvm.staticLocs frame_1_statics s) 24 16576 → Post tb e args s (.returned v) u) :
    ArmFor flags0 classFile x code maxLocals ret World_1 tables_1 room_1 Calls_1 rest_1 Pre_1 Post := by
  intro l hfl _ _ p e ha hc hk s m args below hf hA hF happ hP
  obtain ⟨hcalls, hrest, hpre⟩ := hP
  obtain ⟨-, -, -, hnamed, -, -, -, hat⟩ := (Spec.applies_iff hf).mp happ
  obtain ⟨hg, hn⟩ := and_e (Cond.before_iff.mp (show (Jvm.Cond.and given_1 narrow_1).before args s = true from hpre))
  obtain ⟨h1, g0⟩ := and_e hg
  obtain ⟨k0, g1⟩ := and_e g0
  obtain ⟨k1, g2⟩ := and_e g1
  obtain ⟨k2, g3⟩ := and_e g2
  obtain ⟨k3, g4⟩ := and_e g3
  obtain ⟨k4, g5⟩ := and_e g4
  obtain ⟨w0, w1, w2, w3, w4, w5, rfl⟩ : ∃ w0 w1 w2 w3 w4 w5 : Value, args = #[w0, w1, w2, w3, w4, w5] := by
    have hs : args.size = 6 := by simpa [Cond.value, given_1] using h1
    obtain ⟨L⟩ := args
    match L, hs with
    | [w0, w1, w2, w3, w4, w5], _ => exact ⟨w0, w1, w2, w3, w4, w5, rfl⟩
  have hw := fun d (hd : d ∈ tables_1) => atoms_spec (ws := Jvm.Cond.code x code maxLocals ret :: tables_1) hat d (List.mem_cons_of_mem _ hd)
  have hfit : Fit s := fun {y c} hc i hi => by
    obtain ⟨ha, rfl⟩ := Array.getElem?_eq_some_iff.mp hc
    have q := List.all_eq_true.mp ((Array.all_eq_true_iff_forall_mem.mp hF) _ (Array.getElem_mem ha)) i (List.mem_range.mpr hi)
    simpa [Array.getElem?_eq_getElem hi] using q
  obtain ⟨i0, e0⟩ := is_v k0
  obtain rfl : w0 = (.int i0) := Option.some.inj e0
  obtain ⟨i1, e1⟩ := is_v k1
  obtain rfl : w1 = (.int i1) := Option.some.inj e1
  obtain ⟨i2, e2⟩ := is_v k2
  obtain rfl : w2 = (.int i2) := Option.some.inj e2
  obtain ⟨i3, e3⟩ := is_v k3
  obtain rfl : w3 = (.int i3) := Option.some.inj e3
  obtain ⟨i4, e4⟩ := is_v k4
  obtain rfl : w4 = (.int i4) := Option.some.inj e4
  obtain ⟨i5, e5⟩ := isL_v g5
  obtain rfl : w5 = (.long i5) := Option.some.inj e5
  obtain ⟨n, o, h1, h2, h3, _, L, rfl, ⟨rfl, N⟩, hq⟩ := rm0 l s _ hw tables_1 i0 i1 i2 i3 i4 i5 s.heap s.heap.size (Nat.le_refl _)  p e ha hc hk s m _ below hf ((Spec.applies_iff_loose hf).mp happ).1 ⟨rfl, State.Warmed39.refl s, rfl⟩ trivial
  refine ⟨n, _, h1, h2, h3, hpost _ _ _ _ _ _ ⟨Cond.after_iff.mpr rfl, Cond.after_iff.mpr (eq_i res_at (Term.int_eval (1)) rfl), trivial⟩ ⟨hq.1, hq.2.1, (hq.2.2.sift fun y hy => Or.inr (N y hy)).mono (by decide) (by decide)⟩⟩
theorem main_1_1 : Claimed_1_1 := comes_1 fun _ _ _ _ _ _ h hF => ⟨h.1, hF⟩
theorem main_1_2 : Claimed_1_2 := comes_1 fun _ _ _ _ _ _ h hF => ⟨h.2.1, hF⟩
end Jvm.Pilot.@@N@@
namespace Jvm.Pilot.@@N@@
open Jvm Jvm.ClassFile Sem Op Lib Jvm.Free Jvm.Stand Jvm.Pilot.@@N@@.Jvm.D
/-! MADE BY PROGRAM (witnessworld.py) out of the Statement's table words and the real class files: 12 classes; the members and pool entries that the words name. The judged class is class 1, her method 1. -/
namespace start1
open Jvm.ClassFile
def u (s : String) : CpInfo := .utf8 (stringToUtf16 s)
/-- a pool by its gaps: so many unusable entries, then the entry; so many at the end -/
def gap : Nat → List CpInfo → List CpInfo
  | 0, r => r
  | n + 1, r => .unusable :: gap n r
def poolList (es : List (Nat × CpInfo)) (last : Nat) : List CpInfo := es.foldr (fun e r => gap e.1 (e.2 :: r)) (gap last [])
def pool (es : List (Nat × CpInfo)) (last : Nat) : Array CpInfo := ⟨poolList es last⟩
def fileOf (pool : Array CpInfo) (this : Nat) (attrs : Array Attribute := #[]) (ms : Array MethodInfo := #[]) (fl : Nat := 33) (sup : Nat := 0) (ifs : Array Nat := #[]) (fds : Array FieldInfo := #[]) : ClassFile where
  minorVersion := 0
  majorVersion := 65
  constantPool := pool
  accessFlags := fl
  thisClass := this
  superClass := sup
  interfaces := ifs
  fields := fds
  methods := ms
  attributes := attrs
def plain (name : String) (sup : Option ClassId) : Class where
  name := name
  kind := .ordinary
  loader := none
  accessFlags := 33
  super := sup
  interfaces := #[]
  cf := none
  fields := #[]
  methods := #[]
  instanceTypes := #[]
  staticTypes := #[]
  resolved := #[]
  callSites := []
  init := .initialized
  statics := none
  mirror := none

def pool0 : Array CpInfo := pool [(5, u "<init>"), (0, u "()V"), (1, .class_ 10), (1, u "java/lang/Object")] 113

def k0c0 : Code := { maxStack := 0, maxLocals := 1, code := object_method_1_code, exceptionTable := #[], attributes := #[] }
def k0m0 : Method := { name := "<init>", desc := "()V", sig := { parameters := [], returnType := none }, accessFlags := 1, code := some k0c0 }
/-- java/lang/Object -/
def k0 : Class := { plain "java/lang/Object" none with
  accessFlags := 33
  interfaces := #[]
  cf := some (fileOf pool0 8 #[] #[{ accessFlags := 1, nameIndex := 5, descriptorIndex := 6, attributes := #[] }] 33 0 #[] #[])
  fields := #[]
  methods := #[k0m0]
  instanceTypes := #[]
  staticTypes := #[]
  resolved := Array.replicate 124 none
  statics := none }

def pool1 : Array CpInfo := pool [(2, .class_ 4), (1, u "java/lang/Object"), (0, u "<init>"), (0, u "()V"), (0, .integer 2147483647), (0, .class_ 9), (0, u "com/example/skywright/skywright/search/Bands"), (0, .methodref 11 12), (0, .class_ 13), (0, .nameAndType 14 15), (0, u "java/lang/Math"), (0, u "max"), (0, u "(II)I"), (0, .methodref 8 17), (0, .nameAndType 5 18), (0, u "(DD)V"), (0, .methodref 8 20), (0, .nameAndType 21 22), (0, u "add"), (0, u "(IJ)V"), (0, .methodref 11 24), (0, .nameAndType 25 15), (0, u "min"), (0, .methodref 8 27), (0, .nameAndType 28 29), (0, u "nextHeld"), (0, u "(I)I"), (0, .class_ 31), (0, u "com/example/skywright/skywright/search/BandsNextHeldPinLaw"), (2, u "law"), (0, u "(IIIIIJ)Z")] 3

def k1m0 : Method := { name := "<init>", desc := "()V", sig := { parameters := [], returnType := none }, accessFlags := 2, code := none }
def k1c1 : Code := { maxStack := 6, maxLocals := 17, code := code, exceptionTable := #[], attributes := #[] }
def k1m1 : Method := { name := "law", desc := "(IIIIIJ)Z", sig := { parameters := [.int, .int, .int, .int, .int, .long], returnType := some .boolean }, accessFlags := 9, code := some k1c1 }
/-- com/example/skywright/skywright/search/BandsNextHeldPinLaw -/
def k1 : Class := { plain "com/example/skywright/skywright/search/BandsNextHeldPinLaw" (some 0) with
  accessFlags := 49
  interfaces := #[]
  cf := some (fileOf pool1 30 #[] #[{ accessFlags := 2, nameIndex := 5, descriptorIndex := 6, attributes := #[] }, { accessFlags := 9, nameIndex := 34, descriptorIndex := 35, attributes := #[] }] 49 2 #[] #[])
  fields := #[]
  methods := #[k1m0, k1m1]
  instanceTypes := #[]
  staticTypes := #[]
  resolved := Array.replicate 39 none
  statics := none }

def pool2 : Array CpInfo := pool [(1, .methodref 2 3), (0, .class_ 4), (0, .nameAndType 5 6), (0, u "java/lang/Object"), (0, u "<init>"), (0, u "()V"), (0, .class_ 8), (0, u "com/example/skywright/skywright/search/Bands"), (0, .class_ 10), (0, u "[J"), (0, .fieldref 7 12), (0, .nameAndType 13 14), (0, u "entries"), (0, u "[[J"), (0, .fieldref 7 16), (0, .nameAndType 17 18), (0, u "sizes"), (0, u "[I"), (0, .fieldref 7 20), (0, .nameAndType 21 22), (0, u "lowest"), (0, u "D"), (0, .double 4661225614328463360), (3, .double 4503599627370496), (1, .fieldref 7 30), (0, .nameAndType 31 22), (0, u "width"), (27, u "COUNT"), (0, u "I"), (2, u "(DD)V"), (7, u "add"), (0, u "(IJ)V"), (0, u "nextHeld"), (0, u "(I)I")] 4

def k2c0 : Code := { maxStack := 5, maxLocals := 5, code := prog_27_method_1_code, exceptionTable := #[], attributes := #[] }
def k2m0 : Method := { name := "<init>", desc := "(DD)V", sig := { parameters := [.double, .double], returnType := none }, accessFlags := 0, code := some k2c0 }
def k2c1 : Code := { maxStack := 6, maxLocals := 4, code := prog_27_method_4_code, exceptionTable := #[], attributes := #[] }
def k2m1 : Method := { name := "add", desc := "(IJ)V", sig := { parameters := [.int, .long], returnType := none }, accessFlags := 0, code := some k2c1 }
def k2c2 : Code := { maxStack := 2, maxLocals := 3, code := prog_27_method_5_code, exceptionTable := #[], attributes := #[] }
def k2m2 : Method := { name := "nextHeld", desc := "(I)I", sig := { parameters := [.int], returnType := some .int }, accessFlags := 0, code := some k2c2 }
/-- com/example/skywright/skywright/search/Bands -/
def k2 : Class := { plain "com/example/skywright/skywright/search/Bands" (some 0) with
  accessFlags := 48
  interfaces := #[]
  cf := some (fileOf pool2 7 #[] #[{ accessFlags := 0, nameIndex := 5, descriptorIndex := 63, attributes := #[] }, { accessFlags := 0, nameIndex := 71, descriptorIndex := 72, attributes := #[] }, { accessFlags := 0, nameIndex := 73, descriptorIndex := 74, attributes := #[] }] 48 2 #[] #[{ accessFlags := 24, nameIndex := 59, descriptorIndex := 60, attributes := #[] }, { accessFlags := 18, nameIndex := 21, descriptorIndex := 22, attributes := #[] }, { accessFlags := 18, nameIndex := 31, descriptorIndex := 22, attributes := #[] }, { accessFlags := 18, nameIndex := 13, descriptorIndex := 14, attributes := #[] }, { accessFlags := 18, nameIndex := 17, descriptorIndex := 18, attributes := #[] }])
  fields := #[{ name := "COUNT", type := .int, accessFlags := 24, slot := 0, constantValue := 0 }, { name := "lowest", type := .double, accessFlags := 18, slot := 0, constantValue := 0 }, { name := "width", type := .double, accessFlags := 18, slot := 1, constantValue := 0 }, { name := "entries", type := (.array (.array .long)), accessFlags := 18, slot := 2, constantValue := 0 }, { name := "sizes", type := (.array .int), accessFlags := 18, slot := 3, constantValue := 0 }]
  methods := #[k2m0, k2m1, k2m2]
  instanceTypes := #[.double, .double, (.array (.array .long)), (.array .int)]
  staticTypes := #[.int]
  resolved := Array.replicate 79 none
  statics := none }

def pool3 : Array CpInfo := pool [(1, .class_ 2), (0, u "java/lang/Math"), (1, .class_ 6), (1, u "java/lang/Object"), (0, u "<init>"), (0, u "()V"), (89, .class_ 100), (1, u "java/lang/Math$RandomNumberGeneratorHolder"), (71, u "negativeZeroFloatBits"), (0, u "J"), (2, u "negativeZeroDoubleBits"), (21, u "max"), (2, u "min"), (43, u "$assertionsDisabled"), (0, u "Z"), (88, u "(II)I"), (2, u "twoToTheDoubleScaleDown"), (0, u "D"), (4, u "twoToTheDoubleScaleUp"), (9, u "E"), (3, u "PI"), (2, u "TAU"), (2, u "DEGREES_TO_RADIANS"), (0, u "RADIANS_TO_DEGREES")] 94

def k3m0 : Method := { name := "<init>", desc := "()V", sig := { parameters := [], returnType := none }, accessFlags := 2, code := none }
def k3c1 : Code := { maxStack := 2, maxLocals := 2, code := jdk_29_method_65_code, exceptionTable := #[], attributes := #[] }
def k3m1 : Method := { name := "max", desc := "(II)I", sig := { parameters := [.int, .int], returnType := some .int }, accessFlags := 9, code := some k3c1 }
def k3c2 : Code := { maxStack := 2, maxLocals := 2, code := jdk_29_method_69_code, exceptionTable := #[], attributes := #[] }
def k3m2 : Method := { name := "min", desc := "(II)I", sig := { parameters := [.int, .int], returnType := some .int }, accessFlags := 9, code := some k3c2 }
/-- java/lang/Math -/
def k3 : Class := { plain "java/lang/Math" (some 0) with
  accessFlags := 49
  interfaces := #[]
  cf := some (fileOf pool3 1 #[.nestMembers #[98]] #[{ accessFlags := 2, nameIndex := 7, descriptorIndex := 8, attributes := #[] }, { accessFlags := 9, nameIndex := 198, descriptorIndex := 335, attributes := #[] }, { accessFlags := 9, nameIndex := 201, descriptorIndex := 335, attributes := #[] }] 49 4 #[] #[{ accessFlags := 25, nameIndex := 354, descriptorIndex := 339, attributes := #[] }, { accessFlags := 25, nameIndex := 358, descriptorIndex := 339, attributes := #[] }, { accessFlags := 25, nameIndex := 361, descriptorIndex := 339, attributes := #[] }, { accessFlags := 26, nameIndex := 364, descriptorIndex := 339, attributes := #[] }, { accessFlags := 26, nameIndex := 365, descriptorIndex := 339, attributes := #[] }, { accessFlags := 26, nameIndex := 172, descriptorIndex := 173, attributes := #[] }, { accessFlags := 26, nameIndex := 176, descriptorIndex := 173, attributes := #[] }, { accessFlags := 8, nameIndex := 344, descriptorIndex := 339, attributes := #[] }, { accessFlags := 8, nameIndex := 338, descriptorIndex := 339, attributes := #[] }, { accessFlags := 4120, nameIndex := 245, descriptorIndex := 246, attributes := #[] }])
  fields := #[{ name := "E", type := .double, accessFlags := 25, slot := 0, constantValue := 0 }, { name := "PI", type := .double, accessFlags := 25, slot := 1, constantValue := 0 }, { name := "TAU", type := .double, accessFlags := 25, slot := 2, constantValue := 0 }, { name := "DEGREES_TO_RADIANS", type := .double, accessFlags := 26, slot := 3, constantValue := 0 }, { name := "RADIANS_TO_DEGREES", type := .double, accessFlags := 26, slot := 4, constantValue := 0 }, { name := "negativeZeroFloatBits", type := .long, accessFlags := 26, slot := 5, constantValue := 0 }, { name := "negativeZeroDoubleBits", type := .long, accessFlags := 26, slot := 6, constantValue := 0 }, { name := "twoToTheDoubleScaleUp", type := .double, accessFlags := 8, slot := 7, constantValue := 0 }, { name := "twoToTheDoubleScaleDown", type := .double, accessFlags := 8, slot := 8, constantValue := 0 }, { name := "$assertionsDisabled", type := .boolean, accessFlags := 4120, slot := 9, constantValue := 0 }]
  methods := #[k3m0, k3m1, k3m2]
  instanceTypes := #[]
  staticTypes := #[.double, .double, .double, .double, .double, .long, .long, .double, .double, .boolean]
  resolved := Array.replicate 460 none
  statics := none }

def pool4 : Array CpInfo := pool [(1, u "java/lang/Cloneable"), (0, .class_ 1), (0, u "java/lang/Object"), (0, .class_ 3)] 3

/-- java/lang/Cloneable -/
def k4 : Class := { plain "java/lang/Cloneable" (some 0) with
  accessFlags := 1537
  interfaces := #[]
  cf := some (fileOf pool4 2 #[] #[] 1537 4 #[] #[])
  fields := #[]
  methods := #[]
  instanceTypes := #[]
  staticTypes := #[]
  resolved := Array.replicate 8 none
  statics := none }

def pool5 : Array CpInfo := pool [(1, u "java/io/Serializable"), (0, .class_ 1), (0, u "java/lang/Object"), (0, .class_ 3)] 3

/-- java/io/Serializable -/
def k5 : Class := { plain "java/io/Serializable" (some 0) with
  accessFlags := 1537
  interfaces := #[]
  cf := some (fileOf pool5 2 #[] #[] 1537 4 #[] #[])
  fields := #[]
  methods := #[]
  instanceTypes := #[]
  staticTypes := #[]
  resolved := Array.replicate 8 none
  statics := none }

/-- the primitive byte -/
def k6 : Class := { plain "byte" none with kind := .primitive 'B', accessFlags := 0x411 }
/-- [B -/
def k7 : Class := { plain "[B" (some 0) with kind := .array 6 .byte, interfaces := #[4, 5], accessFlags := 1041 }

/-- the primitive int -/
def k8 : Class := { plain "int" none with kind := .primitive 'I', accessFlags := 0x411 }
/-- [I -/
def k9 : Class := { plain "[I" (some 0) with kind := .array 8 .int, interfaces := #[4, 5], accessFlags := 1041 }

/-- the primitive long -/
def k10 : Class := { plain "long" none with kind := .primitive 'J', accessFlags := 0x411 }
/-- [J -/
def k11 : Class := { plain "[J" (some 0) with kind := .array 10 .long, interfaces := #[4, 5], accessFlags := 1041 }

/-- [[J -/
def k12 : Class := { plain "[[J" (some 0) with kind := .array 11 (.array .long), interfaces := #[4, 5], accessFlags := 1041 }
def heap : Heap := #[]
def classes : Array Class := #[k0, k1, k2, k3, k4, k5, k6, k7, k8, k9, k10, k11, k12]
def interned : List (Array UInt16 × Addr) := []
def slotsUsed : Nat := 0
def theMethod : MethodId := ⟨1, 1⟩
def args0 : Array Value := #[.int 5, .int 7, .int 0, .int 1, .int 2, .long 3]
def aboutOver (below : List Frame) : State where
  vm := { classes := classes, interned := interned.toArray }
  heap := heap
  slotsUsed := slotsUsed
  threads := #[{ frames := .invoking theMethod args0 :: below }]
def below0 : List Frame := [.native { method := ⟨0, 0⟩, args := #[] }]
def about1 : State := aboutOver below0
def p0 : Program := .bare "" "" ""
def e0 : Env := launch0.env 0 0 0
theorem w_frames : about1.frames = Frame.invoking theMethod args0 :: below0 := rfl
set_option maxRecDepth 65536 in
theorem w_args : argsFit about1.vm theMethod args0 = true := by decide +kernel
set_option maxRecDepth 65536 in
theorem w_heap : heapFits about1 = true := by decide +kernel
set_option maxRecDepth 65536 in
theorem w_runnable : about1.curStatus? = some .runnable := by decide +kernel
set_option maxRecDepth 65536 in
theorem w_alone : about1.alone = true := by decide +kernel
set_option maxRecDepth 65536 in
theorem w_named : about1.methodNamed? x = some theMethod := by decide +kernel
set_option maxRecDepth 65536 in
theorem w_hears : about1.hears theMethod below0 = true := by decide +kernel
set_option maxRecDepth 65536 in
theorem w_ripe : about1.ripe theMethod args0 below0 = true := by decide +kernel
theorem w_running : about1.status = .running := rfl
set_option maxRecDepth 65536 in
theorem w_room : about1.hasRoom e0.platform room_1 = true :=
  launch0.hasRoom_least _ room_1 (by decide +kernel) (by decide +kernel) (by decide +kernel) (by decide +kernel) (by decide +kernel) (by decide +kernel)
theorem allAtoms_all (ts : List Jvm.Cond) (a : Array Jvm.Value) (st : Jvm.State) : (allAtoms ts).before a st = ts.all (fun c => c.before a st) := by
  induction ts with
  | nil => rfl
  | cons c t ih =>
    show (Jvm.Cond.and c (allAtoms t)).before a st = _
    rw [Jvm.Cond.before_and, ih, List.all_cons]
def words1 : List Jvm.Cond := Jvm.Cond.code x code maxLocals ret :: tables_1
/-- a 'code' word, met by the world's own term for the bytes: nothing is compared byte by byte -/
theorem code_word {y : MethodName} {bytes : ByteArray} {mx : Nat} {rt : Option FieldType} {a : Array Value} {s : State} {m : MethodId} {meth : Method} {c : Code} (h1 : s.methodNamed? y = some m) (h2 : s.vm.method? m = some meth) (h3 : meth.code = some c) (h4 : c.code = bytes)
    (h5 : (c.maxLocals == mx && c.exceptionTable.isEmpty && decide (c.maxStack ≤ mostOperands) && decide (meth.sig.returnType = rt) && !meth.locks && decide (parseMethodDescriptor y.desc = some meth.sig)) = true) : (Jvm.Cond.code y bytes mx rt).before a s = true := by
  simp only [Bool.and_eq_true, beq_iff_eq, Bool.not_eq_true', decide_eq_true_eq] at h5
  obtain ⟨⟨⟨⟨⟨g1, g2⟩, g3⟩, g4⟩, g5⟩, g6⟩ := h5
  simp [Cond.before, Cond.holds, Cond.value, h1, h2, h3, h4, g1, g2, g3, g4, g5, g6]
def isCode : Jvm.Cond → Bool
  | .code _ _ _ _ => true
  | _ => false
theorem all_split {L : List Jvm.Cond} {P : Jvm.Cond → Bool} (h1 : L.all (fun c => isCode c || P c) = true) (h2 : ∀ c ∈ L.filter isCode, P c = true) : L.all P = true := by
  refine List.all_eq_true.mpr fun c hc => ?_
  have h := List.all_eq_true.mp h1 c hc
  rcases Bool.eq_false_or_eq_true (isCode c) with hi | hi
  · exact h2 c (List.mem_filter.mpr ⟨hc, hi⟩)
  · simpa [hi] using h
set_option maxRecDepth 65536 in
theorem w_c0 : (Jvm.Cond.code x code maxLocals ret).before args0 about1 = true := code_word (m := ⟨1, 1⟩) (meth := k1m1) (c := k1c1) (by decide +kernel) rfl rfl rfl (by decide +kernel)
set_option maxRecDepth 65536 in
theorem w_c1 : (Jvm.Cond.code ({ cls := "com/example/skywright/skywright/search/Bands", name := "<init>", desc := "(DD)V" } : Jvm.MethodName) prog_27_method_1_code (5 : Nat) (Option.none : Option Jvm.ClassFile.FieldType)).before args0 about1 = true := code_word (m := ⟨2, 0⟩) (meth := k2m0) (c := k2c0) (by decide +kernel) rfl rfl rfl (by decide +kernel)
set_option maxRecDepth 65536 in
theorem w_c2 : (Jvm.Cond.code ({ cls := "java/lang/Object", name := "<init>", desc := "()V" } : Jvm.MethodName) object_method_1_code (1 : Nat) (Option.none : Option Jvm.ClassFile.FieldType)).before args0 about1 = true := code_word (m := ⟨0, 0⟩) (meth := k0m0) (c := k0c0) (by decide +kernel) rfl rfl rfl (by decide +kernel)
set_option maxRecDepth 65536 in
theorem w_c3 : (Jvm.Cond.code ({ cls := "com/example/skywright/skywright/search/Bands", name := "nextHeld", desc := "(I)I" } : Jvm.MethodName) prog_27_method_5_code (3 : Nat) (Option.some Jvm.ClassFile.FieldType.int)).before args0 about1 = true := code_word (m := ⟨2, 2⟩) (meth := k2m2) (c := k2c2) (by decide +kernel) rfl rfl rfl (by decide +kernel)
set_option maxRecDepth 65536 in
theorem w_c4 : (Jvm.Cond.code ({ cls := "com/example/skywright/skywright/search/Bands", name := "add", desc := "(IJ)V" } : Jvm.MethodName) prog_27_method_4_code (4 : Nat) (Option.none : Option Jvm.ClassFile.FieldType)).before args0 about1 = true := code_word (m := ⟨2, 1⟩) (meth := k2m1) (c := k2c1) (by decide +kernel) rfl rfl rfl (by decide +kernel)
set_option maxRecDepth 65536 in
theorem w_c5 : (Jvm.Cond.code ({ cls := "java/lang/Math", name := "min", desc := "(II)I" } : Jvm.MethodName) jdk_29_method_69_code (2 : Nat) (Option.some Jvm.ClassFile.FieldType.int)).before args0 about1 = true := code_word (m := ⟨3, 2⟩) (meth := k3m2) (c := k3c2) (by decide +kernel) rfl rfl rfl (by decide +kernel)
set_option maxRecDepth 65536 in
theorem w_c6 : (Jvm.Cond.code ({ cls := "java/lang/Math", name := "max", desc := "(II)I" } : Jvm.MethodName) jdk_29_method_65_code (2 : Nat) (Option.some Jvm.ClassFile.FieldType.int)).before args0 about1 = true := code_word (m := ⟨3, 1⟩) (meth := k3m1) (c := k3c1) (by decide +kernel) rfl rfl rfl (by decide +kernel)
def codes1 : List Jvm.Cond := [Jvm.Cond.code x code maxLocals ret, Jvm.Cond.code ({ cls := "com/example/skywright/skywright/search/Bands", name := "<init>", desc := "(DD)V" } : Jvm.MethodName) prog_27_method_1_code (5 : Nat) (Option.none : Option Jvm.ClassFile.FieldType), Jvm.Cond.code ({ cls := "java/lang/Object", name := "<init>", desc := "()V" } : Jvm.MethodName) object_method_1_code (1 : Nat) (Option.none : Option Jvm.ClassFile.FieldType), Jvm.Cond.code ({ cls := "com/example/skywright/skywright/search/Bands", name := "nextHeld", desc := "(I)I" } : Jvm.MethodName) prog_27_method_5_code (3 : Nat) (Option.some Jvm.ClassFile.FieldType.int), Jvm.Cond.code ({ cls := "com/example/skywright/skywright/search/Bands", name := "add", desc := "(IJ)V" } : Jvm.MethodName) prog_27_method_4_code (4 : Nat) (Option.none : Option Jvm.ClassFile.FieldType), Jvm.Cond.code ({ cls := "java/lang/Math", name := "min", desc := "(II)I" } : Jvm.MethodName) jdk_29_method_69_code (2 : Nat) (Option.some Jvm.ClassFile.FieldType.int), Jvm.Cond.code ({ cls := "java/lang/Math", name := "max", desc := "(II)I" } : Jvm.MethodName) jdk_29_method_65_code (2 : Nat) (Option.some Jvm.ClassFile.FieldType.int)]
set_option maxRecDepth 65536 in
theorem codes_eq : words1.filter isCode = codes1 := rfl
theorem w_codes : ∀ c ∈ words1.filter isCode, c.before args0 about1 = true := by
  rw [codes_eq]
  intro c hc
  simp only [codes1, List.mem_cons, List.not_mem_nil, or_false] at hc
  rcases hc with rfl | rfl | rfl | rfl | rfl | rfl | rfl
  · exact w_c0
  · exact w_c1
  · exact w_c2
  · exact w_c3
  · exact w_c4
  · exact w_c5
  · exact w_c6
set_option maxRecDepth 65536 in
theorem w_t1 : (words1.take 24).all (fun c => isCode c || c.before args0 about1) = true := by decide +kernel
set_option maxRecDepth 65536 in
theorem w_t2 : (words1.drop 24).all (fun c => isCode c || c.before args0 about1) = true := by decide +kernel
theorem w_tables : (allAtoms (Jvm.Cond.code x code maxLocals ret :: tables_1)).before args0 about1 = true := by
  rw [allAtoms_all]
  show words1.all (fun c => c.before args0 about1) = true
  refine all_split ?_ w_codes
  rw [← List.take_append_drop 24 words1, List.all_append, w_t1, w_t2]
  rfl
set_option maxRecDepth 65536 in
theorem w_case : (Jvm.Cond.and given_1 narrow_1).before args0 about1 = true := by decide +kernel
theorem w_applies : (headSpec (Jvm.Cond.code x code maxLocals ret :: tables_1) room_1).applies x e0.platform about1 = true :=
  (Spec.applies_iff w_frames).mpr ⟨w_running, w_runnable, w_alone, w_named, w_hears, w_ripe, w_room, w_tables⟩
theorem atStart : AtStart classFile x code maxLocals ret World_1 tables_1 room_1 Calls_1 rest_1 Pre_1 launch0 p0 e0 about1 theMethod args0 below0 :=
  ⟨lists_1, trivial, launch0.admits_env _ _ _, launch0.least_env, fairChoices_fair.cas, fairChoices_fair.clock, w_frames, w_args, w_heap, w_applies, trivial, trivial, w_case⟩
end start1
theorem witness_1 : WitnessClaimed_1 := ⟨start1.p0, start1.e0, start1.about1, start1.theMethod, start1.args0, start1.below0, start1.atStart⟩
end Jvm.Pilot.@@N@@
