import JvmDerived
import JvmDerived.Pilot.@@N@@Statement
import JvmDerived.Pilot.@@N@@Code
set_option linter.unusedVariables false
set_option linter.unusedSimpArgs false
namespace Jvm.Pilot.@@N@@
open Jvm Jvm.ClassFile Sem Op Lib Jvm.Free Jvm.Stand Jvm.LawKit Jvm.RoadKit Bundle Jvm.Pilot.@@N@@.Jvm.D
section OwnKit
variable {p : Program} {l : Launch} {e : Env} {R : Room} {s : State} {m : MethodId} {args : Array Value} {below : List Frame} {meth : Method} {c : Code} {T : State} {locs : List Loc} {cells slots : Nat} {P : State → Outcome → Prop} {pc : Nat} {Ls : Array Slot} {st : List Value} {Z : State} {a0 : Array Value} {h : Heap} {own : String} {index : Nat}
/-- what is still owed from a state on -/
def Go (p : Program) (e : Env) (below : List Frame) (P : State → Outcome → Prop) (S : State) : Prop := ∃ s₂ o, Steps p.tables e below S s₂ ∧ s₂.status = .running ∧ Ended s₂ below o ∧ P s₂ o
theorem Go.by {S S' : State} (st : ∀ t, Steps p.tables e below S' t → Steps p.tables e below S t) (k : Go p e below P S') : Go p e below P S := by
  obtain ⟨a, b, h1, h2⟩ := k
  exact ⟨a, b, st _ h1, h2⟩
def Ret (s : State) (Q : Option Value → Heap → List Loc → Prop) (C N : Nat) (s₂ : State) (o : Outcome) : Prop := ∃ v L, o = .returned v ∧ Q v s₂.heap L ∧ FrameEnd s o s₂ L C N

theorem g_iloadN (X : Stand p l e R s m args below meth c T locs cells slots) (hx : p.tables.exec = Jvm.exec) {k : Fin 4} {v : Int32} (hd : decode c.code pc = .ok (.iload_n k, 1)) (hl : Ls[k.val]? = some (.val (.int v))) (q : Go p e below P (T.setTop (mkF m (pc + 1) Ls (.int v :: st)))) : Go p e below P (T.setTop (mkF m pc Ls st)) := q.by fun t r => XS.iloadN X.here hx rfl hd hl r
theorem g_iload (X : Stand p l e R s m args below meth c T locs cells slots) (hx : p.tables.exec = Jvm.exec) {k : Nat} {v : Int32} (hd : decode c.code pc = .ok (.iload k, 2)) (hl : Ls[k]? = some (.val (.int v))) (q : Go p e below P (T.setTop (mkF m (pc + 2) Ls (.int v :: st)))) : Go p e below P (T.setTop (mkF m pc Ls st)) := q.by fun t r => XS.iload X.here hx rfl hd hl r
theorem g_lloadN (X : Stand p l e R s m args below meth c T locs cells slots) (hx : p.tables.exec = Jvm.exec) {k : Fin 4} {v : Int64} (hd : decode c.code pc = .ok (.lload_n k, 1)) (hl : Ls[k.val]? = some (.val (.long v))) (q : Go p e below P (T.setTop (mkF m (pc + 1) Ls (.long v :: st)))) : Go p e below P (T.setTop (mkF m pc Ls st)) := q.by fun t r => XS.lloadN X.here hx rfl hd hl r
theorem g_lload (X : Stand p l e R s m args below meth c T locs cells slots) (hx : p.tables.exec = Jvm.exec) {k : Nat} {v : Int64} (hd : decode c.code pc = .ok (.lload k, 2)) (hl : Ls[k]? = some (.val (.long v))) (q : Go p e below P (T.setTop (mkF m (pc + 2) Ls (.long v :: st)))) : Go p e below P (T.setTop (mkF m pc Ls st)) := q.by fun t r => XS.lload X.here hx rfl hd hl r
theorem g_dloadN (X : Stand p l e R s m args below meth c T locs cells slots) (hx : p.tables.exec = Jvm.exec) {k : Fin 4} {v : UInt64} (hd : decode c.code pc = .ok (.dload_n k, 1)) (hl : Ls[k.val]? = some (.val (.double v))) (q : Go p e below P (T.setTop (mkF m (pc + 1) Ls (.double v :: st)))) : Go p e below P (T.setTop (mkF m pc Ls st)) := q.by fun t r => XS.dloadN X.here hx rfl hd hl r
theorem g_dload (X : Stand p l e R s m args below meth c T locs cells slots) (hx : p.tables.exec = Jvm.exec) {k : Nat} {v : UInt64} (hd : decode c.code pc = .ok (.dload k, 2)) (hl : Ls[k]? = some (.val (.double v))) (q : Go p e below P (T.setTop (mkF m (pc + 2) Ls (.double v :: st)))) : Go p e below P (T.setTop (mkF m pc Ls st)) := q.by fun t r => XS.dload X.here hx rfl hd hl r
theorem g_floadN (X : Stand p l e R s m args below meth c T locs cells slots) (hx : p.tables.exec = Jvm.exec) {k : Fin 4} {v : UInt32} (hd : decode c.code pc = .ok (.fload_n k, 1)) (hl : Ls[k.val]? = some (.val (.float v))) (q : Go p e below P (T.setTop (mkF m (pc + 1) Ls (.float v :: st)))) : Go p e below P (T.setTop (mkF m pc Ls st)) := q.by fun t r => XS.floadN X.here hx rfl hd hl r
theorem g_fload (X : Stand p l e R s m args below meth c T locs cells slots) (hx : p.tables.exec = Jvm.exec) {k : Nat} {v : UInt32} (hd : decode c.code pc = .ok (.fload k, 2)) (hl : Ls[k]? = some (.val (.float v))) (q : Go p e below P (T.setTop (mkF m (pc + 2) Ls (.float v :: st)))) : Go p e below P (T.setTop (mkF m pc Ls st)) := q.by fun t r => XS.fload X.here hx rfl hd hl r
theorem g_aloadN (X : Stand p l e R s m args below meth c T locs cells slots) (hx : p.tables.exec = Jvm.exec) {k : Fin 4} {v : Value} (hd : decode c.code pc = .ok (.aload_n k, 1)) (hl : Ls[k.val]? = some (.val v)) (hv : v.isRef = true) (q : Go p e below P (T.setTop (mkF m (pc + 1) Ls (v :: st)))) : Go p e below P (T.setTop (mkF m pc Ls st)) := q.by fun t r => XS.aloadN X.here hx rfl hd hl hv r
theorem g_aload (X : Stand p l e R s m args below meth c T locs cells slots) (hx : p.tables.exec = Jvm.exec) {k : Nat} {v : Value} (hd : decode c.code pc = .ok (.aload k, 2)) (hl : Ls[k]? = some (.val v)) (hv : v.isRef = true) (q : Go p e below P (T.setTop (mkF m (pc + 2) Ls (v :: st)))) : Go p e below P (T.setTop (mkF m pc Ls st)) := q.by fun t r => XS.aload X.here hx rfl hd hl hv r
theorem g_istoreN (X : Stand p l e R s m args below meth c T locs cells slots) (hx : p.tables.exec = Jvm.exec) {k : Fin 4} {v : Int32} {L' : Array Slot} (hd : decode c.code pc = .ok (.istore_n k, 1)) (hl : storeLocals Ls k.val (.int v) = some L') (q : Go p e below P (T.setTop (mkF m (pc + 1) L' st))) : Go p e below P (T.setTop (mkF m pc Ls (.int v :: st))) := q.by fun t r => XS.istoreN X.here hx rfl hd rfl hl r
theorem g_istore (X : Stand p l e R s m args below meth c T locs cells slots) (hx : p.tables.exec = Jvm.exec) {k : Nat} {v : Int32} {L' : Array Slot} (hd : decode c.code pc = .ok (.istore k, 2)) (hl : storeLocals Ls k (.int v) = some L') (q : Go p e below P (T.setTop (mkF m (pc + 2) L' st))) : Go p e below P (T.setTop (mkF m pc Ls (.int v :: st))) := q.by fun t r => XS.istore X.here hx rfl hd rfl hl r
theorem g_lstoreN (X : Stand p l e R s m args below meth c T locs cells slots) (hx : p.tables.exec = Jvm.exec) {k : Fin 4} {v : Int64} {L' : Array Slot} (hd : decode c.code pc = .ok (.lstore_n k, 1)) (hl : storeLocals Ls k.val (.long v) = some L') (q : Go p e below P (T.setTop (mkF m (pc + 1) L' st))) : Go p e below P (T.setTop (mkF m pc Ls (.long v :: st))) := q.by fun t r => XS.lstoreN X.here hx rfl hd rfl hl r
theorem g_lstore (X : Stand p l e R s m args below meth c T locs cells slots) (hx : p.tables.exec = Jvm.exec) {k : Nat} {v : Int64} {L' : Array Slot} (hd : decode c.code pc = .ok (.lstore k, 2)) (hl : storeLocals Ls k (.long v) = some L') (q : Go p e below P (T.setTop (mkF m (pc + 2) L' st))) : Go p e below P (T.setTop (mkF m pc Ls (.long v :: st))) := q.by fun t r => XS.lstore X.here hx rfl hd rfl hl r
theorem g_dstoreN (X : Stand p l e R s m args below meth c T locs cells slots) (hx : p.tables.exec = Jvm.exec) {k : Fin 4} {v : UInt64} {L' : Array Slot} (hd : decode c.code pc = .ok (.dstore_n k, 1)) (hl : storeLocals Ls k.val (.double v) = some L') (q : Go p e below P (T.setTop (mkF m (pc + 1) L' st))) : Go p e below P (T.setTop (mkF m pc Ls (.double v :: st))) := q.by fun t r => XS.dstoreN X.here hx rfl hd rfl hl r
theorem g_dstore (X : Stand p l e R s m args below meth c T locs cells slots) (hx : p.tables.exec = Jvm.exec) {k : Nat} {v : UInt64} {L' : Array Slot} (hd : decode c.code pc = .ok (.dstore k, 2)) (hl : storeLocals Ls k (.double v) = some L') (q : Go p e below P (T.setTop (mkF m (pc + 2) L' st))) : Go p e below P (T.setTop (mkF m pc Ls (.double v :: st))) := q.by fun t r => XS.dstore X.here hx rfl hd rfl hl r
theorem g_fstoreN (X : Stand p l e R s m args below meth c T locs cells slots) (hx : p.tables.exec = Jvm.exec) {k : Fin 4} {v : UInt32} {L' : Array Slot} (hd : decode c.code pc = .ok (.fstore_n k, 1)) (hl : storeLocals Ls k.val (.float v) = some L') (q : Go p e below P (T.setTop (mkF m (pc + 1) L' st))) : Go p e below P (T.setTop (mkF m pc Ls (.float v :: st))) := q.by fun t r => XS.fstoreN X.here hx rfl hd rfl hl r
theorem g_fstore (X : Stand p l e R s m args below meth c T locs cells slots) (hx : p.tables.exec = Jvm.exec) {k : Nat} {v : UInt32} {L' : Array Slot} (hd : decode c.code pc = .ok (.fstore k, 2)) (hl : storeLocals Ls k (.float v) = some L') (q : Go p e below P (T.setTop (mkF m (pc + 2) L' st))) : Go p e below P (T.setTop (mkF m pc Ls (.float v :: st))) := q.by fun t r => XS.fstore X.here hx rfl hd rfl hl r
theorem g_astoreN (X : Stand p l e R s m args below meth c T locs cells slots) (hx : p.tables.exec = Jvm.exec) {k : Fin 4} {v : Value} {L' : Array Slot} (hd : decode c.code pc = .ok (.astore_n k, 1)) (hv : v.isRef = true) (hl : storeLocals Ls k.val v = some L') (q : Go p e below P (T.setTop (mkF m (pc + 1) L' st))) : Go p e below P (T.setTop (mkF m pc Ls (v :: st))) := q.by fun t r => XS.astoreN X.here hx rfl hd rfl hv hl r
theorem g_astore (X : Stand p l e R s m args below meth c T locs cells slots) (hx : p.tables.exec = Jvm.exec) {k : Nat} {v : Value} {L' : Array Slot} (hd : decode c.code pc = .ok (.astore k, 2)) (hv : v.isRef = true) (hl : storeLocals Ls k v = some L') (q : Go p e below P (T.setTop (mkF m (pc + 2) L' st))) : Go p e below P (T.setTop (mkF m pc Ls (v :: st))) := q.by fun t r => XS.astore X.here hx rfl hd rfl hv hl r
theorem g_iconst (X : Stand p l e R s m args below meth c T locs cells slots) (hx : p.tables.exec = Jvm.exec) {i : Int} {v : Int32} (hd : decode c.code pc = .ok (.iconst i, 1)) (hv : Int32.ofInt i = v) (q : Go p e below P (T.setTop (mkF m (pc + 1) Ls (.int v :: st)))) : Go p e below P (T.setTop (mkF m pc Ls st)) := q.by fun t r => XS.iconst X.here hx rfl hd (hv ▸ r)
theorem g_bipush (X : Stand p l e R s m args below meth c T locs cells slots) (hx : p.tables.exec = Jvm.exec) {i : Int} {v : Int32} (hd : decode c.code pc = .ok (.bipush i, 2)) (hv : (Int8.ofInt i).toInt32 = v) (q : Go p e below P (T.setTop (mkF m (pc + 2) Ls (.int v :: st)))) : Go p e below P (T.setTop (mkF m pc Ls st)) := q.by fun t r => XS.bipush X.here hx rfl hd (hv ▸ r)
theorem g_sipush (X : Stand p l e R s m args below meth c T locs cells slots) (hx : p.tables.exec = Jvm.exec) {i : Int} {v : Int32} (hd : decode c.code pc = .ok (.sipush i, 3)) (hv : (Int16.ofInt i).toInt32 = v) (q : Go p e below P (T.setTop (mkF m (pc + 3) Ls (.int v :: st)))) : Go p e below P (T.setTop (mkF m pc Ls st)) := q.by fun t r => XS.sipush X.here hx rfl hd (hv ▸ r)
theorem g_lconst0 (X : Stand p l e R s m args below meth c T locs cells slots) (hx : p.tables.exec = Jvm.exec)  (hd : decode c.code pc = .ok (.lconst 0, 1))  (q : Go p e below P (T.setTop (mkF m (pc + 1) Ls (.long 0 :: st)))) : Go p e below P (T.setTop (mkF m pc Ls st)) := q.by fun t r => XS.lconst X.here hx rfl hd r
theorem g_lconst1 (X : Stand p l e R s m args below meth c T locs cells slots) (hx : p.tables.exec = Jvm.exec)  (hd : decode c.code pc = .ok (.lconst 1, 1))  (q : Go p e below P (T.setTop (mkF m (pc + 1) Ls (.long 1 :: st)))) : Go p e below P (T.setTop (mkF m pc Ls st)) := q.by fun t r => XS.lconst X.here hx rfl hd r
theorem g_aconst_null (X : Stand p l e R s m args below meth c T locs cells slots) (hx : p.tables.exec = Jvm.exec)  (hd : decode c.code pc = .ok (.aconst_null, 1))  (q : Go p e below P (T.setTop (mkF m (pc + 1) Ls (.null :: st)))) : Go p e below P (T.setTop (mkF m pc Ls st)) := q.by fun t r => XS.aconstNull X.here hx rfl hd r
theorem g_dconst0 (X : Stand p l e R s m args below meth c T locs cells slots) (hx : p.tables.exec = Jvm.exec)  (hd : decode c.code pc = .ok (.dconst 0, 1))  (q : Go p e below P (T.setTop (mkF m (pc + 1) Ls (.double 0 :: st)))) : Go p e below P (T.setTop (mkF m pc Ls st)) := q.by fun t r => XS.dconst0 X.here hx rfl hd rfl r
theorem g_dconst1 (X : Stand p l e R s m args below meth c T locs cells slots) (hx : p.tables.exec = Jvm.exec)  (hd : decode c.code pc = .ok (.dconst 1, 1))  (q : Go p e below P (T.setTop (mkF m (pc + 1) Ls (.double 4607182418800017408 :: st)))) : Go p e below P (T.setTop (mkF m pc Ls st)) := q.by fun t r => XS.dconst1 X.here hx rfl hd rfl r
theorem g_iadd (X : Stand p l e R s m args below meth c T locs cells slots) (hx : p.tables.exec = Jvm.exec) {x y v : Int32} (hd : decode c.code pc = .ok (.iadd, 1)) (hv : x + y = v) (q : Go p e below P (T.setTop (mkF m (pc + 1) Ls (.int v :: st)))) : Go p e below P (T.setTop (mkF m pc Ls (.int y :: .int x :: st))) := q.by fun t r => XS.iadd X.here hx rfl hd rfl (hv ▸ r)
theorem g_isub (X : Stand p l e R s m args below meth c T locs cells slots) (hx : p.tables.exec = Jvm.exec) {x y v : Int32} (hd : decode c.code pc = .ok (.isub, 1)) (hv : x - y = v) (q : Go p e below P (T.setTop (mkF m (pc + 1) Ls (.int v :: st)))) : Go p e below P (T.setTop (mkF m pc Ls (.int y :: .int x :: st))) := q.by fun t r => XS.isub X.here hx rfl hd rfl (hv ▸ r)
theorem g_imul (X : Stand p l e R s m args below meth c T locs cells slots) (hx : p.tables.exec = Jvm.exec) {x y v : Int32} (hd : decode c.code pc = .ok (.imul, 1)) (hv : x * y = v) (q : Go p e below P (T.setTop (mkF m (pc + 1) Ls (.int v :: st)))) : Go p e below P (T.setTop (mkF m pc Ls (.int y :: .int x :: st))) := q.by fun t r => XS.imul X.here hx rfl hd rfl (hv ▸ r)
theorem g_iand (X : Stand p l e R s m args below meth c T locs cells slots) (hx : p.tables.exec = Jvm.exec) {x y v : Int32} (hd : decode c.code pc = .ok (.iand, 1)) (hv : x &&& y = v) (q : Go p e below P (T.setTop (mkF m (pc + 1) Ls (.int v :: st)))) : Go p e below P (T.setTop (mkF m pc Ls (.int y :: .int x :: st))) := q.by fun t r => XS.iand X.here hx rfl hd rfl (hv ▸ r)
theorem g_ior (X : Stand p l e R s m args below meth c T locs cells slots) (hx : p.tables.exec = Jvm.exec) {x y v : Int32} (hd : decode c.code pc = .ok (.ior, 1)) (hv : x ||| y = v) (q : Go p e below P (T.setTop (mkF m (pc + 1) Ls (.int v :: st)))) : Go p e below P (T.setTop (mkF m pc Ls (.int y :: .int x :: st))) := q.by fun t r => XS.ior X.here hx rfl hd rfl (hv ▸ r)
theorem g_ixor (X : Stand p l e R s m args below meth c T locs cells slots) (hx : p.tables.exec = Jvm.exec) {x y v : Int32} (hd : decode c.code pc = .ok (.ixor, 1)) (hv : x ^^^ y = v) (q : Go p e below P (T.setTop (mkF m (pc + 1) Ls (.int v :: st)))) : Go p e below P (T.setTop (mkF m pc Ls (.int y :: .int x :: st))) := q.by fun t r => XS.ixor X.here hx rfl hd rfl (hv ▸ r)
theorem g_ladd (X : Stand p l e R s m args below meth c T locs cells slots) (hx : p.tables.exec = Jvm.exec) {x y v : Int64} (hd : decode c.code pc = .ok (.ladd, 1)) (hv : x + y = v) (q : Go p e below P (T.setTop (mkF m (pc + 1) Ls (.long v :: st)))) : Go p e below P (T.setTop (mkF m pc Ls (.long y :: .long x :: st))) := q.by fun t r => XS.ladd X.here hx rfl hd rfl (hv ▸ r)
theorem g_lsub (X : Stand p l e R s m args below meth c T locs cells slots) (hx : p.tables.exec = Jvm.exec) {x y v : Int64} (hd : decode c.code pc = .ok (.lsub, 1)) (hv : x - y = v) (q : Go p e below P (T.setTop (mkF m (pc + 1) Ls (.long v :: st)))) : Go p e below P (T.setTop (mkF m pc Ls (.long y :: .long x :: st))) := q.by fun t r => XS.lsub X.here hx rfl hd rfl (hv ▸ r)
theorem g_lmul (X : Stand p l e R s m args below meth c T locs cells slots) (hx : p.tables.exec = Jvm.exec) {x y v : Int64} (hd : decode c.code pc = .ok (.lmul, 1)) (hv : x * y = v) (q : Go p e below P (T.setTop (mkF m (pc + 1) Ls (.long v :: st)))) : Go p e below P (T.setTop (mkF m pc Ls (.long y :: .long x :: st))) := q.by fun t r => XS.lmul X.here hx rfl hd rfl (hv ▸ r)
theorem g_land (X : Stand p l e R s m args below meth c T locs cells slots) (hx : p.tables.exec = Jvm.exec) {x y v : Int64} (hd : decode c.code pc = .ok (.land, 1)) (hv : x &&& y = v) (q : Go p e below P (T.setTop (mkF m (pc + 1) Ls (.long v :: st)))) : Go p e below P (T.setTop (mkF m pc Ls (.long y :: .long x :: st))) := q.by fun t r => XS.land X.here hx rfl hd rfl (hv ▸ r)
theorem g_lor (X : Stand p l e R s m args below meth c T locs cells slots) (hx : p.tables.exec = Jvm.exec) {x y v : Int64} (hd : decode c.code pc = .ok (.lor, 1)) (hv : x ||| y = v) (q : Go p e below P (T.setTop (mkF m (pc + 1) Ls (.long v :: st)))) : Go p e below P (T.setTop (mkF m pc Ls (.long y :: .long x :: st))) := q.by fun t r => XS.lor X.here hx rfl hd rfl (hv ▸ r)
theorem g_ishl (X : Stand p l e R s m args below meth c T locs cells slots) (hx : p.tables.exec = Jvm.exec) {x y v : Int32} (hd : decode c.code pc = .ok (.ishl, 1)) (hv : x <<< (y &&& 31) = v) (q : Go p e below P (T.setTop (mkF m (pc + 1) Ls (.int v :: st)))) : Go p e below P (T.setTop (mkF m pc Ls (.int y :: .int x :: st))) := q.by fun t r => XS.ishl X.here hx rfl hd rfl (hv ▸ r)
theorem g_ishr (X : Stand p l e R s m args below meth c T locs cells slots) (hx : p.tables.exec = Jvm.exec) {x y v : Int32} (hd : decode c.code pc = .ok (.ishr, 1)) (hv : x >>> (y &&& 31) = v) (q : Go p e below P (T.setTop (mkF m (pc + 1) Ls (.int v :: st)))) : Go p e below P (T.setTop (mkF m pc Ls (.int y :: .int x :: st))) := q.by fun t r => XS.ishr X.here hx rfl hd rfl (hv ▸ r)
theorem g_iushr (X : Stand p l e R s m args below meth c T locs cells slots) (hx : p.tables.exec = Jvm.exec) {x y v : Int32} (hd : decode c.code pc = .ok (.iushr, 1)) (hv : (x.toUInt32 >>> (y &&& 31).toUInt32).toInt32 = v) (q : Go p e below P (T.setTop (mkF m (pc + 1) Ls (.int v :: st)))) : Go p e below P (T.setTop (mkF m pc Ls (.int y :: .int x :: st))) := q.by fun t r => XS.iushr X.here hx rfl hd rfl (hv ▸ r)
theorem g_idiv (X : Stand p l e R s m args below meth c T locs cells slots) (hx : p.tables.exec = Jvm.exec) {x y v : Int32} (hd : decode c.code pc = .ok (.idiv, 1)) (hy : y ≠ 0) (hv : x / y = v) (q : Go p e below P (T.setTop (mkF m (pc + 1) Ls (.int v :: st)))) : Go p e below P (T.setTop (mkF m pc Ls (.int y :: .int x :: st))) := q.by fun t r => XS.idiv X.here hx rfl hd rfl hy (hv ▸ r)
theorem g_irem (X : Stand p l e R s m args below meth c T locs cells slots) (hx : p.tables.exec = Jvm.exec) {x y v : Int32} (hd : decode c.code pc = .ok (.irem, 1)) (hy : y ≠ 0) (hv : x % y = v) (q : Go p e below P (T.setTop (mkF m (pc + 1) Ls (.int v :: st)))) : Go p e below P (T.setTop (mkF m pc Ls (.int y :: .int x :: st))) := q.by fun t r => XS.irem X.here hx rfl hd rfl hy (irem_eq_mod x y ▸ hv ▸ r)
theorem g_ldiv (X : Stand p l e R s m args below meth c T locs cells slots) (hx : p.tables.exec = Jvm.exec) {x y v : Int64} (hd : decode c.code pc = .ok (.ldiv, 1)) (hy : y ≠ 0) (hv : x / y = v) (q : Go p e below P (T.setTop (mkF m (pc + 1) Ls (.long v :: st)))) : Go p e below P (T.setTop (mkF m pc Ls (.long y :: .long x :: st))) := q.by fun t r => XS.ldiv X.here hx rfl hd rfl hy (hv ▸ r)
theorem g_lshl (X : Stand p l e R s m args below meth c T locs cells slots) (hx : p.tables.exec = Jvm.exec) {x v : Int64} {y : Int32} (hd : decode c.code pc = .ok (.lshl, 1)) (hv : x <<< (y &&& 0x3f).toInt64 = v) (q : Go p e below P (T.setTop (mkF m (pc + 1) Ls (.long v :: st)))) : Go p e below P (T.setTop (mkF m pc Ls (.int y :: .long x :: st))) := q.by fun t r => XS.lshl X.here hx rfl hd rfl (hv ▸ r)
theorem g_lshr (X : Stand p l e R s m args below meth c T locs cells slots) (hx : p.tables.exec = Jvm.exec) {x v : Int64} {y : Int32} (hd : decode c.code pc = .ok (.lshr, 1)) (hv : x >>> (y &&& 0x3f).toInt64 = v) (q : Go p e below P (T.setTop (mkF m (pc + 1) Ls (.long v :: st)))) : Go p e below P (T.setTop (mkF m pc Ls (.int y :: .long x :: st))) := q.by fun t r => XS.lshr X.here hx rfl hd rfl (hv ▸ r)
theorem g_lushr (X : Stand p l e R s m args below meth c T locs cells slots) (hx : p.tables.exec = Jvm.exec) {x v : Int64} {y : Int32} (hd : decode c.code pc = .ok (.lushr, 1)) (hv : (x.toUInt64 >>> (y &&& 0x3f).toInt64.toUInt64).toInt64 = v) (q : Go p e below P (T.setTop (mkF m (pc + 1) Ls (.long v :: st)))) : Go p e below P (T.setTop (mkF m pc Ls (.int y :: .long x :: st))) := q.by fun t r => XS.lushr X.here hx rfl hd rfl (hv ▸ r)
theorem g_lcmp (X : Stand p l e R s m args below meth c T locs cells slots) (hx : p.tables.exec = Jvm.exec) {x y : Int64} (hd : decode c.code pc = .ok (.lcmp, 1))  (q : Go p e below P (T.setTop (mkF m (pc + 1) Ls (.int (lcmpW x y) :: st)))) : Go p e below P (T.setTop (mkF m pc Ls (.long y :: .long x :: st))) := q.by fun t r => XS.lcmp X.here hx rfl hd rfl r
theorem g_ineg (X : Stand p l e R s m args below meth c T locs cells slots) (hx : p.tables.exec = Jvm.exec) {x : Int32} {v : Int32} (hd : decode c.code pc = .ok (.ineg, 1)) (hv : -x = v) (q : Go p e below P (T.setTop (mkF m (pc + 1) Ls (.int v :: st)))) : Go p e below P (T.setTop (mkF m pc Ls (.int x :: st))) := q.by fun t r => XS.ineg X.here hx rfl hd rfl (hv ▸ r)
theorem g_lneg (X : Stand p l e R s m args below meth c T locs cells slots) (hx : p.tables.exec = Jvm.exec) {x : Int64} {v : Int64} (hd : decode c.code pc = .ok (.lneg, 1)) (hv : -x = v) (q : Go p e below P (T.setTop (mkF m (pc + 1) Ls (.long v :: st)))) : Go p e below P (T.setTop (mkF m pc Ls (.long x :: st))) := q.by fun t r => XS.lneg X.here hx rfl hd rfl (hv ▸ r)
theorem g_i2l (X : Stand p l e R s m args below meth c T locs cells slots) (hx : p.tables.exec = Jvm.exec) {x : Int32} {v : Int64} (hd : decode c.code pc = .ok (.i2l, 1)) (hv : x.toInt64 = v) (q : Go p e below P (T.setTop (mkF m (pc + 1) Ls (.long v :: st)))) : Go p e below P (T.setTop (mkF m pc Ls (.int x :: st))) := q.by fun t r => XS.i2l X.here hx rfl hd rfl (hv ▸ r)
theorem g_l2i (X : Stand p l e R s m args below meth c T locs cells slots) (hx : p.tables.exec = Jvm.exec) {x : Int64} {v : Int32} (hd : decode c.code pc = .ok (.l2i, 1)) (hv : x.toInt32 = v) (q : Go p e below P (T.setTop (mkF m (pc + 1) Ls (.int v :: st)))) : Go p e below P (T.setTop (mkF m pc Ls (.long x :: st))) := q.by fun t r => XS.l2i X.here hx rfl hd rfl (hv ▸ r)
theorem g_i2b (X : Stand p l e R s m args below meth c T locs cells slots) (hx : p.tables.exec = Jvm.exec) {x : Int32} {v : Int32} (hd : decode c.code pc = .ok (.i2b, 1)) (hv : x.toInt8.toInt32 = v) (q : Go p e below P (T.setTop (mkF m (pc + 1) Ls (.int v :: st)))) : Go p e below P (T.setTop (mkF m pc Ls (.int x :: st))) := q.by fun t r => XS.i2b X.here hx rfl hd rfl (hv ▸ r)
theorem g_i2c (X : Stand p l e R s m args below meth c T locs cells slots) (hx : p.tables.exec = Jvm.exec) {x : Int32} {v : Int32} (hd : decode c.code pc = .ok (.i2c, 1)) (hv : x.toUInt32.toUInt16.toUInt32.toInt32 = v) (q : Go p e below P (T.setTop (mkF m (pc + 1) Ls (.int v :: st)))) : Go p e below P (T.setTop (mkF m pc Ls (.int x :: st))) := q.by fun t r => XS.i2c X.here hx rfl hd rfl (hv ▸ r)
theorem g_i2s (X : Stand p l e R s m args below meth c T locs cells slots) (hx : p.tables.exec = Jvm.exec) {x : Int32} {v : Int32} (hd : decode c.code pc = .ok (.i2s, 1)) (hv : x.toInt16.toInt32 = v) (q : Go p e below P (T.setTop (mkF m (pc + 1) Ls (.int v :: st)))) : Go p e below P (T.setTop (mkF m pc Ls (.int x :: st))) := q.by fun t r => XS.i2s X.here hx rfl hd rfl (hv ▸ r)
theorem g_i2d (X : Stand p l e R s m args below meth c T locs cells slots) (hx : p.tables.exec = Jvm.exec) {x : Int32} {v : UInt64} (hd : decode c.code pc = .ok (.i2d, 1)) (hv : FP.i2d x = v) (q : Go p e below P (T.setTop (mkF m (pc + 1) Ls (.double v :: st)))) : Go p e below P (T.setTop (mkF m pc Ls (.int x :: st))) := q.by fun t r => XS.i2dS X.here hx rfl hd rfl hv r
theorem g_l2d (X : Stand p l e R s m args below meth c T locs cells slots) (hx : p.tables.exec = Jvm.exec) {x : Int64} {v : UInt64} (hd : decode c.code pc = .ok (.l2d, 1)) (hv : FP.l2d x = v) (q : Go p e below P (T.setTop (mkF m (pc + 1) Ls (.double v :: st)))) : Go p e below P (T.setTop (mkF m pc Ls (.long x :: st))) := q.by fun t r => XS.l2dS X.here hx rfl hd rfl hv r
theorem g_d2i (X : Stand p l e R s m args below meth c T locs cells slots) (hx : p.tables.exec = Jvm.exec) {x : UInt64} {v : Int32} (hd : decode c.code pc = .ok (.d2i, 1)) (hv : FP.d2i x = v) (q : Go p e below P (T.setTop (mkF m (pc + 1) Ls (.int v :: st)))) : Go p e below P (T.setTop (mkF m pc Ls (.double x :: st))) := q.by fun t r => XS.d2iS X.here hx rfl hd rfl hv r
theorem g_d2l (X : Stand p l e R s m args below meth c T locs cells slots) (hx : p.tables.exec = Jvm.exec) {x : UInt64} {v : Int64} (hd : decode c.code pc = .ok (.d2l, 1)) (hv : FP.d2l x = v) (q : Go p e below P (T.setTop (mkF m (pc + 1) Ls (.long v :: st)))) : Go p e below P (T.setTop (mkF m pc Ls (.double x :: st))) := q.by fun t r => XS.d2lS X.here hx rfl hd rfl hv r
theorem g_dneg (X : Stand p l e R s m args below meth c T locs cells slots) (hx : p.tables.exec = Jvm.exec) {x : UInt64} {v : UInt64} (hd : decode c.code pc = .ok (.dneg, 1)) (hv : FP.dneg x = v) (q : Go p e below P (T.setTop (mkF m (pc + 1) Ls (.double v :: st)))) : Go p e below P (T.setTop (mkF m pc Ls (.double x :: st))) := q.by fun t r => XS.dnegS X.here hx rfl hd rfl hv r
theorem g_i2f (X : Stand p l e R s m args below meth c T locs cells slots) (hx : p.tables.exec = Jvm.exec) {x : Int32} {v : UInt32} (hd : decode c.code pc = .ok (.i2f, 1)) (hv : FP.i2f x = v) (q : Go p e below P (T.setTop (mkF m (pc + 1) Ls (.float v :: st)))) : Go p e below P (T.setTop (mkF m pc Ls (.int x :: st))) := q.by fun t r => XS.i2fS X.here hx rfl hd rfl hv r
theorem g_l2f (X : Stand p l e R s m args below meth c T locs cells slots) (hx : p.tables.exec = Jvm.exec) {x : Int64} {v : UInt32} (hd : decode c.code pc = .ok (.l2f, 1)) (hv : FP.l2f x = v) (q : Go p e below P (T.setTop (mkF m (pc + 1) Ls (.float v :: st)))) : Go p e below P (T.setTop (mkF m pc Ls (.long x :: st))) := q.by fun t r => XS.l2fS X.here hx rfl hd rfl hv r
theorem g_fneg (X : Stand p l e R s m args below meth c T locs cells slots) (hx : p.tables.exec = Jvm.exec) {x : UInt32} {v : UInt32} (hd : decode c.code pc = .ok (.fneg, 1)) (hv : FP.fneg x = v) (q : Go p e below P (T.setTop (mkF m (pc + 1) Ls (.float v :: st)))) : Go p e below P (T.setTop (mkF m pc Ls (.float x :: st))) := q.by fun t r => XS.fnegS X.here hx rfl hd rfl hv r
theorem g_dadd (X : Stand p l e R s m args below meth c T locs cells slots) (hx : p.tables.exec = Jvm.exec) {x y v : UInt64} (hd : decode c.code pc = .ok (.dadd, 1)) (hn : Jvm.Free.Fl.NoNaN64 (FP.dadd x y)) (hv : FP.dadd x y = v) (q : Go p e below P (T.setTop (mkF m (pc + 1) Ls (.double v :: st)))) : Go p e below P (T.setTop (mkF m pc Ls (.double y :: .double x :: st))) := q.by fun t r => XS.daddS X.here hx rfl hd rfl hn hv r
theorem g_dsub (X : Stand p l e R s m args below meth c T locs cells slots) (hx : p.tables.exec = Jvm.exec) {x y v : UInt64} (hd : decode c.code pc = .ok (.dsub, 1)) (hn : Jvm.Free.Fl.NoNaN64 (FP.dsub x y)) (hv : FP.dsub x y = v) (q : Go p e below P (T.setTop (mkF m (pc + 1) Ls (.double v :: st)))) : Go p e below P (T.setTop (mkF m pc Ls (.double y :: .double x :: st))) := q.by fun t r => XS.dsubS X.here hx rfl hd rfl hn hv r
theorem g_dmul (X : Stand p l e R s m args below meth c T locs cells slots) (hx : p.tables.exec = Jvm.exec) {x y v : UInt64} (hd : decode c.code pc = .ok (.dmul, 1)) (hn : Jvm.Free.Fl.NoNaN64 (FP.dmul x y)) (hv : FP.dmul x y = v) (q : Go p e below P (T.setTop (mkF m (pc + 1) Ls (.double v :: st)))) : Go p e below P (T.setTop (mkF m pc Ls (.double y :: .double x :: st))) := q.by fun t r => XS.dmulS X.here hx rfl hd rfl hn hv r
theorem g_ddiv (X : Stand p l e R s m args below meth c T locs cells slots) (hx : p.tables.exec = Jvm.exec) {x y v : UInt64} (hd : decode c.code pc = .ok (.ddiv, 1)) (hn : Jvm.Free.Fl.NoNaN64 (FP.ddiv x y)) (hv : FP.ddiv x y = v) (q : Go p e below P (T.setTop (mkF m (pc + 1) Ls (.double v :: st)))) : Go p e below P (T.setTop (mkF m pc Ls (.double y :: .double x :: st))) := q.by fun t r => XS.ddivS X.here hx rfl hd rfl hn hv r
theorem g_dcmp (X : Stand p l e R s m args below meth c T locs cells slots) (hx : p.tables.exec = Jvm.exec) {o : CmpOp} {x y : UInt64} (hd : decode c.code pc = .ok (.dcmp o, 1))  (q : Go p e below P (T.setTop (mkF m (pc + 1) Ls (.int (cmpValue (FP.dcmp x y) o) :: st)))) : Go p e below P (T.setTop (mkF m pc Ls (.double y :: .double x :: st))) := q.by fun t r => XS.dcmpS X.here hx rfl hd rfl rfl r
theorem g_fcmp (X : Stand p l e R s m args below meth c T locs cells slots) (hx : p.tables.exec = Jvm.exec) {o : CmpOp} {x y : UInt32} (hd : decode c.code pc = .ok (.fcmp o, 1))  (q : Go p e below P (T.setTop (mkF m (pc + 1) Ls (.int (cmpValue (FP.fcmp x y) o) :: st)))) : Go p e below P (T.setTop (mkF m pc Ls (.float y :: .float x :: st))) := q.by fun t r => XS.fcmpS X.here hx rfl hd rfl rfl r
theorem g_dup (X : Stand p l e R s m args below meth c T locs cells slots) (hx : p.tables.exec = Jvm.exec) {x : Value} (hd : decode c.code pc = .ok (.dup, 1)) (hc : x.category = 1) (q : Go p e below P (T.setTop (mkF m (pc + 1) Ls (x :: x :: st)))) : Go p e below P (T.setTop (mkF m pc Ls (x :: st))) := q.by fun t r => XS.dup X.here hx rfl hd rfl hc r
theorem g_pop (X : Stand p l e R s m args below meth c T locs cells slots) (hx : p.tables.exec = Jvm.exec) {x : Value} (hd : decode c.code pc = .ok (.pop, 1)) (hc : x.category = 1) (q : Go p e below P (T.setTop (mkF m (pc + 1) Ls st))) : Go p e below P (T.setTop (mkF m pc Ls (x :: st))) := q.by fun t r => XS.pop X.here hx rfl hd rfl hc r
theorem g_dup2 (X : Stand p l e R s m args below meth c T locs cells slots) (hx : p.tables.exec = Jvm.exec) {x y : Value} (hd : decode c.code pc = .ok (.dup2, 1)) (hc : x.category = 1) (hc' : y.category = 1) (q : Go p e below P (T.setTop (mkF m (pc + 1) Ls (x :: y :: x :: y :: st)))) : Go p e below P (T.setTop (mkF m pc Ls (x :: y :: st))) := q.by fun t r => XT.dup2 X.here hx rfl hd rfl hc hc' r
theorem g_iinc (X : Stand p l e R s m args below meth c T locs cells slots) (hx : p.tables.exec = Jvm.exec) {k : Nat} {d : Int} {x : Int32} {L' : Array Slot} (hd : decode c.code pc = .ok (.iinc k d, 3)) (hl : Ls[k]? = some (.val (.int x))) (hs : storeLocals Ls k (.int (x + Int32.ofInt d)) = some L') (q : Go p e below P (T.setTop (mkF m (pc + 3) L' st))) : Go p e below P (T.setTop (mkF m pc Ls st)) := q.by fun t r => XS.iinc X.here hx rfl hd hl hs r
theorem g_goto (X : Stand p l e R s m args below meth c T locs cells slots) (hx : p.tables.exec = Jvm.exec)  {o : Int} {pc' : Nat} (hd : decode c.code pc = .ok (.goto o, 3))  (ho : 0 ≤ (pc : Int) + o) (hp : ((pc : Int) + o).toNat = pc') (q : Go p e below P (T.setTop (mkF m pc' Ls st))) : Go p e below P (T.setTop (mkF m pc Ls st)) := q.by fun t r => XS.goto X.here hx rfl rfl hd ho hp r
theorem g_ifYes (X : Stand p l e R s m args below meth c T locs cells slots) (hx : p.tables.exec = Jvm.exec) {cd : ClassFile.Cond} {x : Int32} {o : Int} {pc' : Nat} (hd : decode c.code pc = .ok (.ifCond cd o, 3)) (hc : if_icmp.holds cd x 0 = true) (ho : 0 ≤ (pc : Int) + o) (hp : ((pc : Int) + o).toNat = pc') (q : Go p e below P (T.setTop (mkF m pc' Ls st))) : Go p e below P (T.setTop (mkF m pc Ls (.int x :: st))) := q.by fun t r => XS.ifYes X.here hx rfl rfl hd rfl ((if0 _ _).trans hc) ho hp r
theorem g_icmpYes (X : Stand p l e R s m args below meth c T locs cells slots) (hx : p.tables.exec = Jvm.exec) {cd : ClassFile.Cond} {x y : Int32} {o : Int} {pc' : Nat} (hd : decode c.code pc = .ok (.if_icmp cd o, 3)) (hc : if_icmp.holds cd x y = true) (ho : 0 ≤ (pc : Int) + o) (hp : ((pc : Int) + o).toNat = pc') (q : Go p e below P (T.setTop (mkF m pc' Ls st))) : Go p e below P (T.setTop (mkF m pc Ls (.int y :: .int x :: st))) := q.by fun t r => XS.icmpYes X.here hx rfl rfl hd rfl hc ho hp r
theorem g_ifNo (X : Stand p l e R s m args below meth c T locs cells slots) (hx : p.tables.exec = Jvm.exec) {cd : ClassFile.Cond} {o : Int} {x : Int32} (hd : decode c.code pc = .ok (.ifCond cd o, 3)) (hc : if_icmp.holds cd x 0 = false) (q : Go p e below P (T.setTop (mkF m (pc + 3) Ls st))) : Go p e below P (T.setTop (mkF m pc Ls (.int x :: st))) := q.by fun t r => XS.ifNo X.here hx rfl hd rfl ((if0 _ _).trans hc) r
theorem g_icmpNo (X : Stand p l e R s m args below meth c T locs cells slots) (hx : p.tables.exec = Jvm.exec) {cd : ClassFile.Cond} {o : Int} {x y : Int32} (hd : decode c.code pc = .ok (.if_icmp cd o, 3)) (hc : if_icmp.holds cd x y = false) (q : Go p e below P (T.setTop (mkF m (pc + 3) Ls st))) : Go p e below P (T.setTop (mkF m pc Ls (.int y :: .int x :: st))) := q.by fun t r => XS.icmpNo X.here hx rfl hd rfl hc r
theorem g_ifnonnullYes (X : Stand p l e R s m args below meth c T locs cells slots) (hx : p.tables.exec = Jvm.exec) {b : Addr} {o : Int} {pc' : Nat} (hd : decode c.code pc = .ok (.ifnonnull o, 3))  (ho : 0 ≤ (pc : Int) + o) (hp : ((pc : Int) + o).toNat = pc') (q : Go p e below P (T.setTop (mkF m pc' Ls st))) : Go p e below P (T.setTop (mkF m pc Ls (.ref b :: st))) := q.by fun t r => XS.ifnonnullYes X.here hx rfl rfl hd rfl ho hp r
theorem g_ifnonnullNo (X : Stand p l e R s m args below meth c T locs cells slots) (hx : p.tables.exec = Jvm.exec) {o : Int} (hd : decode c.code pc = .ok (.ifnonnull o, 3))  (q : Go p e below P (T.setTop (mkF m (pc + 3) Ls st))) : Go p e below P (T.setTop (mkF m pc Ls (.null :: st))) := q.by fun t r => XS.ifnonnullNo X.here hx rfl hd rfl r
theorem g_ifnullYes (X : Stand p l e R s m args below meth c T locs cells slots) (hx : p.tables.exec = Jvm.exec)  {o : Int} {pc' : Nat} (hd : decode c.code pc = .ok (.ifnull o, 3))  (ho : 0 ≤ (pc : Int) + o) (hp : ((pc : Int) + o).toNat = pc') (q : Go p e below P (T.setTop (mkF m pc' Ls st))) : Go p e below P (T.setTop (mkF m pc Ls (.null :: st))) := q.by fun t r => XS.ifnullYes X.here hx rfl rfl hd rfl ho hp r
theorem g_ifnullNo (X : Stand p l e R s m args below meth c T locs cells slots) (hx : p.tables.exec = Jvm.exec) {o : Int} {b : Addr} (hd : decode c.code pc = .ok (.ifnull o, 3))  (q : Go p e below P (T.setTop (mkF m (pc + 3) Ls st))) : Go p e below P (T.setTop (mkF m pc Ls (.ref b :: st))) := q.by fun t r => XS.ifnullNo X.here hx rfl hd rfl r
theorem g_drem (X : Stand p l e R s m args below meth c T locs cells slots) (hx : p.tables.exec = Jvm.exec) {x y v : UInt64} (hd : decode c.code pc = .ok (.drem, 1)) (hn : Jvm.Free.Fl.NoNaN64 (FP.drem x y)) (hv : FP.drem x y = v) (q : Go p e below P (T.setTop (mkF m (pc + 1) Ls (.double v :: st)))) : Go p e below P (T.setTop (mkF m pc Ls (.double y :: .double x :: st))) := q.by fun t r => by
  subst hv
  have ht := X.here
  show Steps p.tables e below (T.setTop { method := m, pc := pc, locals := Ls, stack := .double y :: .double x :: st, locked := none }) t
  jvm_step ht [ht.top, hx, hd, Op.drem.at_number ht.top hn]
  exact r
theorem g_dup_x2 (X : Stand p l e R s m args below meth c T locs cells slots) (hx : p.tables.exec = Jvm.exec) {x y z : Value} (hd : decode c.code pc = .ok (.dup_x2, 1)) (h1 : x.category = 1) (h2 : y.category = 1) (h3 : z.category = 1) (q : Go p e below P (T.setTop (mkF m (pc + 1) Ls (x :: y :: z :: x :: st)))) : Go p e below P (T.setTop (mkF m pc Ls (x :: y :: z :: st))) := q.by fun t r => by
  have ht := X.here
  show Steps p.tables e below (T.setTop { method := m, pc := pc, locals := Ls, stack := x :: y :: z :: st, locked := none }) t
  jvm_step ht [ht.top, hx, hd, h1, h2, h3]
  exact r
theorem g_ldcI (X : Stand p l e R s m args below meth c T locs cells slots) (hx : p.tables.exec = Jvm.exec) (hZ : Z.Warmed39 s.vm) (hown : s.vm.findClass own = some m.cls) {v : Int32} (w : (Cond.constant own index v).before a0 Z = true) (hd : decode c.code pc = .ok (.ldc index, 2)) (q : Go p e below P (T.setTop (mkF m (pc + 2) Ls (.int v :: st)))) : Go p e below P (T.setTop (mkF m pc Ls st)) := q.by fun t r => X.ldcI hx hown (mvT hZ w) rfl hd r
theorem g_ldc2J (X : Stand p l e R s m args below meth c T locs cells slots) (hx : p.tables.exec = Jvm.exec) (hZ : Z.Warmed39 s.vm) (hown : s.vm.findClass own = some m.cls) {v : Int64} (w : (Cond.constantLong own index v).before a0 Z = true) (hd : decode c.code pc = .ok (.ldc2_w index, 3)) (q : Go p e below P (T.setTop (mkF m (pc + 3) Ls (.long v :: st)))) : Go p e below P (T.setTop (mkF m pc Ls st)) := q.by fun t r => X.ldc2J hx hown (mvT hZ w) rfl hd r
theorem g_ldc2D (X : Stand p l e R s m args below meth c T locs cells slots) (hx : p.tables.exec = Jvm.exec) (hZ : Z.Warmed39 s.vm) (hown : s.vm.findClass own = some m.cls) {v : UInt64} (w : (Cond.constantDouble own index v).before a0 Z = true) (hd : decode c.code pc = .ok (.ldc2_w index, 3)) (q : Go p e below P (T.setTop (mkF m (pc + 3) Ls (.double v :: st)))) : Go p e below P (T.setTop (mkF m pc Ls st)) := q.by fun t r => X.ldc2DoubleC hx hown (mvT hZ w) (g := mkF m pc Ls st) rfl hd t r
theorem g_ldcF (X : Stand p l e R s m args below meth c T locs cells slots) (hx : p.tables.exec = Jvm.exec) (hZ : Z.Warmed39 s.vm) (hown : s.vm.findClass own = some m.cls) {v : UInt32} (w : (Cond.constantFloat own index v).before a0 Z = true) (hd : decode c.code pc = .ok (.ldc index, 2)) (q : Go p e below P (T.setTop (mkF m (pc + 2) Ls (.float v :: st)))) : Go p e below P (T.setTop (mkF m pc Ls st)) := q.by fun t r => X.ldcFloatC hx hown (mvT hZ w) (g := mkF m pc Ls st) rfl hd t r
theorem Ret.end {Q : Option Value → Heap → List Loc → Prop} {C N : Nat} {g : JFrame} (X : Stand p l e R s m args below meth c T locs cells slots) (hx : p.tables.exec = Jvm.exec) (hlk : meth.locks = false) {v : Option Value} (hv : meth.sig.returnType = none → v = none) (stp : ∀ fs, (∀ (f : JFrame) (acts : List Action), f.method = m → f.locked = none → f.entered = [] → (doReturn e (T.setTop f) acts v).1 = T.setFrames fs) → Steps p.tables e below (T.setTop g) (T.setFrames fs)) (hC : cells ≤ C) (hN : slots ≤ N) (hq : Q v T.heap locs) : Go p e below (Ret s Q C N) (T.setTop g) := by
  obtain ⟨fs, hr, hrun, hended, hW, hsame⟩ := X.leave hv hlk
  exact ⟨_, _, stp fs hr, hrun, hended, _, _, rfl, hq, ⟨_, rfl⟩, hW, hsame.mono hC hN⟩
theorem g_ireturn {Q : Option Value → Heap → List Loc → Prop} {C N : Nat} (X : Stand p l e R s m args below meth c T locs cells slots) (hx : p.tables.exec = Jvm.exec) (hlk : meth.locks = false) {w : Int32} {t : FieldType} (hret : meth.sig.returnType = some t) (hn : narrow t (.int w) = .int w) (hti : t = .int ∨ t = .boolean ∨ t = .byte ∨ t = .char ∨ t = .short) (hd : decode c.code pc = .ok (.ireturn, 1)) (hC : cells ≤ C) (hN : slots ≤ N) (hq : Q (some (.int w)) T.heap locs) : Go p e below (Ret s Q C N) (T.setTop (mkF m pc Ls [.int w])) :=
  Ret.end X hx hlk (fun h => by rw [hret] at h; cases h) (fun fs hr => X.ireturnOut hx hret hn hti hd hr) hC hN hq
theorem g_lreturn {Q : Option Value → Heap → List Loc → Prop} {C N : Nat} (X : Stand p l e R s m args below meth c T locs cells slots) (hx : p.tables.exec = Jvm.exec) (hlk : meth.locks = false) {w : Int64} (hret : meth.sig.returnType = some .long) (hd : decode c.code pc = .ok (.lreturn, 1)) (hC : cells ≤ C) (hN : slots ≤ N) (hq : Q (some (.long w)) T.heap locs) : Go p e below (Ret s Q C N) (T.setTop (mkF m pc Ls [.long w])) :=
  Ret.end X hx hlk (fun h => by rw [hret] at h; cases h) (fun fs hr => X.lreturnOut hx hret hd hr) hC hN hq
theorem g_return {Q : Option Value → Heap → List Loc → Prop} {C N : Nat} (X : Stand p l e R s m args below meth c T locs cells slots) (hx : p.tables.exec = Jvm.exec) (hlk : meth.locks = false) (hret : meth.sig.returnType = none) (hd : decode c.code pc = .ok (.return_, 1)) (hC : cells ≤ C) (hN : slots ≤ N) (hq : Q none T.heap locs) : Go p e below (Ret s Q C N) (T.setTop (mkF m pc Ls [])) :=
  Ret.end X hx hlk (fun _ => rfl) (fun fs hr => X.returnOut hx hret hd hr) hC hN hq
theorem g_areturn {Q : Option Value → Heap → List Loc → Prop} {C N : Nat} (X : Stand p l e R s m args below meth c T locs cells slots) (hx : p.tables.exec = Jvm.exec) (hlk : meth.locks = false) {w : Value} {t : FieldType} (hret : meth.sig.returnType = some t) (ht : t.isReference = true) (hw : w.isRef = true) (hd : decode c.code pc = .ok (.areturn, 1)) (hC : cells ≤ C) (hN : slots ≤ N) (hq : Q (some w) T.heap locs) : Go p e below (Ret s Q C N) (T.setTop (mkF m pc Ls [w])) :=
  Ret.end X hx hlk (fun h => by rw [hret] at h; cases h) (fun fs hr => X.areturnOut hx hw hret ht hd hr) hC hN hq
theorem g_dreturn {Q : Option Value → Heap → List Loc → Prop} {C N : Nat} (X : Stand p l e R s m args below meth c T locs cells slots) (hx : p.tables.exec = Jvm.exec) (hlk : meth.locks = false) {w : UInt64} (hret : meth.sig.returnType = some .double) (hd : decode c.code pc = .ok (.dreturn, 1)) (hC : cells ≤ C) (hN : slots ≤ N) (hq : Q (some (.double w)) T.heap locs) : Go p e below (Ret s Q C N) (T.setTop (mkF m pc Ls [.double w])) :=
  Ret.end X hx hlk (fun h => by rw [hret] at h; cases h) (fun fs hr => by
    have hm' : T.vm.method? m = some meth := X.method'
    show Steps p.tables e below (T.setTop { method := m, pc := pc, locals := Ls, stack := [.double w], locked := none }) _
    jvm_step X.here [X.here.top, hx, hd, hm', hret]
    first | (intro acts; rw [hr _ acts rfl rfl rfl]) | rw [hr _ _ rfl rfl rfl]
    exact Steps.refl _) hC hN hq
theorem g_freturn {Q : Option Value → Heap → List Loc → Prop} {C N : Nat} (X : Stand p l e R s m args below meth c T locs cells slots) (hx : p.tables.exec = Jvm.exec) (hlk : meth.locks = false) {w : UInt32} (hret : meth.sig.returnType = some .float) (hd : decode c.code pc = .ok (.freturn, 1)) (hC : cells ≤ C) (hN : slots ≤ N) (hq : Q (some (.float w)) T.heap locs) : Go p e below (Ret s Q C N) (T.setTop (mkF m pc Ls [.float w])) :=
  Ret.end X hx hlk (fun h => by rw [hret] at h; cases h) (fun fs hr => retF X hx hret hd hr) hC hN hq
theorem g_callS (X : Stand p l e R s m args below meth c T locs cells slots) (hx : p.tables.exec = Jvm.exec) (hZ : Z.Warmed39 s.vm) (hown : s.vm.findClass own = some m.cls) {y : MethodName} {bytes : ByteArray} {maxL : Nat} {ret : Option FieldType} (w1 : (Cond.methodLink own index y).before a0 Z = true) (w2 : (Cond.static y).before a0 Z = true) (w3 : (Cond.initialized y.cls).before a0 Z = true) (w4 : (Cond.code y bytes maxL ret).before a0 Z = true) (hy : y.cls ≠ "java/lang/invoke/MethodHandle" ∧ y.cls ≠ "java/lang/invoke/VarHandle") {rm : Room} {as' : Array Value} {Q : Option Value → Heap → List Loc → Prop} (hM : MetFree l y (head1 [Cond.code y bytes maxL ret] rm) (fun a U => a = as' ∧ Z.Warmed39 U.vm ∧ U.heap = h) (fun _ _ _ _ _ => True) (fun _ U o U' => ∃ v L, o = .returned v ∧ Q v U'.heap L ∧ FrameEnd U o U' L rm.cells rm.slots)) (eT : T.heap = h) {W : Nat} (hf : rm.frames + 1 ≤ R.frames) (hlo : W + (maxL + 11) + rm.locals ≤ R.locals) (hsize : Ls.size = c.maxLocals) (argsL rest : List Value) (hlen : ∀ sig, parseMethodDescriptor y.desc = some sig → argsL.length = sig.parameters.length) (hst : st = argsL.reverse ++ rest) (has : argsL.toArray = as') (hW : (rest.map fun v => v.category).sum ≤ W) (hd : decode c.code pc = .ok (.invokestatic index, 3)) (hc : cells + rm.cells ≤ R.cells) (hs : slots + rm.slots ≤ R.slots) (k : ∀ (v : Option Value) (T' : State) (L : List Loc), Stand p l e R s m args below meth c T' (locs ++ L) (cells + rm.cells) (slots + rm.slots) → Q v T'.heap L → Go p e below P (T'.setTop (mkF m (pc + 3) Ls (v.toList ++ rest)))) : Go p e below P (T.setTop (mkF m pc Ls st)) := by
  obtain ⟨v, vm1, ⟨T', L', k', n'⟩, -, X', ⟨L, hQ, l1, y1, z1⟩, stp⟩ := Jvm.LawKit.callS X hx hown (mvT hZ w1) (mvT hZ w2) (mvT hZ w3) (mvT hZ w4) hy (backOf (W := W) hM hZ w4 w3 hf hlo) (g := mkF m pc Ls st) rfl hsize hlen hst (by show 2 * 0 + _ ≤ _; omega) hd (fun _ _ => ⟨has, eT, hc, hs⟩)
  dsimp only [Pt.U, Pt.locs, Pt.cells, Pt.slots] at X' l1 y1 z1 stp hQ
  subst l1 y1 z1
  exact (k v T' L X' hQ).by stp
theorem g_init (X : Stand p l e R s m args below meth c T locs cells slots) (hx : p.tables.exec = Jvm.exec) (hZ : Z.Warmed39 s.vm) (hown : s.vm.findClass own = some m.cls) {y : MethodName} {bytes : ByteArray} {maxL : Nat} (hy1 : y.name = "<init>") (w1 : (Cond.methodLink own index y).before a0 Z = true) (w2 : (Cond.instanceMethod y).before a0 Z = true) (w3 : (Cond.initialized y.cls).before a0 Z = true) (w4 : (Cond.code y bytes maxL none).before a0 Z = true) (hy : y.cls ≠ "java/lang/invoke/MethodHandle" ∧ y.cls ≠ "java/lang/invoke/VarHandle") {rm : Room} {as' : Array Value} {Q : Option Value → Heap → List Loc → Prop} (hM : MetFree l y (head1 [Cond.code y bytes maxL none] rm) (fun a U => a = as' ∧ Z.Warmed39 U.vm ∧ U.heap = h) (fun _ _ _ _ _ => True) (fun _ U o U' => ∃ v L, o = .returned v ∧ Q v U'.heap L ∧ FrameEnd U o U' L rm.cells rm.slots)) (eT : T.heap = h) {W : Nat} (hf : rm.frames + 1 ≤ R.frames) (hlo : W + (maxL + 11) + rm.locals ≤ R.locals) (hsize : Ls.size = c.maxLocals) (a : Addr) (argsL rest : List Value) (hlen : ∀ sig, parseMethodDescriptor y.desc = some sig → argsL.length = sig.parameters.length) (hst : st = argsL.reverse ++ .ref a :: rest) (has : (.ref a :: argsL).toArray = as') (hW : (rest.map fun v => v.category).sum ≤ W) (hd : decode c.code pc = .ok (.invokespecial index, 3)) (hc : cells + rm.cells ≤ R.cells) (hs : slots + rm.slots ≤ R.slots) (k : ∀ (v : Option Value) (T' : State) (L : List Loc), Stand p l e R s m args below meth c T' (locs ++ L) (cells + rm.cells) (slots + rm.slots) → Q v T'.heap L → Go p e below P (T'.setTop (mkF m (pc + 3) Ls (v.toList ++ rest)))) : Go p e below P (T.setTop (mkF m pc Ls st)) := by
  obtain ⟨v, vm1, ⟨T', L', k', n'⟩, -, X', ⟨L, hQ, l1, y1, z1⟩, stp⟩ := X.specialBack hx hy1 hown (mvT hZ w1) (mvT hZ w2) (mvT hZ w4) hy (backOf (W := W) hM hZ w4 w3 hf hlo) (g := mkF m pc Ls st) rfl hsize (Steps.refl _) hlen hst (by show 2 * 0 + _ ≤ _; omega) hd (fun _ _ => ⟨has, eT, hc, hs⟩)
  dsimp only [Pt.U, Pt.locs, Pt.cells, Pt.slots] at X' l1 y1 z1 stp hQ
  subst l1 y1 z1
  exact (k v T' L X' hQ).by fun t r => stp.trans r
theorem g_callV (X : Stand p l e R s m args below meth c T locs cells slots) (hx : p.tables.exec = Jvm.exec) (hZ : Z.Warmed39 s.vm) (hown : s.vm.findClass own = some m.cls) {y : MethodName} {bytes : ByteArray} {maxL : Nat} {ret : Option FieldType} {C : String} (w1 : (Cond.methodLink own index y).before a0 Z = true) (w2 : (Cond.declares y).before a0 Z = true) (w5 : (Cond.selects C y y).before a0 Z = true) (w6 : (Cond.instanceMethod y).before a0 Z = true) (w3 : (Cond.initialized y.cls).before a0 Z = true) (w4 : (Cond.code y bytes maxL ret).before a0 Z = true) (hy : y.cls ≠ "java/lang/invoke/MethodHandle" ∧ y.cls ≠ "java/lang/invoke/VarHandle") {rm : Room} {as' : Array Value} {Q : Option Value → Heap → List Loc → Prop} (hM : MetFree l y (head1 [Cond.code y bytes maxL ret] rm) (fun a U => a = as' ∧ Z.Warmed39 U.vm ∧ U.heap = h) (fun _ _ _ _ _ => True) (fun _ U o U' => ∃ v L, o = .returned v ∧ Q v U'.heap L ∧ FrameEnd U o U' L rm.cells rm.slots)) (eT : T.heap = h) {W : Nat} (hf : rm.frames + 1 ≤ R.frames) (hlo : W + (maxL + 11) + rm.locals ≤ R.locals) (hsize : Ls.size = c.maxLocals) (a : Addr) (E : Exa Z h a C) (argsL rest : List Value) (hlen : ∀ sig, parseMethodDescriptor y.desc = some sig → argsL.length = sig.parameters.length) (hst : st = argsL.reverse ++ .ref a :: rest) (has : (.ref a :: argsL).toArray = as') (hW : (rest.map fun v => v.category).sum ≤ W) (hd : decode c.code pc = .ok (.invokevirtual index, 3)) (hc : cells + rm.cells ≤ R.cells) (hs : slots + rm.slots ≤ R.slots) (k : ∀ (v : Option Value) (T' : State) (L : List Loc), Stand p l e R s m args below meth c T' (locs ++ L) (cells + rm.cells) (slots + rm.slots) → Q v T'.heap L → Go p e below P (T'.setTop (mkF m (pc + 3) Ls (v.toList ++ rest)))) : Go p e below P (T.setTop (mkF m pc Ls st)) := by
  obtain ⟨cq, kq, qa, qb, qc⟩ := isOf hZ eT E
  obtain ⟨v, vm1, ⟨T', L', k', n'⟩, -, X', ⟨L, hQ, l1, y1, z1⟩, stp⟩ := X.virtualBack hx (y := y) (z := y) hown (mvT hZ w1) (mvT hZ w2) (notFace_of_selects (args := #[]) (mvT hZ w5)) (mvT hZ w5) (mvT hZ w6) hy (backOf (W := W) hM hZ w4 w3 hf hlo) qa qc (g := mkF m pc Ls st) rfl hsize (Steps.refl _) hlen hst (by show 2 * 0 + _ ≤ _; omega) hd (fun _ _ => ⟨has, eT, hc, hs⟩)
  dsimp only [Pt.U, Pt.locs, Pt.cells, Pt.slots] at X' l1 y1 z1 stp hQ
  subst l1 y1 z1
  exact (k v T' L X' hQ).by fun t r => stp.trans r
theorem g_absD (X : Stand p l e R s m args below meth c T locs cells slots) (hx : p.tables.exec = Jvm.exec) (hZ : Z.Warmed39 s.vm) (hown : s.vm.findClass own = some m.cls) (w1 : (Cond.methodLink own index Jvm.Free.Fl.Abs.absDN).before a0 Z = true) (w2 : (Cond.static Jvm.Free.Fl.Abs.absDN).before a0 Z = true) (w3 : (Cond.initialized "java/lang/Math").before a0 Z = true) (w4 : (Cond.code Jvm.Free.Fl.Abs.absDN Jvm.Free.Fl.Abs.absDCode 2 (some .double)).before a0 Z = true) (eT : T.heap = h) (hsize : Ls.size = c.maxLocals) {a : UInt64} (hn : Jvm.Free.Fl.NoNaN64 a) (hfr : 1 ≤ R.frames) {W : Nat} (hW : (st.map fun v => v.category).sum ≤ W) (hlo : W + 13 ≤ R.locals) (hc : cells ≤ R.cells) (hs : slots ≤ R.slots) (hd : decode c.code pc = .ok (.invokestatic index, 3))
    (k : ∀ T', Stand p l e R s m args below meth c T' locs cells slots → T'.heap = h → Go p e below P (T'.setTop (mkF m (pc + 3) Ls (.double (a &&& 0x7fffffffffffffff) :: st)))) : Go p e below P (T.setTop (mkF m pc Ls (.double a :: st))) := by
  obtain ⟨T', X', e', stp⟩ := natS X hx hZ hown w1 w2 w3 w4 (by decide) eT (W := W) (F := fun a' => a' = #[.double a] ∧ Jvm.Free.Fl.NoNaN64 a) (val := .double (a &&& 0x7fffffffffffffff)) (val' := .double (a &&& 0x7fffffffffffffff)) (fun q => Jvm.Free.Fl.Abs.absD_pays a q hfr hlo) (g := mkF m pc Ls (.double a :: st)) rfl hsize (argsL := [.double a]) (rest := st) (lenOf (ps := [.double]) (r := some .double) (by decide +kernel) rfl) rfl (by show 2 * 0 + _ ≤ _; omega) hd hc hs ⟨rfl, hn⟩ rfl
  exact (k T' X' e').by stp
theorem g_objInit (X : Stand p l e R s m args below meth c T locs cells slots) (hx : p.tables.exec = Jvm.exec) (hZ : Z.Warmed39 s.vm) (hown : s.vm.findClass own = some m.cls) (w1 : (Cond.methodLink own index Lib.objectInit).before a0 Z = true) (w2 : (Cond.instanceMethod Lib.objectInit).before a0 Z = true) (w3 : (Cond.code Lib.objectInit ⟨#[0xb1]⟩ 1 none).before a0 Z = true) (eT : T.heap = h) (hsize : Ls.size = c.maxLocals) {a : Addr} (hd : decode c.code pc = .ok (.invokespecial index, 3)) (hf : 1 ≤ R.frames) {W : Nat} (hW : (st.map fun v => v.category).sum ≤ W) (hlo : W + 12 ≤ R.locals)
    (k : ∀ T', Stand p l e R s m args below meth c T' locs cells slots → T'.heap = h → Go p e below P (T'.setTop (mkF m (pc + 3) Ls st))) : Go p e below P (T.setTop (mkF m pc Ls (.ref a :: st))) := by
  obtain ⟨T', X', e', stp⟩ := initO X hx hZ hown w1 w2 w3 eT (g := mkF m pc Ls (.ref a :: st)) rfl hsize rfl hd hf (W := W) (by show 2 * 0 + _ ≤ _; omega) hlo
  exact (k T' X' e').by stp
theorem g_new (X : Stand p l e R s m args below meth c T locs cells slots) (hx : p.tables.exec = Jvm.exec) (hZ : Z.Warmed39 s.vm) (hown : s.vm.findClass own = some m.cls) {C : String} {n : Nat} (w : (Cond.classLink own index C).before a0 Z = true) (wi : (Cond.instantiable C n).before a0 Z = true) (wz : (Cond.initialized C).before a0 Z = true) (eT : T.heap = h) (hd : decode c.code pc = .ok (.new index, 3)) (hc : cells + 1 ≤ R.cells) (hl : slots + n ≤ R.slots)
    (k : ∀ T' h' a, a = h.size → Stand p l e R s m args below meth c T' locs (cells + 1) (slots + n) → T'.heap = h' → Ext h h' → Exa Z h' a C → (∀ {O nm d : String} {ty : FieldType}, Laid Z a0 C O nm d → parseFieldDescriptor d = some ty → Fld Z h' a O nm d (defaultValue ty)) → Go p e below P (T'.setTop (mkF m (pc + 3) Ls (.ref a :: st)))) : Go p e below P (T.setTop (mkF m pc Ls st)) := by
  obtain ⟨T', h', X', e', E, A, D, -, stp⟩ := newO X hx hZ hown w wi wz eT (g := mkF m pc Ls st) rfl hd hc hl
  exact (k T' h' _ rfl X' e' E A D).by stp
theorem g_getF (X : Stand p l e R s m args below meth c T locs cells slots) (hx : p.tables.exec = Jvm.exec) (hZ : Z.Warmed39 s.vm) (hown : s.vm.findClass own = some m.cls) {O n d : String} (w : (Cond.fieldLink own index O n d).before a0 Z = true) (eT : T.heap = h) {a : Addr} {v : Value} (F : Fld Z h a O n d v) (hd : decode c.code pc = .ok (.getfield index, 3))
    (k : ∀ T', Stand p l e R s m args below meth c T' locs cells slots → T'.heap = h → Go p e below P (T'.setTop (mkF m (pc + 3) Ls (v :: st)))) : Go p e below P (T.setTop (mkF m pc Ls (.ref a :: st))) := by
  obtain ⟨T', X', e', stp⟩ := getF X hx hZ hown (host := "") (Or.inl w) Via.refl eT F (g := mkF m pc Ls (.ref a :: st)) rfl rfl hd
  exact (k T' X' e').by stp
theorem g_getS (X : Stand p l e R s m args below meth c T locs cells slots) (hx : p.tables.exec = Jvm.exec) (hZ : Z.Warmed39 s.vm) (hown : s.vm.findClass own = some m.cls) {O n d : String} (w : (Cond.fieldLink own index O n d).before a0 Z = true) (eT : T.heap = h) {v : Value} (F : Sta Z h O n d v) (hd : decode c.code pc = .ok (.getstatic index, 3))
    (k : ∀ T', Stand p l e R s m args below meth c T' locs cells slots → T'.heap = h → Go p e below P (T'.setTop (mkF m (pc + 3) Ls (v :: st)))) : Go p e below P (T.setTop (mkF m pc Ls st)) := by
  obtain ⟨T', X', e', stp⟩ := getS X hx hZ hown (host := "") w Via.refl eT F (g := mkF m pc Ls st) rfl hd
  exact (k T' X' e').by stp
theorem g_putF (X : Stand p l e R s m args below meth c T locs cells slots) (hx : p.tables.exec = Jvm.exec) (hZ : Z.Warmed39 s.vm) (hown : s.vm.findClass own = some m.cls) {O n d C : String} {kk : Nat} {ty : FieldType} (w : (Cond.fieldLink own index O n d).before a0 Z = true) (eT : T.heap = h) {a : Addr} {v old : Value} (F : Fld Z h a O n d old) (E : Exa Z h a C) (L : (Cond.lays C O n d).before a0 Z = true ∨ ((Cond.laysFinal C O n d).before a0 Z = true ∧ own = O ∧ meth.name = "<init>")) (wi : (Cond.instantiable C kk).before a0 Z = true) (hty : parseFieldDescriptor d = some ty) (hn : narrow ty v = v) (hf : fits ty v = true) (hd : decode c.code pc = .ok (.putfield index, 3))
    (k : ∀ T' h', Stand p l e R s m args below meth c T' (locs ++ [⟨a, Jvm.RoadKit.slotOf Z O n d⟩]) cells slots → T'.heap = h' → Wr h h' a (Jvm.RoadKit.slotOf Z O n d) v → Go p e below P (T'.setTop (mkF m (pc + 3) Ls st))) : Go p e below P (T.setTop (mkF m pc Ls (v :: .ref a :: st))) := by
  obtain ⟨T', h', X', e', W, stp⟩ := putF X hx hZ hown (host := "") (Or.inl w) Via.refl eT F E L wi hty hn hf (g := mkF m pc Ls (v :: .ref a :: st)) rfl rfl hd
  exact (k T' h' X' e' W).by stp
theorem g_newP (X : Stand p l e R s m args below meth c T locs cells slots) (hx : p.tables.exec = Jvm.exec) (hZ : Z.Warmed39 s.vm) {aty : ArrayType} {ty : FieldType} (hty : newarray.typeOf aty = ty) (w : (Cond.arrayClass ty).before a0 Z = true) (eT : T.heap = h) (hd : decode c.code pc = .ok (.newarray aty, 2)) {n : Int32} (hn : ¬ n < 0) {cap : Nat} (hcap : n.toNatClampNeg ≤ cap) (hb : cap * 8 ≤ 536870912) (hc : cells + 1 ≤ R.cells) (hl : slots + cap ≤ R.slots)
    (k : ∀ T' h' a cA, a = h.size → Stand p l e R s m args below meth c T' locs (cells + 1) (slots + cap) → T'.heap = h' → Ext h h' → Arr Z h' a (newA cA ty n) ty → Go p e below P (T'.setTop (mkF m (pc + 2) Ls (.ref a :: st)))) : Go p e below P (T.setTop (mkF m pc Ls (.int n :: st))) := by
  subst hty
  obtain ⟨T', h', cA, X', e', E, A, stp⟩ := newP X hx hZ w eT (g := mkF m pc Ls (.int n :: st)) rfl hd rfl hn hcap hb hc hl
  exact (k T' h' _ cA rfl X' e' E A).by stp
theorem fld_any {C O O' n n' d d' : String} {v : Value} {a : Addr} {kk : Nat} (E : Exa Z h a C) (F : Fld Z h a O n d v) (wi : (Cond.instantiable C kk).before a0 Z = true) (L : Laid Z a0 C O' n' d') : ∃ w, Fld Z h a O' n' d' w := by
  obtain ⟨cell, k, h1, h2, h3, h4, h5⟩ := E
  obtain ⟨cell', cf, k', i, f, g1, g2, g3, g4, g5, g6, g7⟩ := F
  cases h1.symm.trans g1
  obtain ⟨c1, k1, cf1, kf1, i1, f1, l1, l2, l3, l4, l5, l6, -⟩ := L.spec
  obtain ⟨c2, k2, j1, j2, j3, -⟩ := Cond.instantiable_spec wi
  cases h2.symm.trans l1
  cases h3.symm.trans l2
  cases l1.symm.trans j1
  cases h3.symm.trans j2
  have hsz := h5 j3
  obtain ⟨hlt, -⟩ := Array.getElem?_eq_some_iff.mp l6
  exact ⟨_, cell, cf1, kf1, i1, f1, g1, l3, l4, g4, g5, l5, Array.getElem?_eq_getElem (by rw [hsz]; exact hlt)⟩
/-- an array by a function of the place -/
def Av (Z : State) (h : Heap) (a : Addr) (ty : FieldType) (n : Nat) (f : Nat → Value) : Prop := ∃ cl : Cell, Arr Z h a cl ty ∧ cl.slots.size = n ∧ ∀ i, i < n → cl.slots[i]? = some (f i)
theorem Av.lt {a : Addr} {ty : FieldType} {n : Nat} {f : Nat → Value} (F : Av Z h a ty n f) : a < h.size := by obtain ⟨cl, A, -⟩ := F; exact A.lt
theorem Av.ext {h' : Heap} {a : Addr} {ty : FieldType} {n : Nat} {f : Nat → Value} (F : Av Z h a ty n f) (E : Ext h h') : Av Z h' a ty n f := by obtain ⟨cl, A, B⟩ := F; exact ⟨cl, A.ext E, B⟩
theorem Av.other {h' : Heap} {a b : Addr} {sl : Nat} {v : Value} {ty : FieldType} {n : Nat} {f : Nat → Value} (F : Av Z h b ty n f) (W : Wr h h' a sl v) (q : b ≠ a) : Av Z h' b ty n f := by obtain ⟨cl, A, B⟩ := F; exact ⟨cl, A.other W q, B⟩
theorem Av.keep {h' : Heap} {a : Addr} {ws : List Addr} {ty : FieldType} {n : Nat} {f : Nat → Value} (F : Av Z h a ty n f) (K : Keep h h' ws) (q : a ∉ ws) : Av Z h' a ty n f := by obtain ⟨cl, A, B⟩ := F; exact ⟨cl, ⟨K.2.1 a cl A.1 q, A.2⟩, B⟩
theorem Av.new {a : Addr} {cA : ClassId} {ty : FieldType} {n : Int32} (A : Arr Z h a (newA cA ty n) ty) : Av Z h a ty n.toNatClampNeg (fun _ => defaultValue ty) := ⟨_, A, sz_new _ _ _, fun i hi => by simp [newA, hi]⟩
theorem Av.newK {a : Addr} {cA : ClassId} {ty : FieldType} {n : Int32} {k : Nat} (A : Arr Z h a (newA cA ty n) ty) (hk : n.toNatClampNeg = k) : Av Z h a ty k (fun _ => defaultValue ty) := hk ▸ Av.new A
theorem Av.congr {a : Addr} {ty : FieldType} {n : Nat} {f f' : Nat → Value} (F : Av Z h a ty n f) (q : ∀ i, i < n → f i = f' i) : Av Z h a ty n f' := by obtain ⟨cl, A, B, C⟩ := F; exact ⟨cl, A, B, fun i hi => by rw [C i hi, q i hi]⟩
theorem Av.same {h' : Heap} {a : Addr} {i : Nat} {v : Value} {ty : FieldType} {n : Nat} {f : Nat → Value} (F : Av Z h a ty n f) (W : Wr h h' a i v) : Av Z h' a ty n (fun j => if j = i then v else f j) := by
  obtain ⟨cl, A, B, C⟩ := F
  refine ⟨_, A.same W, by rw [sz_set]; exact B, fun j hj => ?_⟩
  obtain ⟨cb, hb1, -, -, -, -, hb2, hb3⟩ := wr_at W A.1
  have e1 := (A.same W).1
  have e2 : cb = cl.setSlot i v := Option.some.inj (hb1.symm.trans e1)
  by_cases q : j = i
  · subst q; rw [← e2, (hb3 rfl).2.1]; simp
  · rw [← e2, hb2 j q, C j hj]; simp [q]
theorem out_idx {j : Int32} {n : Nat} (h0 : 0 ≤ j.toInt) (h1 : j.toInt < n) : ¬ (j < 0 ∨ n ≤ j.toNatClampNeg) := by
  have e : (j.toNatClampNeg : Int) = j.toInt := by rw [Int32.toNatClampNeg]; omega
  intro q
  rcases q with q | q
  · have := Int32.lt_iff_toInt_lt.mp q; simp at this; omega
  · omega
theorem g_iaload (X : Stand p l e R s m args below meth c T locs cells slots) (hx : p.tables.exec = Jvm.exec) (hZ : Z.Warmed39 s.vm) (eT : T.heap = h) {a : Addr} {n : Nat} {f : Nat → Value} (F : Av Z h a .int n f) {j : Int32} {i : Nat} {v : Value} (hj0 : 0 ≤ j.toInt) (hj1 : j.toInt < n) (hi : j.toNatClampNeg = i) (hv : f i = v) (hd : decode c.code pc = .ok (.iaload, 1)) (q : Go p e below P (T.setTop (mkF m (pc + 1) Ls (v :: st)))) : Go p e below P (T.setTop (mkF m pc Ls (.int j :: .ref a :: st))) := by
  obtain ⟨cl, A, B, C⟩ := F
  have hin := out_idx hj0 hj1
  subst hi hv
  exact q.by fun t r => X.iaload hx (by rw [eT]; exact A.1) (State.isArrayOf_alike hZ.alike A.2.1) A.2.2 (by rw [B]; exact hin) (C _ (by omega)) (g := mkF m pc Ls (.int j :: .ref a :: st)) rfl rfl hd t r
theorem g_laload (X : Stand p l e R s m args below meth c T locs cells slots) (hx : p.tables.exec = Jvm.exec) (hZ : Z.Warmed39 s.vm) (eT : T.heap = h) {a : Addr} {n : Nat} {f : Nat → Value} (F : Av Z h a .long n f) {j : Int32} {i : Nat} {v : Value} (hj0 : 0 ≤ j.toInt) (hj1 : j.toInt < n) (hi : j.toNatClampNeg = i) (hv : f i = v) (hd : decode c.code pc = .ok (.laload, 1)) (q : Go p e below P (T.setTop (mkF m (pc + 1) Ls (v :: st)))) : Go p e below P (T.setTop (mkF m pc Ls (.int j :: .ref a :: st))) := by
  obtain ⟨cl, A, B, C⟩ := F
  have hin := out_idx hj0 hj1
  subst hi hv
  exact q.by fun t r => X.laload hx (by rw [eT]; exact A.1) (State.isArrayOf_alike hZ.alike A.2.1) A.2.2 (by rw [B]; exact hin) (C _ (by omega)) (g := mkF m pc Ls (.int j :: .ref a :: st)) rfl rfl hd t r
theorem g_daload (X : Stand p l e R s m args below meth c T locs cells slots) (hx : p.tables.exec = Jvm.exec) (hZ : Z.Warmed39 s.vm) (eT : T.heap = h) {a : Addr} {n : Nat} {f : Nat → Value} (F : Av Z h a .double n f) {j : Int32} {i : Nat} {v : Value} (hj0 : 0 ≤ j.toInt) (hj1 : j.toInt < n) (hi : j.toNatClampNeg = i) (hv : f i = v) (hd : decode c.code pc = .ok (.daload, 1)) (q : Go p e below P (T.setTop (mkF m (pc + 1) Ls (v :: st)))) : Go p e below P (T.setTop (mkF m pc Ls (.int j :: .ref a :: st))) := by
  obtain ⟨cl, A, B, C⟩ := F
  have hin := out_idx hj0 hj1
  subst hi hv
  exact q.by fun t r => X.daload hx (by rw [eT]; exact A.1) (State.isArrayOf_alike hZ.alike A.2.1) A.2.2 (by rw [B]; exact hin) (C _ (by omega)) (g := mkF m pc Ls (.int j :: .ref a :: st)) rfl rfl hd t r
theorem g_caload (X : Stand p l e R s m args below meth c T locs cells slots) (hx : p.tables.exec = Jvm.exec) (hZ : Z.Warmed39 s.vm) (eT : T.heap = h) {a : Addr} {n : Nat} {f : Nat → Value} (F : Av Z h a .char n f) {j : Int32} {i : Nat} {v : Value} (hj0 : 0 ≤ j.toInt) (hj1 : j.toInt < n) (hi : j.toNatClampNeg = i) (hv : f i = v) (hd : decode c.code pc = .ok (.caload, 1)) (q : Go p e below P (T.setTop (mkF m (pc + 1) Ls (v :: st)))) : Go p e below P (T.setTop (mkF m pc Ls (.int j :: .ref a :: st))) := by
  obtain ⟨cl, A, B, C⟩ := F
  have hin := out_idx hj0 hj1
  subst hi hv
  exact q.by fun t r => X.caload hx (by rw [eT]; exact A.1) (State.isArrayOf_alike hZ.alike A.2.1) A.2.2 (by rw [B]; exact hin) (C _ (by omega)) (g := mkF m pc Ls (.int j :: .ref a :: st)) rfl rfl hd t r
theorem g_baloadB (X : Stand p l e R s m args below meth c T locs cells slots) (hx : p.tables.exec = Jvm.exec) (hZ : Z.Warmed39 s.vm) (eT : T.heap = h) {a : Addr} {n : Nat} {f : Nat → Value} (F : Av Z h a .byte n f) {j : Int32} {i : Nat} {v : Value} (hj0 : 0 ≤ j.toInt) (hj1 : j.toInt < n) (hi : j.toNatClampNeg = i) (hv : f i = v) (hd : decode c.code pc = .ok (.baload, 1)) (q : Go p e below P (T.setTop (mkF m (pc + 1) Ls (v :: st)))) : Go p e below P (T.setTop (mkF m pc Ls (.int j :: .ref a :: st))) := by
  obtain ⟨cl, A, B, C⟩ := F
  have hin := out_idx hj0 hj1
  subst hi hv
  exact q.by fun t r => X.baloadBytes hx (by rw [eT]; exact A.1) (State.isArrayOf_alike hZ.alike A.2.1) A.2.2 (by rw [B]; exact hin) (C _ (by omega)) (g := mkF m pc Ls (.int j :: .ref a :: st)) rfl rfl hd t r
theorem g_baloadZ (X : Stand p l e R s m args below meth c T locs cells slots) (hx : p.tables.exec = Jvm.exec) (hZ : Z.Warmed39 s.vm) (eT : T.heap = h) {a : Addr} {n : Nat} {f : Nat → Value} (F : Av Z h a .boolean n f) {j : Int32} {i : Nat} {v : Value} (hj0 : 0 ≤ j.toInt) (hj1 : j.toInt < n) (hi : j.toNatClampNeg = i) (hv : f i = v) (hd : decode c.code pc = .ok (.baload, 1)) (q : Go p e below P (T.setTop (mkF m (pc + 1) Ls (v :: st)))) : Go p e below P (T.setTop (mkF m pc Ls (.int j :: .ref a :: st))) := by
  obtain ⟨cl, A, B, C⟩ := F
  have hin := out_idx hj0 hj1
  subst hi hv
  exact q.by fun t r => X.baloadBooleans hx (by rw [eT]; exact A.1) (State.isArrayOf_alike hZ.alike A.2.1) A.2.2 (by rw [B]; exact hin) (C _ (by omega)) (g := mkF m pc Ls (.int j :: .ref a :: st)) rfl rfl hd t r
theorem g_iastore (X : Stand p l e R s m args below meth c T locs cells slots) (hx : p.tables.exec = Jvm.exec) (hZ : Z.Warmed39 s.vm) (eT : T.heap = h) {a : Addr} {n : Nat} {f : Nat → Value} (F : Av Z h a .int n f) {j : Int32} {i : Nat} {x : Int32} (hj0 : 0 ≤ j.toInt) (hj1 : j.toInt < n) (hi : j.toNatClampNeg = i) (hd : decode c.code pc = .ok (.iastore, 1))
    (k : ∀ T' h', Stand p l e R s m args below meth c T' (locs ++ [⟨a, i⟩]) cells slots → T'.heap = h' → Wr h h' a i (.int x) → Go p e below P (T'.setTop (mkF m (pc + 1) Ls st))) : Go p e below P (T.setTop (mkF m pc Ls (.int x :: .int j :: .ref a :: st))) := by
  obtain ⟨cl, A, B, C⟩ := F
  have hin := out_idx hj0 hj1
  subst hi
  obtain ⟨T', h', X', e', W, stp⟩ := stI X hx hZ eT A (x := x) (by rw [B]; exact hin) (g := mkF m pc Ls (.int x :: .int j :: .ref a :: st)) rfl rfl hd
  exact (k T' h' X' e' W).by stp
theorem g_lastore (X : Stand p l e R s m args below meth c T locs cells slots) (hx : p.tables.exec = Jvm.exec) (hZ : Z.Warmed39 s.vm) (eT : T.heap = h) {a : Addr} {n : Nat} {f : Nat → Value} (F : Av Z h a .long n f) {j : Int32} {i : Nat} {x : Int64} (hj0 : 0 ≤ j.toInt) (hj1 : j.toInt < n) (hi : j.toNatClampNeg = i) (hd : decode c.code pc = .ok (.lastore, 1))
    (k : ∀ T' h', Stand p l e R s m args below meth c T' (locs ++ [⟨a, i⟩]) cells slots → T'.heap = h' → Wr h h' a i (.long x) → Go p e below P (T'.setTop (mkF m (pc + 1) Ls st))) : Go p e below P (T.setTop (mkF m pc Ls (.long x :: .int j :: .ref a :: st))) := by
  obtain ⟨cl, A, B, C⟩ := F
  have hin := out_idx hj0 hj1
  subst hi
  obtain ⟨T', h', X', e', W, stp⟩ := stJ X hx hZ eT A (x := x) (by rw [B]; exact hin) (g := mkF m pc Ls (.long x :: .int j :: .ref a :: st)) rfl rfl hd
  exact (k T' h' X' e' W).by stp
theorem g_dastore (X : Stand p l e R s m args below meth c T locs cells slots) (hx : p.tables.exec = Jvm.exec) (hZ : Z.Warmed39 s.vm) (eT : T.heap = h) {a : Addr} {n : Nat} {f : Nat → Value} (F : Av Z h a .double n f) {j : Int32} {i : Nat} {x : UInt64} (hj0 : 0 ≤ j.toInt) (hj1 : j.toInt < n) (hi : j.toNatClampNeg = i) (hd : decode c.code pc = .ok (.dastore, 1))
    (k : ∀ T' h', Stand p l e R s m args below meth c T' (locs ++ [⟨a, i⟩]) cells slots → T'.heap = h' → Wr h h' a i (.double x) → Go p e below P (T'.setTop (mkF m (pc + 1) Ls st))) : Go p e below P (T.setTop (mkF m pc Ls (.double x :: .int j :: .ref a :: st))) := by
  obtain ⟨cl, A, B, C⟩ := F
  have hin := out_idx hj0 hj1
  subst hi
  obtain ⟨T', h', X', e', W, stp⟩ := stD X hx hZ eT A (x := x) (by rw [B]; exact hin) (g := mkF m pc Ls (.double x :: .int j :: .ref a :: st)) rfl rfl hd
  exact (k T' h' X' e' W).by stp
theorem g_castore (X : Stand p l e R s m args below meth c T locs cells slots) (hx : p.tables.exec = Jvm.exec) (hZ : Z.Warmed39 s.vm) (eT : T.heap = h) {a : Addr} {n : Nat} {f : Nat → Value} (F : Av Z h a .char n f) {j : Int32} {i : Nat} {x : Int32} (hj0 : 0 ≤ j.toInt) (hj1 : j.toInt < n) (hi : j.toNatClampNeg = i) (hd : decode c.code pc = .ok (.castore, 1))
    (k : ∀ T' h', Stand p l e R s m args below meth c T' (locs ++ [⟨a, i⟩]) cells slots → T'.heap = h' → Wr h h' a i (.int (nar .char x)) → Go p e below P (T'.setTop (mkF m (pc + 1) Ls st))) : Go p e below P (T.setTop (mkF m pc Ls (.int x :: .int j :: .ref a :: st))) := by
  obtain ⟨cl, A, B, C⟩ := F
  have hin := out_idx hj0 hj1
  subst hi
  obtain ⟨T', h', X', e', W, stp⟩ := stC X hx hZ eT A (x := x) (by rw [B]; exact hin) (g := mkF m pc Ls (.int x :: .int j :: .ref a :: st)) rfl rfl hd
  exact (k T' h' X' e' W).by stp
theorem g_bastoreB (X : Stand p l e R s m args below meth c T locs cells slots) (hx : p.tables.exec = Jvm.exec) (hZ : Z.Warmed39 s.vm) (eT : T.heap = h) {a : Addr} {n : Nat} {f : Nat → Value} (F : Av Z h a .byte n f) {j : Int32} {i : Nat} {x : Int32} (hj0 : 0 ≤ j.toInt) (hj1 : j.toInt < n) (hi : j.toNatClampNeg = i) (hd : decode c.code pc = .ok (.bastore, 1))
    (k : ∀ T' h', Stand p l e R s m args below meth c T' (locs ++ [⟨a, i⟩]) cells slots → T'.heap = h' → Wr h h' a i (.int (nar .byte x)) → Go p e below P (T'.setTop (mkF m (pc + 1) Ls st))) : Go p e below P (T.setTop (mkF m pc Ls (.int x :: .int j :: .ref a :: st))) := by
  obtain ⟨cl, A, B, C⟩ := F
  have hin := out_idx hj0 hj1
  subst hi
  obtain ⟨T', h', X', e', W, stp⟩ := stB X hx hZ eT A (x := x) (by rw [B]; exact hin) (g := mkF m pc Ls (.int x :: .int j :: .ref a :: st)) rfl rfl hd
  exact (k T' h' X' e' W).by stp
theorem g_bastoreZ (X : Stand p l e R s m args below meth c T locs cells slots) (hx : p.tables.exec = Jvm.exec) (hZ : Z.Warmed39 s.vm) (eT : T.heap = h) {a : Addr} {n : Nat} {f : Nat → Value} (F : Av Z h a .boolean n f) {j : Int32} {i : Nat} {x : Int32} (hj0 : 0 ≤ j.toInt) (hj1 : j.toInt < n) (hi : j.toNatClampNeg = i) (hd : decode c.code pc = .ok (.bastore, 1))
    (k : ∀ T' h', Stand p l e R s m args below meth c T' (locs ++ [⟨a, i⟩]) cells slots → T'.heap = h' → Wr h h' a i (.int (nar .boolean x)) → Go p e below P (T'.setTop (mkF m (pc + 1) Ls st))) : Go p e below P (T.setTop (mkF m pc Ls (.int x :: .int j :: .ref a :: st))) := by
  obtain ⟨cl, A, B, C⟩ := F
  have hin := out_idx hj0 hj1
  subst hi
  obtain ⟨T', h', X', e', W, stp⟩ := stZ X hx hZ eT A (x := x) (by rw [B]; exact hin) (g := mkF m pc Ls (.int x :: .int j :: .ref a :: st)) rfl rfl hd
  exact (k T' h' X' e' W).by stp
theorem g_arraylength (X : Stand p l e R s m args below meth c T locs cells slots) (hx : p.tables.exec = Jvm.exec) (hZ : Z.Warmed39 s.vm) (eT : T.heap = h) {a : Addr} {ty : FieldType} {n : Nat} {f : Nat → Value} (F : Av Z h a ty n f) {v : Int32} (hv : n.toInt32 = v) (hd : decode c.code pc = .ok (.arraylength, 1)) (q : Go p e below P (T.setTop (mkF m (pc + 1) Ls (.int v :: st)))) : Go p e below P (T.setTop (mkF m pc Ls (.ref a :: st))) := by
  obtain ⟨cl, A, B, C⟩ := F
  subst hv B
  exact q.by fun t r => X.arraylength hx (by rw [eT]; exact A.1) (State.isArrayOf_alike hZ.alike A.2.1) (g := mkF m pc Ls (.ref a :: st)) rfl rfl hd t r
theorem g_newRA (X : Stand p l e R s m args below meth c T locs cells slots) (hx : p.tables.exec = Jvm.exec) (hZ : Z.Warmed39 s.vm) (hown : s.vm.findClass own = some m.cls) {C : String} {ty : FieldType} (hC : (FieldType.array ty).toString = C) (w1 : (Cond.classLink own index C).before a0 Z = true) (w2 : (Cond.arrayOver (.array ty)).before a0 Z = true) (eT : T.heap = h) (hd : decode c.code pc = .ok (.anewarray index, 3)) {n : Int32} (hn : ¬ n < 0) {cap : Nat} (hcap : n.toNatClampNeg ≤ cap) (hb : cap * 8 ≤ 536870912) (hc : cells + 1 ≤ R.cells) (hl : slots + cap ≤ R.slots) {ad : String} (had : "[" ++ C = ad)
    (k : ∀ T' h' a cA, a = h.size → Stand p l e R s m args below meth c T' locs (cells + 1) (slots + cap) → T'.heap = h' → Ext h h' → Arr Z h' a (newA cA (.array ty) n) (.array ty) → Exa Z h' a ad → OvrA Z cA ty C → Go p e below P (T'.setTop (mkF m (pc + 3) Ls (.ref a :: st)))) : Go p e below P (T.setTop (mkF m pc Ls (.int n :: st))) := by
  obtain ⟨T', h', cA, X', e', E, A, EX, O, stp⟩ := newRA X hx hZ hown hC w1 w2 eT (g := mkF m pc Ls (.int n :: st)) rfl hd rfl hn hcap hb hc hl had
  exact (k T' h' _ cA rfl X' e' E A EX O).by stp
theorem g_newPE (X : Stand p l e R s m args below meth c T locs cells slots) (hx : p.tables.exec = Jvm.exec) (hZ : Z.Warmed39 s.vm) {aty : ArrayType} {ty : FieldType} (hty : newarray.typeOf aty = ty) (w : (Cond.arrayClass ty).before a0 Z = true) (eT : T.heap = h) (hd : decode c.code pc = .ok (.newarray aty, 2)) {n : Int32} (hn : ¬ n < 0) {cap : Nat} (hcap : n.toNatClampNeg ≤ cap) (hb : cap * 8 ≤ 536870912) (hc : cells + 1 ≤ R.cells) (hl : slots + cap ≤ R.slots) {ad : String} (had : "[" ++ ty.toString = ad)
    (k : ∀ T' h' a cA, a = h.size → Stand p l e R s m args below meth c T' locs (cells + 1) (slots + cap) → T'.heap = h' → Ext h h' → Arr Z h' a (newA cA ty n) ty → Exa Z h' a ad → Go p e below P (T'.setTop (mkF m (pc + 2) Ls (.ref a :: st)))) : Go p e below P (T.setTop (mkF m pc Ls (.int n :: st))) := by
  subst hty
  obtain ⟨T', h', cA, X', e', E, A, EX, stp⟩ := newPE X hx hZ w eT (g := mkF m pc Ls (.int n :: st)) rfl hd rfl hn hcap hb hc hl had
  exact (k T' h' _ cA rfl X' e' E A EX).by stp
theorem g_aaload (X : Stand p l e R s m args below meth c T locs cells slots) (hx : p.tables.exec = Jvm.exec) (hZ : Z.Warmed39 s.vm) (eT : T.heap = h) {a : Addr} {ty : FieldType} {n : Nat} {f : Nat → Value} (F : Av Z h a ty n f) (hty : ty.isReference = true) {j : Int32} {i : Nat} {v : Value} (hj0 : 0 ≤ j.toInt) (hj1 : j.toInt < n) (hi : j.toNatClampNeg = i) (hv : f i = v) (hd : decode c.code pc = .ok (.aaload, 1)) (q : Go p e below P (T.setTop (mkF m (pc + 1) Ls (v :: st)))) : Go p e below P (T.setTop (mkF m pc Ls (.int j :: .ref a :: st))) := by
  obtain ⟨cl, A, B, C⟩ := F
  have hin := out_idx hj0 hj1
  subst hi hv
  exact q.by fun t r => X.aaload hx (by rw [eT]; exact A.1) (State.isArrayOf_alike hZ.alike A.2.1) hty A.2.2 (by rw [B]; exact hin) (C _ (by omega)) (g := mkF m pc Ls (.int j :: .ref a :: st)) rfl rfl hd t r
theorem g_aastore (X : Stand p l e R s m args below meth c T locs cells slots) (hx : p.tables.exec = Jvm.exec) (hZ : Z.Warmed39 s.vm) (eT : T.heap = h) {a : Addr} {ty : FieldType} {n : Nat} {f : Nat → Value} (F : Av Z h a ty n f) (hty : ty.isReference = true) {v : Value} (S : Sto Z h a v) {j : Int32} {i : Nat} (hj0 : 0 ≤ j.toInt) (hj1 : j.toInt < n) (hi : j.toNatClampNeg = i) (hd : decode c.code pc = .ok (.aastore, 1))
    (k : ∀ T' h', Stand p l e R s m args below meth c T' (locs ++ [⟨a, i⟩]) cells slots → T'.heap = h' → Wr h h' a i v → Go p e below P (T'.setTop (mkF m (pc + 1) Ls st))) : Go p e below P (T.setTop (mkF m pc Ls (v :: .int j :: .ref a :: st))) := by
  obtain ⟨cl, A, B, C⟩ := F
  have hin := out_idx hj0 hj1
  subst hi
  obtain ⟨T', h', X', e', W, stp⟩ := stR X hx hZ eT A (by rw [B]; exact hin) hty S (g := mkF m pc Ls (v :: .int j :: .ref a :: st)) rfl rfl hd
  exact (k T' h' X' e' W).by stp
theorem Av.some {h' : Heap} {a b : Addr} {sl : Nat} {v : Value} {ty : FieldType} {n : Nat} {f : Nat → Value} (F : Av Z h b ty n f) (W : Wr h h' a sl v) : ∃ g, Av Z h' b ty n g := by
  by_cases q : b = a
  · subst q; exact ⟨_, F.same W⟩
  · exact ⟨_, F.other W q⟩
theorem cv_g_lt (r : Option Ordering) : cmpValue r .g < 0 ↔ r = some .lt := by rcases r with _ | (_ | _ | _) <;> decide
theorem cv_g_gt (r : Option Ordering) : 0 < cmpValue r .g ↔ (r = some .gt ∨ r = none) := by rcases r with _ | (_ | _ | _) <;> decide
theorem cv_l_lt (r : Option Ordering) : cmpValue r .l < 0 ↔ (r = some .lt ∨ r = none) := by rcases r with _ | (_ | _ | _) <;> decide
theorem cv_l_gt (r : Option Ordering) : 0 < cmpValue r .l ↔ r = some .gt := by rcases r with _ | (_ | _ | _) <;> decide
theorem cv_g_eq (r : Option Ordering) : cmpValue r .g = 0 ↔ r = some .eq := by rcases r with _ | (_ | _ | _) <;> decide
theorem cv_l_eq (r : Option Ordering) : cmpValue r .l = 0 ↔ r = some .eq := by rcases r with _ | (_ | _ | _) <;> decide
end OwnKit

section OwnCopy
variable {p : Program} {l : Launch} {e : Env} {R : Room} {s : State} {m : MethodId} {args : Array Value} {below : List Frame} {meth : Method} {c : Code} {T : State} {locs : List Loc} {cells slots : Nat} {P : State → Outcome → Prop} {pc : Nat} {Ls : Array Slot} {st : List Value} {Z : State} {a0 : Array Value} {h : Heap} {own : String} {index : Nat}
theorem own_getD {f : Nat → Value} {n i : Nat} (hi : i < n) (d : Value) : ((List.range n).map f).getD i d = f i := by
  rw [List.getD_eq_getElem?_getD, List.getElem?_map, List.getElem?_range hi]; rfl
/-- an array copied onto itself at length nought: nothing is changed -/
theorem g_acp0 (X : Stand p l e R s m args below meth c T locs cells slots) (hx : p.tables.exec = Jvm.exec) (hZ : Z.Warmed39 s.vm) (hown : s.vm.findClass own = some m.cls) (w1 : (Cond.methodLink own index Jvm.Stand.acN).before a0 Z = true) (w2 : (Cond.native Jvm.Stand.acN).before a0 Z = true) (w3 : (Cond.static Jvm.Stand.acN).before a0 Z = true) (w4 : (Cond.initialized "java/lang/System").before a0 Z = true) (eT : T.heap = h) {a : Addr} {ty : FieldType} {n : Nat} {f : Nat → Value} {sp dp z : Int32} (F : Av Z h a ty n f) (hr : refKind ty = false) (hft : ∀ i, i < n → Jvm.fits ty (f i) = true) (hz : z.toNatClampNeg = n) (hz0 : ¬ z < 0) (h1 : ¬ sp < 0) (h2 : ¬ dp < 0) (h4 : sp.toNatClampNeg ≤ n) (h5 : dp.toNatClampNeg ≤ n) {n0 : Nat} (N : Fr n0 locs) (ge : n0 ≤ a) (hsize : Ls.size = c.maxLocals) (hd : decode c.code pc = .ok (.invokestatic index, 3)) (hf : 1 ≤ R.frames) (hlo : 18 ≤ R.locals)
    (k : ∀ T' h' L, Stand p l e R s m args below meth c T' L cells slots → T'.heap = h' → Fr n0 L → Keep h h' [a] → Av Z h' a ty n f → Go p e below P (T'.setTop (mkF m (pc + 3) Ls []))) : Go p e below P (T.setTop (mkF m pc Ls [.int 0, .int dp, .ref a, .int sp, .ref a])) := by
  obtain ⟨cl, A, hs, hv⟩ := F
  have V : Arv Z h a cl.cls ty z ((List.range n).map f) .null := ⟨cl, A, rfl, by rw [hs, hz], hz0, fun i hi => by rw [own_getD (by omega)]; exact hv i (by omega), fun i hi => by rw [own_getD (by omega)]; exact hft i (by omega)⟩
  obtain ⟨T', h', L, X', e', N', K, V', stp⟩ := cpA X hx hZ hown w1 w2 w3 w4 eT (sp := sp) (dp := dp) (nn := 0) (us := []) V V (Or.inl ⟨rfl, hr⟩) h1 h2 (by decide) (by rw [hz]; show _ + 0 ≤ _; omega) (by rw [hz]; show _ + 0 ≤ _; omega) rfl (by rw [List.length_map, List.length_range]; show _ + 0 ≤ _; omega) N ge (g := mkF m pc Ls [.int 0, .int dp, .ref a, .int sp, .ref a]) rfl hsize (rest := []) rfl hd hf (W := 0) (Nat.le_of_eq rfl) hlo
  refine (k T' h' L X' e' N' K ?_).by stp
  have e2 : ((List.range n).map f).take dp.toNatClampNeg ++ [] ++ ((List.range n).map f).drop (dp.toNatClampNeg + (0 : Int32).toNatClampNeg) = (List.range n).map f := by
    rw [List.append_nil]; exact List.take_append_drop _ _
  rw [e2] at V'
  obtain ⟨c', A', -, s', -, H', -⟩ := V'
  rw [hz] at s'
  exact ⟨c', A', s', fun i hi => by rw [H' i (by omega), own_getD hi]⟩
end OwnCopy
def own_u {α : Type} (f : Nat → α) (n : Nat) (v : α) (j : Nat) : α := if j = n then v else f j
theorem own_uI (f : Nat → Int32) (n : Nat) (v : Int32) (j : Nat) : (if j = n then Value.int v else .int (f j)) = .int (own_u f n v j) := by unfold own_u; split <;> rfl
theorem own_uD (f : Nat → UInt64) (n : Nat) (v : UInt64) (j : Nat) : (if j = n then Value.double v else .double (f j)) = .double (own_u f n v j) := by unfold own_u; split <;> rfl
def own_D (n0 : Nat) (q1 la ma si rh ex : Addr) : Prop := (q1 ≠ la ∧ q1 ≠ ma ∧ q1 ≠ si ∧ q1 ≠ rh ∧ q1 ≠ ex ∧ la ≠ ma ∧ la ≠ si ∧ la ≠ rh ∧ la ≠ ex ∧ ma ≠ si ∧ ma ≠ rh ∧ ma ≠ ex ∧ si ≠ rh ∧ si ≠ ex ∧ rh ≠ ex) ∧ (n0 ≤ q1 ∧ n0 ≤ la ∧ n0 ≤ ma ∧ n0 ≤ si ∧ n0 ≤ rh ∧ n0 ≤ ex)
def own_K (Z : State) (h : Heap) (n0 : Nat) (q1 la ma si rh ex : Addr) (sz fg : Int32) (LA : Nat → Int32) (M S R : Nat → UInt64) (B : Nat → Int32) : Prop :=
  Exa Z h q1 "com/example/skywright/skywright/search/Kept" ∧ Fld Z h q1 "com/example/skywright/skywright/search/Kept" "labels" "[I" (.ref la) ∧ Fld Z h q1 "com/example/skywright/skywright/search/Kept" "masses" "[D" (.ref ma) ∧ Fld Z h q1 "com/example/skywright/skywright/search/Kept" "sigmaCosts" "[D" (.ref si) ∧ Fld Z h q1 "com/example/skywright/skywright/search/Kept" "rhoCosts" "[D" (.ref rh) ∧ Fld Z h q1 "com/example/skywright/skywright/search/Kept" "extended" "[Z" (.ref ex) ∧ Fld Z h q1 "com/example/skywright/skywright/search/Kept" "size" "I" (.int sz) ∧ Fld Z h q1 "com/example/skywright/skywright/search/Kept" "lighterMayDo" "Z" (.int fg) ∧ Av Z h la .int 4 (fun i => .int (LA i)) ∧ Av Z h ma .double 4 (fun i => .double (M i)) ∧ Av Z h si .double 4 (fun i => .double (S i)) ∧ Av Z h rh .double 4 (fun i => .double (R i)) ∧ Av Z h ex .boolean 4 (fun i => .int (B i)) ∧ (∀ i, B i = 0 ∨ B i = 1) ∧ own_D n0 q1 la ma si rh ex
def own_t (x : Int32) : Int32 := if x = 0 then 1 else 0
theorem own_fitB {B : Nat → Int32} (hB : ∀ i, B i = 0 ∨ B i = 1) (i : Nat) (_ : i < 4) : Jvm.fits .boolean (.int (B i)) = true := by
  rcases hB i with q | q <;> rw [q] <;> decide
theorem own_uB {B : Nat → Int32} (hB : ∀ i, B i = 0 ∨ B i = 1) {n : Nat} {v : Int32} (hv : v = 0 ∨ v = 1) (i : Nat) : own_u B n v i = 0 ∨ own_u B n v i = 1 := by
  unfold own_u; split
  · exact hv
  · exact hB i
def own_L : Nat → Int32 := own_u (own_u (own_u (fun _ => 0) 0 10) 1 20) 2 30
theorem own_lab {k w : Int32} (hk : 0 ≤ k.toInt ∧ k.toInt < 3) (hw : (10 : Int32) * k = w) {r : Int32} (hr : (10 : Int32) + w = r) : own_L k.toInt.toNat = r := by
  rw [← hr, ← hw]
  have e : k = 0 ∨ k = 1 ∨ k = 2 := by
    have z1 : (1 : Int32).toInt = 1 := rfl
    have z2 : (2 : Int32).toInt = 2 := rfl
    have z0 : (0 : Int32).toInt = 0 := rfl
    have : k.toInt = 0 ∨ k.toInt = 1 ∨ k.toInt = 2 := by omega
    rcases this with q | q | q
    · exact Or.inl (Int32.toInt_inj.mp (by omega))
    · exact Or.inr (Or.inl (Int32.toInt_inj.mp (by omega)))
    · exact Or.inr (Or.inr (Int32.toInt_inj.mp (by omega)))
  rcases e with rfl | rfl | rfl <;> decide
theorem di_0 : decode prog_29_method_1_code 0 = .ok (.aload_n 0, 1) := by decide +kernel
theorem di_1 : decode prog_29_method_1_code 1 = .ok (.invokespecial 1, 3) := by decide +kernel
theorem di_4 : decode prog_29_method_1_code 4 = .ok (.aload_n 0, 1) := by decide +kernel
theorem di_5 : decode prog_29_method_1_code 5 = .ok (.iconst 4, 1) := by decide +kernel
theorem di_6 : decode prog_29_method_1_code 6 = .ok (.newarray .int, 2) := by decide +kernel
theorem di_8 : decode prog_29_method_1_code 8 = .ok (.putfield 7, 3) := by decide +kernel
theorem di_11 : decode prog_29_method_1_code 11 = .ok (.aload_n 0, 1) := by decide +kernel
theorem di_12 : decode prog_29_method_1_code 12 = .ok (.iconst 4, 1) := by decide +kernel
theorem di_13 : decode prog_29_method_1_code 13 = .ok (.newarray .double, 2) := by decide +kernel
theorem di_15 : decode prog_29_method_1_code 15 = .ok (.putfield 13, 3) := by decide +kernel
theorem di_18 : decode prog_29_method_1_code 18 = .ok (.aload_n 0, 1) := by decide +kernel
theorem di_19 : decode prog_29_method_1_code 19 = .ok (.iconst 4, 1) := by decide +kernel
theorem di_20 : decode prog_29_method_1_code 20 = .ok (.newarray .double, 2) := by decide +kernel
theorem di_22 : decode prog_29_method_1_code 22 = .ok (.putfield 17, 3) := by decide +kernel
theorem di_25 : decode prog_29_method_1_code 25 = .ok (.aload_n 0, 1) := by decide +kernel
theorem di_26 : decode prog_29_method_1_code 26 = .ok (.iconst 4, 1) := by decide +kernel
theorem di_27 : decode prog_29_method_1_code 27 = .ok (.newarray .double, 2) := by decide +kernel
theorem di_29 : decode prog_29_method_1_code 29 = .ok (.putfield 20, 3) := by decide +kernel
theorem di_32 : decode prog_29_method_1_code 32 = .ok (.aload_n 0, 1) := by decide +kernel
theorem di_33 : decode prog_29_method_1_code 33 = .ok (.iconst 4, 1) := by decide +kernel
theorem di_34 : decode prog_29_method_1_code 34 = .ok (.newarray .boolean, 2) := by decide +kernel
theorem di_36 : decode prog_29_method_1_code 36 = .ok (.putfield 23, 3) := by decide +kernel
theorem di_39 : decode prog_29_method_1_code 39 = .ok (.aload_n 0, 1) := by decide +kernel
theorem di_40 : decode prog_29_method_1_code 40 = .ok (.iload_n 1, 1) := by decide +kernel
theorem di_41 : decode prog_29_method_1_code 41 = .ok (.putfield 27, 3) := by decide +kernel
theorem di_44 : decode prog_29_method_1_code 44 = .ok (.return_, 1) := by decide +kernel
theorem pni : plainName "com/example/skywright/skywright/search/Kept" = true := by first | (simp [plainName, overriddenIn]; done) | decide +kernel
theorem efi (m : MethodId) (z0 : Addr) (z1 : Int32) : entryFrame m #[(.ref z0), (.int z1)] 2 = mkF m 0 #[.val (.ref z0), .val (.int z1)] [] := by first | (simp [entryFrame, mkF, argsToLocals, Value.category]; done) | rfl
def Qi (Z : State) (q1 : Addr) (q2 : Int32) (h0 : Heap) (n0 : Nat) (v : Option Value) (h : Heap) (L : List Loc) : Prop := v = none ∧ Fr n0 L ∧ n0 ≤ h.size ∧ ∃ la ma si rh ex, own_K Z h n0 q1 la ma si rh ex 0 q2 (fun _ => 0) (fun _ => 0) (fun _ => 0) (fun _ => 0) (fun _ => 0)
set_option maxRecDepth 65536 in
set_option maxHeartbeats 40000000 in
theorem rmi (l : Launch) (Z : State) (a0 : Array Value) (hw : ∀ d ∈ tables_1, d.before a0 Z = true) (ws : List Jvm.Cond) (q1 : Addr) (q2 : Int32) (h0 : Heap) (n0 : Nat) (Z0 : n0 ≤ h0.size) (E0 : Exa Z h0 q1 "com/example/skywright/skywright/search/Kept") (F0 : Fld Z h0 q1 "com/example/skywright/skywright/search/Kept" "size" "I" (.int 0)) (g1 : n0 ≤ q1) (hfg : q2 = 0 ∨ q2 = 1) :
    MetFree l (⟨"com/example/skywright/skywright/search/Kept", "<init>", "(Z)V"⟩ : MethodName) (head1 (Jvm.Cond.code (⟨"com/example/skywright/skywright/search/Kept", "<init>", "(Z)V"⟩ : MethodName) prog_29_method_1_code 2 (Option.none : Option Jvm.ClassFile.FieldType) :: ws) ({ frames := 1, cells := 5, slots := 20, locals := 12 } : Room)) (fun a U => a = #[(.ref q1), (.int q2)] ∧ Z.Warmed39 U.vm ∧ U.heap = h0) (fun _ _ _ _ _ => True) (fun _ U o U' => ∃ v L, o = .returned v ∧ Qi Z q1 q2 h0 n0 v U'.heap L ∧ FrameEnd U o U' L ({ frames := 1, cells := 5, slots := 20, locals := 12 } : Room).cells ({ frames := 1, cells := 5, slots := 20, locals := 12 } : Room).slots) := by
  refine MetFree.of_bodySF (plainFor_of_name pni) hisR ?_
  intro p e s m args below meth c s₁ Bd hml0 hP hK
  obtain ⟨rfl, hZ, hh⟩ := hP
  have hx := Bd.exec
  have hby := Bd.bytes
  have hml : c.maxLocals = 2 := hml0
  have hown : s.vm.findClass "com/example/skywright/skywright/search/Kept" = some m.cls := findClass_of_methodNamed Bd.named
  have hnm := (name_of_methodNamed Bd.named Bd.method).1
  have X0 : Stand p l e ({ frames := 1, cells := 5, slots := 20, locals := 12 } : Room) s m #[(.ref q1), (.int q2)] below meth c s₁ [] 0 0 := Stand.of_body Bd
  have e0 : s₁.heap = h0 := by rw [← hh, Bd.state]; rfl
  have N0 := Fr.nil n0
  show Go p e below (Ret s (Qi Z q1 q2 h0 n0) ({ frames := 1, cells := 5, slots := 20, locals := 12 } : Room).cells ({ frames := 1, cells := 5, slots := 20, locals := 12 } : Room).slots) (s₁.setTop (entryFrame m #[(.ref q1), (.int q2)] 2))
  rw [efi m q1 q2]
  refine g_aloadN X0 hx (hb hby di_0) rfl rfl ?_
  refine g_objInit X0 hx hZ hown (hw _ (List.mem_of_getElem? (i := 6) rfl)) (hw _ (List.mem_of_getElem? (i := 7) rfl)) (hw _ (List.mem_of_getElem? (i := 8) rfl)) e0 (by rw [hml]; rfl) (hb hby di_1) (by decide) (W := 0) (Nat.le_of_eq rfl) (by decide) ?_
  intro T1 X2 e3
  refine g_aloadN X2 hx (hb hby di_4) rfl rfl ?_
  refine g_iconst X2 hx (hb hby di_5) (v := (4 : Int32)) (by decide) ?_
  refine g_newP X2 hx hZ (ty := .int) rfl (hw _ (List.mem_of_getElem? (i := 9) rfl)) e3 (hb hby di_6) (by decide) (cap := 4) (by decide) (by decide) (by decide) (by decide) ?_
  intro T4 h7 la cA11 gla X5 e6 E8 F9 
  have ne_q1_la : q1 ≠ la := fun q => absurd E0.lt (by rw [q, gla]; exact Nat.lt_irrefl _)
  have ge_la : n0 ≤ la := by rw [gla]; exact Z0
  have F13 := E0.ext E8
  have F14 := F0.ext E8
  have Z15 : n0 ≤ h7.size := Nat.le_trans Z0 E8.1
  have F12 : Av Z h7 la .int 4 (fun _ => .int 0) := Av.newK F9 (by decide)
  obtain ⟨o18, F17⟩ := fld_any F13 F14 (hw _ (List.mem_of_getElem? (i := 1) rfl)) (Or.inl (hw _ (List.mem_of_getElem? (i := 11) rfl)))
  refine g_putF X5 hx hZ hown (hw _ (List.mem_of_getElem? (i := 10) rfl)) e6 F17 F13 (Or.inl (hw _ (List.mem_of_getElem? (i := 11) rfl))) (hw _ (List.mem_of_getElem? (i := 1) rfl)) (ty := (.array .int)) (by decide) rfl rfl (hb hby di_8) ?_
  intro T20 h23 X21 e22 W24
  have F26 := F13.wr W24
  have F27 := F14.other W24 (Or.inr (slot_ne (Or.inl (hw _ (List.mem_of_getElem? (i := 31) rfl))) (Or.inl (hw _ (List.mem_of_getElem? (i := 11) rfl))) (by decide) (t := .int) (t' := (.array .int)) (by decide) (by decide)))
  have F28 := F12.other W24 ne_q1_la.symm
  have F29 := F17.same W24
  have Z30 : n0 ≤ h23.size := by rw [W24.size]; exact Z15
  have N31 := Fr.snoc X21 N0 g1
  refine g_aloadN X21 hx (hb hby di_11) rfl rfl ?_
  refine g_iconst X21 hx (hb hby di_12) (v := (4 : Int32)) (by decide) ?_
  refine g_newP X21 hx hZ (ty := .double) rfl (hw _ (List.mem_of_getElem? (i := 12) rfl)) e22 (hb hby di_13) (by decide) (cap := 4) (by decide) (by decide) (by decide) (by decide) ?_
  intro T32 h35 ma cA39 gma X33 e34 E36 F37 
  have ne_q1_ma : q1 ≠ ma := fun q => absurd F26.lt (by rw [q, gma]; exact Nat.lt_irrefl _)
  have ne_la_ma : la ≠ ma := fun q => absurd F28.lt (by rw [q, gma]; exact Nat.lt_irrefl _)
  have ge_ma : n0 ≤ ma := by rw [gma]; exact Z30
  have F41 := F26.ext E36
  have F42 := F27.ext E36
  have F43 := F28.ext E36
  have F44 := F29.ext E36
  have Z45 : n0 ≤ h35.size := Nat.le_trans Z30 E36.1
  have F40 : Av Z h35 ma .double 4 (fun _ => .double 0) := Av.newK F37 (by decide)
  obtain ⟨o48, F47⟩ := fld_any F41 F42 (hw _ (List.mem_of_getElem? (i := 1) rfl)) (Or.inl (hw _ (List.mem_of_getElem? (i := 14) rfl)))
  refine g_putF X33 hx hZ hown (hw _ (List.mem_of_getElem? (i := 13) rfl)) e34 F47 F41 (Or.inl (hw _ (List.mem_of_getElem? (i := 14) rfl))) (hw _ (List.mem_of_getElem? (i := 1) rfl)) (ty := (.array .double)) (by decide) rfl rfl (hb hby di_15) ?_
  intro T50 h53 X51 e52 W54
  have F56 := F41.wr W54
  have F57 := F42.other W54 (Or.inr (slot_ne (Or.inl (hw _ (List.mem_of_getElem? (i := 31) rfl))) (Or.inl (hw _ (List.mem_of_getElem? (i := 14) rfl))) (by decide) (t := .int) (t' := (.array .double)) (by decide) (by decide)))
  have F58 := F43.other W54 ne_q1_la.symm
  have F59 := F44.other W54 (Or.inr (slot_ne (Or.inl (hw _ (List.mem_of_getElem? (i := 11) rfl))) (Or.inl (hw _ (List.mem_of_getElem? (i := 14) rfl))) (by decide) (t := (.array .int)) (t' := (.array .double)) (by decide) (by decide)))
  have F60 := F40.other W54 ne_q1_ma.symm
  have F61 := F47.same W54
  have Z62 : n0 ≤ h53.size := by rw [W54.size]; exact Z45
  have N63 := Fr.snoc X51 N31 g1
  refine g_aloadN X51 hx (hb hby di_18) rfl rfl ?_
  refine g_iconst X51 hx (hb hby di_19) (v := (4 : Int32)) (by decide) ?_
  refine g_newP X51 hx hZ (ty := .double) rfl (hw _ (List.mem_of_getElem? (i := 12) rfl)) e52 (hb hby di_20) (by decide) (cap := 4) (by decide) (by decide) (by decide) (by decide) ?_
  intro T64 h67 si cA71 gsi X65 e66 E68 F69 
  have ne_q1_si : q1 ≠ si := fun q => absurd F56.lt (by rw [q, gsi]; exact Nat.lt_irrefl _)
  have ne_la_si : la ≠ si := fun q => absurd F58.lt (by rw [q, gsi]; exact Nat.lt_irrefl _)
  have ne_ma_si : ma ≠ si := fun q => absurd F60.lt (by rw [q, gsi]; exact Nat.lt_irrefl _)
  have ge_si : n0 ≤ si := by rw [gsi]; exact Z62
  have F73 := F56.ext E68
  have F74 := F57.ext E68
  have F75 := F58.ext E68
  have F76 := F59.ext E68
  have F77 := F60.ext E68
  have F78 := F61.ext E68
  have Z79 : n0 ≤ h67.size := Nat.le_trans Z62 E68.1
  have F72 : Av Z h67 si .double 4 (fun _ => .double 0) := Av.newK F69 (by decide)
  obtain ⟨o82, F81⟩ := fld_any F73 F74 (hw _ (List.mem_of_getElem? (i := 1) rfl)) (Or.inl (hw _ (List.mem_of_getElem? (i := 16) rfl)))
  refine g_putF X65 hx hZ hown (hw _ (List.mem_of_getElem? (i := 15) rfl)) e66 F81 F73 (Or.inl (hw _ (List.mem_of_getElem? (i := 16) rfl))) (hw _ (List.mem_of_getElem? (i := 1) rfl)) (ty := (.array .double)) (by decide) rfl rfl (hb hby di_22) ?_
  intro T84 h87 X85 e86 W88
  have F90 := F73.wr W88
  have F91 := F74.other W88 (Or.inr (slot_ne (Or.inl (hw _ (List.mem_of_getElem? (i := 31) rfl))) (Or.inl (hw _ (List.mem_of_getElem? (i := 16) rfl))) (by decide) (t := .int) (t' := (.array .double)) (by decide) (by decide)))
  have F92 := F75.other W88 ne_q1_la.symm
  have F93 := F76.other W88 (Or.inr (slot_ne (Or.inl (hw _ (List.mem_of_getElem? (i := 11) rfl))) (Or.inl (hw _ (List.mem_of_getElem? (i := 16) rfl))) (by decide) (t := (.array .int)) (t' := (.array .double)) (by decide) (by decide)))
  have F94 := F77.other W88 ne_q1_ma.symm
  have F95 := F78.other W88 (Or.inr (slot_ne (Or.inl (hw _ (List.mem_of_getElem? (i := 14) rfl))) (Or.inl (hw _ (List.mem_of_getElem? (i := 16) rfl))) (by decide) (t := (.array .double)) (t' := (.array .double)) (by decide) (by decide)))
  have F96 := F72.other W88 ne_q1_si.symm
  have F97 := F81.same W88
  have Z98 : n0 ≤ h87.size := by rw [W88.size]; exact Z79
  have N99 := Fr.snoc X85 N63 g1
  refine g_aloadN X85 hx (hb hby di_25) rfl rfl ?_
  refine g_iconst X85 hx (hb hby di_26) (v := (4 : Int32)) (by decide) ?_
  refine g_newP X85 hx hZ (ty := .double) rfl (hw _ (List.mem_of_getElem? (i := 12) rfl)) e86 (hb hby di_27) (by decide) (cap := 4) (by decide) (by decide) (by decide) (by decide) ?_
  intro T100 h103 rh cA107 grh X101 e102 E104 F105 
  have ne_q1_rh : q1 ≠ rh := fun q => absurd F90.lt (by rw [q, grh]; exact Nat.lt_irrefl _)
  have ne_la_rh : la ≠ rh := fun q => absurd F92.lt (by rw [q, grh]; exact Nat.lt_irrefl _)
  have ne_ma_rh : ma ≠ rh := fun q => absurd F94.lt (by rw [q, grh]; exact Nat.lt_irrefl _)
  have ne_si_rh : si ≠ rh := fun q => absurd F96.lt (by rw [q, grh]; exact Nat.lt_irrefl _)
  have ge_rh : n0 ≤ rh := by rw [grh]; exact Z98
  have F109 := F90.ext E104
  have F110 := F91.ext E104
  have F111 := F92.ext E104
  have F112 := F93.ext E104
  have F113 := F94.ext E104
  have F114 := F95.ext E104
  have F115 := F96.ext E104
  have F116 := F97.ext E104
  have Z117 : n0 ≤ h103.size := Nat.le_trans Z98 E104.1
  have F108 : Av Z h103 rh .double 4 (fun _ => .double 0) := Av.newK F105 (by decide)
  obtain ⟨o120, F119⟩ := fld_any F109 F110 (hw _ (List.mem_of_getElem? (i := 1) rfl)) (Or.inl (hw _ (List.mem_of_getElem? (i := 18) rfl)))
  refine g_putF X101 hx hZ hown (hw _ (List.mem_of_getElem? (i := 17) rfl)) e102 F119 F109 (Or.inl (hw _ (List.mem_of_getElem? (i := 18) rfl))) (hw _ (List.mem_of_getElem? (i := 1) rfl)) (ty := (.array .double)) (by decide) rfl rfl (hb hby di_29) ?_
  intro T122 h125 X123 e124 W126
  have F128 := F109.wr W126
  have F129 := F110.other W126 (Or.inr (slot_ne (Or.inl (hw _ (List.mem_of_getElem? (i := 31) rfl))) (Or.inl (hw _ (List.mem_of_getElem? (i := 18) rfl))) (by decide) (t := .int) (t' := (.array .double)) (by decide) (by decide)))
  have F130 := F111.other W126 ne_q1_la.symm
  have F131 := F112.other W126 (Or.inr (slot_ne (Or.inl (hw _ (List.mem_of_getElem? (i := 11) rfl))) (Or.inl (hw _ (List.mem_of_getElem? (i := 18) rfl))) (by decide) (t := (.array .int)) (t' := (.array .double)) (by decide) (by decide)))
  have F132 := F113.other W126 ne_q1_ma.symm
  have F133 := F114.other W126 (Or.inr (slot_ne (Or.inl (hw _ (List.mem_of_getElem? (i := 14) rfl))) (Or.inl (hw _ (List.mem_of_getElem? (i := 18) rfl))) (by decide) (t := (.array .double)) (t' := (.array .double)) (by decide) (by decide)))
  have F134 := F115.other W126 ne_q1_si.symm
  have F135 := F116.other W126 (Or.inr (slot_ne (Or.inl (hw _ (List.mem_of_getElem? (i := 16) rfl))) (Or.inl (hw _ (List.mem_of_getElem? (i := 18) rfl))) (by decide) (t := (.array .double)) (t' := (.array .double)) (by decide) (by decide)))
  have F136 := F108.other W126 ne_q1_rh.symm
  have F137 := F119.same W126
  have Z138 : n0 ≤ h125.size := by rw [W126.size]; exact Z117
  have N139 := Fr.snoc X123 N99 g1
  refine g_aloadN X123 hx (hb hby di_32) rfl rfl ?_
  refine g_iconst X123 hx (hb hby di_33) (v := (4 : Int32)) (by decide) ?_
  refine g_newP X123 hx hZ (ty := .boolean) rfl (hw _ (List.mem_of_getElem? (i := 19) rfl)) e124 (hb hby di_34) (by decide) (cap := 4) (by decide) (by decide) (by decide) (by decide) ?_
  intro T140 h143 ex cA147 gex X141 e142 E144 F145 
  have ne_q1_ex : q1 ≠ ex := fun q => absurd F128.lt (by rw [q, gex]; exact Nat.lt_irrefl _)
  have ne_la_ex : la ≠ ex := fun q => absurd F130.lt (by rw [q, gex]; exact Nat.lt_irrefl _)
  have ne_ma_ex : ma ≠ ex := fun q => absurd F132.lt (by rw [q, gex]; exact Nat.lt_irrefl _)
  have ne_si_ex : si ≠ ex := fun q => absurd F134.lt (by rw [q, gex]; exact Nat.lt_irrefl _)
  have ne_rh_ex : rh ≠ ex := fun q => absurd F136.lt (by rw [q, gex]; exact Nat.lt_irrefl _)
  have ge_ex : n0 ≤ ex := by rw [gex]; exact Z138
  have F149 := F128.ext E144
  have F150 := F129.ext E144
  have F151 := F130.ext E144
  have F152 := F131.ext E144
  have F153 := F132.ext E144
  have F154 := F133.ext E144
  have F155 := F134.ext E144
  have F156 := F135.ext E144
  have F157 := F136.ext E144
  have F158 := F137.ext E144
  have Z159 : n0 ≤ h143.size := Nat.le_trans Z138 E144.1
  have F148 : Av Z h143 ex .boolean 4 (fun _ => .int 0) := Av.newK F145 (by decide)
  obtain ⟨o162, F161⟩ := fld_any F149 F150 (hw _ (List.mem_of_getElem? (i := 1) rfl)) (Or.inl (hw _ (List.mem_of_getElem? (i := 21) rfl)))
  refine g_putF X141 hx hZ hown (hw _ (List.mem_of_getElem? (i := 20) rfl)) e142 F161 F149 (Or.inl (hw _ (List.mem_of_getElem? (i := 21) rfl))) (hw _ (List.mem_of_getElem? (i := 1) rfl)) (ty := (.array .boolean)) (by decide) rfl rfl (hb hby di_36) ?_
  intro T164 h167 X165 e166 W168
  have F170 := F149.wr W168
  have F171 := F150.other W168 (Or.inr (slot_ne (Or.inl (hw _ (List.mem_of_getElem? (i := 31) rfl))) (Or.inl (hw _ (List.mem_of_getElem? (i := 21) rfl))) (by decide) (t := .int) (t' := (.array .boolean)) (by decide) (by decide)))
  have F172 := F151.other W168 ne_q1_la.symm
  have F173 := F152.other W168 (Or.inr (slot_ne (Or.inl (hw _ (List.mem_of_getElem? (i := 11) rfl))) (Or.inl (hw _ (List.mem_of_getElem? (i := 21) rfl))) (by decide) (t := (.array .int)) (t' := (.array .boolean)) (by decide) (by decide)))
  have F174 := F153.other W168 ne_q1_ma.symm
  have F175 := F154.other W168 (Or.inr (slot_ne (Or.inl (hw _ (List.mem_of_getElem? (i := 14) rfl))) (Or.inl (hw _ (List.mem_of_getElem? (i := 21) rfl))) (by decide) (t := (.array .double)) (t' := (.array .boolean)) (by decide) (by decide)))
  have F176 := F155.other W168 ne_q1_si.symm
  have F177 := F156.other W168 (Or.inr (slot_ne (Or.inl (hw _ (List.mem_of_getElem? (i := 16) rfl))) (Or.inl (hw _ (List.mem_of_getElem? (i := 21) rfl))) (by decide) (t := (.array .double)) (t' := (.array .boolean)) (by decide) (by decide)))
  have F178 := F157.other W168 ne_q1_rh.symm
  have F179 := F158.other W168 (Or.inr (slot_ne (Or.inl (hw _ (List.mem_of_getElem? (i := 18) rfl))) (Or.inl (hw _ (List.mem_of_getElem? (i := 21) rfl))) (by decide) (t := (.array .double)) (t' := (.array .boolean)) (by decide) (by decide)))
  have F180 := F148.other W168 ne_q1_ex.symm
  have F181 := F161.same W168
  have Z182 : n0 ≤ h167.size := by rw [W168.size]; exact Z159
  have N183 := Fr.snoc X165 N139 g1
  refine g_aloadN X165 hx (hb hby di_39) rfl rfl ?_
  refine g_iloadN X165 hx (hb hby di_40) rfl ?_
  obtain ⟨o185, F184⟩ := fld_any F170 F171 (hw _ (List.mem_of_getElem? (i := 1) rfl)) (Or.inr (hw _ (List.mem_of_getElem? (i := 23) rfl)))
  refine g_putF X165 hx hZ hown (hw _ (List.mem_of_getElem? (i := 22) rfl)) e166 F184 F170 (Or.inr ⟨(hw _ (List.mem_of_getElem? (i := 23) rfl)), rfl, hnm⟩) (hw _ (List.mem_of_getElem? (i := 1) rfl)) (ty := .boolean) (by decide) (by rcases hfg with q | q <;> rw [q] <;> rfl) (by rcases hfg with q | q <;> rw [q] <;> rfl) (hb hby di_41) ?_
  intro T187 h190 X188 e189 W191
  have F193 := F170.wr W191
  have F194 := F171.other W191 (Or.inr (slot_ne (Or.inl (hw _ (List.mem_of_getElem? (i := 31) rfl))) (Or.inr (hw _ (List.mem_of_getElem? (i := 23) rfl))) (by decide) (t := .int) (t' := .boolean) (by decide) (by decide)))
  have F195 := F172.other W191 ne_q1_la.symm
  have F196 := F173.other W191 (Or.inr (slot_ne (Or.inl (hw _ (List.mem_of_getElem? (i := 11) rfl))) (Or.inr (hw _ (List.mem_of_getElem? (i := 23) rfl))) (by decide) (t := (.array .int)) (t' := .boolean) (by decide) (by decide)))
  have F197 := F174.other W191 ne_q1_ma.symm
  have F198 := F175.other W191 (Or.inr (slot_ne (Or.inl (hw _ (List.mem_of_getElem? (i := 14) rfl))) (Or.inr (hw _ (List.mem_of_getElem? (i := 23) rfl))) (by decide) (t := (.array .double)) (t' := .boolean) (by decide) (by decide)))
  have F199 := F176.other W191 ne_q1_si.symm
  have F200 := F177.other W191 (Or.inr (slot_ne (Or.inl (hw _ (List.mem_of_getElem? (i := 16) rfl))) (Or.inr (hw _ (List.mem_of_getElem? (i := 23) rfl))) (by decide) (t := (.array .double)) (t' := .boolean) (by decide) (by decide)))
  have F201 := F178.other W191 ne_q1_rh.symm
  have F202 := F179.other W191 (Or.inr (slot_ne (Or.inl (hw _ (List.mem_of_getElem? (i := 18) rfl))) (Or.inr (hw _ (List.mem_of_getElem? (i := 23) rfl))) (by decide) (t := (.array .double)) (t' := .boolean) (by decide) (by decide)))
  have F203 := F180.other W191 ne_q1_ex.symm
  have F204 := F181.other W191 (Or.inr (slot_ne (Or.inl (hw _ (List.mem_of_getElem? (i := 21) rfl))) (Or.inr (hw _ (List.mem_of_getElem? (i := 23) rfl))) (by decide) (t := (.array .boolean)) (t' := .boolean) (by decide) (by decide)))
  have F205 := F184.same W191
  have Z206 : n0 ≤ h190.size := by rw [W191.size]; exact Z182
  have N207 := Fr.snoc X188 N183 g1
  refine g_return X188 hx Bd.notSynchronized Bd.returns (hb hby di_44) (by decide) (by decide) ?_
  rw [e189]
  exact ⟨rfl, N207, Z206, la, ma, si, rh, ex, F193, F196, F198, F200, F202, F204, F194, F205, F195, F197, F199, F201, F203, fun _ => Or.inl rfl, ⟨⟨ne_q1_la, ne_q1_ma, ne_q1_si, ne_q1_rh, ne_q1_ex, ne_la_ma, ne_la_si, ne_la_rh, ne_la_ex, ne_ma_si, ne_ma_rh, ne_ma_ex, ne_si_rh, ne_si_ex, ne_rh_ex⟩, ⟨g1, ge_la, ge_ma, ge_si, ge_rh, ge_ex⟩⟩⟩
theorem da0_0 : decode prog_29_method_2_code 0 = .ok (.iconst 0, 1) := by decide +kernel
theorem da0_1 : decode prog_29_method_2_code 1 = .ok (.istore 8, 2) := by decide +kernel
theorem da0_3 : decode prog_29_method_2_code 3 = .ok (.aload_n 0, 1) := by decide +kernel
theorem da0_4 : decode prog_29_method_2_code 4 = .ok (.getfield 31, 3) := by decide +kernel
theorem da0_7 : decode prog_29_method_2_code 7 = .ok (.istore 9, 2) := by decide +kernel
theorem da0_9 : decode prog_29_method_2_code 9 = .ok (.iload 8, 2) := by decide +kernel
theorem da0_11 : decode prog_29_method_2_code 11 = .ok (.iload 9, 2) := by decide +kernel
theorem da0_13 : decode prog_29_method_2_code 13 = .ok (.if_icmp .ge 40, 3) := by decide +kernel
theorem da0_53 : decode prog_29_method_2_code 53 = .ok (.iload 8, 2) := by decide +kernel
theorem da0_55 : decode prog_29_method_2_code 55 = .ok (.ifCond .le 18, 3) := by decide +kernel
theorem da0_73 : decode prog_29_method_2_code 73 = .ok (.aload_n 0, 1) := by decide +kernel
theorem da0_74 : decode prog_29_method_2_code 74 = .ok (.getfield 27, 3) := by decide +kernel
theorem da0_77 : decode prog_29_method_2_code 77 = .ok (.ifCond .eq 27, 3) := by decide +kernel
theorem da0_80 : decode prog_29_method_2_code 80 = .ok (.iload 8, 2) := by decide +kernel
theorem da0_82 : decode prog_29_method_2_code 82 = .ok (.aload_n 0, 1) := by decide +kernel
theorem da0_83 : decode prog_29_method_2_code 83 = .ok (.getfield 31, 3) := by decide +kernel
theorem da0_86 : decode prog_29_method_2_code 86 = .ok (.if_icmp .ge 18, 3) := by decide +kernel
theorem da0_104 : decode prog_29_method_2_code 104 = .ok (.iload 8, 2) := by decide +kernel
theorem da0_106 : decode prog_29_method_2_code 106 = .ok (.istore 10, 2) := by decide +kernel
theorem da0_108 : decode prog_29_method_2_code 108 = .ok (.iload 10, 2) := by decide +kernel
theorem da0_110 : decode prog_29_method_2_code 110 = .ok (.ifCond .le 20, 3) := by decide +kernel
theorem da0_130 : decode prog_29_method_2_code 130 = .ok (.aload_n 0, 1) := by decide +kernel
theorem da0_131 : decode prog_29_method_2_code 131 = .ok (.getfield 27, 3) := by decide +kernel
theorem da0_134 : decode prog_29_method_2_code 134 = .ok (.ifCond .eq 29, 3) := by decide +kernel
theorem da0_137 : decode prog_29_method_2_code 137 = .ok (.iload 10, 2) := by decide +kernel
theorem da0_139 : decode prog_29_method_2_code 139 = .ok (.ifCond .le 24, 3) := by decide +kernel
theorem da0_163 : decode prog_29_method_2_code 163 = .ok (.iload 8, 2) := by decide +kernel
theorem da0_165 : decode prog_29_method_2_code 165 = .ok (.istore 11, 2) := by decide +kernel
theorem da0_167 : decode prog_29_method_2_code 167 = .ok (.iload 11, 2) := by decide +kernel
theorem da0_169 : decode prog_29_method_2_code 169 = .ok (.aload_n 0, 1) := by decide +kernel
theorem da0_170 : decode prog_29_method_2_code 170 = .ok (.getfield 31, 3) := by decide +kernel
theorem da0_173 : decode prog_29_method_2_code 173 = .ok (.if_icmp .ge 22, 3) := by decide +kernel
theorem da0_195 : decode prog_29_method_2_code 195 = .ok (.aload_n 0, 1) := by decide +kernel
theorem da0_196 : decode prog_29_method_2_code 196 = .ok (.getfield 31, 3) := by decide +kernel
theorem da0_199 : decode prog_29_method_2_code 199 = .ok (.iload 11, 2) := by decide +kernel
theorem da0_201 : decode prog_29_method_2_code 201 = .ok (.iload 10, 2) := by decide +kernel
theorem da0_203 : decode prog_29_method_2_code 203 = .ok (.isub, 1) := by decide +kernel
theorem da0_204 : decode prog_29_method_2_code 204 = .ok (.isub, 1) := by decide +kernel
theorem da0_205 : decode prog_29_method_2_code 205 = .ok (.iconst 1, 1) := by decide +kernel
theorem da0_206 : decode prog_29_method_2_code 206 = .ok (.iadd, 1) := by decide +kernel
theorem da0_207 : decode prog_29_method_2_code 207 = .ok (.istore 12, 2) := by decide +kernel
theorem da0_209 : decode prog_29_method_2_code 209 = .ok (.iload 12, 2) := by decide +kernel
theorem da0_211 : decode prog_29_method_2_code 211 = .ok (.aload_n 0, 1) := by decide +kernel
theorem da0_212 : decode prog_29_method_2_code 212 = .ok (.getfield 7, 3) := by decide +kernel
theorem da0_215 : decode prog_29_method_2_code 215 = .ok (.arraylength, 1) := by decide +kernel
theorem da0_216 : decode prog_29_method_2_code 216 = .ok (.if_icmp .le 77, 3) := by decide +kernel
theorem da0_293 : decode prog_29_method_2_code 293 = .ok (.aload_n 0, 1) := by decide +kernel
theorem da0_294 : decode prog_29_method_2_code 294 = .ok (.getfield 7, 3) := by decide +kernel
theorem da0_297 : decode prog_29_method_2_code 297 = .ok (.iload 11, 2) := by decide +kernel
theorem da0_299 : decode prog_29_method_2_code 299 = .ok (.aload_n 0, 1) := by decide +kernel
theorem da0_300 : decode prog_29_method_2_code 300 = .ok (.getfield 7, 3) := by decide +kernel
theorem da0_303 : decode prog_29_method_2_code 303 = .ok (.iload 10, 2) := by decide +kernel
theorem da0_305 : decode prog_29_method_2_code 305 = .ok (.iconst 1, 1) := by decide +kernel
theorem da0_306 : decode prog_29_method_2_code 306 = .ok (.iadd, 1) := by decide +kernel
theorem da0_307 : decode prog_29_method_2_code 307 = .ok (.aload_n 0, 1) := by decide +kernel
theorem da0_308 : decode prog_29_method_2_code 308 = .ok (.getfield 31, 3) := by decide +kernel
theorem da0_311 : decode prog_29_method_2_code 311 = .ok (.iload 11, 2) := by decide +kernel
theorem da0_313 : decode prog_29_method_2_code 313 = .ok (.isub, 1) := by decide +kernel
theorem da0_314 : decode prog_29_method_2_code 314 = .ok (.invokestatic 47, 3) := by decide +kernel
theorem da0_317 : decode prog_29_method_2_code 317 = .ok (.aload_n 0, 1) := by decide +kernel
theorem da0_318 : decode prog_29_method_2_code 318 = .ok (.getfield 13, 3) := by decide +kernel
theorem da0_321 : decode prog_29_method_2_code 321 = .ok (.iload 11, 2) := by decide +kernel
theorem da0_323 : decode prog_29_method_2_code 323 = .ok (.aload_n 0, 1) := by decide +kernel
theorem da0_324 : decode prog_29_method_2_code 324 = .ok (.getfield 13, 3) := by decide +kernel
theorem da0_327 : decode prog_29_method_2_code 327 = .ok (.iload 10, 2) := by decide +kernel
theorem da0_329 : decode prog_29_method_2_code 329 = .ok (.iconst 1, 1) := by decide +kernel
theorem da0_330 : decode prog_29_method_2_code 330 = .ok (.iadd, 1) := by decide +kernel
theorem da0_331 : decode prog_29_method_2_code 331 = .ok (.aload_n 0, 1) := by decide +kernel
theorem da0_332 : decode prog_29_method_2_code 332 = .ok (.getfield 31, 3) := by decide +kernel
theorem da0_335 : decode prog_29_method_2_code 335 = .ok (.iload 11, 2) := by decide +kernel
theorem da0_337 : decode prog_29_method_2_code 337 = .ok (.isub, 1) := by decide +kernel
theorem da0_338 : decode prog_29_method_2_code 338 = .ok (.invokestatic 47, 3) := by decide +kernel
theorem da0_341 : decode prog_29_method_2_code 341 = .ok (.aload_n 0, 1) := by decide +kernel
theorem da0_342 : decode prog_29_method_2_code 342 = .ok (.getfield 17, 3) := by decide +kernel
theorem da0_345 : decode prog_29_method_2_code 345 = .ok (.iload 11, 2) := by decide +kernel
theorem da0_347 : decode prog_29_method_2_code 347 = .ok (.aload_n 0, 1) := by decide +kernel
theorem da0_348 : decode prog_29_method_2_code 348 = .ok (.getfield 17, 3) := by decide +kernel
theorem da0_351 : decode prog_29_method_2_code 351 = .ok (.iload 10, 2) := by decide +kernel
theorem da0_353 : decode prog_29_method_2_code 353 = .ok (.iconst 1, 1) := by decide +kernel
theorem da0_354 : decode prog_29_method_2_code 354 = .ok (.iadd, 1) := by decide +kernel
theorem da0_355 : decode prog_29_method_2_code 355 = .ok (.aload_n 0, 1) := by decide +kernel
theorem da0_356 : decode prog_29_method_2_code 356 = .ok (.getfield 31, 3) := by decide +kernel
theorem da0_359 : decode prog_29_method_2_code 359 = .ok (.iload 11, 2) := by decide +kernel
theorem da0_361 : decode prog_29_method_2_code 361 = .ok (.isub, 1) := by decide +kernel
theorem da0_362 : decode prog_29_method_2_code 362 = .ok (.invokestatic 47, 3) := by decide +kernel
theorem da0_365 : decode prog_29_method_2_code 365 = .ok (.aload_n 0, 1) := by decide +kernel
theorem da0_366 : decode prog_29_method_2_code 366 = .ok (.getfield 20, 3) := by decide +kernel
theorem da0_369 : decode prog_29_method_2_code 369 = .ok (.iload 11, 2) := by decide +kernel
theorem da0_371 : decode prog_29_method_2_code 371 = .ok (.aload_n 0, 1) := by decide +kernel
theorem da0_372 : decode prog_29_method_2_code 372 = .ok (.getfield 20, 3) := by decide +kernel
theorem da0_375 : decode prog_29_method_2_code 375 = .ok (.iload 10, 2) := by decide +kernel
theorem da0_377 : decode prog_29_method_2_code 377 = .ok (.iconst 1, 1) := by decide +kernel
theorem da0_378 : decode prog_29_method_2_code 378 = .ok (.iadd, 1) := by decide +kernel
theorem da0_379 : decode prog_29_method_2_code 379 = .ok (.aload_n 0, 1) := by decide +kernel
theorem da0_380 : decode prog_29_method_2_code 380 = .ok (.getfield 31, 3) := by decide +kernel
theorem da0_383 : decode prog_29_method_2_code 383 = .ok (.iload 11, 2) := by decide +kernel
theorem da0_385 : decode prog_29_method_2_code 385 = .ok (.isub, 1) := by decide +kernel
theorem da0_386 : decode prog_29_method_2_code 386 = .ok (.invokestatic 47, 3) := by decide +kernel
theorem da0_389 : decode prog_29_method_2_code 389 = .ok (.aload_n 0, 1) := by decide +kernel
theorem da0_390 : decode prog_29_method_2_code 390 = .ok (.getfield 23, 3) := by decide +kernel
theorem da0_393 : decode prog_29_method_2_code 393 = .ok (.iload 11, 2) := by decide +kernel
theorem da0_395 : decode prog_29_method_2_code 395 = .ok (.aload_n 0, 1) := by decide +kernel
theorem da0_396 : decode prog_29_method_2_code 396 = .ok (.getfield 23, 3) := by decide +kernel
theorem da0_399 : decode prog_29_method_2_code 399 = .ok (.iload 10, 2) := by decide +kernel
theorem da0_401 : decode prog_29_method_2_code 401 = .ok (.iconst 1, 1) := by decide +kernel
theorem da0_402 : decode prog_29_method_2_code 402 = .ok (.iadd, 1) := by decide +kernel
theorem da0_403 : decode prog_29_method_2_code 403 = .ok (.aload_n 0, 1) := by decide +kernel
theorem da0_404 : decode prog_29_method_2_code 404 = .ok (.getfield 31, 3) := by decide +kernel
theorem da0_407 : decode prog_29_method_2_code 407 = .ok (.iload 11, 2) := by decide +kernel
theorem da0_409 : decode prog_29_method_2_code 409 = .ok (.isub, 1) := by decide +kernel
theorem da0_410 : decode prog_29_method_2_code 410 = .ok (.invokestatic 47, 3) := by decide +kernel
theorem da0_413 : decode prog_29_method_2_code 413 = .ok (.aload_n 0, 1) := by decide +kernel
theorem da0_414 : decode prog_29_method_2_code 414 = .ok (.getfield 7, 3) := by decide +kernel
theorem da0_417 : decode prog_29_method_2_code 417 = .ok (.iload 10, 2) := by decide +kernel
theorem da0_419 : decode prog_29_method_2_code 419 = .ok (.iload_n 1, 1) := by decide +kernel
theorem da0_420 : decode prog_29_method_2_code 420 = .ok (.iastore, 1) := by decide +kernel
theorem da0_421 : decode prog_29_method_2_code 421 = .ok (.aload_n 0, 1) := by decide +kernel
theorem da0_422 : decode prog_29_method_2_code 422 = .ok (.getfield 13, 3) := by decide +kernel
theorem da0_425 : decode prog_29_method_2_code 425 = .ok (.iload 10, 2) := by decide +kernel
theorem da0_427 : decode prog_29_method_2_code 427 = .ok (.dload_n 2, 1) := by decide +kernel
theorem da0_428 : decode prog_29_method_2_code 428 = .ok (.dastore, 1) := by decide +kernel
theorem da0_429 : decode prog_29_method_2_code 429 = .ok (.aload_n 0, 1) := by decide +kernel
theorem da0_430 : decode prog_29_method_2_code 430 = .ok (.getfield 17, 3) := by decide +kernel
theorem da0_433 : decode prog_29_method_2_code 433 = .ok (.iload 10, 2) := by decide +kernel
theorem da0_435 : decode prog_29_method_2_code 435 = .ok (.dload 4, 2) := by decide +kernel
theorem da0_437 : decode prog_29_method_2_code 437 = .ok (.dastore, 1) := by decide +kernel
theorem da0_438 : decode prog_29_method_2_code 438 = .ok (.aload_n 0, 1) := by decide +kernel
theorem da0_439 : decode prog_29_method_2_code 439 = .ok (.getfield 20, 3) := by decide +kernel
theorem da0_442 : decode prog_29_method_2_code 442 = .ok (.iload 10, 2) := by decide +kernel
theorem da0_444 : decode prog_29_method_2_code 444 = .ok (.dload 6, 2) := by decide +kernel
theorem da0_446 : decode prog_29_method_2_code 446 = .ok (.dastore, 1) := by decide +kernel
theorem da0_447 : decode prog_29_method_2_code 447 = .ok (.aload_n 0, 1) := by decide +kernel
theorem da0_448 : decode prog_29_method_2_code 448 = .ok (.getfield 23, 3) := by decide +kernel
theorem da0_451 : decode prog_29_method_2_code 451 = .ok (.iload 10, 2) := by decide +kernel
theorem da0_453 : decode prog_29_method_2_code 453 = .ok (.iconst 0, 1) := by decide +kernel
theorem da0_454 : decode prog_29_method_2_code 454 = .ok (.bastore, 1) := by decide +kernel
theorem da0_455 : decode prog_29_method_2_code 455 = .ok (.aload_n 0, 1) := by decide +kernel
theorem da0_456 : decode prog_29_method_2_code 456 = .ok (.iload 12, 2) := by decide +kernel
theorem da0_458 : decode prog_29_method_2_code 458 = .ok (.putfield 31, 3) := by decide +kernel
theorem da0_461 : decode prog_29_method_2_code 461 = .ok (.iconst 1, 1) := by decide +kernel
theorem da0_462 : decode prog_29_method_2_code 462 = .ok (.ireturn, 1) := by decide +kernel
theorem pna0 : plainName "com/example/skywright/skywright/search/Kept" = true := by first | (simp [plainName, overriddenIn]; done) | decide +kernel
theorem efa0 (m : MethodId) (z0 : Addr) (z1 : Int32) (z2 : UInt64) (z3 : UInt64) (z4 : UInt64) : entryFrame m #[(.ref z0), (.int z1), (.double z2), (.double z3), (.double z4)] 14 = mkF m 0 #[.val (.ref z0), .val (.int z1), .val (.double z2), .second, .val (.double z3), .second, .val (.double z4), .second, .unset, .unset, .unset, .unset, .unset, .unset] [] := by first | (simp [entryFrame, mkF, argsToLocals, Value.category]; done) | rfl
def Qa0 (Z : State) (q1 : Addr) (la : Addr) (ma : Addr) (si : Addr) (rh : Addr) (ex : Addr) (fg : Int32) (LA : Nat → Int32) (M : Nat → UInt64) (S : Nat → UInt64) (R : Nat → UInt64) (B : Nat → Int32) (h0 : Heap) (n0 : Nat) (v : Option Value) (h : Heap) (L : List Loc) : Prop := v = some (.int 1) ∧ Fr n0 L ∧ n0 ≤ h.size ∧ own_K Z h n0 q1 la ma si rh ex 1 fg (own_u LA 0 10) (own_u M 0 (4613937818241073152 : UInt64)) (own_u S 0 (4613937818241073152 : UInt64)) (own_u R 0 (4607182418800017408 : UInt64)) (own_u B 0 0)
set_option maxRecDepth 65536 in
set_option maxHeartbeats 40000000 in
theorem rma0 (l : Launch) (Z : State) (a0 : Array Value) (hw : ∀ d ∈ tables_1, d.before a0 Z = true) (ws : List Jvm.Cond) (q1 : Addr) (la : Addr) (ma : Addr) (si : Addr) (rh : Addr) (ex : Addr) (fg : Int32) (LA : Nat → Int32) (M : Nat → UInt64) (S : Nat → UInt64) (R : Nat → UInt64) (B : Nat → Int32) (h0 : Heap) (n0 : Nat) (Z0 : n0 ≤ h0.size) (hK0 : own_K Z h0 n0 q1 la ma si rh ex 0 fg LA M S R B)  :
    MetFree l (⟨"com/example/skywright/skywright/search/Kept", "admit", "(IDDD)Z"⟩ : MethodName) (head1 (Jvm.Cond.code (⟨"com/example/skywright/skywright/search/Kept", "admit", "(IDDD)Z"⟩ : MethodName) prog_29_method_2_code 14 (Option.some Jvm.ClassFile.FieldType.boolean) :: ws) ({ frames := 1, cells := 0, slots := 0, locals := 18 } : Room)) (fun a U => a = #[(.ref q1), (.int (10 : Int32)), (.double (4613937818241073152 : UInt64)), (.double (4613937818241073152 : UInt64)), (.double (4607182418800017408 : UInt64))] ∧ Z.Warmed39 U.vm ∧ U.heap = h0) (fun _ _ _ _ _ => True) (fun _ U o U' => ∃ v L, o = .returned v ∧ Qa0 Z q1 la ma si rh ex fg LA M S R B h0 n0 v U'.heap L ∧ FrameEnd U o U' L ({ frames := 1, cells := 0, slots := 0, locals := 18 } : Room).cells ({ frames := 1, cells := 0, slots := 0, locals := 18 } : Room).slots) := by
  refine MetFree.of_bodySF (plainFor_of_name pna0) hisR ?_
  intro p e s m args below meth c s₁ Bd hml0 hP hK
  obtain ⟨rfl, hZ, hh⟩ := hP
  have hx := Bd.exec
  have hby := Bd.bytes
  have hml : c.maxLocals = 14 := hml0
  have hown : s.vm.findClass "com/example/skywright/skywright/search/Kept" = some m.cls := findClass_of_methodNamed Bd.named
  have hnm := (name_of_methodNamed Bd.named Bd.method).1
  have X0 : Stand p l e ({ frames := 1, cells := 0, slots := 0, locals := 18 } : Room) s m #[(.ref q1), (.int (10 : Int32)), (.double (4613937818241073152 : UInt64)), (.double (4613937818241073152 : UInt64)), (.double (4607182418800017408 : UInt64))] below meth c s₁ [] 0 0 := Stand.of_body Bd
  have e0 : s₁.heap = h0 := by rw [← hh, Bd.state]; rfl
  have N0 := Fr.nil n0
  show Go p e below (Ret s (Qa0 Z q1 la ma si rh ex fg LA M S R B h0 n0) ({ frames := 1, cells := 0, slots := 0, locals := 18 } : Room).cells ({ frames := 1, cells := 0, slots := 0, locals := 18 } : Room).slots) (s₁.setTop (entryFrame m #[(.ref q1), (.int (10 : Int32)), (.double (4613937818241073152 : UInt64)), (.double (4613937818241073152 : UInt64)), (.double (4607182418800017408 : UInt64))] 14))
  rw [efa0 m q1 (10 : Int32) (4613937818241073152 : UInt64) (4613937818241073152 : UInt64) (4607182418800017408 : UInt64)]
  obtain ⟨E0, F_la, F_ma, F_si, F_rh, F_ex, F_sz, F_fg, A_la, A_ma, A_si, A_rh, A_ex, hB, ⟨ne_q1_la, ne_q1_ma, ne_q1_si, ne_q1_rh, ne_q1_ex, ne_la_ma, ne_la_si, ne_la_rh, ne_la_ex, ne_ma_si, ne_ma_rh, ne_ma_ex, ne_si_rh, ne_si_ex, ne_rh_ex⟩, ⟨g_q1, g_la, g_ma, g_si, g_rh, g_ex⟩⟩ := hK0
  refine g_iconst X0 hx (hb hby da0_0) (v := (0 : Int32)) (by decide) ?_
  refine g_istore X0 hx (hb hby da0_1) (L' := #[.val (.ref q1), .val (.int (10 : Int32)), .val (.double (4613937818241073152 : UInt64)), .second, .val (.double (4613937818241073152 : UInt64)), .second, .val (.double (4607182418800017408 : UInt64)), .second, .val (.int (0 : Int32)), .unset, .unset, .unset, .unset, .unset]) rfl ?_
  refine g_aloadN X0 hx (hb hby da0_3) rfl rfl ?_
  refine g_getF X0 hx hZ hown (hw _ (List.mem_of_getElem? (i := 30) rfl)) e0 F_sz (hb hby da0_4) ?_
  intro T1 X2 e3
  refine g_istore X2 hx (hb hby da0_7) (L' := #[.val (.ref q1), .val (.int (10 : Int32)), .val (.double (4613937818241073152 : UInt64)), .second, .val (.double (4613937818241073152 : UInt64)), .second, .val (.double (4607182418800017408 : UInt64)), .second, .val (.int (0 : Int32)), .val (.int (0 : Int32)), .unset, .unset, .unset, .unset]) rfl ?_
  refine g_iload X2 hx (hb hby da0_9) rfl ?_
  refine g_iload X2 hx (hb hby da0_11) rfl ?_
  have hc13_4 : ¬ ((0 : Int32) < (0 : Int32)) := (by decide)
  refine g_icmpYes X2 hx (hb hby da0_13) (flt hc13_4).2.1 (by decide) (pc' := 53) (by decide) ?_
  refine g_iload X2 hx (hb hby da0_53) rfl ?_
  have hc55_5 : ¬ ((0 : Int32) < (0 : Int32)) := (by decide)
  refine g_ifYes X2 hx (hb hby da0_55) (flt hc55_5).2.2.2 (by decide) (pc' := 73) (by decide) ?_
  refine g_aloadN X2 hx (hb hby da0_73) rfl rfl ?_
  refine g_getF X2 hx hZ hown (hw _ (List.mem_of_getElem? (i := 22) rfl)) e3 F_fg (hb hby da0_74) ?_
  intro T6 X7 e8
  by_cases hc77_9 : fg = (0 : Int32)
  ·
    refine g_ifYes X7 hx (hb hby da0_77) (teq hc77_9).1 (by decide) (pc' := 104) (by decide) ?_
    refine g_iload X7 hx (hb hby da0_104) rfl ?_
    refine g_istore X7 hx (hb hby da0_106) (L' := #[.val (.ref q1), .val (.int (10 : Int32)), .val (.double (4613937818241073152 : UInt64)), .second, .val (.double (4613937818241073152 : UInt64)), .second, .val (.double (4607182418800017408 : UInt64)), .second, .val (.int (0 : Int32)), .val (.int (0 : Int32)), .val (.int (0 : Int32)), .unset, .unset, .unset]) rfl ?_
    refine g_iload X7 hx (hb hby da0_108) rfl ?_
    have hc110_10 : ¬ ((0 : Int32) < (0 : Int32)) := (by decide)
    refine g_ifYes X7 hx (hb hby da0_110) (flt hc110_10).2.2.2 (by decide) (pc' := 130) (by decide) ?_
    refine g_aloadN X7 hx (hb hby da0_130) rfl rfl ?_
    refine g_getF X7 hx hZ hown (hw _ (List.mem_of_getElem? (i := 22) rfl)) e8 F_fg (hb hby da0_131) ?_
    intro T11 X12 e13
    by_cases hc134_14 : fg = (0 : Int32)
    ·
      refine g_ifYes X12 hx (hb hby da0_134) (teq hc134_14).1 (by decide) (pc' := 163) (by decide) ?_
      refine g_iload X12 hx (hb hby da0_163) rfl ?_
      refine g_istore X12 hx (hb hby da0_165) (L' := #[.val (.ref q1), .val (.int (10 : Int32)), .val (.double (4613937818241073152 : UInt64)), .second, .val (.double (4613937818241073152 : UInt64)), .second, .val (.double (4607182418800017408 : UInt64)), .second, .val (.int (0 : Int32)), .val (.int (0 : Int32)), .val (.int (0 : Int32)), .val (.int (0 : Int32)), .unset, .unset]) rfl ?_
      refine g_iload X12 hx (hb hby da0_167) rfl ?_
      refine g_aloadN X12 hx (hb hby da0_169) rfl rfl ?_
      refine g_getF X12 hx hZ hown (hw _ (List.mem_of_getElem? (i := 30) rfl)) e13 F_sz (hb hby da0_170) ?_
      intro T15 X16 e17
      have hc173_18 : ¬ ((0 : Int32) < (0 : Int32)) := (by decide)
      refine g_icmpYes X16 hx (hb hby da0_173) (flt hc173_18).2.1 (by decide) (pc' := 195) (by decide) ?_
      refine g_aloadN X16 hx (hb hby da0_195) rfl rfl ?_
      refine g_getF X16 hx hZ hown (hw _ (List.mem_of_getElem? (i := 30) rfl)) e17 F_sz (hb hby da0_196) ?_
      intro T19 X20 e21
      refine g_iload X20 hx (hb hby da0_199) rfl ?_
      refine g_iload X20 hx (hb hby da0_201) rfl ?_
      refine g_isub X20 hx (hb hby da0_203) (show (0 : Int32) - (0 : Int32) = (0 : Int32) from by decide) ?_
      refine g_isub X20 hx (hb hby da0_204) (show (0 : Int32) - (0 : Int32) = (0 : Int32) from by decide) ?_
      refine g_iconst X20 hx (hb hby da0_205) (v := (1 : Int32)) (by decide) ?_
      refine g_iadd X20 hx (hb hby da0_206) (show (0 : Int32) + (1 : Int32) = (1 : Int32) from by decide) ?_
      refine g_istore X20 hx (hb hby da0_207) (L' := #[.val (.ref q1), .val (.int (10 : Int32)), .val (.double (4613937818241073152 : UInt64)), .second, .val (.double (4613937818241073152 : UInt64)), .second, .val (.double (4607182418800017408 : UInt64)), .second, .val (.int (0 : Int32)), .val (.int (0 : Int32)), .val (.int (0 : Int32)), .val (.int (0 : Int32)), .val (.int (1 : Int32)), .unset]) rfl ?_
      refine g_iload X20 hx (hb hby da0_209) rfl ?_
      refine g_aloadN X20 hx (hb hby da0_211) rfl rfl ?_
      refine g_getF X20 hx hZ hown (hw _ (List.mem_of_getElem? (i := 10) rfl)) e21 F_la (hb hby da0_212) ?_
      intro T22 X23 e24
      refine g_arraylength X23 hx hZ e24 A_la (show Nat.toInt32 4 = (4 : Int32) from by decide) (hb hby da0_215) ?_
      have hc216_25 : ¬ ((4 : Int32) < (1 : Int32)) := (by decide)
      refine g_icmpYes X23 hx (hb hby da0_216) (flt hc216_25).2.2.2 (by decide) (pc' := 293) (by decide) ?_
      refine g_aloadN X23 hx (hb hby da0_293) rfl rfl ?_
      refine g_getF X23 hx hZ hown (hw _ (List.mem_of_getElem? (i := 10) rfl)) e24 F_la (hb hby da0_294) ?_
      intro T26 X27 e28
      refine g_iload X27 hx (hb hby da0_297) rfl ?_
      refine g_aloadN X27 hx (hb hby da0_299) rfl rfl ?_
      refine g_getF X27 hx hZ hown (hw _ (List.mem_of_getElem? (i := 10) rfl)) e28 F_la (hb hby da0_300) ?_
      intro T29 X30 e31
      refine g_iload X30 hx (hb hby da0_303) rfl ?_
      refine g_iconst X30 hx (hb hby da0_305) (v := (1 : Int32)) (by decide) ?_
      refine g_iadd X30 hx (hb hby da0_306) (show (0 : Int32) + (1 : Int32) = (1 : Int32) from by decide) ?_
      refine g_aloadN X30 hx (hb hby da0_307) rfl rfl ?_
      refine g_getF X30 hx hZ hown (hw _ (List.mem_of_getElem? (i := 30) rfl)) e31 F_sz (hb hby da0_308) ?_
      intro T32 X33 e34
      refine g_iload X33 hx (hb hby da0_311) rfl ?_
      refine g_isub X33 hx (hb hby da0_313) (show (0 : Int32) - (0 : Int32) = (0 : Int32) from by decide) ?_
      refine g_acp0 X33 hx hZ hown (hw _ (List.mem_of_getElem? (i := 32) rfl)) (hw _ (List.mem_of_getElem? (i := 35) rfl)) (hw _ (List.mem_of_getElem? (i := 33) rfl)) (hw _ (List.mem_of_getElem? (i := 34) rfl)) e34 A_la rfl (fun _ _ => rfl) (z := 4) (by decide) (by decide) (by decide) (by decide) (by decide) (by decide) N0 g_la (by rw [hml]; rfl) (hb hby da0_314) (by decide) (by decide) ?_
      intro T35 h36 L37 X38 e39 N40 K41 F42
      have F43 := E0.keep K41
      have F44 := F_la.keep K41 (ninS ne_q1_la nin0)
      have F46 := F_ma.keep K41 (ninS ne_q1_la nin0)
      have F47 := A_ma.keep K41 (ninS ne_la_ma.symm nin0)
      have F48 := F_si.keep K41 (ninS ne_q1_la nin0)
      have F49 := A_si.keep K41 (ninS ne_la_si.symm nin0)
      have F50 := F_rh.keep K41 (ninS ne_q1_la nin0)
      have F51 := A_rh.keep K41 (ninS ne_la_rh.symm nin0)
      have F52 := F_ex.keep K41 (ninS ne_q1_la nin0)
      have F53 := A_ex.keep K41 (ninS ne_la_ex.symm nin0)
      have F54 := F_sz.keep K41 (ninS ne_q1_la nin0)
      have F55 := F_fg.keep K41 (ninS ne_q1_la nin0)
      have Z56 : n0 ≤ h36.size := Nat.le_trans Z0 K41.1
      refine g_aloadN X38 hx (hb hby da0_317) rfl rfl ?_
      refine g_getF X38 hx hZ hown (hw _ (List.mem_of_getElem? (i := 13) rfl)) e39 F46 (hb hby da0_318) ?_
      intro T58 X59 e60
      refine g_iload X59 hx (hb hby da0_321) rfl ?_
      refine g_aloadN X59 hx (hb hby da0_323) rfl rfl ?_
      refine g_getF X59 hx hZ hown (hw _ (List.mem_of_getElem? (i := 13) rfl)) e60 F46 (hb hby da0_324) ?_
      intro T61 X62 e63
      refine g_iload X62 hx (hb hby da0_327) rfl ?_
      refine g_iconst X62 hx (hb hby da0_329) (v := (1 : Int32)) (by decide) ?_
      refine g_iadd X62 hx (hb hby da0_330) (show (0 : Int32) + (1 : Int32) = (1 : Int32) from by decide) ?_
      refine g_aloadN X62 hx (hb hby da0_331) rfl rfl ?_
      refine g_getF X62 hx hZ hown (hw _ (List.mem_of_getElem? (i := 30) rfl)) e63 F54 (hb hby da0_332) ?_
      intro T64 X65 e66
      refine g_iload X65 hx (hb hby da0_335) rfl ?_
      refine g_isub X65 hx (hb hby da0_337) (show (0 : Int32) - (0 : Int32) = (0 : Int32) from by decide) ?_
      refine g_acp0 X65 hx hZ hown (hw _ (List.mem_of_getElem? (i := 32) rfl)) (hw _ (List.mem_of_getElem? (i := 35) rfl)) (hw _ (List.mem_of_getElem? (i := 33) rfl)) (hw _ (List.mem_of_getElem? (i := 34) rfl)) e66 F47 rfl (fun _ _ => rfl) (z := 4) (by decide) (by decide) (by decide) (by decide) (by decide) (by decide) N40 g_ma (by rw [hml]; rfl) (hb hby da0_338) (by decide) (by decide) ?_
      intro T67 h68 L69 X70 e71 N72 K73 F74
      have F75 := F43.keep K73
      have F76 := F44.keep K73 (ninS ne_q1_ma nin0)
      have F77 := F46.keep K73 (ninS ne_q1_ma nin0)
      have F79 := F48.keep K73 (ninS ne_q1_ma nin0)
      have F80 := F49.keep K73 (ninS ne_ma_si.symm nin0)
      have F81 := F50.keep K73 (ninS ne_q1_ma nin0)
      have F82 := F51.keep K73 (ninS ne_ma_rh.symm nin0)
      have F83 := F52.keep K73 (ninS ne_q1_ma nin0)
      have F84 := F53.keep K73 (ninS ne_ma_ex.symm nin0)
      have F85 := F54.keep K73 (ninS ne_q1_ma nin0)
      have F86 := F55.keep K73 (ninS ne_q1_ma nin0)
      have F87 := F42.keep K73 (ninS ne_la_ma nin0)
      have Z88 : n0 ≤ h68.size := Nat.le_trans Z56 K73.1
      refine g_aloadN X70 hx (hb hby da0_341) rfl rfl ?_
      refine g_getF X70 hx hZ hown (hw _ (List.mem_of_getElem? (i := 15) rfl)) e71 F79 (hb hby da0_342) ?_
      intro T90 X91 e92
      refine g_iload X91 hx (hb hby da0_345) rfl ?_
      refine g_aloadN X91 hx (hb hby da0_347) rfl rfl ?_
      refine g_getF X91 hx hZ hown (hw _ (List.mem_of_getElem? (i := 15) rfl)) e92 F79 (hb hby da0_348) ?_
      intro T93 X94 e95
      refine g_iload X94 hx (hb hby da0_351) rfl ?_
      refine g_iconst X94 hx (hb hby da0_353) (v := (1 : Int32)) (by decide) ?_
      refine g_iadd X94 hx (hb hby da0_354) (show (0 : Int32) + (1 : Int32) = (1 : Int32) from by decide) ?_
      refine g_aloadN X94 hx (hb hby da0_355) rfl rfl ?_
      refine g_getF X94 hx hZ hown (hw _ (List.mem_of_getElem? (i := 30) rfl)) e95 F85 (hb hby da0_356) ?_
      intro T96 X97 e98
      refine g_iload X97 hx (hb hby da0_359) rfl ?_
      refine g_isub X97 hx (hb hby da0_361) (show (0 : Int32) - (0 : Int32) = (0 : Int32) from by decide) ?_
      refine g_acp0 X97 hx hZ hown (hw _ (List.mem_of_getElem? (i := 32) rfl)) (hw _ (List.mem_of_getElem? (i := 35) rfl)) (hw _ (List.mem_of_getElem? (i := 33) rfl)) (hw _ (List.mem_of_getElem? (i := 34) rfl)) e98 F80 rfl (fun _ _ => rfl) (z := 4) (by decide) (by decide) (by decide) (by decide) (by decide) (by decide) N72 g_si (by rw [hml]; rfl) (hb hby da0_362) (by decide) (by decide) ?_
      intro T99 h100 L101 X102 e103 N104 K105 F106
      have F107 := F75.keep K105
      have F108 := F76.keep K105 (ninS ne_q1_si nin0)
      have F109 := F77.keep K105 (ninS ne_q1_si nin0)
      have F110 := F79.keep K105 (ninS ne_q1_si nin0)
      have F112 := F81.keep K105 (ninS ne_q1_si nin0)
      have F113 := F82.keep K105 (ninS ne_si_rh.symm nin0)
      have F114 := F83.keep K105 (ninS ne_q1_si nin0)
      have F115 := F84.keep K105 (ninS ne_si_ex.symm nin0)
      have F116 := F85.keep K105 (ninS ne_q1_si nin0)
      have F117 := F86.keep K105 (ninS ne_q1_si nin0)
      have F118 := F87.keep K105 (ninS ne_la_si nin0)
      have F119 := F74.keep K105 (ninS ne_ma_si nin0)
      have Z120 : n0 ≤ h100.size := Nat.le_trans Z88 K105.1
      refine g_aloadN X102 hx (hb hby da0_365) rfl rfl ?_
      refine g_getF X102 hx hZ hown (hw _ (List.mem_of_getElem? (i := 17) rfl)) e103 F112 (hb hby da0_366) ?_
      intro T122 X123 e124
      refine g_iload X123 hx (hb hby da0_369) rfl ?_
      refine g_aloadN X123 hx (hb hby da0_371) rfl rfl ?_
      refine g_getF X123 hx hZ hown (hw _ (List.mem_of_getElem? (i := 17) rfl)) e124 F112 (hb hby da0_372) ?_
      intro T125 X126 e127
      refine g_iload X126 hx (hb hby da0_375) rfl ?_
      refine g_iconst X126 hx (hb hby da0_377) (v := (1 : Int32)) (by decide) ?_
      refine g_iadd X126 hx (hb hby da0_378) (show (0 : Int32) + (1 : Int32) = (1 : Int32) from by decide) ?_
      refine g_aloadN X126 hx (hb hby da0_379) rfl rfl ?_
      refine g_getF X126 hx hZ hown (hw _ (List.mem_of_getElem? (i := 30) rfl)) e127 F116 (hb hby da0_380) ?_
      intro T128 X129 e130
      refine g_iload X129 hx (hb hby da0_383) rfl ?_
      refine g_isub X129 hx (hb hby da0_385) (show (0 : Int32) - (0 : Int32) = (0 : Int32) from by decide) ?_
      refine g_acp0 X129 hx hZ hown (hw _ (List.mem_of_getElem? (i := 32) rfl)) (hw _ (List.mem_of_getElem? (i := 35) rfl)) (hw _ (List.mem_of_getElem? (i := 33) rfl)) (hw _ (List.mem_of_getElem? (i := 34) rfl)) e130 F113 rfl (fun _ _ => rfl) (z := 4) (by decide) (by decide) (by decide) (by decide) (by decide) (by decide) N104 g_rh (by rw [hml]; rfl) (hb hby da0_386) (by decide) (by decide) ?_
      intro T131 h132 L133 X134 e135 N136 K137 F138
      have F139 := F107.keep K137
      have F140 := F108.keep K137 (ninS ne_q1_rh nin0)
      have F141 := F109.keep K137 (ninS ne_q1_rh nin0)
      have F142 := F110.keep K137 (ninS ne_q1_rh nin0)
      have F143 := F112.keep K137 (ninS ne_q1_rh nin0)
      have F145 := F114.keep K137 (ninS ne_q1_rh nin0)
      have F146 := F115.keep K137 (ninS ne_rh_ex.symm nin0)
      have F147 := F116.keep K137 (ninS ne_q1_rh nin0)
      have F148 := F117.keep K137 (ninS ne_q1_rh nin0)
      have F149 := F118.keep K137 (ninS ne_la_rh nin0)
      have F150 := F119.keep K137 (ninS ne_ma_rh nin0)
      have F151 := F106.keep K137 (ninS ne_si_rh nin0)
      have Z152 : n0 ≤ h132.size := Nat.le_trans Z120 K137.1
      refine g_aloadN X134 hx (hb hby da0_389) rfl rfl ?_
      refine g_getF X134 hx hZ hown (hw _ (List.mem_of_getElem? (i := 20) rfl)) e135 F145 (hb hby da0_390) ?_
      intro T154 X155 e156
      refine g_iload X155 hx (hb hby da0_393) rfl ?_
      refine g_aloadN X155 hx (hb hby da0_395) rfl rfl ?_
      refine g_getF X155 hx hZ hown (hw _ (List.mem_of_getElem? (i := 20) rfl)) e156 F145 (hb hby da0_396) ?_
      intro T157 X158 e159
      refine g_iload X158 hx (hb hby da0_399) rfl ?_
      refine g_iconst X158 hx (hb hby da0_401) (v := (1 : Int32)) (by decide) ?_
      refine g_iadd X158 hx (hb hby da0_402) (show (0 : Int32) + (1 : Int32) = (1 : Int32) from by decide) ?_
      refine g_aloadN X158 hx (hb hby da0_403) rfl rfl ?_
      refine g_getF X158 hx hZ hown (hw _ (List.mem_of_getElem? (i := 30) rfl)) e159 F147 (hb hby da0_404) ?_
      intro T160 X161 e162
      refine g_iload X161 hx (hb hby da0_407) rfl ?_
      refine g_isub X161 hx (hb hby da0_409) (show (0 : Int32) - (0 : Int32) = (0 : Int32) from by decide) ?_
      refine g_acp0 X161 hx hZ hown (hw _ (List.mem_of_getElem? (i := 32) rfl)) (hw _ (List.mem_of_getElem? (i := 35) rfl)) (hw _ (List.mem_of_getElem? (i := 33) rfl)) (hw _ (List.mem_of_getElem? (i := 34) rfl)) e162 F146 rfl (own_fitB hB) (z := 4) (by decide) (by decide) (by decide) (by decide) (by decide) (by decide) N136 g_ex (by rw [hml]; rfl) (hb hby da0_410) (by decide) (by decide) ?_
      intro T163 h164 L165 X166 e167 N168 K169 F170
      have F171 := F139.keep K169
      have F172 := F140.keep K169 (ninS ne_q1_ex nin0)
      have F173 := F141.keep K169 (ninS ne_q1_ex nin0)
      have F174 := F142.keep K169 (ninS ne_q1_ex nin0)
      have F175 := F143.keep K169 (ninS ne_q1_ex nin0)
      have F176 := F145.keep K169 (ninS ne_q1_ex nin0)
      have F178 := F147.keep K169 (ninS ne_q1_ex nin0)
      have F179 := F148.keep K169 (ninS ne_q1_ex nin0)
      have F180 := F149.keep K169 (ninS ne_la_ex nin0)
      have F181 := F150.keep K169 (ninS ne_ma_ex nin0)
      have F182 := F151.keep K169 (ninS ne_si_ex nin0)
      have F183 := F138.keep K169 (ninS ne_rh_ex nin0)
      have Z184 : n0 ≤ h164.size := Nat.le_trans Z152 K169.1
      refine g_aloadN X166 hx (hb hby da0_413) rfl rfl ?_
      refine g_getF X166 hx hZ hown (hw _ (List.mem_of_getElem? (i := 10) rfl)) e167 F172 (hb hby da0_414) ?_
      intro T186 X187 e188
      refine g_iload X187 hx (hb hby da0_417) rfl ?_
      refine g_iloadN X187 hx (hb hby da0_419) rfl ?_
      refine g_iastore X187 hx hZ e188 F180 (i := 0) (by decide) (by decide) (by decide) (hb hby da0_420) ?_
      intro T189 h192 X190 e191 W193
      have F194 := F171.wr W193
      have F195 := F172.other W193 (Or.inl ne_q1_la)
      have F196 := F173.other W193 (Or.inl ne_q1_la)
      have F197 := F174.other W193 (Or.inl ne_q1_la)
      have F198 := F175.other W193 (Or.inl ne_q1_la)
      have F199 := F176.other W193 (Or.inl ne_q1_la)
      have F200 := F178.other W193 (Or.inl ne_q1_la)
      have F201 := F179.other W193 (Or.inl ne_q1_la)
      have F202 := F180.same W193
      have F203 := F181.other W193 ne_la_ma.symm
      have F204 := F182.other W193 ne_la_si.symm
      have F205 := F183.other W193 ne_la_rh.symm
      have F206 := F170.other W193 ne_la_ex.symm
      have Z207 : n0 ≤ h192.size := by rw [W193.size]; exact Z184
      have N208 := Fr.snoc X190 N168 g_la
      refine g_aloadN X190 hx (hb hby da0_421) rfl rfl ?_
      refine g_getF X190 hx hZ hown (hw _ (List.mem_of_getElem? (i := 13) rfl)) e191 F196 (hb hby da0_422) ?_
      intro T209 X210 e211
      refine g_iload X210 hx (hb hby da0_425) rfl ?_
      refine g_dloadN X210 hx (hb hby da0_427) rfl ?_
      refine g_dastore X210 hx hZ e211 F203 (i := 0) (by decide) (by decide) (by decide) (hb hby da0_428) ?_
      intro T212 h215 X213 e214 W216
      have F217 := F194.wr W216
      have F218 := F195.other W216 (Or.inl ne_q1_ma)
      have F219 := F196.other W216 (Or.inl ne_q1_ma)
      have F220 := F197.other W216 (Or.inl ne_q1_ma)
      have F221 := F198.other W216 (Or.inl ne_q1_ma)
      have F222 := F199.other W216 (Or.inl ne_q1_ma)
      have F223 := F200.other W216 (Or.inl ne_q1_ma)
      have F224 := F201.other W216 (Or.inl ne_q1_ma)
      have F225 := F202.other W216 ne_la_ma
      have F226 := F203.same W216
      have F227 := F204.other W216 ne_ma_si.symm
      have F228 := F205.other W216 ne_ma_rh.symm
      have F229 := F206.other W216 ne_ma_ex.symm
      have Z230 : n0 ≤ h215.size := by rw [W216.size]; exact Z207
      have N231 := Fr.snoc X213 N208 g_ma
      refine g_aloadN X213 hx (hb hby da0_429) rfl rfl ?_
      refine g_getF X213 hx hZ hown (hw _ (List.mem_of_getElem? (i := 15) rfl)) e214 F220 (hb hby da0_430) ?_
      intro T232 X233 e234
      refine g_iload X233 hx (hb hby da0_433) rfl ?_
      refine g_dload X233 hx (hb hby da0_435) rfl ?_
      refine g_dastore X233 hx hZ e234 F227 (i := 0) (by decide) (by decide) (by decide) (hb hby da0_437) ?_
      intro T235 h238 X236 e237 W239
      have F240 := F217.wr W239
      have F241 := F218.other W239 (Or.inl ne_q1_si)
      have F242 := F219.other W239 (Or.inl ne_q1_si)
      have F243 := F220.other W239 (Or.inl ne_q1_si)
      have F244 := F221.other W239 (Or.inl ne_q1_si)
      have F245 := F222.other W239 (Or.inl ne_q1_si)
      have F246 := F223.other W239 (Or.inl ne_q1_si)
      have F247 := F224.other W239 (Or.inl ne_q1_si)
      have F248 := F225.other W239 ne_la_si
      have F249 := F226.other W239 ne_ma_si
      have F250 := F227.same W239
      have F251 := F228.other W239 ne_si_rh.symm
      have F252 := F229.other W239 ne_si_ex.symm
      have Z253 : n0 ≤ h238.size := by rw [W239.size]; exact Z230
      have N254 := Fr.snoc X236 N231 g_si
      refine g_aloadN X236 hx (hb hby da0_438) rfl rfl ?_
      refine g_getF X236 hx hZ hown (hw _ (List.mem_of_getElem? (i := 17) rfl)) e237 F244 (hb hby da0_439) ?_
      intro T255 X256 e257
      refine g_iload X256 hx (hb hby da0_442) rfl ?_
      refine g_dload X256 hx (hb hby da0_444) rfl ?_
      refine g_dastore X256 hx hZ e257 F251 (i := 0) (by decide) (by decide) (by decide) (hb hby da0_446) ?_
      intro T258 h261 X259 e260 W262
      have F263 := F240.wr W262
      have F264 := F241.other W262 (Or.inl ne_q1_rh)
      have F265 := F242.other W262 (Or.inl ne_q1_rh)
      have F266 := F243.other W262 (Or.inl ne_q1_rh)
      have F267 := F244.other W262 (Or.inl ne_q1_rh)
      have F268 := F245.other W262 (Or.inl ne_q1_rh)
      have F269 := F246.other W262 (Or.inl ne_q1_rh)
      have F270 := F247.other W262 (Or.inl ne_q1_rh)
      have F271 := F248.other W262 ne_la_rh
      have F272 := F249.other W262 ne_ma_rh
      have F273 := F250.other W262 ne_si_rh
      have F274 := F251.same W262
      have F275 := F252.other W262 ne_rh_ex.symm
      have Z276 : n0 ≤ h261.size := by rw [W262.size]; exact Z253
      have N277 := Fr.snoc X259 N254 g_rh
      refine g_aloadN X259 hx (hb hby da0_447) rfl rfl ?_
      refine g_getF X259 hx hZ hown (hw _ (List.mem_of_getElem? (i := 20) rfl)) e260 F268 (hb hby da0_448) ?_
      intro T278 X279 e280
      refine g_iload X279 hx (hb hby da0_451) rfl ?_
      refine g_iconst X279 hx (hb hby da0_453) (v := (0 : Int32)) (by decide) ?_
      refine g_bastoreZ X279 hx hZ e280 F275 (i := 0) (by decide) (by decide) (by decide) (hb hby da0_454) ?_
      intro T281 h284 X282 e283 W285
      have F286 := F263.wr W285
      have F287 := F264.other W285 (Or.inl ne_q1_ex)
      have F288 := F265.other W285 (Or.inl ne_q1_ex)
      have F289 := F266.other W285 (Or.inl ne_q1_ex)
      have F290 := F267.other W285 (Or.inl ne_q1_ex)
      have F291 := F268.other W285 (Or.inl ne_q1_ex)
      have F292 := F269.other W285 (Or.inl ne_q1_ex)
      have F293 := F270.other W285 (Or.inl ne_q1_ex)
      have F294 := F271.other W285 ne_la_ex
      have F295 := F272.other W285 ne_ma_ex
      have F296 := F273.other W285 ne_si_ex
      have F297 := F274.other W285 ne_rh_ex
      have F298 := F275.same W285
      have Z299 : n0 ≤ h284.size := by rw [W285.size]; exact Z276
      have N300 := Fr.snoc X282 N277 g_ex
      refine g_aloadN X282 hx (hb hby da0_455) rfl rfl ?_
      refine g_iload X282 hx (hb hby da0_456) rfl ?_
      refine g_putF X282 hx hZ hown (hw _ (List.mem_of_getElem? (i := 30) rfl)) e283 F292 F286 (Or.inl (hw _ (List.mem_of_getElem? (i := 31) rfl))) (hw _ (List.mem_of_getElem? (i := 1) rfl)) (ty := .int) (by decide) rfl rfl (hb hby da0_458) ?_
      intro T301 h304 X302 e303 W305
      have F307 := F286.wr W305
      have F308 := F287.other W305 (Or.inr (slot_ne (Or.inl (hw _ (List.mem_of_getElem? (i := 11) rfl))) (Or.inl (hw _ (List.mem_of_getElem? (i := 31) rfl))) (by decide) (t := (.array .int)) (t' := .int) (by decide) (by decide)))
      have F309 := F288.other W305 (Or.inr (slot_ne (Or.inl (hw _ (List.mem_of_getElem? (i := 14) rfl))) (Or.inl (hw _ (List.mem_of_getElem? (i := 31) rfl))) (by decide) (t := (.array .double)) (t' := .int) (by decide) (by decide)))
      have F310 := F289.other W305 (Or.inr (slot_ne (Or.inl (hw _ (List.mem_of_getElem? (i := 16) rfl))) (Or.inl (hw _ (List.mem_of_getElem? (i := 31) rfl))) (by decide) (t := (.array .double)) (t' := .int) (by decide) (by decide)))
      have F311 := F290.other W305 (Or.inr (slot_ne (Or.inl (hw _ (List.mem_of_getElem? (i := 18) rfl))) (Or.inl (hw _ (List.mem_of_getElem? (i := 31) rfl))) (by decide) (t := (.array .double)) (t' := .int) (by decide) (by decide)))
      have F312 := F291.other W305 (Or.inr (slot_ne (Or.inl (hw _ (List.mem_of_getElem? (i := 21) rfl))) (Or.inl (hw _ (List.mem_of_getElem? (i := 31) rfl))) (by decide) (t := (.array .boolean)) (t' := .int) (by decide) (by decide)))
      have F313 := F293.other W305 (Or.inr (slot_ne (Or.inr (hw _ (List.mem_of_getElem? (i := 23) rfl))) (Or.inl (hw _ (List.mem_of_getElem? (i := 31) rfl))) (by decide) (t := .boolean) (t' := .int) (by decide) (by decide)))
      have F314 := F294.other W305 ne_q1_la.symm
      have F315 := F295.other W305 ne_q1_ma.symm
      have F316 := F296.other W305 ne_q1_si.symm
      have F317 := F297.other W305 ne_q1_rh.symm
      have F318 := F298.other W305 ne_q1_ex.symm
      have F319 := F292.same W305
      have Z320 : n0 ≤ h304.size := by rw [W305.size]; exact Z299
      have N321 := Fr.snoc X302 N300 g_q1
      refine g_iconst X302 hx (hb hby da0_461) (v := (1 : Int32)) (by decide) ?_
      refine g_ireturn X302 hx Bd.notSynchronized Bd.returns rfl (by simp) (hb hby da0_462) (by decide) (by decide) ?_
      rw [e303]
      exact ⟨rfl, N321, Z320, F307, F308, F309, F310, F311, F312, F319, F313, (F314.congr (fun j _ => own_uI _ _ _ j)), (F315.congr (fun j _ => own_uD _ _ _ j)), (F316.congr (fun j _ => own_uD _ _ _ j)), (F317.congr (fun j _ => own_uD _ _ _ j)), (F318.congr (fun j _ => own_uI _ _ _ j)), own_uB hB (Or.inl rfl), ⟨⟨ne_q1_la, ne_q1_ma, ne_q1_si, ne_q1_rh, ne_q1_ex, ne_la_ma, ne_la_si, ne_la_rh, ne_la_ex, ne_ma_si, ne_ma_rh, ne_ma_ex, ne_si_rh, ne_si_ex, ne_rh_ex⟩, ⟨g_q1, g_la, g_ma, g_si, g_rh, g_ex⟩⟩⟩
    ·
      refine g_ifNo X12 hx (hb hby da0_134) (feq hc134_14).1 ?_
      refine g_iload X12 hx (hb hby da0_137) rfl ?_
      have hc139_322 : ¬ ((0 : Int32) < (0 : Int32)) := (by decide)
      refine g_ifYes X12 hx (hb hby da0_139) (flt hc139_322).2.2.2 (by decide) (pc' := 163) (by decide) ?_
      refine g_iload X12 hx (hb hby da0_163) rfl ?_
      refine g_istore X12 hx (hb hby da0_165) (L' := #[.val (.ref q1), .val (.int (10 : Int32)), .val (.double (4613937818241073152 : UInt64)), .second, .val (.double (4613937818241073152 : UInt64)), .second, .val (.double (4607182418800017408 : UInt64)), .second, .val (.int (0 : Int32)), .val (.int (0 : Int32)), .val (.int (0 : Int32)), .val (.int (0 : Int32)), .unset, .unset]) rfl ?_
      refine g_iload X12 hx (hb hby da0_167) rfl ?_
      refine g_aloadN X12 hx (hb hby da0_169) rfl rfl ?_
      refine g_getF X12 hx hZ hown (hw _ (List.mem_of_getElem? (i := 30) rfl)) e13 F_sz (hb hby da0_170) ?_
      intro T323 X324 e325
      have hc173_326 : ¬ ((0 : Int32) < (0 : Int32)) := (by decide)
      refine g_icmpYes X324 hx (hb hby da0_173) (flt hc173_326).2.1 (by decide) (pc' := 195) (by decide) ?_
      refine g_aloadN X324 hx (hb hby da0_195) rfl rfl ?_
      refine g_getF X324 hx hZ hown (hw _ (List.mem_of_getElem? (i := 30) rfl)) e325 F_sz (hb hby da0_196) ?_
      intro T327 X328 e329
      refine g_iload X328 hx (hb hby da0_199) rfl ?_
      refine g_iload X328 hx (hb hby da0_201) rfl ?_
      refine g_isub X328 hx (hb hby da0_203) (show (0 : Int32) - (0 : Int32) = (0 : Int32) from by decide) ?_
      refine g_isub X328 hx (hb hby da0_204) (show (0 : Int32) - (0 : Int32) = (0 : Int32) from by decide) ?_
      refine g_iconst X328 hx (hb hby da0_205) (v := (1 : Int32)) (by decide) ?_
      refine g_iadd X328 hx (hb hby da0_206) (show (0 : Int32) + (1 : Int32) = (1 : Int32) from by decide) ?_
      refine g_istore X328 hx (hb hby da0_207) (L' := #[.val (.ref q1), .val (.int (10 : Int32)), .val (.double (4613937818241073152 : UInt64)), .second, .val (.double (4613937818241073152 : UInt64)), .second, .val (.double (4607182418800017408 : UInt64)), .second, .val (.int (0 : Int32)), .val (.int (0 : Int32)), .val (.int (0 : Int32)), .val (.int (0 : Int32)), .val (.int (1 : Int32)), .unset]) rfl ?_
      refine g_iload X328 hx (hb hby da0_209) rfl ?_
      refine g_aloadN X328 hx (hb hby da0_211) rfl rfl ?_
      refine g_getF X328 hx hZ hown (hw _ (List.mem_of_getElem? (i := 10) rfl)) e329 F_la (hb hby da0_212) ?_
      intro T330 X331 e332
      refine g_arraylength X331 hx hZ e332 A_la (show Nat.toInt32 4 = (4 : Int32) from by decide) (hb hby da0_215) ?_
      have hc216_333 : ¬ ((4 : Int32) < (1 : Int32)) := (by decide)
      refine g_icmpYes X331 hx (hb hby da0_216) (flt hc216_333).2.2.2 (by decide) (pc' := 293) (by decide) ?_
      refine g_aloadN X331 hx (hb hby da0_293) rfl rfl ?_
      refine g_getF X331 hx hZ hown (hw _ (List.mem_of_getElem? (i := 10) rfl)) e332 F_la (hb hby da0_294) ?_
      intro T334 X335 e336
      refine g_iload X335 hx (hb hby da0_297) rfl ?_
      refine g_aloadN X335 hx (hb hby da0_299) rfl rfl ?_
      refine g_getF X335 hx hZ hown (hw _ (List.mem_of_getElem? (i := 10) rfl)) e336 F_la (hb hby da0_300) ?_
      intro T337 X338 e339
      refine g_iload X338 hx (hb hby da0_303) rfl ?_
      refine g_iconst X338 hx (hb hby da0_305) (v := (1 : Int32)) (by decide) ?_
      refine g_iadd X338 hx (hb hby da0_306) (show (0 : Int32) + (1 : Int32) = (1 : Int32) from by decide) ?_
      refine g_aloadN X338 hx (hb hby da0_307) rfl rfl ?_
      refine g_getF X338 hx hZ hown (hw _ (List.mem_of_getElem? (i := 30) rfl)) e339 F_sz (hb hby da0_308) ?_
      intro T340 X341 e342
      refine g_iload X341 hx (hb hby da0_311) rfl ?_
      refine g_isub X341 hx (hb hby da0_313) (show (0 : Int32) - (0 : Int32) = (0 : Int32) from by decide) ?_
      refine g_acp0 X341 hx hZ hown (hw _ (List.mem_of_getElem? (i := 32) rfl)) (hw _ (List.mem_of_getElem? (i := 35) rfl)) (hw _ (List.mem_of_getElem? (i := 33) rfl)) (hw _ (List.mem_of_getElem? (i := 34) rfl)) e342 A_la rfl (fun _ _ => rfl) (z := 4) (by decide) (by decide) (by decide) (by decide) (by decide) (by decide) N0 g_la (by rw [hml]; rfl) (hb hby da0_314) (by decide) (by decide) ?_
      intro T343 h344 L345 X346 e347 N348 K349 F350
      have F351 := E0.keep K349
      have F352 := F_la.keep K349 (ninS ne_q1_la nin0)
      have F354 := F_ma.keep K349 (ninS ne_q1_la nin0)
      have F355 := A_ma.keep K349 (ninS ne_la_ma.symm nin0)
      have F356 := F_si.keep K349 (ninS ne_q1_la nin0)
      have F357 := A_si.keep K349 (ninS ne_la_si.symm nin0)
      have F358 := F_rh.keep K349 (ninS ne_q1_la nin0)
      have F359 := A_rh.keep K349 (ninS ne_la_rh.symm nin0)
      have F360 := F_ex.keep K349 (ninS ne_q1_la nin0)
      have F361 := A_ex.keep K349 (ninS ne_la_ex.symm nin0)
      have F362 := F_sz.keep K349 (ninS ne_q1_la nin0)
      have F363 := F_fg.keep K349 (ninS ne_q1_la nin0)
      have Z364 : n0 ≤ h344.size := Nat.le_trans Z0 K349.1
      refine g_aloadN X346 hx (hb hby da0_317) rfl rfl ?_
      refine g_getF X346 hx hZ hown (hw _ (List.mem_of_getElem? (i := 13) rfl)) e347 F354 (hb hby da0_318) ?_
      intro T366 X367 e368
      refine g_iload X367 hx (hb hby da0_321) rfl ?_
      refine g_aloadN X367 hx (hb hby da0_323) rfl rfl ?_
      refine g_getF X367 hx hZ hown (hw _ (List.mem_of_getElem? (i := 13) rfl)) e368 F354 (hb hby da0_324) ?_
      intro T369 X370 e371
      refine g_iload X370 hx (hb hby da0_327) rfl ?_
      refine g_iconst X370 hx (hb hby da0_329) (v := (1 : Int32)) (by decide) ?_
      refine g_iadd X370 hx (hb hby da0_330) (show (0 : Int32) + (1 : Int32) = (1 : Int32) from by decide) ?_
      refine g_aloadN X370 hx (hb hby da0_331) rfl rfl ?_
      refine g_getF X370 hx hZ hown (hw _ (List.mem_of_getElem? (i := 30) rfl)) e371 F362 (hb hby da0_332) ?_
      intro T372 X373 e374
      refine g_iload X373 hx (hb hby da0_335) rfl ?_
      refine g_isub X373 hx (hb hby da0_337) (show (0 : Int32) - (0 : Int32) = (0 : Int32) from by decide) ?_
      refine g_acp0 X373 hx hZ hown (hw _ (List.mem_of_getElem? (i := 32) rfl)) (hw _ (List.mem_of_getElem? (i := 35) rfl)) (hw _ (List.mem_of_getElem? (i := 33) rfl)) (hw _ (List.mem_of_getElem? (i := 34) rfl)) e374 F355 rfl (fun _ _ => rfl) (z := 4) (by decide) (by decide) (by decide) (by decide) (by decide) (by decide) N348 g_ma (by rw [hml]; rfl) (hb hby da0_338) (by decide) (by decide) ?_
      intro T375 h376 L377 X378 e379 N380 K381 F382
      have F383 := F351.keep K381
      have F384 := F352.keep K381 (ninS ne_q1_ma nin0)
      have F385 := F354.keep K381 (ninS ne_q1_ma nin0)
      have F387 := F356.keep K381 (ninS ne_q1_ma nin0)
      have F388 := F357.keep K381 (ninS ne_ma_si.symm nin0)
      have F389 := F358.keep K381 (ninS ne_q1_ma nin0)
      have F390 := F359.keep K381 (ninS ne_ma_rh.symm nin0)
      have F391 := F360.keep K381 (ninS ne_q1_ma nin0)
      have F392 := F361.keep K381 (ninS ne_ma_ex.symm nin0)
      have F393 := F362.keep K381 (ninS ne_q1_ma nin0)
      have F394 := F363.keep K381 (ninS ne_q1_ma nin0)
      have F395 := F350.keep K381 (ninS ne_la_ma nin0)
      have Z396 : n0 ≤ h376.size := Nat.le_trans Z364 K381.1
      refine g_aloadN X378 hx (hb hby da0_341) rfl rfl ?_
      refine g_getF X378 hx hZ hown (hw _ (List.mem_of_getElem? (i := 15) rfl)) e379 F387 (hb hby da0_342) ?_
      intro T398 X399 e400
      refine g_iload X399 hx (hb hby da0_345) rfl ?_
      refine g_aloadN X399 hx (hb hby da0_347) rfl rfl ?_
      refine g_getF X399 hx hZ hown (hw _ (List.mem_of_getElem? (i := 15) rfl)) e400 F387 (hb hby da0_348) ?_
      intro T401 X402 e403
      refine g_iload X402 hx (hb hby da0_351) rfl ?_
      refine g_iconst X402 hx (hb hby da0_353) (v := (1 : Int32)) (by decide) ?_
      refine g_iadd X402 hx (hb hby da0_354) (show (0 : Int32) + (1 : Int32) = (1 : Int32) from by decide) ?_
      refine g_aloadN X402 hx (hb hby da0_355) rfl rfl ?_
      refine g_getF X402 hx hZ hown (hw _ (List.mem_of_getElem? (i := 30) rfl)) e403 F393 (hb hby da0_356) ?_
      intro T404 X405 e406
      refine g_iload X405 hx (hb hby da0_359) rfl ?_
      refine g_isub X405 hx (hb hby da0_361) (show (0 : Int32) - (0 : Int32) = (0 : Int32) from by decide) ?_
      refine g_acp0 X405 hx hZ hown (hw _ (List.mem_of_getElem? (i := 32) rfl)) (hw _ (List.mem_of_getElem? (i := 35) rfl)) (hw _ (List.mem_of_getElem? (i := 33) rfl)) (hw _ (List.mem_of_getElem? (i := 34) rfl)) e406 F388 rfl (fun _ _ => rfl) (z := 4) (by decide) (by decide) (by decide) (by decide) (by decide) (by decide) N380 g_si (by rw [hml]; rfl) (hb hby da0_362) (by decide) (by decide) ?_
      intro T407 h408 L409 X410 e411 N412 K413 F414
      have F415 := F383.keep K413
      have F416 := F384.keep K413 (ninS ne_q1_si nin0)
      have F417 := F385.keep K413 (ninS ne_q1_si nin0)
      have F418 := F387.keep K413 (ninS ne_q1_si nin0)
      have F420 := F389.keep K413 (ninS ne_q1_si nin0)
      have F421 := F390.keep K413 (ninS ne_si_rh.symm nin0)
      have F422 := F391.keep K413 (ninS ne_q1_si nin0)
      have F423 := F392.keep K413 (ninS ne_si_ex.symm nin0)
      have F424 := F393.keep K413 (ninS ne_q1_si nin0)
      have F425 := F394.keep K413 (ninS ne_q1_si nin0)
      have F426 := F395.keep K413 (ninS ne_la_si nin0)
      have F427 := F382.keep K413 (ninS ne_ma_si nin0)
      have Z428 : n0 ≤ h408.size := Nat.le_trans Z396 K413.1
      refine g_aloadN X410 hx (hb hby da0_365) rfl rfl ?_
      refine g_getF X410 hx hZ hown (hw _ (List.mem_of_getElem? (i := 17) rfl)) e411 F420 (hb hby da0_366) ?_
      intro T430 X431 e432
      refine g_iload X431 hx (hb hby da0_369) rfl ?_
      refine g_aloadN X431 hx (hb hby da0_371) rfl rfl ?_
      refine g_getF X431 hx hZ hown (hw _ (List.mem_of_getElem? (i := 17) rfl)) e432 F420 (hb hby da0_372) ?_
      intro T433 X434 e435
      refine g_iload X434 hx (hb hby da0_375) rfl ?_
      refine g_iconst X434 hx (hb hby da0_377) (v := (1 : Int32)) (by decide) ?_
      refine g_iadd X434 hx (hb hby da0_378) (show (0 : Int32) + (1 : Int32) = (1 : Int32) from by decide) ?_
      refine g_aloadN X434 hx (hb hby da0_379) rfl rfl ?_
      refine g_getF X434 hx hZ hown (hw _ (List.mem_of_getElem? (i := 30) rfl)) e435 F424 (hb hby da0_380) ?_
      intro T436 X437 e438
      refine g_iload X437 hx (hb hby da0_383) rfl ?_
      refine g_isub X437 hx (hb hby da0_385) (show (0 : Int32) - (0 : Int32) = (0 : Int32) from by decide) ?_
      refine g_acp0 X437 hx hZ hown (hw _ (List.mem_of_getElem? (i := 32) rfl)) (hw _ (List.mem_of_getElem? (i := 35) rfl)) (hw _ (List.mem_of_getElem? (i := 33) rfl)) (hw _ (List.mem_of_getElem? (i := 34) rfl)) e438 F421 rfl (fun _ _ => rfl) (z := 4) (by decide) (by decide) (by decide) (by decide) (by decide) (by decide) N412 g_rh (by rw [hml]; rfl) (hb hby da0_386) (by decide) (by decide) ?_
      intro T439 h440 L441 X442 e443 N444 K445 F446
      have F447 := F415.keep K445
      have F448 := F416.keep K445 (ninS ne_q1_rh nin0)
      have F449 := F417.keep K445 (ninS ne_q1_rh nin0)
      have F450 := F418.keep K445 (ninS ne_q1_rh nin0)
      have F451 := F420.keep K445 (ninS ne_q1_rh nin0)
      have F453 := F422.keep K445 (ninS ne_q1_rh nin0)
      have F454 := F423.keep K445 (ninS ne_rh_ex.symm nin0)
      have F455 := F424.keep K445 (ninS ne_q1_rh nin0)
      have F456 := F425.keep K445 (ninS ne_q1_rh nin0)
      have F457 := F426.keep K445 (ninS ne_la_rh nin0)
      have F458 := F427.keep K445 (ninS ne_ma_rh nin0)
      have F459 := F414.keep K445 (ninS ne_si_rh nin0)
      have Z460 : n0 ≤ h440.size := Nat.le_trans Z428 K445.1
      refine g_aloadN X442 hx (hb hby da0_389) rfl rfl ?_
      refine g_getF X442 hx hZ hown (hw _ (List.mem_of_getElem? (i := 20) rfl)) e443 F453 (hb hby da0_390) ?_
      intro T462 X463 e464
      refine g_iload X463 hx (hb hby da0_393) rfl ?_
      refine g_aloadN X463 hx (hb hby da0_395) rfl rfl ?_
      refine g_getF X463 hx hZ hown (hw _ (List.mem_of_getElem? (i := 20) rfl)) e464 F453 (hb hby da0_396) ?_
      intro T465 X466 e467
      refine g_iload X466 hx (hb hby da0_399) rfl ?_
      refine g_iconst X466 hx (hb hby da0_401) (v := (1 : Int32)) (by decide) ?_
      refine g_iadd X466 hx (hb hby da0_402) (show (0 : Int32) + (1 : Int32) = (1 : Int32) from by decide) ?_
      refine g_aloadN X466 hx (hb hby da0_403) rfl rfl ?_
      refine g_getF X466 hx hZ hown (hw _ (List.mem_of_getElem? (i := 30) rfl)) e467 F455 (hb hby da0_404) ?_
      intro T468 X469 e470
      refine g_iload X469 hx (hb hby da0_407) rfl ?_
      refine g_isub X469 hx (hb hby da0_409) (show (0 : Int32) - (0 : Int32) = (0 : Int32) from by decide) ?_
      refine g_acp0 X469 hx hZ hown (hw _ (List.mem_of_getElem? (i := 32) rfl)) (hw _ (List.mem_of_getElem? (i := 35) rfl)) (hw _ (List.mem_of_getElem? (i := 33) rfl)) (hw _ (List.mem_of_getElem? (i := 34) rfl)) e470 F454 rfl (own_fitB hB) (z := 4) (by decide) (by decide) (by decide) (by decide) (by decide) (by decide) N444 g_ex (by rw [hml]; rfl) (hb hby da0_410) (by decide) (by decide) ?_
      intro T471 h472 L473 X474 e475 N476 K477 F478
      have F479 := F447.keep K477
      have F480 := F448.keep K477 (ninS ne_q1_ex nin0)
      have F481 := F449.keep K477 (ninS ne_q1_ex nin0)
      have F482 := F450.keep K477 (ninS ne_q1_ex nin0)
      have F483 := F451.keep K477 (ninS ne_q1_ex nin0)
      have F484 := F453.keep K477 (ninS ne_q1_ex nin0)
      have F486 := F455.keep K477 (ninS ne_q1_ex nin0)
      have F487 := F456.keep K477 (ninS ne_q1_ex nin0)
      have F488 := F457.keep K477 (ninS ne_la_ex nin0)
      have F489 := F458.keep K477 (ninS ne_ma_ex nin0)
      have F490 := F459.keep K477 (ninS ne_si_ex nin0)
      have F491 := F446.keep K477 (ninS ne_rh_ex nin0)
      have Z492 : n0 ≤ h472.size := Nat.le_trans Z460 K477.1
      refine g_aloadN X474 hx (hb hby da0_413) rfl rfl ?_
      refine g_getF X474 hx hZ hown (hw _ (List.mem_of_getElem? (i := 10) rfl)) e475 F480 (hb hby da0_414) ?_
      intro T494 X495 e496
      refine g_iload X495 hx (hb hby da0_417) rfl ?_
      refine g_iloadN X495 hx (hb hby da0_419) rfl ?_
      refine g_iastore X495 hx hZ e496 F488 (i := 0) (by decide) (by decide) (by decide) (hb hby da0_420) ?_
      intro T497 h500 X498 e499 W501
      have F502 := F479.wr W501
      have F503 := F480.other W501 (Or.inl ne_q1_la)
      have F504 := F481.other W501 (Or.inl ne_q1_la)
      have F505 := F482.other W501 (Or.inl ne_q1_la)
      have F506 := F483.other W501 (Or.inl ne_q1_la)
      have F507 := F484.other W501 (Or.inl ne_q1_la)
      have F508 := F486.other W501 (Or.inl ne_q1_la)
      have F509 := F487.other W501 (Or.inl ne_q1_la)
      have F510 := F488.same W501
      have F511 := F489.other W501 ne_la_ma.symm
      have F512 := F490.other W501 ne_la_si.symm
      have F513 := F491.other W501 ne_la_rh.symm
      have F514 := F478.other W501 ne_la_ex.symm
      have Z515 : n0 ≤ h500.size := by rw [W501.size]; exact Z492
      have N516 := Fr.snoc X498 N476 g_la
      refine g_aloadN X498 hx (hb hby da0_421) rfl rfl ?_
      refine g_getF X498 hx hZ hown (hw _ (List.mem_of_getElem? (i := 13) rfl)) e499 F504 (hb hby da0_422) ?_
      intro T517 X518 e519
      refine g_iload X518 hx (hb hby da0_425) rfl ?_
      refine g_dloadN X518 hx (hb hby da0_427) rfl ?_
      refine g_dastore X518 hx hZ e519 F511 (i := 0) (by decide) (by decide) (by decide) (hb hby da0_428) ?_
      intro T520 h523 X521 e522 W524
      have F525 := F502.wr W524
      have F526 := F503.other W524 (Or.inl ne_q1_ma)
      have F527 := F504.other W524 (Or.inl ne_q1_ma)
      have F528 := F505.other W524 (Or.inl ne_q1_ma)
      have F529 := F506.other W524 (Or.inl ne_q1_ma)
      have F530 := F507.other W524 (Or.inl ne_q1_ma)
      have F531 := F508.other W524 (Or.inl ne_q1_ma)
      have F532 := F509.other W524 (Or.inl ne_q1_ma)
      have F533 := F510.other W524 ne_la_ma
      have F534 := F511.same W524
      have F535 := F512.other W524 ne_ma_si.symm
      have F536 := F513.other W524 ne_ma_rh.symm
      have F537 := F514.other W524 ne_ma_ex.symm
      have Z538 : n0 ≤ h523.size := by rw [W524.size]; exact Z515
      have N539 := Fr.snoc X521 N516 g_ma
      refine g_aloadN X521 hx (hb hby da0_429) rfl rfl ?_
      refine g_getF X521 hx hZ hown (hw _ (List.mem_of_getElem? (i := 15) rfl)) e522 F528 (hb hby da0_430) ?_
      intro T540 X541 e542
      refine g_iload X541 hx (hb hby da0_433) rfl ?_
      refine g_dload X541 hx (hb hby da0_435) rfl ?_
      refine g_dastore X541 hx hZ e542 F535 (i := 0) (by decide) (by decide) (by decide) (hb hby da0_437) ?_
      intro T543 h546 X544 e545 W547
      have F548 := F525.wr W547
      have F549 := F526.other W547 (Or.inl ne_q1_si)
      have F550 := F527.other W547 (Or.inl ne_q1_si)
      have F551 := F528.other W547 (Or.inl ne_q1_si)
      have F552 := F529.other W547 (Or.inl ne_q1_si)
      have F553 := F530.other W547 (Or.inl ne_q1_si)
      have F554 := F531.other W547 (Or.inl ne_q1_si)
      have F555 := F532.other W547 (Or.inl ne_q1_si)
      have F556 := F533.other W547 ne_la_si
      have F557 := F534.other W547 ne_ma_si
      have F558 := F535.same W547
      have F559 := F536.other W547 ne_si_rh.symm
      have F560 := F537.other W547 ne_si_ex.symm
      have Z561 : n0 ≤ h546.size := by rw [W547.size]; exact Z538
      have N562 := Fr.snoc X544 N539 g_si
      refine g_aloadN X544 hx (hb hby da0_438) rfl rfl ?_
      refine g_getF X544 hx hZ hown (hw _ (List.mem_of_getElem? (i := 17) rfl)) e545 F552 (hb hby da0_439) ?_
      intro T563 X564 e565
      refine g_iload X564 hx (hb hby da0_442) rfl ?_
      refine g_dload X564 hx (hb hby da0_444) rfl ?_
      refine g_dastore X564 hx hZ e565 F559 (i := 0) (by decide) (by decide) (by decide) (hb hby da0_446) ?_
      intro T566 h569 X567 e568 W570
      have F571 := F548.wr W570
      have F572 := F549.other W570 (Or.inl ne_q1_rh)
      have F573 := F550.other W570 (Or.inl ne_q1_rh)
      have F574 := F551.other W570 (Or.inl ne_q1_rh)
      have F575 := F552.other W570 (Or.inl ne_q1_rh)
      have F576 := F553.other W570 (Or.inl ne_q1_rh)
      have F577 := F554.other W570 (Or.inl ne_q1_rh)
      have F578 := F555.other W570 (Or.inl ne_q1_rh)
      have F579 := F556.other W570 ne_la_rh
      have F580 := F557.other W570 ne_ma_rh
      have F581 := F558.other W570 ne_si_rh
      have F582 := F559.same W570
      have F583 := F560.other W570 ne_rh_ex.symm
      have Z584 : n0 ≤ h569.size := by rw [W570.size]; exact Z561
      have N585 := Fr.snoc X567 N562 g_rh
      refine g_aloadN X567 hx (hb hby da0_447) rfl rfl ?_
      refine g_getF X567 hx hZ hown (hw _ (List.mem_of_getElem? (i := 20) rfl)) e568 F576 (hb hby da0_448) ?_
      intro T586 X587 e588
      refine g_iload X587 hx (hb hby da0_451) rfl ?_
      refine g_iconst X587 hx (hb hby da0_453) (v := (0 : Int32)) (by decide) ?_
      refine g_bastoreZ X587 hx hZ e588 F583 (i := 0) (by decide) (by decide) (by decide) (hb hby da0_454) ?_
      intro T589 h592 X590 e591 W593
      have F594 := F571.wr W593
      have F595 := F572.other W593 (Or.inl ne_q1_ex)
      have F596 := F573.other W593 (Or.inl ne_q1_ex)
      have F597 := F574.other W593 (Or.inl ne_q1_ex)
      have F598 := F575.other W593 (Or.inl ne_q1_ex)
      have F599 := F576.other W593 (Or.inl ne_q1_ex)
      have F600 := F577.other W593 (Or.inl ne_q1_ex)
      have F601 := F578.other W593 (Or.inl ne_q1_ex)
      have F602 := F579.other W593 ne_la_ex
      have F603 := F580.other W593 ne_ma_ex
      have F604 := F581.other W593 ne_si_ex
      have F605 := F582.other W593 ne_rh_ex
      have F606 := F583.same W593
      have Z607 : n0 ≤ h592.size := by rw [W593.size]; exact Z584
      have N608 := Fr.snoc X590 N585 g_ex
      refine g_aloadN X590 hx (hb hby da0_455) rfl rfl ?_
      refine g_iload X590 hx (hb hby da0_456) rfl ?_
      refine g_putF X590 hx hZ hown (hw _ (List.mem_of_getElem? (i := 30) rfl)) e591 F600 F594 (Or.inl (hw _ (List.mem_of_getElem? (i := 31) rfl))) (hw _ (List.mem_of_getElem? (i := 1) rfl)) (ty := .int) (by decide) rfl rfl (hb hby da0_458) ?_
      intro T609 h612 X610 e611 W613
      have F615 := F594.wr W613
      have F616 := F595.other W613 (Or.inr (slot_ne (Or.inl (hw _ (List.mem_of_getElem? (i := 11) rfl))) (Or.inl (hw _ (List.mem_of_getElem? (i := 31) rfl))) (by decide) (t := (.array .int)) (t' := .int) (by decide) (by decide)))
      have F617 := F596.other W613 (Or.inr (slot_ne (Or.inl (hw _ (List.mem_of_getElem? (i := 14) rfl))) (Or.inl (hw _ (List.mem_of_getElem? (i := 31) rfl))) (by decide) (t := (.array .double)) (t' := .int) (by decide) (by decide)))
      have F618 := F597.other W613 (Or.inr (slot_ne (Or.inl (hw _ (List.mem_of_getElem? (i := 16) rfl))) (Or.inl (hw _ (List.mem_of_getElem? (i := 31) rfl))) (by decide) (t := (.array .double)) (t' := .int) (by decide) (by decide)))
      have F619 := F598.other W613 (Or.inr (slot_ne (Or.inl (hw _ (List.mem_of_getElem? (i := 18) rfl))) (Or.inl (hw _ (List.mem_of_getElem? (i := 31) rfl))) (by decide) (t := (.array .double)) (t' := .int) (by decide) (by decide)))
      have F620 := F599.other W613 (Or.inr (slot_ne (Or.inl (hw _ (List.mem_of_getElem? (i := 21) rfl))) (Or.inl (hw _ (List.mem_of_getElem? (i := 31) rfl))) (by decide) (t := (.array .boolean)) (t' := .int) (by decide) (by decide)))
      have F621 := F601.other W613 (Or.inr (slot_ne (Or.inr (hw _ (List.mem_of_getElem? (i := 23) rfl))) (Or.inl (hw _ (List.mem_of_getElem? (i := 31) rfl))) (by decide) (t := .boolean) (t' := .int) (by decide) (by decide)))
      have F622 := F602.other W613 ne_q1_la.symm
      have F623 := F603.other W613 ne_q1_ma.symm
      have F624 := F604.other W613 ne_q1_si.symm
      have F625 := F605.other W613 ne_q1_rh.symm
      have F626 := F606.other W613 ne_q1_ex.symm
      have F627 := F600.same W613
      have Z628 : n0 ≤ h612.size := by rw [W613.size]; exact Z607
      have N629 := Fr.snoc X610 N608 g_q1
      refine g_iconst X610 hx (hb hby da0_461) (v := (1 : Int32)) (by decide) ?_
      refine g_ireturn X610 hx Bd.notSynchronized Bd.returns rfl (by simp) (hb hby da0_462) (by decide) (by decide) ?_
      rw [e611]
      exact ⟨rfl, N629, Z628, F615, F616, F617, F618, F619, F620, F627, F621, (F622.congr (fun j _ => own_uI _ _ _ j)), (F623.congr (fun j _ => own_uD _ _ _ j)), (F624.congr (fun j _ => own_uD _ _ _ j)), (F625.congr (fun j _ => own_uD _ _ _ j)), (F626.congr (fun j _ => own_uI _ _ _ j)), own_uB hB (Or.inl rfl), ⟨⟨ne_q1_la, ne_q1_ma, ne_q1_si, ne_q1_rh, ne_q1_ex, ne_la_ma, ne_la_si, ne_la_rh, ne_la_ex, ne_ma_si, ne_ma_rh, ne_ma_ex, ne_si_rh, ne_si_ex, ne_rh_ex⟩, ⟨g_q1, g_la, g_ma, g_si, g_rh, g_ex⟩⟩⟩
  ·
    refine g_ifNo X7 hx (hb hby da0_77) (feq hc77_9).1 ?_
    refine g_iload X7 hx (hb hby da0_80) rfl ?_
    refine g_aloadN X7 hx (hb hby da0_82) rfl rfl ?_
    refine g_getF X7 hx hZ hown (hw _ (List.mem_of_getElem? (i := 30) rfl)) e8 F_sz (hb hby da0_83) ?_
    intro T630 X631 e632
    have hc86_633 : ¬ ((0 : Int32) < (0 : Int32)) := (by decide)
    refine g_icmpYes X631 hx (hb hby da0_86) (flt hc86_633).2.1 (by decide) (pc' := 104) (by decide) ?_
    refine g_iload X631 hx (hb hby da0_104) rfl ?_
    refine g_istore X631 hx (hb hby da0_106) (L' := #[.val (.ref q1), .val (.int (10 : Int32)), .val (.double (4613937818241073152 : UInt64)), .second, .val (.double (4613937818241073152 : UInt64)), .second, .val (.double (4607182418800017408 : UInt64)), .second, .val (.int (0 : Int32)), .val (.int (0 : Int32)), .val (.int (0 : Int32)), .unset, .unset, .unset]) rfl ?_
    refine g_iload X631 hx (hb hby da0_108) rfl ?_
    have hc110_634 : ¬ ((0 : Int32) < (0 : Int32)) := (by decide)
    refine g_ifYes X631 hx (hb hby da0_110) (flt hc110_634).2.2.2 (by decide) (pc' := 130) (by decide) ?_
    refine g_aloadN X631 hx (hb hby da0_130) rfl rfl ?_
    refine g_getF X631 hx hZ hown (hw _ (List.mem_of_getElem? (i := 22) rfl)) e632 F_fg (hb hby da0_131) ?_
    intro T635 X636 e637
    by_cases hc134_638 : fg = (0 : Int32)
    ·
      refine g_ifYes X636 hx (hb hby da0_134) (teq hc134_638).1 (by decide) (pc' := 163) (by decide) ?_
      refine g_iload X636 hx (hb hby da0_163) rfl ?_
      refine g_istore X636 hx (hb hby da0_165) (L' := #[.val (.ref q1), .val (.int (10 : Int32)), .val (.double (4613937818241073152 : UInt64)), .second, .val (.double (4613937818241073152 : UInt64)), .second, .val (.double (4607182418800017408 : UInt64)), .second, .val (.int (0 : Int32)), .val (.int (0 : Int32)), .val (.int (0 : Int32)), .val (.int (0 : Int32)), .unset, .unset]) rfl ?_
      refine g_iload X636 hx (hb hby da0_167) rfl ?_
      refine g_aloadN X636 hx (hb hby da0_169) rfl rfl ?_
      refine g_getF X636 hx hZ hown (hw _ (List.mem_of_getElem? (i := 30) rfl)) e637 F_sz (hb hby da0_170) ?_
      intro T639 X640 e641
      have hc173_642 : ¬ ((0 : Int32) < (0 : Int32)) := (by decide)
      refine g_icmpYes X640 hx (hb hby da0_173) (flt hc173_642).2.1 (by decide) (pc' := 195) (by decide) ?_
      refine g_aloadN X640 hx (hb hby da0_195) rfl rfl ?_
      refine g_getF X640 hx hZ hown (hw _ (List.mem_of_getElem? (i := 30) rfl)) e641 F_sz (hb hby da0_196) ?_
      intro T643 X644 e645
      refine g_iload X644 hx (hb hby da0_199) rfl ?_
      refine g_iload X644 hx (hb hby da0_201) rfl ?_
      refine g_isub X644 hx (hb hby da0_203) (show (0 : Int32) - (0 : Int32) = (0 : Int32) from by decide) ?_
      refine g_isub X644 hx (hb hby da0_204) (show (0 : Int32) - (0 : Int32) = (0 : Int32) from by decide) ?_
      refine g_iconst X644 hx (hb hby da0_205) (v := (1 : Int32)) (by decide) ?_
      refine g_iadd X644 hx (hb hby da0_206) (show (0 : Int32) + (1 : Int32) = (1 : Int32) from by decide) ?_
      refine g_istore X644 hx (hb hby da0_207) (L' := #[.val (.ref q1), .val (.int (10 : Int32)), .val (.double (4613937818241073152 : UInt64)), .second, .val (.double (4613937818241073152 : UInt64)), .second, .val (.double (4607182418800017408 : UInt64)), .second, .val (.int (0 : Int32)), .val (.int (0 : Int32)), .val (.int (0 : Int32)), .val (.int (0 : Int32)), .val (.int (1 : Int32)), .unset]) rfl ?_
      refine g_iload X644 hx (hb hby da0_209) rfl ?_
      refine g_aloadN X644 hx (hb hby da0_211) rfl rfl ?_
      refine g_getF X644 hx hZ hown (hw _ (List.mem_of_getElem? (i := 10) rfl)) e645 F_la (hb hby da0_212) ?_
      intro T646 X647 e648
      refine g_arraylength X647 hx hZ e648 A_la (show Nat.toInt32 4 = (4 : Int32) from by decide) (hb hby da0_215) ?_
      have hc216_649 : ¬ ((4 : Int32) < (1 : Int32)) := (by decide)
      refine g_icmpYes X647 hx (hb hby da0_216) (flt hc216_649).2.2.2 (by decide) (pc' := 293) (by decide) ?_
      refine g_aloadN X647 hx (hb hby da0_293) rfl rfl ?_
      refine g_getF X647 hx hZ hown (hw _ (List.mem_of_getElem? (i := 10) rfl)) e648 F_la (hb hby da0_294) ?_
      intro T650 X651 e652
      refine g_iload X651 hx (hb hby da0_297) rfl ?_
      refine g_aloadN X651 hx (hb hby da0_299) rfl rfl ?_
      refine g_getF X651 hx hZ hown (hw _ (List.mem_of_getElem? (i := 10) rfl)) e652 F_la (hb hby da0_300) ?_
      intro T653 X654 e655
      refine g_iload X654 hx (hb hby da0_303) rfl ?_
      refine g_iconst X654 hx (hb hby da0_305) (v := (1 : Int32)) (by decide) ?_
      refine g_iadd X654 hx (hb hby da0_306) (show (0 : Int32) + (1 : Int32) = (1 : Int32) from by decide) ?_
      refine g_aloadN X654 hx (hb hby da0_307) rfl rfl ?_
      refine g_getF X654 hx hZ hown (hw _ (List.mem_of_getElem? (i := 30) rfl)) e655 F_sz (hb hby da0_308) ?_
      intro T656 X657 e658
      refine g_iload X657 hx (hb hby da0_311) rfl ?_
      refine g_isub X657 hx (hb hby da0_313) (show (0 : Int32) - (0 : Int32) = (0 : Int32) from by decide) ?_
      refine g_acp0 X657 hx hZ hown (hw _ (List.mem_of_getElem? (i := 32) rfl)) (hw _ (List.mem_of_getElem? (i := 35) rfl)) (hw _ (List.mem_of_getElem? (i := 33) rfl)) (hw _ (List.mem_of_getElem? (i := 34) rfl)) e658 A_la rfl (fun _ _ => rfl) (z := 4) (by decide) (by decide) (by decide) (by decide) (by decide) (by decide) N0 g_la (by rw [hml]; rfl) (hb hby da0_314) (by decide) (by decide) ?_
      intro T659 h660 L661 X662 e663 N664 K665 F666
      have F667 := E0.keep K665
      have F668 := F_la.keep K665 (ninS ne_q1_la nin0)
      have F670 := F_ma.keep K665 (ninS ne_q1_la nin0)
      have F671 := A_ma.keep K665 (ninS ne_la_ma.symm nin0)
      have F672 := F_si.keep K665 (ninS ne_q1_la nin0)
      have F673 := A_si.keep K665 (ninS ne_la_si.symm nin0)
      have F674 := F_rh.keep K665 (ninS ne_q1_la nin0)
      have F675 := A_rh.keep K665 (ninS ne_la_rh.symm nin0)
      have F676 := F_ex.keep K665 (ninS ne_q1_la nin0)
      have F677 := A_ex.keep K665 (ninS ne_la_ex.symm nin0)
      have F678 := F_sz.keep K665 (ninS ne_q1_la nin0)
      have F679 := F_fg.keep K665 (ninS ne_q1_la nin0)
      have Z680 : n0 ≤ h660.size := Nat.le_trans Z0 K665.1
      refine g_aloadN X662 hx (hb hby da0_317) rfl rfl ?_
      refine g_getF X662 hx hZ hown (hw _ (List.mem_of_getElem? (i := 13) rfl)) e663 F670 (hb hby da0_318) ?_
      intro T682 X683 e684
      refine g_iload X683 hx (hb hby da0_321) rfl ?_
      refine g_aloadN X683 hx (hb hby da0_323) rfl rfl ?_
      refine g_getF X683 hx hZ hown (hw _ (List.mem_of_getElem? (i := 13) rfl)) e684 F670 (hb hby da0_324) ?_
      intro T685 X686 e687
      refine g_iload X686 hx (hb hby da0_327) rfl ?_
      refine g_iconst X686 hx (hb hby da0_329) (v := (1 : Int32)) (by decide) ?_
      refine g_iadd X686 hx (hb hby da0_330) (show (0 : Int32) + (1 : Int32) = (1 : Int32) from by decide) ?_
      refine g_aloadN X686 hx (hb hby da0_331) rfl rfl ?_
      refine g_getF X686 hx hZ hown (hw _ (List.mem_of_getElem? (i := 30) rfl)) e687 F678 (hb hby da0_332) ?_
      intro T688 X689 e690
      refine g_iload X689 hx (hb hby da0_335) rfl ?_
      refine g_isub X689 hx (hb hby da0_337) (show (0 : Int32) - (0 : Int32) = (0 : Int32) from by decide) ?_
      refine g_acp0 X689 hx hZ hown (hw _ (List.mem_of_getElem? (i := 32) rfl)) (hw _ (List.mem_of_getElem? (i := 35) rfl)) (hw _ (List.mem_of_getElem? (i := 33) rfl)) (hw _ (List.mem_of_getElem? (i := 34) rfl)) e690 F671 rfl (fun _ _ => rfl) (z := 4) (by decide) (by decide) (by decide) (by decide) (by decide) (by decide) N664 g_ma (by rw [hml]; rfl) (hb hby da0_338) (by decide) (by decide) ?_
      intro T691 h692 L693 X694 e695 N696 K697 F698
      have F699 := F667.keep K697
      have F700 := F668.keep K697 (ninS ne_q1_ma nin0)
      have F701 := F670.keep K697 (ninS ne_q1_ma nin0)
      have F703 := F672.keep K697 (ninS ne_q1_ma nin0)
      have F704 := F673.keep K697 (ninS ne_ma_si.symm nin0)
      have F705 := F674.keep K697 (ninS ne_q1_ma nin0)
      have F706 := F675.keep K697 (ninS ne_ma_rh.symm nin0)
      have F707 := F676.keep K697 (ninS ne_q1_ma nin0)
      have F708 := F677.keep K697 (ninS ne_ma_ex.symm nin0)
      have F709 := F678.keep K697 (ninS ne_q1_ma nin0)
      have F710 := F679.keep K697 (ninS ne_q1_ma nin0)
      have F711 := F666.keep K697 (ninS ne_la_ma nin0)
      have Z712 : n0 ≤ h692.size := Nat.le_trans Z680 K697.1
      refine g_aloadN X694 hx (hb hby da0_341) rfl rfl ?_
      refine g_getF X694 hx hZ hown (hw _ (List.mem_of_getElem? (i := 15) rfl)) e695 F703 (hb hby da0_342) ?_
      intro T714 X715 e716
      refine g_iload X715 hx (hb hby da0_345) rfl ?_
      refine g_aloadN X715 hx (hb hby da0_347) rfl rfl ?_
      refine g_getF X715 hx hZ hown (hw _ (List.mem_of_getElem? (i := 15) rfl)) e716 F703 (hb hby da0_348) ?_
      intro T717 X718 e719
      refine g_iload X718 hx (hb hby da0_351) rfl ?_
      refine g_iconst X718 hx (hb hby da0_353) (v := (1 : Int32)) (by decide) ?_
      refine g_iadd X718 hx (hb hby da0_354) (show (0 : Int32) + (1 : Int32) = (1 : Int32) from by decide) ?_
      refine g_aloadN X718 hx (hb hby da0_355) rfl rfl ?_
      refine g_getF X718 hx hZ hown (hw _ (List.mem_of_getElem? (i := 30) rfl)) e719 F709 (hb hby da0_356) ?_
      intro T720 X721 e722
      refine g_iload X721 hx (hb hby da0_359) rfl ?_
      refine g_isub X721 hx (hb hby da0_361) (show (0 : Int32) - (0 : Int32) = (0 : Int32) from by decide) ?_
      refine g_acp0 X721 hx hZ hown (hw _ (List.mem_of_getElem? (i := 32) rfl)) (hw _ (List.mem_of_getElem? (i := 35) rfl)) (hw _ (List.mem_of_getElem? (i := 33) rfl)) (hw _ (List.mem_of_getElem? (i := 34) rfl)) e722 F704 rfl (fun _ _ => rfl) (z := 4) (by decide) (by decide) (by decide) (by decide) (by decide) (by decide) N696 g_si (by rw [hml]; rfl) (hb hby da0_362) (by decide) (by decide) ?_
      intro T723 h724 L725 X726 e727 N728 K729 F730
      have F731 := F699.keep K729
      have F732 := F700.keep K729 (ninS ne_q1_si nin0)
      have F733 := F701.keep K729 (ninS ne_q1_si nin0)
      have F734 := F703.keep K729 (ninS ne_q1_si nin0)
      have F736 := F705.keep K729 (ninS ne_q1_si nin0)
      have F737 := F706.keep K729 (ninS ne_si_rh.symm nin0)
      have F738 := F707.keep K729 (ninS ne_q1_si nin0)
      have F739 := F708.keep K729 (ninS ne_si_ex.symm nin0)
      have F740 := F709.keep K729 (ninS ne_q1_si nin0)
      have F741 := F710.keep K729 (ninS ne_q1_si nin0)
      have F742 := F711.keep K729 (ninS ne_la_si nin0)
      have F743 := F698.keep K729 (ninS ne_ma_si nin0)
      have Z744 : n0 ≤ h724.size := Nat.le_trans Z712 K729.1
      refine g_aloadN X726 hx (hb hby da0_365) rfl rfl ?_
      refine g_getF X726 hx hZ hown (hw _ (List.mem_of_getElem? (i := 17) rfl)) e727 F736 (hb hby da0_366) ?_
      intro T746 X747 e748
      refine g_iload X747 hx (hb hby da0_369) rfl ?_
      refine g_aloadN X747 hx (hb hby da0_371) rfl rfl ?_
      refine g_getF X747 hx hZ hown (hw _ (List.mem_of_getElem? (i := 17) rfl)) e748 F736 (hb hby da0_372) ?_
      intro T749 X750 e751
      refine g_iload X750 hx (hb hby da0_375) rfl ?_
      refine g_iconst X750 hx (hb hby da0_377) (v := (1 : Int32)) (by decide) ?_
      refine g_iadd X750 hx (hb hby da0_378) (show (0 : Int32) + (1 : Int32) = (1 : Int32) from by decide) ?_
      refine g_aloadN X750 hx (hb hby da0_379) rfl rfl ?_
      refine g_getF X750 hx hZ hown (hw _ (List.mem_of_getElem? (i := 30) rfl)) e751 F740 (hb hby da0_380) ?_
      intro T752 X753 e754
      refine g_iload X753 hx (hb hby da0_383) rfl ?_
      refine g_isub X753 hx (hb hby da0_385) (show (0 : Int32) - (0 : Int32) = (0 : Int32) from by decide) ?_
      refine g_acp0 X753 hx hZ hown (hw _ (List.mem_of_getElem? (i := 32) rfl)) (hw _ (List.mem_of_getElem? (i := 35) rfl)) (hw _ (List.mem_of_getElem? (i := 33) rfl)) (hw _ (List.mem_of_getElem? (i := 34) rfl)) e754 F737 rfl (fun _ _ => rfl) (z := 4) (by decide) (by decide) (by decide) (by decide) (by decide) (by decide) N728 g_rh (by rw [hml]; rfl) (hb hby da0_386) (by decide) (by decide) ?_
      intro T755 h756 L757 X758 e759 N760 K761 F762
      have F763 := F731.keep K761
      have F764 := F732.keep K761 (ninS ne_q1_rh nin0)
      have F765 := F733.keep K761 (ninS ne_q1_rh nin0)
      have F766 := F734.keep K761 (ninS ne_q1_rh nin0)
      have F767 := F736.keep K761 (ninS ne_q1_rh nin0)
      have F769 := F738.keep K761 (ninS ne_q1_rh nin0)
      have F770 := F739.keep K761 (ninS ne_rh_ex.symm nin0)
      have F771 := F740.keep K761 (ninS ne_q1_rh nin0)
      have F772 := F741.keep K761 (ninS ne_q1_rh nin0)
      have F773 := F742.keep K761 (ninS ne_la_rh nin0)
      have F774 := F743.keep K761 (ninS ne_ma_rh nin0)
      have F775 := F730.keep K761 (ninS ne_si_rh nin0)
      have Z776 : n0 ≤ h756.size := Nat.le_trans Z744 K761.1
      refine g_aloadN X758 hx (hb hby da0_389) rfl rfl ?_
      refine g_getF X758 hx hZ hown (hw _ (List.mem_of_getElem? (i := 20) rfl)) e759 F769 (hb hby da0_390) ?_
      intro T778 X779 e780
      refine g_iload X779 hx (hb hby da0_393) rfl ?_
      refine g_aloadN X779 hx (hb hby da0_395) rfl rfl ?_
      refine g_getF X779 hx hZ hown (hw _ (List.mem_of_getElem? (i := 20) rfl)) e780 F769 (hb hby da0_396) ?_
      intro T781 X782 e783
      refine g_iload X782 hx (hb hby da0_399) rfl ?_
      refine g_iconst X782 hx (hb hby da0_401) (v := (1 : Int32)) (by decide) ?_
      refine g_iadd X782 hx (hb hby da0_402) (show (0 : Int32) + (1 : Int32) = (1 : Int32) from by decide) ?_
      refine g_aloadN X782 hx (hb hby da0_403) rfl rfl ?_
      refine g_getF X782 hx hZ hown (hw _ (List.mem_of_getElem? (i := 30) rfl)) e783 F771 (hb hby da0_404) ?_
      intro T784 X785 e786
      refine g_iload X785 hx (hb hby da0_407) rfl ?_
      refine g_isub X785 hx (hb hby da0_409) (show (0 : Int32) - (0 : Int32) = (0 : Int32) from by decide) ?_
      refine g_acp0 X785 hx hZ hown (hw _ (List.mem_of_getElem? (i := 32) rfl)) (hw _ (List.mem_of_getElem? (i := 35) rfl)) (hw _ (List.mem_of_getElem? (i := 33) rfl)) (hw _ (List.mem_of_getElem? (i := 34) rfl)) e786 F770 rfl (own_fitB hB) (z := 4) (by decide) (by decide) (by decide) (by decide) (by decide) (by decide) N760 g_ex (by rw [hml]; rfl) (hb hby da0_410) (by decide) (by decide) ?_
      intro T787 h788 L789 X790 e791 N792 K793 F794
      have F795 := F763.keep K793
      have F796 := F764.keep K793 (ninS ne_q1_ex nin0)
      have F797 := F765.keep K793 (ninS ne_q1_ex nin0)
      have F798 := F766.keep K793 (ninS ne_q1_ex nin0)
      have F799 := F767.keep K793 (ninS ne_q1_ex nin0)
      have F800 := F769.keep K793 (ninS ne_q1_ex nin0)
      have F802 := F771.keep K793 (ninS ne_q1_ex nin0)
      have F803 := F772.keep K793 (ninS ne_q1_ex nin0)
      have F804 := F773.keep K793 (ninS ne_la_ex nin0)
      have F805 := F774.keep K793 (ninS ne_ma_ex nin0)
      have F806 := F775.keep K793 (ninS ne_si_ex nin0)
      have F807 := F762.keep K793 (ninS ne_rh_ex nin0)
      have Z808 : n0 ≤ h788.size := Nat.le_trans Z776 K793.1
      refine g_aloadN X790 hx (hb hby da0_413) rfl rfl ?_
      refine g_getF X790 hx hZ hown (hw _ (List.mem_of_getElem? (i := 10) rfl)) e791 F796 (hb hby da0_414) ?_
      intro T810 X811 e812
      refine g_iload X811 hx (hb hby da0_417) rfl ?_
      refine g_iloadN X811 hx (hb hby da0_419) rfl ?_
      refine g_iastore X811 hx hZ e812 F804 (i := 0) (by decide) (by decide) (by decide) (hb hby da0_420) ?_
      intro T813 h816 X814 e815 W817
      have F818 := F795.wr W817
      have F819 := F796.other W817 (Or.inl ne_q1_la)
      have F820 := F797.other W817 (Or.inl ne_q1_la)
      have F821 := F798.other W817 (Or.inl ne_q1_la)
      have F822 := F799.other W817 (Or.inl ne_q1_la)
      have F823 := F800.other W817 (Or.inl ne_q1_la)
      have F824 := F802.other W817 (Or.inl ne_q1_la)
      have F825 := F803.other W817 (Or.inl ne_q1_la)
      have F826 := F804.same W817
      have F827 := F805.other W817 ne_la_ma.symm
      have F828 := F806.other W817 ne_la_si.symm
      have F829 := F807.other W817 ne_la_rh.symm
      have F830 := F794.other W817 ne_la_ex.symm
      have Z831 : n0 ≤ h816.size := by rw [W817.size]; exact Z808
      have N832 := Fr.snoc X814 N792 g_la
      refine g_aloadN X814 hx (hb hby da0_421) rfl rfl ?_
      refine g_getF X814 hx hZ hown (hw _ (List.mem_of_getElem? (i := 13) rfl)) e815 F820 (hb hby da0_422) ?_
      intro T833 X834 e835
      refine g_iload X834 hx (hb hby da0_425) rfl ?_
      refine g_dloadN X834 hx (hb hby da0_427) rfl ?_
      refine g_dastore X834 hx hZ e835 F827 (i := 0) (by decide) (by decide) (by decide) (hb hby da0_428) ?_
      intro T836 h839 X837 e838 W840
      have F841 := F818.wr W840
      have F842 := F819.other W840 (Or.inl ne_q1_ma)
      have F843 := F820.other W840 (Or.inl ne_q1_ma)
      have F844 := F821.other W840 (Or.inl ne_q1_ma)
      have F845 := F822.other W840 (Or.inl ne_q1_ma)
      have F846 := F823.other W840 (Or.inl ne_q1_ma)
      have F847 := F824.other W840 (Or.inl ne_q1_ma)
      have F848 := F825.other W840 (Or.inl ne_q1_ma)
      have F849 := F826.other W840 ne_la_ma
      have F850 := F827.same W840
      have F851 := F828.other W840 ne_ma_si.symm
      have F852 := F829.other W840 ne_ma_rh.symm
      have F853 := F830.other W840 ne_ma_ex.symm
      have Z854 : n0 ≤ h839.size := by rw [W840.size]; exact Z831
      have N855 := Fr.snoc X837 N832 g_ma
      refine g_aloadN X837 hx (hb hby da0_429) rfl rfl ?_
      refine g_getF X837 hx hZ hown (hw _ (List.mem_of_getElem? (i := 15) rfl)) e838 F844 (hb hby da0_430) ?_
      intro T856 X857 e858
      refine g_iload X857 hx (hb hby da0_433) rfl ?_
      refine g_dload X857 hx (hb hby da0_435) rfl ?_
      refine g_dastore X857 hx hZ e858 F851 (i := 0) (by decide) (by decide) (by decide) (hb hby da0_437) ?_
      intro T859 h862 X860 e861 W863
      have F864 := F841.wr W863
      have F865 := F842.other W863 (Or.inl ne_q1_si)
      have F866 := F843.other W863 (Or.inl ne_q1_si)
      have F867 := F844.other W863 (Or.inl ne_q1_si)
      have F868 := F845.other W863 (Or.inl ne_q1_si)
      have F869 := F846.other W863 (Or.inl ne_q1_si)
      have F870 := F847.other W863 (Or.inl ne_q1_si)
      have F871 := F848.other W863 (Or.inl ne_q1_si)
      have F872 := F849.other W863 ne_la_si
      have F873 := F850.other W863 ne_ma_si
      have F874 := F851.same W863
      have F875 := F852.other W863 ne_si_rh.symm
      have F876 := F853.other W863 ne_si_ex.symm
      have Z877 : n0 ≤ h862.size := by rw [W863.size]; exact Z854
      have N878 := Fr.snoc X860 N855 g_si
      refine g_aloadN X860 hx (hb hby da0_438) rfl rfl ?_
      refine g_getF X860 hx hZ hown (hw _ (List.mem_of_getElem? (i := 17) rfl)) e861 F868 (hb hby da0_439) ?_
      intro T879 X880 e881
      refine g_iload X880 hx (hb hby da0_442) rfl ?_
      refine g_dload X880 hx (hb hby da0_444) rfl ?_
      refine g_dastore X880 hx hZ e881 F875 (i := 0) (by decide) (by decide) (by decide) (hb hby da0_446) ?_
      intro T882 h885 X883 e884 W886
      have F887 := F864.wr W886
      have F888 := F865.other W886 (Or.inl ne_q1_rh)
      have F889 := F866.other W886 (Or.inl ne_q1_rh)
      have F890 := F867.other W886 (Or.inl ne_q1_rh)
      have F891 := F868.other W886 (Or.inl ne_q1_rh)
      have F892 := F869.other W886 (Or.inl ne_q1_rh)
      have F893 := F870.other W886 (Or.inl ne_q1_rh)
      have F894 := F871.other W886 (Or.inl ne_q1_rh)
      have F895 := F872.other W886 ne_la_rh
      have F896 := F873.other W886 ne_ma_rh
      have F897 := F874.other W886 ne_si_rh
      have F898 := F875.same W886
      have F899 := F876.other W886 ne_rh_ex.symm
      have Z900 : n0 ≤ h885.size := by rw [W886.size]; exact Z877
      have N901 := Fr.snoc X883 N878 g_rh
      refine g_aloadN X883 hx (hb hby da0_447) rfl rfl ?_
      refine g_getF X883 hx hZ hown (hw _ (List.mem_of_getElem? (i := 20) rfl)) e884 F892 (hb hby da0_448) ?_
      intro T902 X903 e904
      refine g_iload X903 hx (hb hby da0_451) rfl ?_
      refine g_iconst X903 hx (hb hby da0_453) (v := (0 : Int32)) (by decide) ?_
      refine g_bastoreZ X903 hx hZ e904 F899 (i := 0) (by decide) (by decide) (by decide) (hb hby da0_454) ?_
      intro T905 h908 X906 e907 W909
      have F910 := F887.wr W909
      have F911 := F888.other W909 (Or.inl ne_q1_ex)
      have F912 := F889.other W909 (Or.inl ne_q1_ex)
      have F913 := F890.other W909 (Or.inl ne_q1_ex)
      have F914 := F891.other W909 (Or.inl ne_q1_ex)
      have F915 := F892.other W909 (Or.inl ne_q1_ex)
      have F916 := F893.other W909 (Or.inl ne_q1_ex)
      have F917 := F894.other W909 (Or.inl ne_q1_ex)
      have F918 := F895.other W909 ne_la_ex
      have F919 := F896.other W909 ne_ma_ex
      have F920 := F897.other W909 ne_si_ex
      have F921 := F898.other W909 ne_rh_ex
      have F922 := F899.same W909
      have Z923 : n0 ≤ h908.size := by rw [W909.size]; exact Z900
      have N924 := Fr.snoc X906 N901 g_ex
      refine g_aloadN X906 hx (hb hby da0_455) rfl rfl ?_
      refine g_iload X906 hx (hb hby da0_456) rfl ?_
      refine g_putF X906 hx hZ hown (hw _ (List.mem_of_getElem? (i := 30) rfl)) e907 F916 F910 (Or.inl (hw _ (List.mem_of_getElem? (i := 31) rfl))) (hw _ (List.mem_of_getElem? (i := 1) rfl)) (ty := .int) (by decide) rfl rfl (hb hby da0_458) ?_
      intro T925 h928 X926 e927 W929
      have F931 := F910.wr W929
      have F932 := F911.other W929 (Or.inr (slot_ne (Or.inl (hw _ (List.mem_of_getElem? (i := 11) rfl))) (Or.inl (hw _ (List.mem_of_getElem? (i := 31) rfl))) (by decide) (t := (.array .int)) (t' := .int) (by decide) (by decide)))
      have F933 := F912.other W929 (Or.inr (slot_ne (Or.inl (hw _ (List.mem_of_getElem? (i := 14) rfl))) (Or.inl (hw _ (List.mem_of_getElem? (i := 31) rfl))) (by decide) (t := (.array .double)) (t' := .int) (by decide) (by decide)))
      have F934 := F913.other W929 (Or.inr (slot_ne (Or.inl (hw _ (List.mem_of_getElem? (i := 16) rfl))) (Or.inl (hw _ (List.mem_of_getElem? (i := 31) rfl))) (by decide) (t := (.array .double)) (t' := .int) (by decide) (by decide)))
      have F935 := F914.other W929 (Or.inr (slot_ne (Or.inl (hw _ (List.mem_of_getElem? (i := 18) rfl))) (Or.inl (hw _ (List.mem_of_getElem? (i := 31) rfl))) (by decide) (t := (.array .double)) (t' := .int) (by decide) (by decide)))
      have F936 := F915.other W929 (Or.inr (slot_ne (Or.inl (hw _ (List.mem_of_getElem? (i := 21) rfl))) (Or.inl (hw _ (List.mem_of_getElem? (i := 31) rfl))) (by decide) (t := (.array .boolean)) (t' := .int) (by decide) (by decide)))
      have F937 := F917.other W929 (Or.inr (slot_ne (Or.inr (hw _ (List.mem_of_getElem? (i := 23) rfl))) (Or.inl (hw _ (List.mem_of_getElem? (i := 31) rfl))) (by decide) (t := .boolean) (t' := .int) (by decide) (by decide)))
      have F938 := F918.other W929 ne_q1_la.symm
      have F939 := F919.other W929 ne_q1_ma.symm
      have F940 := F920.other W929 ne_q1_si.symm
      have F941 := F921.other W929 ne_q1_rh.symm
      have F942 := F922.other W929 ne_q1_ex.symm
      have F943 := F916.same W929
      have Z944 : n0 ≤ h928.size := by rw [W929.size]; exact Z923
      have N945 := Fr.snoc X926 N924 g_q1
      refine g_iconst X926 hx (hb hby da0_461) (v := (1 : Int32)) (by decide) ?_
      refine g_ireturn X926 hx Bd.notSynchronized Bd.returns rfl (by simp) (hb hby da0_462) (by decide) (by decide) ?_
      rw [e927]
      exact ⟨rfl, N945, Z944, F931, F932, F933, F934, F935, F936, F943, F937, (F938.congr (fun j _ => own_uI _ _ _ j)), (F939.congr (fun j _ => own_uD _ _ _ j)), (F940.congr (fun j _ => own_uD _ _ _ j)), (F941.congr (fun j _ => own_uD _ _ _ j)), (F942.congr (fun j _ => own_uI _ _ _ j)), own_uB hB (Or.inl rfl), ⟨⟨ne_q1_la, ne_q1_ma, ne_q1_si, ne_q1_rh, ne_q1_ex, ne_la_ma, ne_la_si, ne_la_rh, ne_la_ex, ne_ma_si, ne_ma_rh, ne_ma_ex, ne_si_rh, ne_si_ex, ne_rh_ex⟩, ⟨g_q1, g_la, g_ma, g_si, g_rh, g_ex⟩⟩⟩
    ·
      refine g_ifNo X636 hx (hb hby da0_134) (feq hc134_638).1 ?_
      refine g_iload X636 hx (hb hby da0_137) rfl ?_
      have hc139_946 : ¬ ((0 : Int32) < (0 : Int32)) := (by decide)
      refine g_ifYes X636 hx (hb hby da0_139) (flt hc139_946).2.2.2 (by decide) (pc' := 163) (by decide) ?_
      refine g_iload X636 hx (hb hby da0_163) rfl ?_
      refine g_istore X636 hx (hb hby da0_165) (L' := #[.val (.ref q1), .val (.int (10 : Int32)), .val (.double (4613937818241073152 : UInt64)), .second, .val (.double (4613937818241073152 : UInt64)), .second, .val (.double (4607182418800017408 : UInt64)), .second, .val (.int (0 : Int32)), .val (.int (0 : Int32)), .val (.int (0 : Int32)), .val (.int (0 : Int32)), .unset, .unset]) rfl ?_
      refine g_iload X636 hx (hb hby da0_167) rfl ?_
      refine g_aloadN X636 hx (hb hby da0_169) rfl rfl ?_
      refine g_getF X636 hx hZ hown (hw _ (List.mem_of_getElem? (i := 30) rfl)) e637 F_sz (hb hby da0_170) ?_
      intro T947 X948 e949
      have hc173_950 : ¬ ((0 : Int32) < (0 : Int32)) := (by decide)
      refine g_icmpYes X948 hx (hb hby da0_173) (flt hc173_950).2.1 (by decide) (pc' := 195) (by decide) ?_
      refine g_aloadN X948 hx (hb hby da0_195) rfl rfl ?_
      refine g_getF X948 hx hZ hown (hw _ (List.mem_of_getElem? (i := 30) rfl)) e949 F_sz (hb hby da0_196) ?_
      intro T951 X952 e953
      refine g_iload X952 hx (hb hby da0_199) rfl ?_
      refine g_iload X952 hx (hb hby da0_201) rfl ?_
      refine g_isub X952 hx (hb hby da0_203) (show (0 : Int32) - (0 : Int32) = (0 : Int32) from by decide) ?_
      refine g_isub X952 hx (hb hby da0_204) (show (0 : Int32) - (0 : Int32) = (0 : Int32) from by decide) ?_
      refine g_iconst X952 hx (hb hby da0_205) (v := (1 : Int32)) (by decide) ?_
      refine g_iadd X952 hx (hb hby da0_206) (show (0 : Int32) + (1 : Int32) = (1 : Int32) from by decide) ?_
      refine g_istore X952 hx (hb hby da0_207) (L' := #[.val (.ref q1), .val (.int (10 : Int32)), .val (.double (4613937818241073152 : UInt64)), .second, .val (.double (4613937818241073152 : UInt64)), .second, .val (.double (4607182418800017408 : UInt64)), .second, .val (.int (0 : Int32)), .val (.int (0 : Int32)), .val (.int (0 : Int32)), .val (.int (0 : Int32)), .val (.int (1 : Int32)), .unset]) rfl ?_
      refine g_iload X952 hx (hb hby da0_209) rfl ?_
      refine g_aloadN X952 hx (hb hby da0_211) rfl rfl ?_
      refine g_getF X952 hx hZ hown (hw _ (List.mem_of_getElem? (i := 10) rfl)) e953 F_la (hb hby da0_212) ?_
      intro T954 X955 e956
      refine g_arraylength X955 hx hZ e956 A_la (show Nat.toInt32 4 = (4 : Int32) from by decide) (hb hby da0_215) ?_
      have hc216_957 : ¬ ((4 : Int32) < (1 : Int32)) := (by decide)
      refine g_icmpYes X955 hx (hb hby da0_216) (flt hc216_957).2.2.2 (by decide) (pc' := 293) (by decide) ?_
      refine g_aloadN X955 hx (hb hby da0_293) rfl rfl ?_
      refine g_getF X955 hx hZ hown (hw _ (List.mem_of_getElem? (i := 10) rfl)) e956 F_la (hb hby da0_294) ?_
      intro T958 X959 e960
      refine g_iload X959 hx (hb hby da0_297) rfl ?_
      refine g_aloadN X959 hx (hb hby da0_299) rfl rfl ?_
      refine g_getF X959 hx hZ hown (hw _ (List.mem_of_getElem? (i := 10) rfl)) e960 F_la (hb hby da0_300) ?_
      intro T961 X962 e963
      refine g_iload X962 hx (hb hby da0_303) rfl ?_
      refine g_iconst X962 hx (hb hby da0_305) (v := (1 : Int32)) (by decide) ?_
      refine g_iadd X962 hx (hb hby da0_306) (show (0 : Int32) + (1 : Int32) = (1 : Int32) from by decide) ?_
      refine g_aloadN X962 hx (hb hby da0_307) rfl rfl ?_
      refine g_getF X962 hx hZ hown (hw _ (List.mem_of_getElem? (i := 30) rfl)) e963 F_sz (hb hby da0_308) ?_
      intro T964 X965 e966
      refine g_iload X965 hx (hb hby da0_311) rfl ?_
      refine g_isub X965 hx (hb hby da0_313) (show (0 : Int32) - (0 : Int32) = (0 : Int32) from by decide) ?_
      refine g_acp0 X965 hx hZ hown (hw _ (List.mem_of_getElem? (i := 32) rfl)) (hw _ (List.mem_of_getElem? (i := 35) rfl)) (hw _ (List.mem_of_getElem? (i := 33) rfl)) (hw _ (List.mem_of_getElem? (i := 34) rfl)) e966 A_la rfl (fun _ _ => rfl) (z := 4) (by decide) (by decide) (by decide) (by decide) (by decide) (by decide) N0 g_la (by rw [hml]; rfl) (hb hby da0_314) (by decide) (by decide) ?_
      intro T967 h968 L969 X970 e971 N972 K973 F974
      have F975 := E0.keep K973
      have F976 := F_la.keep K973 (ninS ne_q1_la nin0)
      have F978 := F_ma.keep K973 (ninS ne_q1_la nin0)
      have F979 := A_ma.keep K973 (ninS ne_la_ma.symm nin0)
      have F980 := F_si.keep K973 (ninS ne_q1_la nin0)
      have F981 := A_si.keep K973 (ninS ne_la_si.symm nin0)
      have F982 := F_rh.keep K973 (ninS ne_q1_la nin0)
      have F983 := A_rh.keep K973 (ninS ne_la_rh.symm nin0)
      have F984 := F_ex.keep K973 (ninS ne_q1_la nin0)
      have F985 := A_ex.keep K973 (ninS ne_la_ex.symm nin0)
      have F986 := F_sz.keep K973 (ninS ne_q1_la nin0)
      have F987 := F_fg.keep K973 (ninS ne_q1_la nin0)
      have Z988 : n0 ≤ h968.size := Nat.le_trans Z0 K973.1
      refine g_aloadN X970 hx (hb hby da0_317) rfl rfl ?_
      refine g_getF X970 hx hZ hown (hw _ (List.mem_of_getElem? (i := 13) rfl)) e971 F978 (hb hby da0_318) ?_
      intro T990 X991 e992
      refine g_iload X991 hx (hb hby da0_321) rfl ?_
      refine g_aloadN X991 hx (hb hby da0_323) rfl rfl ?_
      refine g_getF X991 hx hZ hown (hw _ (List.mem_of_getElem? (i := 13) rfl)) e992 F978 (hb hby da0_324) ?_
      intro T993 X994 e995
      refine g_iload X994 hx (hb hby da0_327) rfl ?_
      refine g_iconst X994 hx (hb hby da0_329) (v := (1 : Int32)) (by decide) ?_
      refine g_iadd X994 hx (hb hby da0_330) (show (0 : Int32) + (1 : Int32) = (1 : Int32) from by decide) ?_
      refine g_aloadN X994 hx (hb hby da0_331) rfl rfl ?_
      refine g_getF X994 hx hZ hown (hw _ (List.mem_of_getElem? (i := 30) rfl)) e995 F986 (hb hby da0_332) ?_
      intro T996 X997 e998
      refine g_iload X997 hx (hb hby da0_335) rfl ?_
      refine g_isub X997 hx (hb hby da0_337) (show (0 : Int32) - (0 : Int32) = (0 : Int32) from by decide) ?_
      refine g_acp0 X997 hx hZ hown (hw _ (List.mem_of_getElem? (i := 32) rfl)) (hw _ (List.mem_of_getElem? (i := 35) rfl)) (hw _ (List.mem_of_getElem? (i := 33) rfl)) (hw _ (List.mem_of_getElem? (i := 34) rfl)) e998 F979 rfl (fun _ _ => rfl) (z := 4) (by decide) (by decide) (by decide) (by decide) (by decide) (by decide) N972 g_ma (by rw [hml]; rfl) (hb hby da0_338) (by decide) (by decide) ?_
      intro T999 h1000 L1001 X1002 e1003 N1004 K1005 F1006
      have F1007 := F975.keep K1005
      have F1008 := F976.keep K1005 (ninS ne_q1_ma nin0)
      have F1009 := F978.keep K1005 (ninS ne_q1_ma nin0)
      have F1011 := F980.keep K1005 (ninS ne_q1_ma nin0)
      have F1012 := F981.keep K1005 (ninS ne_ma_si.symm nin0)
      have F1013 := F982.keep K1005 (ninS ne_q1_ma nin0)
      have F1014 := F983.keep K1005 (ninS ne_ma_rh.symm nin0)
      have F1015 := F984.keep K1005 (ninS ne_q1_ma nin0)
      have F1016 := F985.keep K1005 (ninS ne_ma_ex.symm nin0)
      have F1017 := F986.keep K1005 (ninS ne_q1_ma nin0)
      have F1018 := F987.keep K1005 (ninS ne_q1_ma nin0)
      have F1019 := F974.keep K1005 (ninS ne_la_ma nin0)
      have Z1020 : n0 ≤ h1000.size := Nat.le_trans Z988 K1005.1
      refine g_aloadN X1002 hx (hb hby da0_341) rfl rfl ?_
      refine g_getF X1002 hx hZ hown (hw _ (List.mem_of_getElem? (i := 15) rfl)) e1003 F1011 (hb hby da0_342) ?_
      intro T1022 X1023 e1024
      refine g_iload X1023 hx (hb hby da0_345) rfl ?_
      refine g_aloadN X1023 hx (hb hby da0_347) rfl rfl ?_
      refine g_getF X1023 hx hZ hown (hw _ (List.mem_of_getElem? (i := 15) rfl)) e1024 F1011 (hb hby da0_348) ?_
      intro T1025 X1026 e1027
      refine g_iload X1026 hx (hb hby da0_351) rfl ?_
      refine g_iconst X1026 hx (hb hby da0_353) (v := (1 : Int32)) (by decide) ?_
      refine g_iadd X1026 hx (hb hby da0_354) (show (0 : Int32) + (1 : Int32) = (1 : Int32) from by decide) ?_
      refine g_aloadN X1026 hx (hb hby da0_355) rfl rfl ?_
      refine g_getF X1026 hx hZ hown (hw _ (List.mem_of_getElem? (i := 30) rfl)) e1027 F1017 (hb hby da0_356) ?_
      intro T1028 X1029 e1030
      refine g_iload X1029 hx (hb hby da0_359) rfl ?_
      refine g_isub X1029 hx (hb hby da0_361) (show (0 : Int32) - (0 : Int32) = (0 : Int32) from by decide) ?_
      refine g_acp0 X1029 hx hZ hown (hw _ (List.mem_of_getElem? (i := 32) rfl)) (hw _ (List.mem_of_getElem? (i := 35) rfl)) (hw _ (List.mem_of_getElem? (i := 33) rfl)) (hw _ (List.mem_of_getElem? (i := 34) rfl)) e1030 F1012 rfl (fun _ _ => rfl) (z := 4) (by decide) (by decide) (by decide) (by decide) (by decide) (by decide) N1004 g_si (by rw [hml]; rfl) (hb hby da0_362) (by decide) (by decide) ?_
      intro T1031 h1032 L1033 X1034 e1035 N1036 K1037 F1038
      have F1039 := F1007.keep K1037
      have F1040 := F1008.keep K1037 (ninS ne_q1_si nin0)
      have F1041 := F1009.keep K1037 (ninS ne_q1_si nin0)
      have F1042 := F1011.keep K1037 (ninS ne_q1_si nin0)
      have F1044 := F1013.keep K1037 (ninS ne_q1_si nin0)
      have F1045 := F1014.keep K1037 (ninS ne_si_rh.symm nin0)
      have F1046 := F1015.keep K1037 (ninS ne_q1_si nin0)
      have F1047 := F1016.keep K1037 (ninS ne_si_ex.symm nin0)
      have F1048 := F1017.keep K1037 (ninS ne_q1_si nin0)
      have F1049 := F1018.keep K1037 (ninS ne_q1_si nin0)
      have F1050 := F1019.keep K1037 (ninS ne_la_si nin0)
      have F1051 := F1006.keep K1037 (ninS ne_ma_si nin0)
      have Z1052 : n0 ≤ h1032.size := Nat.le_trans Z1020 K1037.1
      refine g_aloadN X1034 hx (hb hby da0_365) rfl rfl ?_
      refine g_getF X1034 hx hZ hown (hw _ (List.mem_of_getElem? (i := 17) rfl)) e1035 F1044 (hb hby da0_366) ?_
      intro T1054 X1055 e1056
      refine g_iload X1055 hx (hb hby da0_369) rfl ?_
      refine g_aloadN X1055 hx (hb hby da0_371) rfl rfl ?_
      refine g_getF X1055 hx hZ hown (hw _ (List.mem_of_getElem? (i := 17) rfl)) e1056 F1044 (hb hby da0_372) ?_
      intro T1057 X1058 e1059
      refine g_iload X1058 hx (hb hby da0_375) rfl ?_
      refine g_iconst X1058 hx (hb hby da0_377) (v := (1 : Int32)) (by decide) ?_
      refine g_iadd X1058 hx (hb hby da0_378) (show (0 : Int32) + (1 : Int32) = (1 : Int32) from by decide) ?_
      refine g_aloadN X1058 hx (hb hby da0_379) rfl rfl ?_
      refine g_getF X1058 hx hZ hown (hw _ (List.mem_of_getElem? (i := 30) rfl)) e1059 F1048 (hb hby da0_380) ?_
      intro T1060 X1061 e1062
      refine g_iload X1061 hx (hb hby da0_383) rfl ?_
      refine g_isub X1061 hx (hb hby da0_385) (show (0 : Int32) - (0 : Int32) = (0 : Int32) from by decide) ?_
      refine g_acp0 X1061 hx hZ hown (hw _ (List.mem_of_getElem? (i := 32) rfl)) (hw _ (List.mem_of_getElem? (i := 35) rfl)) (hw _ (List.mem_of_getElem? (i := 33) rfl)) (hw _ (List.mem_of_getElem? (i := 34) rfl)) e1062 F1045 rfl (fun _ _ => rfl) (z := 4) (by decide) (by decide) (by decide) (by decide) (by decide) (by decide) N1036 g_rh (by rw [hml]; rfl) (hb hby da0_386) (by decide) (by decide) ?_
      intro T1063 h1064 L1065 X1066 e1067 N1068 K1069 F1070
      have F1071 := F1039.keep K1069
      have F1072 := F1040.keep K1069 (ninS ne_q1_rh nin0)
      have F1073 := F1041.keep K1069 (ninS ne_q1_rh nin0)
      have F1074 := F1042.keep K1069 (ninS ne_q1_rh nin0)
      have F1075 := F1044.keep K1069 (ninS ne_q1_rh nin0)
      have F1077 := F1046.keep K1069 (ninS ne_q1_rh nin0)
      have F1078 := F1047.keep K1069 (ninS ne_rh_ex.symm nin0)
      have F1079 := F1048.keep K1069 (ninS ne_q1_rh nin0)
      have F1080 := F1049.keep K1069 (ninS ne_q1_rh nin0)
      have F1081 := F1050.keep K1069 (ninS ne_la_rh nin0)
      have F1082 := F1051.keep K1069 (ninS ne_ma_rh nin0)
      have F1083 := F1038.keep K1069 (ninS ne_si_rh nin0)
      have Z1084 : n0 ≤ h1064.size := Nat.le_trans Z1052 K1069.1
      refine g_aloadN X1066 hx (hb hby da0_389) rfl rfl ?_
      refine g_getF X1066 hx hZ hown (hw _ (List.mem_of_getElem? (i := 20) rfl)) e1067 F1077 (hb hby da0_390) ?_
      intro T1086 X1087 e1088
      refine g_iload X1087 hx (hb hby da0_393) rfl ?_
      refine g_aloadN X1087 hx (hb hby da0_395) rfl rfl ?_
      refine g_getF X1087 hx hZ hown (hw _ (List.mem_of_getElem? (i := 20) rfl)) e1088 F1077 (hb hby da0_396) ?_
      intro T1089 X1090 e1091
      refine g_iload X1090 hx (hb hby da0_399) rfl ?_
      refine g_iconst X1090 hx (hb hby da0_401) (v := (1 : Int32)) (by decide) ?_
      refine g_iadd X1090 hx (hb hby da0_402) (show (0 : Int32) + (1 : Int32) = (1 : Int32) from by decide) ?_
      refine g_aloadN X1090 hx (hb hby da0_403) rfl rfl ?_
      refine g_getF X1090 hx hZ hown (hw _ (List.mem_of_getElem? (i := 30) rfl)) e1091 F1079 (hb hby da0_404) ?_
      intro T1092 X1093 e1094
      refine g_iload X1093 hx (hb hby da0_407) rfl ?_
      refine g_isub X1093 hx (hb hby da0_409) (show (0 : Int32) - (0 : Int32) = (0 : Int32) from by decide) ?_
      refine g_acp0 X1093 hx hZ hown (hw _ (List.mem_of_getElem? (i := 32) rfl)) (hw _ (List.mem_of_getElem? (i := 35) rfl)) (hw _ (List.mem_of_getElem? (i := 33) rfl)) (hw _ (List.mem_of_getElem? (i := 34) rfl)) e1094 F1078 rfl (own_fitB hB) (z := 4) (by decide) (by decide) (by decide) (by decide) (by decide) (by decide) N1068 g_ex (by rw [hml]; rfl) (hb hby da0_410) (by decide) (by decide) ?_
      intro T1095 h1096 L1097 X1098 e1099 N1100 K1101 F1102
      have F1103 := F1071.keep K1101
      have F1104 := F1072.keep K1101 (ninS ne_q1_ex nin0)
      have F1105 := F1073.keep K1101 (ninS ne_q1_ex nin0)
      have F1106 := F1074.keep K1101 (ninS ne_q1_ex nin0)
      have F1107 := F1075.keep K1101 (ninS ne_q1_ex nin0)
      have F1108 := F1077.keep K1101 (ninS ne_q1_ex nin0)
      have F1110 := F1079.keep K1101 (ninS ne_q1_ex nin0)
      have F1111 := F1080.keep K1101 (ninS ne_q1_ex nin0)
      have F1112 := F1081.keep K1101 (ninS ne_la_ex nin0)
      have F1113 := F1082.keep K1101 (ninS ne_ma_ex nin0)
      have F1114 := F1083.keep K1101 (ninS ne_si_ex nin0)
      have F1115 := F1070.keep K1101 (ninS ne_rh_ex nin0)
      have Z1116 : n0 ≤ h1096.size := Nat.le_trans Z1084 K1101.1
      refine g_aloadN X1098 hx (hb hby da0_413) rfl rfl ?_
      refine g_getF X1098 hx hZ hown (hw _ (List.mem_of_getElem? (i := 10) rfl)) e1099 F1104 (hb hby da0_414) ?_
      intro T1118 X1119 e1120
      refine g_iload X1119 hx (hb hby da0_417) rfl ?_
      refine g_iloadN X1119 hx (hb hby da0_419) rfl ?_
      refine g_iastore X1119 hx hZ e1120 F1112 (i := 0) (by decide) (by decide) (by decide) (hb hby da0_420) ?_
      intro T1121 h1124 X1122 e1123 W1125
      have F1126 := F1103.wr W1125
      have F1127 := F1104.other W1125 (Or.inl ne_q1_la)
      have F1128 := F1105.other W1125 (Or.inl ne_q1_la)
      have F1129 := F1106.other W1125 (Or.inl ne_q1_la)
      have F1130 := F1107.other W1125 (Or.inl ne_q1_la)
      have F1131 := F1108.other W1125 (Or.inl ne_q1_la)
      have F1132 := F1110.other W1125 (Or.inl ne_q1_la)
      have F1133 := F1111.other W1125 (Or.inl ne_q1_la)
      have F1134 := F1112.same W1125
      have F1135 := F1113.other W1125 ne_la_ma.symm
      have F1136 := F1114.other W1125 ne_la_si.symm
      have F1137 := F1115.other W1125 ne_la_rh.symm
      have F1138 := F1102.other W1125 ne_la_ex.symm
      have Z1139 : n0 ≤ h1124.size := by rw [W1125.size]; exact Z1116
      have N1140 := Fr.snoc X1122 N1100 g_la
      refine g_aloadN X1122 hx (hb hby da0_421) rfl rfl ?_
      refine g_getF X1122 hx hZ hown (hw _ (List.mem_of_getElem? (i := 13) rfl)) e1123 F1128 (hb hby da0_422) ?_
      intro T1141 X1142 e1143
      refine g_iload X1142 hx (hb hby da0_425) rfl ?_
      refine g_dloadN X1142 hx (hb hby da0_427) rfl ?_
      refine g_dastore X1142 hx hZ e1143 F1135 (i := 0) (by decide) (by decide) (by decide) (hb hby da0_428) ?_
      intro T1144 h1147 X1145 e1146 W1148
      have F1149 := F1126.wr W1148
      have F1150 := F1127.other W1148 (Or.inl ne_q1_ma)
      have F1151 := F1128.other W1148 (Or.inl ne_q1_ma)
      have F1152 := F1129.other W1148 (Or.inl ne_q1_ma)
      have F1153 := F1130.other W1148 (Or.inl ne_q1_ma)
      have F1154 := F1131.other W1148 (Or.inl ne_q1_ma)
      have F1155 := F1132.other W1148 (Or.inl ne_q1_ma)
      have F1156 := F1133.other W1148 (Or.inl ne_q1_ma)
      have F1157 := F1134.other W1148 ne_la_ma
      have F1158 := F1135.same W1148
      have F1159 := F1136.other W1148 ne_ma_si.symm
      have F1160 := F1137.other W1148 ne_ma_rh.symm
      have F1161 := F1138.other W1148 ne_ma_ex.symm
      have Z1162 : n0 ≤ h1147.size := by rw [W1148.size]; exact Z1139
      have N1163 := Fr.snoc X1145 N1140 g_ma
      refine g_aloadN X1145 hx (hb hby da0_429) rfl rfl ?_
      refine g_getF X1145 hx hZ hown (hw _ (List.mem_of_getElem? (i := 15) rfl)) e1146 F1152 (hb hby da0_430) ?_
      intro T1164 X1165 e1166
      refine g_iload X1165 hx (hb hby da0_433) rfl ?_
      refine g_dload X1165 hx (hb hby da0_435) rfl ?_
      refine g_dastore X1165 hx hZ e1166 F1159 (i := 0) (by decide) (by decide) (by decide) (hb hby da0_437) ?_
      intro T1167 h1170 X1168 e1169 W1171
      have F1172 := F1149.wr W1171
      have F1173 := F1150.other W1171 (Or.inl ne_q1_si)
      have F1174 := F1151.other W1171 (Or.inl ne_q1_si)
      have F1175 := F1152.other W1171 (Or.inl ne_q1_si)
      have F1176 := F1153.other W1171 (Or.inl ne_q1_si)
      have F1177 := F1154.other W1171 (Or.inl ne_q1_si)
      have F1178 := F1155.other W1171 (Or.inl ne_q1_si)
      have F1179 := F1156.other W1171 (Or.inl ne_q1_si)
      have F1180 := F1157.other W1171 ne_la_si
      have F1181 := F1158.other W1171 ne_ma_si
      have F1182 := F1159.same W1171
      have F1183 := F1160.other W1171 ne_si_rh.symm
      have F1184 := F1161.other W1171 ne_si_ex.symm
      have Z1185 : n0 ≤ h1170.size := by rw [W1171.size]; exact Z1162
      have N1186 := Fr.snoc X1168 N1163 g_si
      refine g_aloadN X1168 hx (hb hby da0_438) rfl rfl ?_
      refine g_getF X1168 hx hZ hown (hw _ (List.mem_of_getElem? (i := 17) rfl)) e1169 F1176 (hb hby da0_439) ?_
      intro T1187 X1188 e1189
      refine g_iload X1188 hx (hb hby da0_442) rfl ?_
      refine g_dload X1188 hx (hb hby da0_444) rfl ?_
      refine g_dastore X1188 hx hZ e1189 F1183 (i := 0) (by decide) (by decide) (by decide) (hb hby da0_446) ?_
      intro T1190 h1193 X1191 e1192 W1194
      have F1195 := F1172.wr W1194
      have F1196 := F1173.other W1194 (Or.inl ne_q1_rh)
      have F1197 := F1174.other W1194 (Or.inl ne_q1_rh)
      have F1198 := F1175.other W1194 (Or.inl ne_q1_rh)
      have F1199 := F1176.other W1194 (Or.inl ne_q1_rh)
      have F1200 := F1177.other W1194 (Or.inl ne_q1_rh)
      have F1201 := F1178.other W1194 (Or.inl ne_q1_rh)
      have F1202 := F1179.other W1194 (Or.inl ne_q1_rh)
      have F1203 := F1180.other W1194 ne_la_rh
      have F1204 := F1181.other W1194 ne_ma_rh
      have F1205 := F1182.other W1194 ne_si_rh
      have F1206 := F1183.same W1194
      have F1207 := F1184.other W1194 ne_rh_ex.symm
      have Z1208 : n0 ≤ h1193.size := by rw [W1194.size]; exact Z1185
      have N1209 := Fr.snoc X1191 N1186 g_rh
      refine g_aloadN X1191 hx (hb hby da0_447) rfl rfl ?_
      refine g_getF X1191 hx hZ hown (hw _ (List.mem_of_getElem? (i := 20) rfl)) e1192 F1200 (hb hby da0_448) ?_
      intro T1210 X1211 e1212
      refine g_iload X1211 hx (hb hby da0_451) rfl ?_
      refine g_iconst X1211 hx (hb hby da0_453) (v := (0 : Int32)) (by decide) ?_
      refine g_bastoreZ X1211 hx hZ e1212 F1207 (i := 0) (by decide) (by decide) (by decide) (hb hby da0_454) ?_
      intro T1213 h1216 X1214 e1215 W1217
      have F1218 := F1195.wr W1217
      have F1219 := F1196.other W1217 (Or.inl ne_q1_ex)
      have F1220 := F1197.other W1217 (Or.inl ne_q1_ex)
      have F1221 := F1198.other W1217 (Or.inl ne_q1_ex)
      have F1222 := F1199.other W1217 (Or.inl ne_q1_ex)
      have F1223 := F1200.other W1217 (Or.inl ne_q1_ex)
      have F1224 := F1201.other W1217 (Or.inl ne_q1_ex)
      have F1225 := F1202.other W1217 (Or.inl ne_q1_ex)
      have F1226 := F1203.other W1217 ne_la_ex
      have F1227 := F1204.other W1217 ne_ma_ex
      have F1228 := F1205.other W1217 ne_si_ex
      have F1229 := F1206.other W1217 ne_rh_ex
      have F1230 := F1207.same W1217
      have Z1231 : n0 ≤ h1216.size := by rw [W1217.size]; exact Z1208
      have N1232 := Fr.snoc X1214 N1209 g_ex
      refine g_aloadN X1214 hx (hb hby da0_455) rfl rfl ?_
      refine g_iload X1214 hx (hb hby da0_456) rfl ?_
      refine g_putF X1214 hx hZ hown (hw _ (List.mem_of_getElem? (i := 30) rfl)) e1215 F1224 F1218 (Or.inl (hw _ (List.mem_of_getElem? (i := 31) rfl))) (hw _ (List.mem_of_getElem? (i := 1) rfl)) (ty := .int) (by decide) rfl rfl (hb hby da0_458) ?_
      intro T1233 h1236 X1234 e1235 W1237
      have F1239 := F1218.wr W1237
      have F1240 := F1219.other W1237 (Or.inr (slot_ne (Or.inl (hw _ (List.mem_of_getElem? (i := 11) rfl))) (Or.inl (hw _ (List.mem_of_getElem? (i := 31) rfl))) (by decide) (t := (.array .int)) (t' := .int) (by decide) (by decide)))
      have F1241 := F1220.other W1237 (Or.inr (slot_ne (Or.inl (hw _ (List.mem_of_getElem? (i := 14) rfl))) (Or.inl (hw _ (List.mem_of_getElem? (i := 31) rfl))) (by decide) (t := (.array .double)) (t' := .int) (by decide) (by decide)))
      have F1242 := F1221.other W1237 (Or.inr (slot_ne (Or.inl (hw _ (List.mem_of_getElem? (i := 16) rfl))) (Or.inl (hw _ (List.mem_of_getElem? (i := 31) rfl))) (by decide) (t := (.array .double)) (t' := .int) (by decide) (by decide)))
      have F1243 := F1222.other W1237 (Or.inr (slot_ne (Or.inl (hw _ (List.mem_of_getElem? (i := 18) rfl))) (Or.inl (hw _ (List.mem_of_getElem? (i := 31) rfl))) (by decide) (t := (.array .double)) (t' := .int) (by decide) (by decide)))
      have F1244 := F1223.other W1237 (Or.inr (slot_ne (Or.inl (hw _ (List.mem_of_getElem? (i := 21) rfl))) (Or.inl (hw _ (List.mem_of_getElem? (i := 31) rfl))) (by decide) (t := (.array .boolean)) (t' := .int) (by decide) (by decide)))
      have F1245 := F1225.other W1237 (Or.inr (slot_ne (Or.inr (hw _ (List.mem_of_getElem? (i := 23) rfl))) (Or.inl (hw _ (List.mem_of_getElem? (i := 31) rfl))) (by decide) (t := .boolean) (t' := .int) (by decide) (by decide)))
      have F1246 := F1226.other W1237 ne_q1_la.symm
      have F1247 := F1227.other W1237 ne_q1_ma.symm
      have F1248 := F1228.other W1237 ne_q1_si.symm
      have F1249 := F1229.other W1237 ne_q1_rh.symm
      have F1250 := F1230.other W1237 ne_q1_ex.symm
      have F1251 := F1224.same W1237
      have Z1252 : n0 ≤ h1236.size := by rw [W1237.size]; exact Z1231
      have N1253 := Fr.snoc X1234 N1232 g_q1
      refine g_iconst X1234 hx (hb hby da0_461) (v := (1 : Int32)) (by decide) ?_
      refine g_ireturn X1234 hx Bd.notSynchronized Bd.returns rfl (by simp) (hb hby da0_462) (by decide) (by decide) ?_
      rw [e1235]
      exact ⟨rfl, N1253, Z1252, F1239, F1240, F1241, F1242, F1243, F1244, F1251, F1245, (F1246.congr (fun j _ => own_uI _ _ _ j)), (F1247.congr (fun j _ => own_uD _ _ _ j)), (F1248.congr (fun j _ => own_uD _ _ _ j)), (F1249.congr (fun j _ => own_uD _ _ _ j)), (F1250.congr (fun j _ => own_uI _ _ _ j)), own_uB hB (Or.inl rfl), ⟨⟨ne_q1_la, ne_q1_ma, ne_q1_si, ne_q1_rh, ne_q1_ex, ne_la_ma, ne_la_si, ne_la_rh, ne_la_ex, ne_ma_si, ne_ma_rh, ne_ma_ex, ne_si_rh, ne_si_ex, ne_rh_ex⟩, ⟨g_q1, g_la, g_ma, g_si, g_rh, g_ex⟩⟩⟩
theorem da1_0 : decode prog_29_method_2_code 0 = .ok (.iconst 0, 1) := by decide +kernel
theorem da1_1 : decode prog_29_method_2_code 1 = .ok (.istore 8, 2) := by decide +kernel
theorem da1_3 : decode prog_29_method_2_code 3 = .ok (.aload_n 0, 1) := by decide +kernel
theorem da1_4 : decode prog_29_method_2_code 4 = .ok (.getfield 31, 3) := by decide +kernel
theorem da1_7 : decode prog_29_method_2_code 7 = .ok (.istore 9, 2) := by decide +kernel
theorem da1_9 : decode prog_29_method_2_code 9 = .ok (.iload 8, 2) := by decide +kernel
theorem da1_11 : decode prog_29_method_2_code 11 = .ok (.iload 9, 2) := by decide +kernel
theorem da1_13 : decode prog_29_method_2_code 13 = .ok (.if_icmp .ge 40, 3) := by decide +kernel
theorem da1_16 : decode prog_29_method_2_code 16 = .ok (.iload 8, 2) := by decide +kernel
theorem da1_18 : decode prog_29_method_2_code 18 = .ok (.iload 9, 2) := by decide +kernel
theorem da1_20 : decode prog_29_method_2_code 20 = .ok (.iadd, 1) := by decide +kernel
theorem da1_21 : decode prog_29_method_2_code 21 = .ok (.iconst 1, 1) := by decide +kernel
theorem da1_22 : decode prog_29_method_2_code 22 = .ok (.iushr, 1) := by decide +kernel
theorem da1_23 : decode prog_29_method_2_code 23 = .ok (.istore 10, 2) := by decide +kernel
theorem da1_25 : decode prog_29_method_2_code 25 = .ok (.aload_n 0, 1) := by decide +kernel
theorem da1_26 : decode prog_29_method_2_code 26 = .ok (.getfield 13, 3) := by decide +kernel
theorem da1_29 : decode prog_29_method_2_code 29 = .ok (.iload 10, 2) := by decide +kernel
theorem da1_31 : decode prog_29_method_2_code 31 = .ok (.daload, 1) := by decide +kernel
theorem da1_32 : decode prog_29_method_2_code 32 = .ok (.dload_n 2, 1) := by decide +kernel
theorem da1_33 : decode prog_29_method_2_code 33 = .ok (.dcmp .l, 1) := by decide +kernel
theorem da1_34 : decode prog_29_method_2_code 34 = .ok (.ifCond .lt 12, 3) := by decide +kernel
theorem da1_37 : decode prog_29_method_2_code 37 = .ok (.iload 10, 2) := by decide +kernel
theorem da1_39 : decode prog_29_method_2_code 39 = .ok (.iconst 1, 1) := by decide +kernel
theorem da1_40 : decode prog_29_method_2_code 40 = .ok (.iadd, 1) := by decide +kernel
theorem da1_41 : decode prog_29_method_2_code 41 = .ok (.istore 8, 2) := by decide +kernel
theorem da1_43 : decode prog_29_method_2_code 43 = .ok (.goto 7, 3) := by decide +kernel
theorem da1_50 : decode prog_29_method_2_code 50 = .ok (.goto (-41), 3) := by decide +kernel
theorem da1_53 : decode prog_29_method_2_code 53 = .ok (.iload 8, 2) := by decide +kernel
theorem da1_55 : decode prog_29_method_2_code 55 = .ok (.ifCond .le 18, 3) := by decide +kernel
theorem da1_58 : decode prog_29_method_2_code 58 = .ok (.aload_n 0, 1) := by decide +kernel
theorem da1_59 : decode prog_29_method_2_code 59 = .ok (.getfield 17, 3) := by decide +kernel
theorem da1_62 : decode prog_29_method_2_code 62 = .ok (.iload 8, 2) := by decide +kernel
theorem da1_64 : decode prog_29_method_2_code 64 = .ok (.iconst 1, 1) := by decide +kernel
theorem da1_65 : decode prog_29_method_2_code 65 = .ok (.isub, 1) := by decide +kernel
theorem da1_66 : decode prog_29_method_2_code 66 = .ok (.daload, 1) := by decide +kernel
theorem da1_67 : decode prog_29_method_2_code 67 = .ok (.dload 4, 2) := by decide +kernel
theorem da1_69 : decode prog_29_method_2_code 69 = .ok (.dcmp .g, 1) := by decide +kernel
theorem da1_70 : decode prog_29_method_2_code 70 = .ok (.ifCond .le 32, 3) := by decide +kernel
theorem da1_73 : decode prog_29_method_2_code 73 = .ok (.aload_n 0, 1) := by decide +kernel
theorem da1_74 : decode prog_29_method_2_code 74 = .ok (.getfield 27, 3) := by decide +kernel
theorem da1_77 : decode prog_29_method_2_code 77 = .ok (.ifCond .eq 27, 3) := by decide +kernel
theorem da1_80 : decode prog_29_method_2_code 80 = .ok (.iload 8, 2) := by decide +kernel
theorem da1_82 : decode prog_29_method_2_code 82 = .ok (.aload_n 0, 1) := by decide +kernel
theorem da1_83 : decode prog_29_method_2_code 83 = .ok (.getfield 31, 3) := by decide +kernel
theorem da1_86 : decode prog_29_method_2_code 86 = .ok (.if_icmp .ge 18, 3) := by decide +kernel
theorem da1_104 : decode prog_29_method_2_code 104 = .ok (.iload 8, 2) := by decide +kernel
theorem da1_106 : decode prog_29_method_2_code 106 = .ok (.istore 10, 2) := by decide +kernel
theorem da1_108 : decode prog_29_method_2_code 108 = .ok (.iload 10, 2) := by decide +kernel
theorem da1_110 : decode prog_29_method_2_code 110 = .ok (.ifCond .le 20, 3) := by decide +kernel
theorem da1_113 : decode prog_29_method_2_code 113 = .ok (.aload_n 0, 1) := by decide +kernel
theorem da1_114 : decode prog_29_method_2_code 114 = .ok (.getfield 13, 3) := by decide +kernel
theorem da1_117 : decode prog_29_method_2_code 117 = .ok (.iload 10, 2) := by decide +kernel
theorem da1_119 : decode prog_29_method_2_code 119 = .ok (.iconst 1, 1) := by decide +kernel
theorem da1_120 : decode prog_29_method_2_code 120 = .ok (.isub, 1) := by decide +kernel
theorem da1_121 : decode prog_29_method_2_code 121 = .ok (.daload, 1) := by decide +kernel
theorem da1_122 : decode prog_29_method_2_code 122 = .ok (.dload_n 2, 1) := by decide +kernel
theorem da1_123 : decode prog_29_method_2_code 123 = .ok (.dcmp .l, 1) := by decide +kernel
theorem da1_124 : decode prog_29_method_2_code 124 = .ok (.ifCond .ne 6, 3) := by decide +kernel
theorem da1_130 : decode prog_29_method_2_code 130 = .ok (.aload_n 0, 1) := by decide +kernel
theorem da1_131 : decode prog_29_method_2_code 131 = .ok (.getfield 27, 3) := by decide +kernel
theorem da1_134 : decode prog_29_method_2_code 134 = .ok (.ifCond .eq 29, 3) := by decide +kernel
theorem da1_137 : decode prog_29_method_2_code 137 = .ok (.iload 10, 2) := by decide +kernel
theorem da1_139 : decode prog_29_method_2_code 139 = .ok (.ifCond .le 24, 3) := by decide +kernel
theorem da1_142 : decode prog_29_method_2_code 142 = .ok (.aload_n 0, 1) := by decide +kernel
theorem da1_143 : decode prog_29_method_2_code 143 = .ok (.getfield 20, 3) := by decide +kernel
theorem da1_146 : decode prog_29_method_2_code 146 = .ok (.iload 10, 2) := by decide +kernel
theorem da1_148 : decode prog_29_method_2_code 148 = .ok (.iconst 1, 1) := by decide +kernel
theorem da1_149 : decode prog_29_method_2_code 149 = .ok (.isub, 1) := by decide +kernel
theorem da1_150 : decode prog_29_method_2_code 150 = .ok (.daload, 1) := by decide +kernel
theorem da1_151 : decode prog_29_method_2_code 151 = .ok (.dload 6, 2) := by decide +kernel
theorem da1_153 : decode prog_29_method_2_code 153 = .ok (.dcmp .l, 1) := by decide +kernel
theorem da1_154 : decode prog_29_method_2_code 154 = .ok (.ifCond .lt 9, 3) := by decide +kernel
theorem da1_163 : decode prog_29_method_2_code 163 = .ok (.iload 8, 2) := by decide +kernel
theorem da1_165 : decode prog_29_method_2_code 165 = .ok (.istore 11, 2) := by decide +kernel
theorem da1_167 : decode prog_29_method_2_code 167 = .ok (.iload 11, 2) := by decide +kernel
theorem da1_169 : decode prog_29_method_2_code 169 = .ok (.aload_n 0, 1) := by decide +kernel
theorem da1_170 : decode prog_29_method_2_code 170 = .ok (.getfield 31, 3) := by decide +kernel
theorem da1_173 : decode prog_29_method_2_code 173 = .ok (.if_icmp .ge 22, 3) := by decide +kernel
theorem da1_195 : decode prog_29_method_2_code 195 = .ok (.aload_n 0, 1) := by decide +kernel
theorem da1_196 : decode prog_29_method_2_code 196 = .ok (.getfield 31, 3) := by decide +kernel
theorem da1_199 : decode prog_29_method_2_code 199 = .ok (.iload 11, 2) := by decide +kernel
theorem da1_201 : decode prog_29_method_2_code 201 = .ok (.iload 10, 2) := by decide +kernel
theorem da1_203 : decode prog_29_method_2_code 203 = .ok (.isub, 1) := by decide +kernel
theorem da1_204 : decode prog_29_method_2_code 204 = .ok (.isub, 1) := by decide +kernel
theorem da1_205 : decode prog_29_method_2_code 205 = .ok (.iconst 1, 1) := by decide +kernel
theorem da1_206 : decode prog_29_method_2_code 206 = .ok (.iadd, 1) := by decide +kernel
theorem da1_207 : decode prog_29_method_2_code 207 = .ok (.istore 12, 2) := by decide +kernel
theorem da1_209 : decode prog_29_method_2_code 209 = .ok (.iload 12, 2) := by decide +kernel
theorem da1_211 : decode prog_29_method_2_code 211 = .ok (.aload_n 0, 1) := by decide +kernel
theorem da1_212 : decode prog_29_method_2_code 212 = .ok (.getfield 7, 3) := by decide +kernel
theorem da1_215 : decode prog_29_method_2_code 215 = .ok (.arraylength, 1) := by decide +kernel
theorem da1_216 : decode prog_29_method_2_code 216 = .ok (.if_icmp .le 77, 3) := by decide +kernel
theorem da1_293 : decode prog_29_method_2_code 293 = .ok (.aload_n 0, 1) := by decide +kernel
theorem da1_294 : decode prog_29_method_2_code 294 = .ok (.getfield 7, 3) := by decide +kernel
theorem da1_297 : decode prog_29_method_2_code 297 = .ok (.iload 11, 2) := by decide +kernel
theorem da1_299 : decode prog_29_method_2_code 299 = .ok (.aload_n 0, 1) := by decide +kernel
theorem da1_300 : decode prog_29_method_2_code 300 = .ok (.getfield 7, 3) := by decide +kernel
theorem da1_303 : decode prog_29_method_2_code 303 = .ok (.iload 10, 2) := by decide +kernel
theorem da1_305 : decode prog_29_method_2_code 305 = .ok (.iconst 1, 1) := by decide +kernel
theorem da1_306 : decode prog_29_method_2_code 306 = .ok (.iadd, 1) := by decide +kernel
theorem da1_307 : decode prog_29_method_2_code 307 = .ok (.aload_n 0, 1) := by decide +kernel
theorem da1_308 : decode prog_29_method_2_code 308 = .ok (.getfield 31, 3) := by decide +kernel
theorem da1_311 : decode prog_29_method_2_code 311 = .ok (.iload 11, 2) := by decide +kernel
theorem da1_313 : decode prog_29_method_2_code 313 = .ok (.isub, 1) := by decide +kernel
theorem da1_314 : decode prog_29_method_2_code 314 = .ok (.invokestatic 47, 3) := by decide +kernel
theorem da1_317 : decode prog_29_method_2_code 317 = .ok (.aload_n 0, 1) := by decide +kernel
theorem da1_318 : decode prog_29_method_2_code 318 = .ok (.getfield 13, 3) := by decide +kernel
theorem da1_321 : decode prog_29_method_2_code 321 = .ok (.iload 11, 2) := by decide +kernel
theorem da1_323 : decode prog_29_method_2_code 323 = .ok (.aload_n 0, 1) := by decide +kernel
theorem da1_324 : decode prog_29_method_2_code 324 = .ok (.getfield 13, 3) := by decide +kernel
theorem da1_327 : decode prog_29_method_2_code 327 = .ok (.iload 10, 2) := by decide +kernel
theorem da1_329 : decode prog_29_method_2_code 329 = .ok (.iconst 1, 1) := by decide +kernel
theorem da1_330 : decode prog_29_method_2_code 330 = .ok (.iadd, 1) := by decide +kernel
theorem da1_331 : decode prog_29_method_2_code 331 = .ok (.aload_n 0, 1) := by decide +kernel
theorem da1_332 : decode prog_29_method_2_code 332 = .ok (.getfield 31, 3) := by decide +kernel
theorem da1_335 : decode prog_29_method_2_code 335 = .ok (.iload 11, 2) := by decide +kernel
theorem da1_337 : decode prog_29_method_2_code 337 = .ok (.isub, 1) := by decide +kernel
theorem da1_338 : decode prog_29_method_2_code 338 = .ok (.invokestatic 47, 3) := by decide +kernel
theorem da1_341 : decode prog_29_method_2_code 341 = .ok (.aload_n 0, 1) := by decide +kernel
theorem da1_342 : decode prog_29_method_2_code 342 = .ok (.getfield 17, 3) := by decide +kernel
theorem da1_345 : decode prog_29_method_2_code 345 = .ok (.iload 11, 2) := by decide +kernel
theorem da1_347 : decode prog_29_method_2_code 347 = .ok (.aload_n 0, 1) := by decide +kernel
theorem da1_348 : decode prog_29_method_2_code 348 = .ok (.getfield 17, 3) := by decide +kernel
theorem da1_351 : decode prog_29_method_2_code 351 = .ok (.iload 10, 2) := by decide +kernel
theorem da1_353 : decode prog_29_method_2_code 353 = .ok (.iconst 1, 1) := by decide +kernel
theorem da1_354 : decode prog_29_method_2_code 354 = .ok (.iadd, 1) := by decide +kernel
theorem da1_355 : decode prog_29_method_2_code 355 = .ok (.aload_n 0, 1) := by decide +kernel
theorem da1_356 : decode prog_29_method_2_code 356 = .ok (.getfield 31, 3) := by decide +kernel
theorem da1_359 : decode prog_29_method_2_code 359 = .ok (.iload 11, 2) := by decide +kernel
theorem da1_361 : decode prog_29_method_2_code 361 = .ok (.isub, 1) := by decide +kernel
theorem da1_362 : decode prog_29_method_2_code 362 = .ok (.invokestatic 47, 3) := by decide +kernel
theorem da1_365 : decode prog_29_method_2_code 365 = .ok (.aload_n 0, 1) := by decide +kernel
theorem da1_366 : decode prog_29_method_2_code 366 = .ok (.getfield 20, 3) := by decide +kernel
theorem da1_369 : decode prog_29_method_2_code 369 = .ok (.iload 11, 2) := by decide +kernel
theorem da1_371 : decode prog_29_method_2_code 371 = .ok (.aload_n 0, 1) := by decide +kernel
theorem da1_372 : decode prog_29_method_2_code 372 = .ok (.getfield 20, 3) := by decide +kernel
theorem da1_375 : decode prog_29_method_2_code 375 = .ok (.iload 10, 2) := by decide +kernel
theorem da1_377 : decode prog_29_method_2_code 377 = .ok (.iconst 1, 1) := by decide +kernel
theorem da1_378 : decode prog_29_method_2_code 378 = .ok (.iadd, 1) := by decide +kernel
theorem da1_379 : decode prog_29_method_2_code 379 = .ok (.aload_n 0, 1) := by decide +kernel
theorem da1_380 : decode prog_29_method_2_code 380 = .ok (.getfield 31, 3) := by decide +kernel
theorem da1_383 : decode prog_29_method_2_code 383 = .ok (.iload 11, 2) := by decide +kernel
theorem da1_385 : decode prog_29_method_2_code 385 = .ok (.isub, 1) := by decide +kernel
theorem da1_386 : decode prog_29_method_2_code 386 = .ok (.invokestatic 47, 3) := by decide +kernel
theorem da1_389 : decode prog_29_method_2_code 389 = .ok (.aload_n 0, 1) := by decide +kernel
theorem da1_390 : decode prog_29_method_2_code 390 = .ok (.getfield 23, 3) := by decide +kernel
theorem da1_393 : decode prog_29_method_2_code 393 = .ok (.iload 11, 2) := by decide +kernel
theorem da1_395 : decode prog_29_method_2_code 395 = .ok (.aload_n 0, 1) := by decide +kernel
theorem da1_396 : decode prog_29_method_2_code 396 = .ok (.getfield 23, 3) := by decide +kernel
theorem da1_399 : decode prog_29_method_2_code 399 = .ok (.iload 10, 2) := by decide +kernel
theorem da1_401 : decode prog_29_method_2_code 401 = .ok (.iconst 1, 1) := by decide +kernel
theorem da1_402 : decode prog_29_method_2_code 402 = .ok (.iadd, 1) := by decide +kernel
theorem da1_403 : decode prog_29_method_2_code 403 = .ok (.aload_n 0, 1) := by decide +kernel
theorem da1_404 : decode prog_29_method_2_code 404 = .ok (.getfield 31, 3) := by decide +kernel
theorem da1_407 : decode prog_29_method_2_code 407 = .ok (.iload 11, 2) := by decide +kernel
theorem da1_409 : decode prog_29_method_2_code 409 = .ok (.isub, 1) := by decide +kernel
theorem da1_410 : decode prog_29_method_2_code 410 = .ok (.invokestatic 47, 3) := by decide +kernel
theorem da1_413 : decode prog_29_method_2_code 413 = .ok (.aload_n 0, 1) := by decide +kernel
theorem da1_414 : decode prog_29_method_2_code 414 = .ok (.getfield 7, 3) := by decide +kernel
theorem da1_417 : decode prog_29_method_2_code 417 = .ok (.iload 10, 2) := by decide +kernel
theorem da1_419 : decode prog_29_method_2_code 419 = .ok (.iload_n 1, 1) := by decide +kernel
theorem da1_420 : decode prog_29_method_2_code 420 = .ok (.iastore, 1) := by decide +kernel
theorem da1_421 : decode prog_29_method_2_code 421 = .ok (.aload_n 0, 1) := by decide +kernel
theorem da1_422 : decode prog_29_method_2_code 422 = .ok (.getfield 13, 3) := by decide +kernel
theorem da1_425 : decode prog_29_method_2_code 425 = .ok (.iload 10, 2) := by decide +kernel
theorem da1_427 : decode prog_29_method_2_code 427 = .ok (.dload_n 2, 1) := by decide +kernel
theorem da1_428 : decode prog_29_method_2_code 428 = .ok (.dastore, 1) := by decide +kernel
theorem da1_429 : decode prog_29_method_2_code 429 = .ok (.aload_n 0, 1) := by decide +kernel
theorem da1_430 : decode prog_29_method_2_code 430 = .ok (.getfield 17, 3) := by decide +kernel
theorem da1_433 : decode prog_29_method_2_code 433 = .ok (.iload 10, 2) := by decide +kernel
theorem da1_435 : decode prog_29_method_2_code 435 = .ok (.dload 4, 2) := by decide +kernel
theorem da1_437 : decode prog_29_method_2_code 437 = .ok (.dastore, 1) := by decide +kernel
theorem da1_438 : decode prog_29_method_2_code 438 = .ok (.aload_n 0, 1) := by decide +kernel
theorem da1_439 : decode prog_29_method_2_code 439 = .ok (.getfield 20, 3) := by decide +kernel
theorem da1_442 : decode prog_29_method_2_code 442 = .ok (.iload 10, 2) := by decide +kernel
theorem da1_444 : decode prog_29_method_2_code 444 = .ok (.dload 6, 2) := by decide +kernel
theorem da1_446 : decode prog_29_method_2_code 446 = .ok (.dastore, 1) := by decide +kernel
theorem da1_447 : decode prog_29_method_2_code 447 = .ok (.aload_n 0, 1) := by decide +kernel
theorem da1_448 : decode prog_29_method_2_code 448 = .ok (.getfield 23, 3) := by decide +kernel
theorem da1_451 : decode prog_29_method_2_code 451 = .ok (.iload 10, 2) := by decide +kernel
theorem da1_453 : decode prog_29_method_2_code 453 = .ok (.iconst 0, 1) := by decide +kernel
theorem da1_454 : decode prog_29_method_2_code 454 = .ok (.bastore, 1) := by decide +kernel
theorem da1_455 : decode prog_29_method_2_code 455 = .ok (.aload_n 0, 1) := by decide +kernel
theorem da1_456 : decode prog_29_method_2_code 456 = .ok (.iload 12, 2) := by decide +kernel
theorem da1_458 : decode prog_29_method_2_code 458 = .ok (.putfield 31, 3) := by decide +kernel
theorem da1_461 : decode prog_29_method_2_code 461 = .ok (.iconst 1, 1) := by decide +kernel
theorem da1_462 : decode prog_29_method_2_code 462 = .ok (.ireturn, 1) := by decide +kernel
theorem pna1 : plainName "com/example/skywright/skywright/search/Kept" = true := by first | (simp [plainName, overriddenIn]; done) | decide +kernel
theorem efa1 (m : MethodId) (z0 : Addr) (z1 : Int32) (z2 : UInt64) (z3 : UInt64) (z4 : UInt64) : entryFrame m #[(.ref z0), (.int z1), (.double z2), (.double z3), (.double z4)] 14 = mkF m 0 #[.val (.ref z0), .val (.int z1), .val (.double z2), .second, .val (.double z3), .second, .val (.double z4), .second, .unset, .unset, .unset, .unset, .unset, .unset] [] := by first | (simp [entryFrame, mkF, argsToLocals, Value.category]; done) | rfl
def Qa1 (Z : State) (q1 : Addr) (la : Addr) (ma : Addr) (si : Addr) (rh : Addr) (ex : Addr) (fg : Int32) (LA : Nat → Int32) (M : Nat → UInt64) (S : Nat → UInt64) (R : Nat → UInt64) (B : Nat → Int32) (h0 : Heap) (n0 : Nat) (v : Option Value) (h : Heap) (L : List Loc) : Prop := v = some (.int 1) ∧ Fr n0 L ∧ n0 ≤ h.size ∧ own_K Z h n0 q1 la ma si rh ex 2 fg (own_u LA 1 20) (own_u M 1 (4611686018427387904 : UInt64)) (own_u S 1 (4611686018427387904 : UInt64)) (own_u R 1 (4611686018427387904 : UInt64)) (own_u B 1 0)
set_option maxRecDepth 65536 in
set_option maxHeartbeats 40000000 in
theorem rma1 (l : Launch) (Z : State) (a0 : Array Value) (hw : ∀ d ∈ tables_1, d.before a0 Z = true) (ws : List Jvm.Cond) (q1 : Addr) (la : Addr) (ma : Addr) (si : Addr) (rh : Addr) (ex : Addr) (fg : Int32) (LA : Nat → Int32) (M : Nat → UInt64) (S : Nat → UInt64) (R : Nat → UInt64) (B : Nat → Int32) (h0 : Heap) (n0 : Nat) (Z0 : n0 ≤ h0.size) (hK0 : own_K Z h0 n0 q1 la ma si rh ex 1 fg LA M S R B) (hM0 : M 0 = (4613937818241073152 : UInt64)) (hS0 : S 0 = (4613937818241073152 : UInt64)) (hR0 : R 0 = (4607182418800017408 : UInt64)) :
    MetFree l (⟨"com/example/skywright/skywright/search/Kept", "admit", "(IDDD)Z"⟩ : MethodName) (head1 (Jvm.Cond.code (⟨"com/example/skywright/skywright/search/Kept", "admit", "(IDDD)Z"⟩ : MethodName) prog_29_method_2_code 14 (Option.some Jvm.ClassFile.FieldType.boolean) :: ws) ({ frames := 1, cells := 0, slots := 0, locals := 18 } : Room)) (fun a U => a = #[(.ref q1), (.int (20 : Int32)), (.double (4611686018427387904 : UInt64)), (.double (4611686018427387904 : UInt64)), (.double (4611686018427387904 : UInt64))] ∧ Z.Warmed39 U.vm ∧ U.heap = h0) (fun _ _ _ _ _ => True) (fun _ U o U' => ∃ v L, o = .returned v ∧ Qa1 Z q1 la ma si rh ex fg LA M S R B h0 n0 v U'.heap L ∧ FrameEnd U o U' L ({ frames := 1, cells := 0, slots := 0, locals := 18 } : Room).cells ({ frames := 1, cells := 0, slots := 0, locals := 18 } : Room).slots) := by
  refine MetFree.of_bodySF (plainFor_of_name pna1) hisR ?_
  intro p e s m args below meth c s₁ Bd hml0 hP hK
  obtain ⟨rfl, hZ, hh⟩ := hP
  have hx := Bd.exec
  have hby := Bd.bytes
  have hml : c.maxLocals = 14 := hml0
  have hown : s.vm.findClass "com/example/skywright/skywright/search/Kept" = some m.cls := findClass_of_methodNamed Bd.named
  have hnm := (name_of_methodNamed Bd.named Bd.method).1
  have X0 : Stand p l e ({ frames := 1, cells := 0, slots := 0, locals := 18 } : Room) s m #[(.ref q1), (.int (20 : Int32)), (.double (4611686018427387904 : UInt64)), (.double (4611686018427387904 : UInt64)), (.double (4611686018427387904 : UInt64))] below meth c s₁ [] 0 0 := Stand.of_body Bd
  have e0 : s₁.heap = h0 := by rw [← hh, Bd.state]; rfl
  have N0 := Fr.nil n0
  show Go p e below (Ret s (Qa1 Z q1 la ma si rh ex fg LA M S R B h0 n0) ({ frames := 1, cells := 0, slots := 0, locals := 18 } : Room).cells ({ frames := 1, cells := 0, slots := 0, locals := 18 } : Room).slots) (s₁.setTop (entryFrame m #[(.ref q1), (.int (20 : Int32)), (.double (4611686018427387904 : UInt64)), (.double (4611686018427387904 : UInt64)), (.double (4611686018427387904 : UInt64))] 14))
  rw [efa1 m q1 (20 : Int32) (4611686018427387904 : UInt64) (4611686018427387904 : UInt64) (4611686018427387904 : UInt64)]
  obtain ⟨E0, F_la, F_ma, F_si, F_rh, F_ex, F_sz, F_fg, A_la, A_ma, A_si, A_rh, A_ex, hB, ⟨ne_q1_la, ne_q1_ma, ne_q1_si, ne_q1_rh, ne_q1_ex, ne_la_ma, ne_la_si, ne_la_rh, ne_la_ex, ne_ma_si, ne_ma_rh, ne_ma_ex, ne_si_rh, ne_si_ex, ne_rh_ex⟩, ⟨g_q1, g_la, g_ma, g_si, g_rh, g_ex⟩⟩ := hK0
  refine g_iconst X0 hx (hb hby da1_0) (v := (0 : Int32)) (by decide) ?_
  refine g_istore X0 hx (hb hby da1_1) (L' := #[.val (.ref q1), .val (.int (20 : Int32)), .val (.double (4611686018427387904 : UInt64)), .second, .val (.double (4611686018427387904 : UInt64)), .second, .val (.double (4611686018427387904 : UInt64)), .second, .val (.int (0 : Int32)), .unset, .unset, .unset, .unset, .unset]) rfl ?_
  refine g_aloadN X0 hx (hb hby da1_3) rfl rfl ?_
  refine g_getF X0 hx hZ hown (hw _ (List.mem_of_getElem? (i := 30) rfl)) e0 F_sz (hb hby da1_4) ?_
  intro T1 X2 e3
  refine g_istore X2 hx (hb hby da1_7) (L' := #[.val (.ref q1), .val (.int (20 : Int32)), .val (.double (4611686018427387904 : UInt64)), .second, .val (.double (4611686018427387904 : UInt64)), .second, .val (.double (4611686018427387904 : UInt64)), .second, .val (.int (0 : Int32)), .val (.int (1 : Int32)), .unset, .unset, .unset, .unset]) rfl ?_
  refine g_iload X2 hx (hb hby da1_9) rfl ?_
  refine g_iload X2 hx (hb hby da1_11) rfl ?_
  have hc13_4 : (0 : Int32) < (1 : Int32) := (by decide)
  refine g_icmpNo X2 hx (hb hby da1_13) (tlt hc13_4).2.1 ?_
  refine g_iload X2 hx (hb hby da1_16) rfl ?_
  refine g_iload X2 hx (hb hby da1_18) rfl ?_
  refine g_iadd X2 hx (hb hby da1_20) (show (0 : Int32) + (1 : Int32) = (1 : Int32) from by decide) ?_
  refine g_iconst X2 hx (hb hby da1_21) (v := (1 : Int32)) (by decide) ?_
  refine g_iushr X2 hx (hb hby da1_22) (show ((1 : Int32).toUInt32 >>> ((1 : Int32) &&& 31).toUInt32).toInt32 = (0 : Int32) from by decide) ?_
  refine g_istore X2 hx (hb hby da1_23) (L' := #[.val (.ref q1), .val (.int (20 : Int32)), .val (.double (4611686018427387904 : UInt64)), .second, .val (.double (4611686018427387904 : UInt64)), .second, .val (.double (4611686018427387904 : UInt64)), .second, .val (.int (0 : Int32)), .val (.int (1 : Int32)), .val (.int (0 : Int32)), .unset, .unset, .unset]) rfl ?_
  refine g_aloadN X2 hx (hb hby da1_25) rfl rfl ?_
  refine g_getF X2 hx hZ hown (hw _ (List.mem_of_getElem? (i := 13) rfl)) e3 F_ma (hb hby da1_26) ?_
  intro T5 X6 e7
  refine g_iload X6 hx (hb hby da1_29) rfl ?_
  refine g_daload X6 hx hZ e7 A_ma (by decide) (by decide) (i := 0) (by decide) (congrArg Value.double hM0) (hb hby da1_31) ?_
  refine g_dloadN X6 hx (hb hby da1_32) rfl ?_
  refine g_dcmp X6 hx (hb hby da1_33) ?_
  have hc34_8 : ¬ (FP.dcmp (4613937818241073152 : UInt64) (4611686018427387904 : UInt64) = some .lt ∨ FP.dcmp (4613937818241073152 : UInt64) (4611686018427387904 : UInt64) = none) := (by decide +kernel)
  refine g_ifNo X6 hx (hb hby da1_34) (flt (fun q => hc34_8 ((cv_l_lt _).mp q))).1 ?_
  refine g_iload X6 hx (hb hby da1_37) rfl ?_
  refine g_iconst X6 hx (hb hby da1_39) (v := (1 : Int32)) (by decide) ?_
  refine g_iadd X6 hx (hb hby da1_40) (show (0 : Int32) + (1 : Int32) = (1 : Int32) from by decide) ?_
  refine g_istore X6 hx (hb hby da1_41) (L' := #[.val (.ref q1), .val (.int (20 : Int32)), .val (.double (4611686018427387904 : UInt64)), .second, .val (.double (4611686018427387904 : UInt64)), .second, .val (.double (4611686018427387904 : UInt64)), .second, .val (.int (1 : Int32)), .val (.int (1 : Int32)), .val (.int (0 : Int32)), .unset, .unset, .unset]) rfl ?_
  refine g_goto X6 hx (hb hby da1_43) (by decide) (pc' := 50) (by decide) ?_
  refine g_goto X6 hx (hb hby da1_50) (by decide) (pc' := 9) (by decide) ?_
  refine g_iload X6 hx (hb hby da1_9) rfl ?_
  refine g_iload X6 hx (hb hby da1_11) rfl ?_
  have hc13_9 : ¬ ((1 : Int32) < (1 : Int32)) := (by decide)
  refine g_icmpYes X6 hx (hb hby da1_13) (flt hc13_9).2.1 (by decide) (pc' := 53) (by decide) ?_
  refine g_iload X6 hx (hb hby da1_53) rfl ?_
  have hc55_10 : (0 : Int32) < (1 : Int32) := (by decide)
  refine g_ifNo X6 hx (hb hby da1_55) (tlt hc55_10).2.2.2 ?_
  refine g_aloadN X6 hx (hb hby da1_58) rfl rfl ?_
  refine g_getF X6 hx hZ hown (hw _ (List.mem_of_getElem? (i := 15) rfl)) e7 F_si (hb hby da1_59) ?_
  intro T11 X12 e13
  refine g_iload X12 hx (hb hby da1_62) rfl ?_
  refine g_iconst X12 hx (hb hby da1_64) (v := (1 : Int32)) (by decide) ?_
  refine g_isub X12 hx (hb hby da1_65) (show (1 : Int32) - (1 : Int32) = (0 : Int32) from by decide) ?_
  refine g_daload X12 hx hZ e13 A_si (by decide) (by decide) (i := 0) (by decide) (congrArg Value.double hS0) (hb hby da1_66) ?_
  refine g_dload X12 hx (hb hby da1_67) rfl ?_
  refine g_dcmp X12 hx (hb hby da1_69) ?_
  have hc70_14 : FP.dcmp (4613937818241073152 : UInt64) (4611686018427387904 : UInt64) = some .gt ∨ FP.dcmp (4613937818241073152 : UInt64) (4611686018427387904 : UInt64) = none := (by decide +kernel)
  refine g_ifNo X12 hx (hb hby da1_70) (tlt ((cv_g_gt _).mpr hc70_14)).2.2.2 ?_
  refine g_aloadN X12 hx (hb hby da1_73) rfl rfl ?_
  refine g_getF X12 hx hZ hown (hw _ (List.mem_of_getElem? (i := 22) rfl)) e13 F_fg (hb hby da1_74) ?_
  intro T15 X16 e17
  by_cases hc77_18 : fg = (0 : Int32)
  ·
    refine g_ifYes X16 hx (hb hby da1_77) (teq hc77_18).1 (by decide) (pc' := 104) (by decide) ?_
    refine g_iload X16 hx (hb hby da1_104) rfl ?_
    refine g_istore X16 hx (hb hby da1_106) (L' := #[.val (.ref q1), .val (.int (20 : Int32)), .val (.double (4611686018427387904 : UInt64)), .second, .val (.double (4611686018427387904 : UInt64)), .second, .val (.double (4611686018427387904 : UInt64)), .second, .val (.int (1 : Int32)), .val (.int (1 : Int32)), .val (.int (1 : Int32)), .unset, .unset, .unset]) rfl ?_
    refine g_iload X16 hx (hb hby da1_108) rfl ?_
    have hc110_19 : (0 : Int32) < (1 : Int32) := (by decide)
    refine g_ifNo X16 hx (hb hby da1_110) (tlt hc110_19).2.2.2 ?_
    refine g_aloadN X16 hx (hb hby da1_113) rfl rfl ?_
    refine g_getF X16 hx hZ hown (hw _ (List.mem_of_getElem? (i := 13) rfl)) e17 F_ma (hb hby da1_114) ?_
    intro T20 X21 e22
    refine g_iload X21 hx (hb hby da1_117) rfl ?_
    refine g_iconst X21 hx (hb hby da1_119) (v := (1 : Int32)) (by decide) ?_
    refine g_isub X21 hx (hb hby da1_120) (show (1 : Int32) - (1 : Int32) = (0 : Int32) from by decide) ?_
    refine g_daload X21 hx hZ e22 A_ma (by decide) (by decide) (i := 0) (by decide) (congrArg Value.double hM0) (hb hby da1_121) ?_
    refine g_dloadN X21 hx (hb hby da1_122) rfl ?_
    refine g_dcmp X21 hx (hb hby da1_123) ?_
    have hc124_23 : ¬ (FP.dcmp (4613937818241073152 : UInt64) (4611686018427387904 : UInt64) = some .eq) := (by decide +kernel)
    refine g_ifYes X21 hx (hb hby da1_124) (feq (fun q => hc124_23 ((cv_l_eq _).mp q))).2 (by decide) (pc' := 130) (by decide) ?_
    refine g_aloadN X21 hx (hb hby da1_130) rfl rfl ?_
    refine g_getF X21 hx hZ hown (hw _ (List.mem_of_getElem? (i := 22) rfl)) e22 F_fg (hb hby da1_131) ?_
    intro T24 X25 e26
    by_cases hc134_27 : fg = (0 : Int32)
    ·
      refine g_ifYes X25 hx (hb hby da1_134) (teq hc134_27).1 (by decide) (pc' := 163) (by decide) ?_
      refine g_iload X25 hx (hb hby da1_163) rfl ?_
      refine g_istore X25 hx (hb hby da1_165) (L' := #[.val (.ref q1), .val (.int (20 : Int32)), .val (.double (4611686018427387904 : UInt64)), .second, .val (.double (4611686018427387904 : UInt64)), .second, .val (.double (4611686018427387904 : UInt64)), .second, .val (.int (1 : Int32)), .val (.int (1 : Int32)), .val (.int (1 : Int32)), .val (.int (1 : Int32)), .unset, .unset]) rfl ?_
      refine g_iload X25 hx (hb hby da1_167) rfl ?_
      refine g_aloadN X25 hx (hb hby da1_169) rfl rfl ?_
      refine g_getF X25 hx hZ hown (hw _ (List.mem_of_getElem? (i := 30) rfl)) e26 F_sz (hb hby da1_170) ?_
      intro T28 X29 e30
      have hc173_31 : ¬ ((1 : Int32) < (1 : Int32)) := (by decide)
      refine g_icmpYes X29 hx (hb hby da1_173) (flt hc173_31).2.1 (by decide) (pc' := 195) (by decide) ?_
      refine g_aloadN X29 hx (hb hby da1_195) rfl rfl ?_
      refine g_getF X29 hx hZ hown (hw _ (List.mem_of_getElem? (i := 30) rfl)) e30 F_sz (hb hby da1_196) ?_
      intro T32 X33 e34
      refine g_iload X33 hx (hb hby da1_199) rfl ?_
      refine g_iload X33 hx (hb hby da1_201) rfl ?_
      refine g_isub X33 hx (hb hby da1_203) (show (1 : Int32) - (1 : Int32) = (0 : Int32) from by decide) ?_
      refine g_isub X33 hx (hb hby da1_204) (show (1 : Int32) - (0 : Int32) = (1 : Int32) from by decide) ?_
      refine g_iconst X33 hx (hb hby da1_205) (v := (1 : Int32)) (by decide) ?_
      refine g_iadd X33 hx (hb hby da1_206) (show (1 : Int32) + (1 : Int32) = (2 : Int32) from by decide) ?_
      refine g_istore X33 hx (hb hby da1_207) (L' := #[.val (.ref q1), .val (.int (20 : Int32)), .val (.double (4611686018427387904 : UInt64)), .second, .val (.double (4611686018427387904 : UInt64)), .second, .val (.double (4611686018427387904 : UInt64)), .second, .val (.int (1 : Int32)), .val (.int (1 : Int32)), .val (.int (1 : Int32)), .val (.int (1 : Int32)), .val (.int (2 : Int32)), .unset]) rfl ?_
      refine g_iload X33 hx (hb hby da1_209) rfl ?_
      refine g_aloadN X33 hx (hb hby da1_211) rfl rfl ?_
      refine g_getF X33 hx hZ hown (hw _ (List.mem_of_getElem? (i := 10) rfl)) e34 F_la (hb hby da1_212) ?_
      intro T35 X36 e37
      refine g_arraylength X36 hx hZ e37 A_la (show Nat.toInt32 4 = (4 : Int32) from by decide) (hb hby da1_215) ?_
      have hc216_38 : ¬ ((4 : Int32) < (2 : Int32)) := (by decide)
      refine g_icmpYes X36 hx (hb hby da1_216) (flt hc216_38).2.2.2 (by decide) (pc' := 293) (by decide) ?_
      refine g_aloadN X36 hx (hb hby da1_293) rfl rfl ?_
      refine g_getF X36 hx hZ hown (hw _ (List.mem_of_getElem? (i := 10) rfl)) e37 F_la (hb hby da1_294) ?_
      intro T39 X40 e41
      refine g_iload X40 hx (hb hby da1_297) rfl ?_
      refine g_aloadN X40 hx (hb hby da1_299) rfl rfl ?_
      refine g_getF X40 hx hZ hown (hw _ (List.mem_of_getElem? (i := 10) rfl)) e41 F_la (hb hby da1_300) ?_
      intro T42 X43 e44
      refine g_iload X43 hx (hb hby da1_303) rfl ?_
      refine g_iconst X43 hx (hb hby da1_305) (v := (1 : Int32)) (by decide) ?_
      refine g_iadd X43 hx (hb hby da1_306) (show (1 : Int32) + (1 : Int32) = (2 : Int32) from by decide) ?_
      refine g_aloadN X43 hx (hb hby da1_307) rfl rfl ?_
      refine g_getF X43 hx hZ hown (hw _ (List.mem_of_getElem? (i := 30) rfl)) e44 F_sz (hb hby da1_308) ?_
      intro T45 X46 e47
      refine g_iload X46 hx (hb hby da1_311) rfl ?_
      refine g_isub X46 hx (hb hby da1_313) (show (1 : Int32) - (1 : Int32) = (0 : Int32) from by decide) ?_
      refine g_acp0 X46 hx hZ hown (hw _ (List.mem_of_getElem? (i := 32) rfl)) (hw _ (List.mem_of_getElem? (i := 35) rfl)) (hw _ (List.mem_of_getElem? (i := 33) rfl)) (hw _ (List.mem_of_getElem? (i := 34) rfl)) e47 A_la rfl (fun _ _ => rfl) (z := 4) (by decide) (by decide) (by decide) (by decide) (by decide) (by decide) N0 g_la (by rw [hml]; rfl) (hb hby da1_314) (by decide) (by decide) ?_
      intro T48 h49 L50 X51 e52 N53 K54 F55
      have F56 := E0.keep K54
      have F57 := F_la.keep K54 (ninS ne_q1_la nin0)
      have F59 := F_ma.keep K54 (ninS ne_q1_la nin0)
      have F60 := A_ma.keep K54 (ninS ne_la_ma.symm nin0)
      have F61 := F_si.keep K54 (ninS ne_q1_la nin0)
      have F62 := A_si.keep K54 (ninS ne_la_si.symm nin0)
      have F63 := F_rh.keep K54 (ninS ne_q1_la nin0)
      have F64 := A_rh.keep K54 (ninS ne_la_rh.symm nin0)
      have F65 := F_ex.keep K54 (ninS ne_q1_la nin0)
      have F66 := A_ex.keep K54 (ninS ne_la_ex.symm nin0)
      have F67 := F_sz.keep K54 (ninS ne_q1_la nin0)
      have F68 := F_fg.keep K54 (ninS ne_q1_la nin0)
      have Z69 : n0 ≤ h49.size := Nat.le_trans Z0 K54.1
      refine g_aloadN X51 hx (hb hby da1_317) rfl rfl ?_
      refine g_getF X51 hx hZ hown (hw _ (List.mem_of_getElem? (i := 13) rfl)) e52 F59 (hb hby da1_318) ?_
      intro T71 X72 e73
      refine g_iload X72 hx (hb hby da1_321) rfl ?_
      refine g_aloadN X72 hx (hb hby da1_323) rfl rfl ?_
      refine g_getF X72 hx hZ hown (hw _ (List.mem_of_getElem? (i := 13) rfl)) e73 F59 (hb hby da1_324) ?_
      intro T74 X75 e76
      refine g_iload X75 hx (hb hby da1_327) rfl ?_
      refine g_iconst X75 hx (hb hby da1_329) (v := (1 : Int32)) (by decide) ?_
      refine g_iadd X75 hx (hb hby da1_330) (show (1 : Int32) + (1 : Int32) = (2 : Int32) from by decide) ?_
      refine g_aloadN X75 hx (hb hby da1_331) rfl rfl ?_
      refine g_getF X75 hx hZ hown (hw _ (List.mem_of_getElem? (i := 30) rfl)) e76 F67 (hb hby da1_332) ?_
      intro T77 X78 e79
      refine g_iload X78 hx (hb hby da1_335) rfl ?_
      refine g_isub X78 hx (hb hby da1_337) (show (1 : Int32) - (1 : Int32) = (0 : Int32) from by decide) ?_
      refine g_acp0 X78 hx hZ hown (hw _ (List.mem_of_getElem? (i := 32) rfl)) (hw _ (List.mem_of_getElem? (i := 35) rfl)) (hw _ (List.mem_of_getElem? (i := 33) rfl)) (hw _ (List.mem_of_getElem? (i := 34) rfl)) e79 F60 rfl (fun _ _ => rfl) (z := 4) (by decide) (by decide) (by decide) (by decide) (by decide) (by decide) N53 g_ma (by rw [hml]; rfl) (hb hby da1_338) (by decide) (by decide) ?_
      intro T80 h81 L82 X83 e84 N85 K86 F87
      have F88 := F56.keep K86
      have F89 := F57.keep K86 (ninS ne_q1_ma nin0)
      have F90 := F59.keep K86 (ninS ne_q1_ma nin0)
      have F92 := F61.keep K86 (ninS ne_q1_ma nin0)
      have F93 := F62.keep K86 (ninS ne_ma_si.symm nin0)
      have F94 := F63.keep K86 (ninS ne_q1_ma nin0)
      have F95 := F64.keep K86 (ninS ne_ma_rh.symm nin0)
      have F96 := F65.keep K86 (ninS ne_q1_ma nin0)
      have F97 := F66.keep K86 (ninS ne_ma_ex.symm nin0)
      have F98 := F67.keep K86 (ninS ne_q1_ma nin0)
      have F99 := F68.keep K86 (ninS ne_q1_ma nin0)
      have F100 := F55.keep K86 (ninS ne_la_ma nin0)
      have Z101 : n0 ≤ h81.size := Nat.le_trans Z69 K86.1
      refine g_aloadN X83 hx (hb hby da1_341) rfl rfl ?_
      refine g_getF X83 hx hZ hown (hw _ (List.mem_of_getElem? (i := 15) rfl)) e84 F92 (hb hby da1_342) ?_
      intro T103 X104 e105
      refine g_iload X104 hx (hb hby da1_345) rfl ?_
      refine g_aloadN X104 hx (hb hby da1_347) rfl rfl ?_
      refine g_getF X104 hx hZ hown (hw _ (List.mem_of_getElem? (i := 15) rfl)) e105 F92 (hb hby da1_348) ?_
      intro T106 X107 e108
      refine g_iload X107 hx (hb hby da1_351) rfl ?_
      refine g_iconst X107 hx (hb hby da1_353) (v := (1 : Int32)) (by decide) ?_
      refine g_iadd X107 hx (hb hby da1_354) (show (1 : Int32) + (1 : Int32) = (2 : Int32) from by decide) ?_
      refine g_aloadN X107 hx (hb hby da1_355) rfl rfl ?_
      refine g_getF X107 hx hZ hown (hw _ (List.mem_of_getElem? (i := 30) rfl)) e108 F98 (hb hby da1_356) ?_
      intro T109 X110 e111
      refine g_iload X110 hx (hb hby da1_359) rfl ?_
      refine g_isub X110 hx (hb hby da1_361) (show (1 : Int32) - (1 : Int32) = (0 : Int32) from by decide) ?_
      refine g_acp0 X110 hx hZ hown (hw _ (List.mem_of_getElem? (i := 32) rfl)) (hw _ (List.mem_of_getElem? (i := 35) rfl)) (hw _ (List.mem_of_getElem? (i := 33) rfl)) (hw _ (List.mem_of_getElem? (i := 34) rfl)) e111 F93 rfl (fun _ _ => rfl) (z := 4) (by decide) (by decide) (by decide) (by decide) (by decide) (by decide) N85 g_si (by rw [hml]; rfl) (hb hby da1_362) (by decide) (by decide) ?_
      intro T112 h113 L114 X115 e116 N117 K118 F119
      have F120 := F88.keep K118
      have F121 := F89.keep K118 (ninS ne_q1_si nin0)
      have F122 := F90.keep K118 (ninS ne_q1_si nin0)
      have F123 := F92.keep K118 (ninS ne_q1_si nin0)
      have F125 := F94.keep K118 (ninS ne_q1_si nin0)
      have F126 := F95.keep K118 (ninS ne_si_rh.symm nin0)
      have F127 := F96.keep K118 (ninS ne_q1_si nin0)
      have F128 := F97.keep K118 (ninS ne_si_ex.symm nin0)
      have F129 := F98.keep K118 (ninS ne_q1_si nin0)
      have F130 := F99.keep K118 (ninS ne_q1_si nin0)
      have F131 := F100.keep K118 (ninS ne_la_si nin0)
      have F132 := F87.keep K118 (ninS ne_ma_si nin0)
      have Z133 : n0 ≤ h113.size := Nat.le_trans Z101 K118.1
      refine g_aloadN X115 hx (hb hby da1_365) rfl rfl ?_
      refine g_getF X115 hx hZ hown (hw _ (List.mem_of_getElem? (i := 17) rfl)) e116 F125 (hb hby da1_366) ?_
      intro T135 X136 e137
      refine g_iload X136 hx (hb hby da1_369) rfl ?_
      refine g_aloadN X136 hx (hb hby da1_371) rfl rfl ?_
      refine g_getF X136 hx hZ hown (hw _ (List.mem_of_getElem? (i := 17) rfl)) e137 F125 (hb hby da1_372) ?_
      intro T138 X139 e140
      refine g_iload X139 hx (hb hby da1_375) rfl ?_
      refine g_iconst X139 hx (hb hby da1_377) (v := (1 : Int32)) (by decide) ?_
      refine g_iadd X139 hx (hb hby da1_378) (show (1 : Int32) + (1 : Int32) = (2 : Int32) from by decide) ?_
      refine g_aloadN X139 hx (hb hby da1_379) rfl rfl ?_
      refine g_getF X139 hx hZ hown (hw _ (List.mem_of_getElem? (i := 30) rfl)) e140 F129 (hb hby da1_380) ?_
      intro T141 X142 e143
      refine g_iload X142 hx (hb hby da1_383) rfl ?_
      refine g_isub X142 hx (hb hby da1_385) (show (1 : Int32) - (1 : Int32) = (0 : Int32) from by decide) ?_
      refine g_acp0 X142 hx hZ hown (hw _ (List.mem_of_getElem? (i := 32) rfl)) (hw _ (List.mem_of_getElem? (i := 35) rfl)) (hw _ (List.mem_of_getElem? (i := 33) rfl)) (hw _ (List.mem_of_getElem? (i := 34) rfl)) e143 F126 rfl (fun _ _ => rfl) (z := 4) (by decide) (by decide) (by decide) (by decide) (by decide) (by decide) N117 g_rh (by rw [hml]; rfl) (hb hby da1_386) (by decide) (by decide) ?_
      intro T144 h145 L146 X147 e148 N149 K150 F151
      have F152 := F120.keep K150
      have F153 := F121.keep K150 (ninS ne_q1_rh nin0)
      have F154 := F122.keep K150 (ninS ne_q1_rh nin0)
      have F155 := F123.keep K150 (ninS ne_q1_rh nin0)
      have F156 := F125.keep K150 (ninS ne_q1_rh nin0)
      have F158 := F127.keep K150 (ninS ne_q1_rh nin0)
      have F159 := F128.keep K150 (ninS ne_rh_ex.symm nin0)
      have F160 := F129.keep K150 (ninS ne_q1_rh nin0)
      have F161 := F130.keep K150 (ninS ne_q1_rh nin0)
      have F162 := F131.keep K150 (ninS ne_la_rh nin0)
      have F163 := F132.keep K150 (ninS ne_ma_rh nin0)
      have F164 := F119.keep K150 (ninS ne_si_rh nin0)
      have Z165 : n0 ≤ h145.size := Nat.le_trans Z133 K150.1
      refine g_aloadN X147 hx (hb hby da1_389) rfl rfl ?_
      refine g_getF X147 hx hZ hown (hw _ (List.mem_of_getElem? (i := 20) rfl)) e148 F158 (hb hby da1_390) ?_
      intro T167 X168 e169
      refine g_iload X168 hx (hb hby da1_393) rfl ?_
      refine g_aloadN X168 hx (hb hby da1_395) rfl rfl ?_
      refine g_getF X168 hx hZ hown (hw _ (List.mem_of_getElem? (i := 20) rfl)) e169 F158 (hb hby da1_396) ?_
      intro T170 X171 e172
      refine g_iload X171 hx (hb hby da1_399) rfl ?_
      refine g_iconst X171 hx (hb hby da1_401) (v := (1 : Int32)) (by decide) ?_
      refine g_iadd X171 hx (hb hby da1_402) (show (1 : Int32) + (1 : Int32) = (2 : Int32) from by decide) ?_
      refine g_aloadN X171 hx (hb hby da1_403) rfl rfl ?_
      refine g_getF X171 hx hZ hown (hw _ (List.mem_of_getElem? (i := 30) rfl)) e172 F160 (hb hby da1_404) ?_
      intro T173 X174 e175
      refine g_iload X174 hx (hb hby da1_407) rfl ?_
      refine g_isub X174 hx (hb hby da1_409) (show (1 : Int32) - (1 : Int32) = (0 : Int32) from by decide) ?_
      refine g_acp0 X174 hx hZ hown (hw _ (List.mem_of_getElem? (i := 32) rfl)) (hw _ (List.mem_of_getElem? (i := 35) rfl)) (hw _ (List.mem_of_getElem? (i := 33) rfl)) (hw _ (List.mem_of_getElem? (i := 34) rfl)) e175 F159 rfl (own_fitB hB) (z := 4) (by decide) (by decide) (by decide) (by decide) (by decide) (by decide) N149 g_ex (by rw [hml]; rfl) (hb hby da1_410) (by decide) (by decide) ?_
      intro T176 h177 L178 X179 e180 N181 K182 F183
      have F184 := F152.keep K182
      have F185 := F153.keep K182 (ninS ne_q1_ex nin0)
      have F186 := F154.keep K182 (ninS ne_q1_ex nin0)
      have F187 := F155.keep K182 (ninS ne_q1_ex nin0)
      have F188 := F156.keep K182 (ninS ne_q1_ex nin0)
      have F189 := F158.keep K182 (ninS ne_q1_ex nin0)
      have F191 := F160.keep K182 (ninS ne_q1_ex nin0)
      have F192 := F161.keep K182 (ninS ne_q1_ex nin0)
      have F193 := F162.keep K182 (ninS ne_la_ex nin0)
      have F194 := F163.keep K182 (ninS ne_ma_ex nin0)
      have F195 := F164.keep K182 (ninS ne_si_ex nin0)
      have F196 := F151.keep K182 (ninS ne_rh_ex nin0)
      have Z197 : n0 ≤ h177.size := Nat.le_trans Z165 K182.1
      refine g_aloadN X179 hx (hb hby da1_413) rfl rfl ?_
      refine g_getF X179 hx hZ hown (hw _ (List.mem_of_getElem? (i := 10) rfl)) e180 F185 (hb hby da1_414) ?_
      intro T199 X200 e201
      refine g_iload X200 hx (hb hby da1_417) rfl ?_
      refine g_iloadN X200 hx (hb hby da1_419) rfl ?_
      refine g_iastore X200 hx hZ e201 F193 (i := 1) (by decide) (by decide) (by decide) (hb hby da1_420) ?_
      intro T202 h205 X203 e204 W206
      have F207 := F184.wr W206
      have F208 := F185.other W206 (Or.inl ne_q1_la)
      have F209 := F186.other W206 (Or.inl ne_q1_la)
      have F210 := F187.other W206 (Or.inl ne_q1_la)
      have F211 := F188.other W206 (Or.inl ne_q1_la)
      have F212 := F189.other W206 (Or.inl ne_q1_la)
      have F213 := F191.other W206 (Or.inl ne_q1_la)
      have F214 := F192.other W206 (Or.inl ne_q1_la)
      have F215 := F193.same W206
      have F216 := F194.other W206 ne_la_ma.symm
      have F217 := F195.other W206 ne_la_si.symm
      have F218 := F196.other W206 ne_la_rh.symm
      have F219 := F183.other W206 ne_la_ex.symm
      have Z220 : n0 ≤ h205.size := by rw [W206.size]; exact Z197
      have N221 := Fr.snoc X203 N181 g_la
      refine g_aloadN X203 hx (hb hby da1_421) rfl rfl ?_
      refine g_getF X203 hx hZ hown (hw _ (List.mem_of_getElem? (i := 13) rfl)) e204 F209 (hb hby da1_422) ?_
      intro T222 X223 e224
      refine g_iload X223 hx (hb hby da1_425) rfl ?_
      refine g_dloadN X223 hx (hb hby da1_427) rfl ?_
      refine g_dastore X223 hx hZ e224 F216 (i := 1) (by decide) (by decide) (by decide) (hb hby da1_428) ?_
      intro T225 h228 X226 e227 W229
      have F230 := F207.wr W229
      have F231 := F208.other W229 (Or.inl ne_q1_ma)
      have F232 := F209.other W229 (Or.inl ne_q1_ma)
      have F233 := F210.other W229 (Or.inl ne_q1_ma)
      have F234 := F211.other W229 (Or.inl ne_q1_ma)
      have F235 := F212.other W229 (Or.inl ne_q1_ma)
      have F236 := F213.other W229 (Or.inl ne_q1_ma)
      have F237 := F214.other W229 (Or.inl ne_q1_ma)
      have F238 := F215.other W229 ne_la_ma
      have F239 := F216.same W229
      have F240 := F217.other W229 ne_ma_si.symm
      have F241 := F218.other W229 ne_ma_rh.symm
      have F242 := F219.other W229 ne_ma_ex.symm
      have Z243 : n0 ≤ h228.size := by rw [W229.size]; exact Z220
      have N244 := Fr.snoc X226 N221 g_ma
      refine g_aloadN X226 hx (hb hby da1_429) rfl rfl ?_
      refine g_getF X226 hx hZ hown (hw _ (List.mem_of_getElem? (i := 15) rfl)) e227 F233 (hb hby da1_430) ?_
      intro T245 X246 e247
      refine g_iload X246 hx (hb hby da1_433) rfl ?_
      refine g_dload X246 hx (hb hby da1_435) rfl ?_
      refine g_dastore X246 hx hZ e247 F240 (i := 1) (by decide) (by decide) (by decide) (hb hby da1_437) ?_
      intro T248 h251 X249 e250 W252
      have F253 := F230.wr W252
      have F254 := F231.other W252 (Or.inl ne_q1_si)
      have F255 := F232.other W252 (Or.inl ne_q1_si)
      have F256 := F233.other W252 (Or.inl ne_q1_si)
      have F257 := F234.other W252 (Or.inl ne_q1_si)
      have F258 := F235.other W252 (Or.inl ne_q1_si)
      have F259 := F236.other W252 (Or.inl ne_q1_si)
      have F260 := F237.other W252 (Or.inl ne_q1_si)
      have F261 := F238.other W252 ne_la_si
      have F262 := F239.other W252 ne_ma_si
      have F263 := F240.same W252
      have F264 := F241.other W252 ne_si_rh.symm
      have F265 := F242.other W252 ne_si_ex.symm
      have Z266 : n0 ≤ h251.size := by rw [W252.size]; exact Z243
      have N267 := Fr.snoc X249 N244 g_si
      refine g_aloadN X249 hx (hb hby da1_438) rfl rfl ?_
      refine g_getF X249 hx hZ hown (hw _ (List.mem_of_getElem? (i := 17) rfl)) e250 F257 (hb hby da1_439) ?_
      intro T268 X269 e270
      refine g_iload X269 hx (hb hby da1_442) rfl ?_
      refine g_dload X269 hx (hb hby da1_444) rfl ?_
      refine g_dastore X269 hx hZ e270 F264 (i := 1) (by decide) (by decide) (by decide) (hb hby da1_446) ?_
      intro T271 h274 X272 e273 W275
      have F276 := F253.wr W275
      have F277 := F254.other W275 (Or.inl ne_q1_rh)
      have F278 := F255.other W275 (Or.inl ne_q1_rh)
      have F279 := F256.other W275 (Or.inl ne_q1_rh)
      have F280 := F257.other W275 (Or.inl ne_q1_rh)
      have F281 := F258.other W275 (Or.inl ne_q1_rh)
      have F282 := F259.other W275 (Or.inl ne_q1_rh)
      have F283 := F260.other W275 (Or.inl ne_q1_rh)
      have F284 := F261.other W275 ne_la_rh
      have F285 := F262.other W275 ne_ma_rh
      have F286 := F263.other W275 ne_si_rh
      have F287 := F264.same W275
      have F288 := F265.other W275 ne_rh_ex.symm
      have Z289 : n0 ≤ h274.size := by rw [W275.size]; exact Z266
      have N290 := Fr.snoc X272 N267 g_rh
      refine g_aloadN X272 hx (hb hby da1_447) rfl rfl ?_
      refine g_getF X272 hx hZ hown (hw _ (List.mem_of_getElem? (i := 20) rfl)) e273 F281 (hb hby da1_448) ?_
      intro T291 X292 e293
      refine g_iload X292 hx (hb hby da1_451) rfl ?_
      refine g_iconst X292 hx (hb hby da1_453) (v := (0 : Int32)) (by decide) ?_
      refine g_bastoreZ X292 hx hZ e293 F288 (i := 1) (by decide) (by decide) (by decide) (hb hby da1_454) ?_
      intro T294 h297 X295 e296 W298
      have F299 := F276.wr W298
      have F300 := F277.other W298 (Or.inl ne_q1_ex)
      have F301 := F278.other W298 (Or.inl ne_q1_ex)
      have F302 := F279.other W298 (Or.inl ne_q1_ex)
      have F303 := F280.other W298 (Or.inl ne_q1_ex)
      have F304 := F281.other W298 (Or.inl ne_q1_ex)
      have F305 := F282.other W298 (Or.inl ne_q1_ex)
      have F306 := F283.other W298 (Or.inl ne_q1_ex)
      have F307 := F284.other W298 ne_la_ex
      have F308 := F285.other W298 ne_ma_ex
      have F309 := F286.other W298 ne_si_ex
      have F310 := F287.other W298 ne_rh_ex
      have F311 := F288.same W298
      have Z312 : n0 ≤ h297.size := by rw [W298.size]; exact Z289
      have N313 := Fr.snoc X295 N290 g_ex
      refine g_aloadN X295 hx (hb hby da1_455) rfl rfl ?_
      refine g_iload X295 hx (hb hby da1_456) rfl ?_
      refine g_putF X295 hx hZ hown (hw _ (List.mem_of_getElem? (i := 30) rfl)) e296 F305 F299 (Or.inl (hw _ (List.mem_of_getElem? (i := 31) rfl))) (hw _ (List.mem_of_getElem? (i := 1) rfl)) (ty := .int) (by decide) rfl rfl (hb hby da1_458) ?_
      intro T314 h317 X315 e316 W318
      have F320 := F299.wr W318
      have F321 := F300.other W318 (Or.inr (slot_ne (Or.inl (hw _ (List.mem_of_getElem? (i := 11) rfl))) (Or.inl (hw _ (List.mem_of_getElem? (i := 31) rfl))) (by decide) (t := (.array .int)) (t' := .int) (by decide) (by decide)))
      have F322 := F301.other W318 (Or.inr (slot_ne (Or.inl (hw _ (List.mem_of_getElem? (i := 14) rfl))) (Or.inl (hw _ (List.mem_of_getElem? (i := 31) rfl))) (by decide) (t := (.array .double)) (t' := .int) (by decide) (by decide)))
      have F323 := F302.other W318 (Or.inr (slot_ne (Or.inl (hw _ (List.mem_of_getElem? (i := 16) rfl))) (Or.inl (hw _ (List.mem_of_getElem? (i := 31) rfl))) (by decide) (t := (.array .double)) (t' := .int) (by decide) (by decide)))
      have F324 := F303.other W318 (Or.inr (slot_ne (Or.inl (hw _ (List.mem_of_getElem? (i := 18) rfl))) (Or.inl (hw _ (List.mem_of_getElem? (i := 31) rfl))) (by decide) (t := (.array .double)) (t' := .int) (by decide) (by decide)))
      have F325 := F304.other W318 (Or.inr (slot_ne (Or.inl (hw _ (List.mem_of_getElem? (i := 21) rfl))) (Or.inl (hw _ (List.mem_of_getElem? (i := 31) rfl))) (by decide) (t := (.array .boolean)) (t' := .int) (by decide) (by decide)))
      have F326 := F306.other W318 (Or.inr (slot_ne (Or.inr (hw _ (List.mem_of_getElem? (i := 23) rfl))) (Or.inl (hw _ (List.mem_of_getElem? (i := 31) rfl))) (by decide) (t := .boolean) (t' := .int) (by decide) (by decide)))
      have F327 := F307.other W318 ne_q1_la.symm
      have F328 := F308.other W318 ne_q1_ma.symm
      have F329 := F309.other W318 ne_q1_si.symm
      have F330 := F310.other W318 ne_q1_rh.symm
      have F331 := F311.other W318 ne_q1_ex.symm
      have F332 := F305.same W318
      have Z333 : n0 ≤ h317.size := by rw [W318.size]; exact Z312
      have N334 := Fr.snoc X315 N313 g_q1
      refine g_iconst X315 hx (hb hby da1_461) (v := (1 : Int32)) (by decide) ?_
      refine g_ireturn X315 hx Bd.notSynchronized Bd.returns rfl (by simp) (hb hby da1_462) (by decide) (by decide) ?_
      rw [e316]
      exact ⟨rfl, N334, Z333, F320, F321, F322, F323, F324, F325, F332, F326, (F327.congr (fun j _ => own_uI _ _ _ j)), (F328.congr (fun j _ => own_uD _ _ _ j)), (F329.congr (fun j _ => own_uD _ _ _ j)), (F330.congr (fun j _ => own_uD _ _ _ j)), (F331.congr (fun j _ => own_uI _ _ _ j)), own_uB hB (Or.inl rfl), ⟨⟨ne_q1_la, ne_q1_ma, ne_q1_si, ne_q1_rh, ne_q1_ex, ne_la_ma, ne_la_si, ne_la_rh, ne_la_ex, ne_ma_si, ne_ma_rh, ne_ma_ex, ne_si_rh, ne_si_ex, ne_rh_ex⟩, ⟨g_q1, g_la, g_ma, g_si, g_rh, g_ex⟩⟩⟩
    ·
      refine g_ifNo X25 hx (hb hby da1_134) (feq hc134_27).1 ?_
      refine g_iload X25 hx (hb hby da1_137) rfl ?_
      have hc139_335 : (0 : Int32) < (1 : Int32) := (by decide)
      refine g_ifNo X25 hx (hb hby da1_139) (tlt hc139_335).2.2.2 ?_
      refine g_aloadN X25 hx (hb hby da1_142) rfl rfl ?_
      refine g_getF X25 hx hZ hown (hw _ (List.mem_of_getElem? (i := 17) rfl)) e26 F_rh (hb hby da1_143) ?_
      intro T336 X337 e338
      refine g_iload X337 hx (hb hby da1_146) rfl ?_
      refine g_iconst X337 hx (hb hby da1_148) (v := (1 : Int32)) (by decide) ?_
      refine g_isub X337 hx (hb hby da1_149) (show (1 : Int32) - (1 : Int32) = (0 : Int32) from by decide) ?_
      refine g_daload X337 hx hZ e338 A_rh (by decide) (by decide) (i := 0) (by decide) (congrArg Value.double hR0) (hb hby da1_150) ?_
      refine g_dload X337 hx (hb hby da1_151) rfl ?_
      refine g_dcmp X337 hx (hb hby da1_153) ?_
      have hc154_339 : FP.dcmp (4607182418800017408 : UInt64) (4611686018427387904 : UInt64) = some .lt ∨ FP.dcmp (4607182418800017408 : UInt64) (4611686018427387904 : UInt64) = none := (by decide +kernel)
      refine g_ifYes X337 hx (hb hby da1_154) (tlt ((cv_l_lt _).mpr hc154_339)).1 (by decide) (pc' := 163) (by decide) ?_
      refine g_iload X337 hx (hb hby da1_163) rfl ?_
      refine g_istore X337 hx (hb hby da1_165) (L' := #[.val (.ref q1), .val (.int (20 : Int32)), .val (.double (4611686018427387904 : UInt64)), .second, .val (.double (4611686018427387904 : UInt64)), .second, .val (.double (4611686018427387904 : UInt64)), .second, .val (.int (1 : Int32)), .val (.int (1 : Int32)), .val (.int (1 : Int32)), .val (.int (1 : Int32)), .unset, .unset]) rfl ?_
      refine g_iload X337 hx (hb hby da1_167) rfl ?_
      refine g_aloadN X337 hx (hb hby da1_169) rfl rfl ?_
      refine g_getF X337 hx hZ hown (hw _ (List.mem_of_getElem? (i := 30) rfl)) e338 F_sz (hb hby da1_170) ?_
      intro T340 X341 e342
      have hc173_343 : ¬ ((1 : Int32) < (1 : Int32)) := (by decide)
      refine g_icmpYes X341 hx (hb hby da1_173) (flt hc173_343).2.1 (by decide) (pc' := 195) (by decide) ?_
      refine g_aloadN X341 hx (hb hby da1_195) rfl rfl ?_
      refine g_getF X341 hx hZ hown (hw _ (List.mem_of_getElem? (i := 30) rfl)) e342 F_sz (hb hby da1_196) ?_
      intro T344 X345 e346
      refine g_iload X345 hx (hb hby da1_199) rfl ?_
      refine g_iload X345 hx (hb hby da1_201) rfl ?_
      refine g_isub X345 hx (hb hby da1_203) (show (1 : Int32) - (1 : Int32) = (0 : Int32) from by decide) ?_
      refine g_isub X345 hx (hb hby da1_204) (show (1 : Int32) - (0 : Int32) = (1 : Int32) from by decide) ?_
      refine g_iconst X345 hx (hb hby da1_205) (v := (1 : Int32)) (by decide) ?_
      refine g_iadd X345 hx (hb hby da1_206) (show (1 : Int32) + (1 : Int32) = (2 : Int32) from by decide) ?_
      refine g_istore X345 hx (hb hby da1_207) (L' := #[.val (.ref q1), .val (.int (20 : Int32)), .val (.double (4611686018427387904 : UInt64)), .second, .val (.double (4611686018427387904 : UInt64)), .second, .val (.double (4611686018427387904 : UInt64)), .second, .val (.int (1 : Int32)), .val (.int (1 : Int32)), .val (.int (1 : Int32)), .val (.int (1 : Int32)), .val (.int (2 : Int32)), .unset]) rfl ?_
      refine g_iload X345 hx (hb hby da1_209) rfl ?_
      refine g_aloadN X345 hx (hb hby da1_211) rfl rfl ?_
      refine g_getF X345 hx hZ hown (hw _ (List.mem_of_getElem? (i := 10) rfl)) e346 F_la (hb hby da1_212) ?_
      intro T347 X348 e349
      refine g_arraylength X348 hx hZ e349 A_la (show Nat.toInt32 4 = (4 : Int32) from by decide) (hb hby da1_215) ?_
      have hc216_350 : ¬ ((4 : Int32) < (2 : Int32)) := (by decide)
      refine g_icmpYes X348 hx (hb hby da1_216) (flt hc216_350).2.2.2 (by decide) (pc' := 293) (by decide) ?_
      refine g_aloadN X348 hx (hb hby da1_293) rfl rfl ?_
      refine g_getF X348 hx hZ hown (hw _ (List.mem_of_getElem? (i := 10) rfl)) e349 F_la (hb hby da1_294) ?_
      intro T351 X352 e353
      refine g_iload X352 hx (hb hby da1_297) rfl ?_
      refine g_aloadN X352 hx (hb hby da1_299) rfl rfl ?_
      refine g_getF X352 hx hZ hown (hw _ (List.mem_of_getElem? (i := 10) rfl)) e353 F_la (hb hby da1_300) ?_
      intro T354 X355 e356
      refine g_iload X355 hx (hb hby da1_303) rfl ?_
      refine g_iconst X355 hx (hb hby da1_305) (v := (1 : Int32)) (by decide) ?_
      refine g_iadd X355 hx (hb hby da1_306) (show (1 : Int32) + (1 : Int32) = (2 : Int32) from by decide) ?_
      refine g_aloadN X355 hx (hb hby da1_307) rfl rfl ?_
      refine g_getF X355 hx hZ hown (hw _ (List.mem_of_getElem? (i := 30) rfl)) e356 F_sz (hb hby da1_308) ?_
      intro T357 X358 e359
      refine g_iload X358 hx (hb hby da1_311) rfl ?_
      refine g_isub X358 hx (hb hby da1_313) (show (1 : Int32) - (1 : Int32) = (0 : Int32) from by decide) ?_
      refine g_acp0 X358 hx hZ hown (hw _ (List.mem_of_getElem? (i := 32) rfl)) (hw _ (List.mem_of_getElem? (i := 35) rfl)) (hw _ (List.mem_of_getElem? (i := 33) rfl)) (hw _ (List.mem_of_getElem? (i := 34) rfl)) e359 A_la rfl (fun _ _ => rfl) (z := 4) (by decide) (by decide) (by decide) (by decide) (by decide) (by decide) N0 g_la (by rw [hml]; rfl) (hb hby da1_314) (by decide) (by decide) ?_
      intro T360 h361 L362 X363 e364 N365 K366 F367
      have F368 := E0.keep K366
      have F369 := F_la.keep K366 (ninS ne_q1_la nin0)
      have F371 := F_ma.keep K366 (ninS ne_q1_la nin0)
      have F372 := A_ma.keep K366 (ninS ne_la_ma.symm nin0)
      have F373 := F_si.keep K366 (ninS ne_q1_la nin0)
      have F374 := A_si.keep K366 (ninS ne_la_si.symm nin0)
      have F375 := F_rh.keep K366 (ninS ne_q1_la nin0)
      have F376 := A_rh.keep K366 (ninS ne_la_rh.symm nin0)
      have F377 := F_ex.keep K366 (ninS ne_q1_la nin0)
      have F378 := A_ex.keep K366 (ninS ne_la_ex.symm nin0)
      have F379 := F_sz.keep K366 (ninS ne_q1_la nin0)
      have F380 := F_fg.keep K366 (ninS ne_q1_la nin0)
      have Z381 : n0 ≤ h361.size := Nat.le_trans Z0 K366.1
      refine g_aloadN X363 hx (hb hby da1_317) rfl rfl ?_
      refine g_getF X363 hx hZ hown (hw _ (List.mem_of_getElem? (i := 13) rfl)) e364 F371 (hb hby da1_318) ?_
      intro T383 X384 e385
      refine g_iload X384 hx (hb hby da1_321) rfl ?_
      refine g_aloadN X384 hx (hb hby da1_323) rfl rfl ?_
      refine g_getF X384 hx hZ hown (hw _ (List.mem_of_getElem? (i := 13) rfl)) e385 F371 (hb hby da1_324) ?_
      intro T386 X387 e388
      refine g_iload X387 hx (hb hby da1_327) rfl ?_
      refine g_iconst X387 hx (hb hby da1_329) (v := (1 : Int32)) (by decide) ?_
      refine g_iadd X387 hx (hb hby da1_330) (show (1 : Int32) + (1 : Int32) = (2 : Int32) from by decide) ?_
      refine g_aloadN X387 hx (hb hby da1_331) rfl rfl ?_
      refine g_getF X387 hx hZ hown (hw _ (List.mem_of_getElem? (i := 30) rfl)) e388 F379 (hb hby da1_332) ?_
      intro T389 X390 e391
      refine g_iload X390 hx (hb hby da1_335) rfl ?_
      refine g_isub X390 hx (hb hby da1_337) (show (1 : Int32) - (1 : Int32) = (0 : Int32) from by decide) ?_
      refine g_acp0 X390 hx hZ hown (hw _ (List.mem_of_getElem? (i := 32) rfl)) (hw _ (List.mem_of_getElem? (i := 35) rfl)) (hw _ (List.mem_of_getElem? (i := 33) rfl)) (hw _ (List.mem_of_getElem? (i := 34) rfl)) e391 F372 rfl (fun _ _ => rfl) (z := 4) (by decide) (by decide) (by decide) (by decide) (by decide) (by decide) N365 g_ma (by rw [hml]; rfl) (hb hby da1_338) (by decide) (by decide) ?_
      intro T392 h393 L394 X395 e396 N397 K398 F399
      have F400 := F368.keep K398
      have F401 := F369.keep K398 (ninS ne_q1_ma nin0)
      have F402 := F371.keep K398 (ninS ne_q1_ma nin0)
      have F404 := F373.keep K398 (ninS ne_q1_ma nin0)
      have F405 := F374.keep K398 (ninS ne_ma_si.symm nin0)
      have F406 := F375.keep K398 (ninS ne_q1_ma nin0)
      have F407 := F376.keep K398 (ninS ne_ma_rh.symm nin0)
      have F408 := F377.keep K398 (ninS ne_q1_ma nin0)
      have F409 := F378.keep K398 (ninS ne_ma_ex.symm nin0)
      have F410 := F379.keep K398 (ninS ne_q1_ma nin0)
      have F411 := F380.keep K398 (ninS ne_q1_ma nin0)
      have F412 := F367.keep K398 (ninS ne_la_ma nin0)
      have Z413 : n0 ≤ h393.size := Nat.le_trans Z381 K398.1
      refine g_aloadN X395 hx (hb hby da1_341) rfl rfl ?_
      refine g_getF X395 hx hZ hown (hw _ (List.mem_of_getElem? (i := 15) rfl)) e396 F404 (hb hby da1_342) ?_
      intro T415 X416 e417
      refine g_iload X416 hx (hb hby da1_345) rfl ?_
      refine g_aloadN X416 hx (hb hby da1_347) rfl rfl ?_
      refine g_getF X416 hx hZ hown (hw _ (List.mem_of_getElem? (i := 15) rfl)) e417 F404 (hb hby da1_348) ?_
      intro T418 X419 e420
      refine g_iload X419 hx (hb hby da1_351) rfl ?_
      refine g_iconst X419 hx (hb hby da1_353) (v := (1 : Int32)) (by decide) ?_
      refine g_iadd X419 hx (hb hby da1_354) (show (1 : Int32) + (1 : Int32) = (2 : Int32) from by decide) ?_
      refine g_aloadN X419 hx (hb hby da1_355) rfl rfl ?_
      refine g_getF X419 hx hZ hown (hw _ (List.mem_of_getElem? (i := 30) rfl)) e420 F410 (hb hby da1_356) ?_
      intro T421 X422 e423
      refine g_iload X422 hx (hb hby da1_359) rfl ?_
      refine g_isub X422 hx (hb hby da1_361) (show (1 : Int32) - (1 : Int32) = (0 : Int32) from by decide) ?_
      refine g_acp0 X422 hx hZ hown (hw _ (List.mem_of_getElem? (i := 32) rfl)) (hw _ (List.mem_of_getElem? (i := 35) rfl)) (hw _ (List.mem_of_getElem? (i := 33) rfl)) (hw _ (List.mem_of_getElem? (i := 34) rfl)) e423 F405 rfl (fun _ _ => rfl) (z := 4) (by decide) (by decide) (by decide) (by decide) (by decide) (by decide) N397 g_si (by rw [hml]; rfl) (hb hby da1_362) (by decide) (by decide) ?_
      intro T424 h425 L426 X427 e428 N429 K430 F431
      have F432 := F400.keep K430
      have F433 := F401.keep K430 (ninS ne_q1_si nin0)
      have F434 := F402.keep K430 (ninS ne_q1_si nin0)
      have F435 := F404.keep K430 (ninS ne_q1_si nin0)
      have F437 := F406.keep K430 (ninS ne_q1_si nin0)
      have F438 := F407.keep K430 (ninS ne_si_rh.symm nin0)
      have F439 := F408.keep K430 (ninS ne_q1_si nin0)
      have F440 := F409.keep K430 (ninS ne_si_ex.symm nin0)
      have F441 := F410.keep K430 (ninS ne_q1_si nin0)
      have F442 := F411.keep K430 (ninS ne_q1_si nin0)
      have F443 := F412.keep K430 (ninS ne_la_si nin0)
      have F444 := F399.keep K430 (ninS ne_ma_si nin0)
      have Z445 : n0 ≤ h425.size := Nat.le_trans Z413 K430.1
      refine g_aloadN X427 hx (hb hby da1_365) rfl rfl ?_
      refine g_getF X427 hx hZ hown (hw _ (List.mem_of_getElem? (i := 17) rfl)) e428 F437 (hb hby da1_366) ?_
      intro T447 X448 e449
      refine g_iload X448 hx (hb hby da1_369) rfl ?_
      refine g_aloadN X448 hx (hb hby da1_371) rfl rfl ?_
      refine g_getF X448 hx hZ hown (hw _ (List.mem_of_getElem? (i := 17) rfl)) e449 F437 (hb hby da1_372) ?_
      intro T450 X451 e452
      refine g_iload X451 hx (hb hby da1_375) rfl ?_
      refine g_iconst X451 hx (hb hby da1_377) (v := (1 : Int32)) (by decide) ?_
      refine g_iadd X451 hx (hb hby da1_378) (show (1 : Int32) + (1 : Int32) = (2 : Int32) from by decide) ?_
      refine g_aloadN X451 hx (hb hby da1_379) rfl rfl ?_
      refine g_getF X451 hx hZ hown (hw _ (List.mem_of_getElem? (i := 30) rfl)) e452 F441 (hb hby da1_380) ?_
      intro T453 X454 e455
      refine g_iload X454 hx (hb hby da1_383) rfl ?_
      refine g_isub X454 hx (hb hby da1_385) (show (1 : Int32) - (1 : Int32) = (0 : Int32) from by decide) ?_
      refine g_acp0 X454 hx hZ hown (hw _ (List.mem_of_getElem? (i := 32) rfl)) (hw _ (List.mem_of_getElem? (i := 35) rfl)) (hw _ (List.mem_of_getElem? (i := 33) rfl)) (hw _ (List.mem_of_getElem? (i := 34) rfl)) e455 F438 rfl (fun _ _ => rfl) (z := 4) (by decide) (by decide) (by decide) (by decide) (by decide) (by decide) N429 g_rh (by rw [hml]; rfl) (hb hby da1_386) (by decide) (by decide) ?_
      intro T456 h457 L458 X459 e460 N461 K462 F463
      have F464 := F432.keep K462
      have F465 := F433.keep K462 (ninS ne_q1_rh nin0)
      have F466 := F434.keep K462 (ninS ne_q1_rh nin0)
      have F467 := F435.keep K462 (ninS ne_q1_rh nin0)
      have F468 := F437.keep K462 (ninS ne_q1_rh nin0)
      have F470 := F439.keep K462 (ninS ne_q1_rh nin0)
      have F471 := F440.keep K462 (ninS ne_rh_ex.symm nin0)
      have F472 := F441.keep K462 (ninS ne_q1_rh nin0)
      have F473 := F442.keep K462 (ninS ne_q1_rh nin0)
      have F474 := F443.keep K462 (ninS ne_la_rh nin0)
      have F475 := F444.keep K462 (ninS ne_ma_rh nin0)
      have F476 := F431.keep K462 (ninS ne_si_rh nin0)
      have Z477 : n0 ≤ h457.size := Nat.le_trans Z445 K462.1
      refine g_aloadN X459 hx (hb hby da1_389) rfl rfl ?_
      refine g_getF X459 hx hZ hown (hw _ (List.mem_of_getElem? (i := 20) rfl)) e460 F470 (hb hby da1_390) ?_
      intro T479 X480 e481
      refine g_iload X480 hx (hb hby da1_393) rfl ?_
      refine g_aloadN X480 hx (hb hby da1_395) rfl rfl ?_
      refine g_getF X480 hx hZ hown (hw _ (List.mem_of_getElem? (i := 20) rfl)) e481 F470 (hb hby da1_396) ?_
      intro T482 X483 e484
      refine g_iload X483 hx (hb hby da1_399) rfl ?_
      refine g_iconst X483 hx (hb hby da1_401) (v := (1 : Int32)) (by decide) ?_
      refine g_iadd X483 hx (hb hby da1_402) (show (1 : Int32) + (1 : Int32) = (2 : Int32) from by decide) ?_
      refine g_aloadN X483 hx (hb hby da1_403) rfl rfl ?_
      refine g_getF X483 hx hZ hown (hw _ (List.mem_of_getElem? (i := 30) rfl)) e484 F472 (hb hby da1_404) ?_
      intro T485 X486 e487
      refine g_iload X486 hx (hb hby da1_407) rfl ?_
      refine g_isub X486 hx (hb hby da1_409) (show (1 : Int32) - (1 : Int32) = (0 : Int32) from by decide) ?_
      refine g_acp0 X486 hx hZ hown (hw _ (List.mem_of_getElem? (i := 32) rfl)) (hw _ (List.mem_of_getElem? (i := 35) rfl)) (hw _ (List.mem_of_getElem? (i := 33) rfl)) (hw _ (List.mem_of_getElem? (i := 34) rfl)) e487 F471 rfl (own_fitB hB) (z := 4) (by decide) (by decide) (by decide) (by decide) (by decide) (by decide) N461 g_ex (by rw [hml]; rfl) (hb hby da1_410) (by decide) (by decide) ?_
      intro T488 h489 L490 X491 e492 N493 K494 F495
      have F496 := F464.keep K494
      have F497 := F465.keep K494 (ninS ne_q1_ex nin0)
      have F498 := F466.keep K494 (ninS ne_q1_ex nin0)
      have F499 := F467.keep K494 (ninS ne_q1_ex nin0)
      have F500 := F468.keep K494 (ninS ne_q1_ex nin0)
      have F501 := F470.keep K494 (ninS ne_q1_ex nin0)
      have F503 := F472.keep K494 (ninS ne_q1_ex nin0)
      have F504 := F473.keep K494 (ninS ne_q1_ex nin0)
      have F505 := F474.keep K494 (ninS ne_la_ex nin0)
      have F506 := F475.keep K494 (ninS ne_ma_ex nin0)
      have F507 := F476.keep K494 (ninS ne_si_ex nin0)
      have F508 := F463.keep K494 (ninS ne_rh_ex nin0)
      have Z509 : n0 ≤ h489.size := Nat.le_trans Z477 K494.1
      refine g_aloadN X491 hx (hb hby da1_413) rfl rfl ?_
      refine g_getF X491 hx hZ hown (hw _ (List.mem_of_getElem? (i := 10) rfl)) e492 F497 (hb hby da1_414) ?_
      intro T511 X512 e513
      refine g_iload X512 hx (hb hby da1_417) rfl ?_
      refine g_iloadN X512 hx (hb hby da1_419) rfl ?_
      refine g_iastore X512 hx hZ e513 F505 (i := 1) (by decide) (by decide) (by decide) (hb hby da1_420) ?_
      intro T514 h517 X515 e516 W518
      have F519 := F496.wr W518
      have F520 := F497.other W518 (Or.inl ne_q1_la)
      have F521 := F498.other W518 (Or.inl ne_q1_la)
      have F522 := F499.other W518 (Or.inl ne_q1_la)
      have F523 := F500.other W518 (Or.inl ne_q1_la)
      have F524 := F501.other W518 (Or.inl ne_q1_la)
      have F525 := F503.other W518 (Or.inl ne_q1_la)
      have F526 := F504.other W518 (Or.inl ne_q1_la)
      have F527 := F505.same W518
      have F528 := F506.other W518 ne_la_ma.symm
      have F529 := F507.other W518 ne_la_si.symm
      have F530 := F508.other W518 ne_la_rh.symm
      have F531 := F495.other W518 ne_la_ex.symm
      have Z532 : n0 ≤ h517.size := by rw [W518.size]; exact Z509
      have N533 := Fr.snoc X515 N493 g_la
      refine g_aloadN X515 hx (hb hby da1_421) rfl rfl ?_
      refine g_getF X515 hx hZ hown (hw _ (List.mem_of_getElem? (i := 13) rfl)) e516 F521 (hb hby da1_422) ?_
      intro T534 X535 e536
      refine g_iload X535 hx (hb hby da1_425) rfl ?_
      refine g_dloadN X535 hx (hb hby da1_427) rfl ?_
      refine g_dastore X535 hx hZ e536 F528 (i := 1) (by decide) (by decide) (by decide) (hb hby da1_428) ?_
      intro T537 h540 X538 e539 W541
      have F542 := F519.wr W541
      have F543 := F520.other W541 (Or.inl ne_q1_ma)
      have F544 := F521.other W541 (Or.inl ne_q1_ma)
      have F545 := F522.other W541 (Or.inl ne_q1_ma)
      have F546 := F523.other W541 (Or.inl ne_q1_ma)
      have F547 := F524.other W541 (Or.inl ne_q1_ma)
      have F548 := F525.other W541 (Or.inl ne_q1_ma)
      have F549 := F526.other W541 (Or.inl ne_q1_ma)
      have F550 := F527.other W541 ne_la_ma
      have F551 := F528.same W541
      have F552 := F529.other W541 ne_ma_si.symm
      have F553 := F530.other W541 ne_ma_rh.symm
      have F554 := F531.other W541 ne_ma_ex.symm
      have Z555 : n0 ≤ h540.size := by rw [W541.size]; exact Z532
      have N556 := Fr.snoc X538 N533 g_ma
      refine g_aloadN X538 hx (hb hby da1_429) rfl rfl ?_
      refine g_getF X538 hx hZ hown (hw _ (List.mem_of_getElem? (i := 15) rfl)) e539 F545 (hb hby da1_430) ?_
      intro T557 X558 e559
      refine g_iload X558 hx (hb hby da1_433) rfl ?_
      refine g_dload X558 hx (hb hby da1_435) rfl ?_
      refine g_dastore X558 hx hZ e559 F552 (i := 1) (by decide) (by decide) (by decide) (hb hby da1_437) ?_
      intro T560 h563 X561 e562 W564
      have F565 := F542.wr W564
      have F566 := F543.other W564 (Or.inl ne_q1_si)
      have F567 := F544.other W564 (Or.inl ne_q1_si)
      have F568 := F545.other W564 (Or.inl ne_q1_si)
      have F569 := F546.other W564 (Or.inl ne_q1_si)
      have F570 := F547.other W564 (Or.inl ne_q1_si)
      have F571 := F548.other W564 (Or.inl ne_q1_si)
      have F572 := F549.other W564 (Or.inl ne_q1_si)
      have F573 := F550.other W564 ne_la_si
      have F574 := F551.other W564 ne_ma_si
      have F575 := F552.same W564
      have F576 := F553.other W564 ne_si_rh.symm
      have F577 := F554.other W564 ne_si_ex.symm
      have Z578 : n0 ≤ h563.size := by rw [W564.size]; exact Z555
      have N579 := Fr.snoc X561 N556 g_si
      refine g_aloadN X561 hx (hb hby da1_438) rfl rfl ?_
      refine g_getF X561 hx hZ hown (hw _ (List.mem_of_getElem? (i := 17) rfl)) e562 F569 (hb hby da1_439) ?_
      intro T580 X581 e582
      refine g_iload X581 hx (hb hby da1_442) rfl ?_
      refine g_dload X581 hx (hb hby da1_444) rfl ?_
      refine g_dastore X581 hx hZ e582 F576 (i := 1) (by decide) (by decide) (by decide) (hb hby da1_446) ?_
      intro T583 h586 X584 e585 W587
      have F588 := F565.wr W587
      have F589 := F566.other W587 (Or.inl ne_q1_rh)
      have F590 := F567.other W587 (Or.inl ne_q1_rh)
      have F591 := F568.other W587 (Or.inl ne_q1_rh)
      have F592 := F569.other W587 (Or.inl ne_q1_rh)
      have F593 := F570.other W587 (Or.inl ne_q1_rh)
      have F594 := F571.other W587 (Or.inl ne_q1_rh)
      have F595 := F572.other W587 (Or.inl ne_q1_rh)
      have F596 := F573.other W587 ne_la_rh
      have F597 := F574.other W587 ne_ma_rh
      have F598 := F575.other W587 ne_si_rh
      have F599 := F576.same W587
      have F600 := F577.other W587 ne_rh_ex.symm
      have Z601 : n0 ≤ h586.size := by rw [W587.size]; exact Z578
      have N602 := Fr.snoc X584 N579 g_rh
      refine g_aloadN X584 hx (hb hby da1_447) rfl rfl ?_
      refine g_getF X584 hx hZ hown (hw _ (List.mem_of_getElem? (i := 20) rfl)) e585 F593 (hb hby da1_448) ?_
      intro T603 X604 e605
      refine g_iload X604 hx (hb hby da1_451) rfl ?_
      refine g_iconst X604 hx (hb hby da1_453) (v := (0 : Int32)) (by decide) ?_
      refine g_bastoreZ X604 hx hZ e605 F600 (i := 1) (by decide) (by decide) (by decide) (hb hby da1_454) ?_
      intro T606 h609 X607 e608 W610
      have F611 := F588.wr W610
      have F612 := F589.other W610 (Or.inl ne_q1_ex)
      have F613 := F590.other W610 (Or.inl ne_q1_ex)
      have F614 := F591.other W610 (Or.inl ne_q1_ex)
      have F615 := F592.other W610 (Or.inl ne_q1_ex)
      have F616 := F593.other W610 (Or.inl ne_q1_ex)
      have F617 := F594.other W610 (Or.inl ne_q1_ex)
      have F618 := F595.other W610 (Or.inl ne_q1_ex)
      have F619 := F596.other W610 ne_la_ex
      have F620 := F597.other W610 ne_ma_ex
      have F621 := F598.other W610 ne_si_ex
      have F622 := F599.other W610 ne_rh_ex
      have F623 := F600.same W610
      have Z624 : n0 ≤ h609.size := by rw [W610.size]; exact Z601
      have N625 := Fr.snoc X607 N602 g_ex
      refine g_aloadN X607 hx (hb hby da1_455) rfl rfl ?_
      refine g_iload X607 hx (hb hby da1_456) rfl ?_
      refine g_putF X607 hx hZ hown (hw _ (List.mem_of_getElem? (i := 30) rfl)) e608 F617 F611 (Or.inl (hw _ (List.mem_of_getElem? (i := 31) rfl))) (hw _ (List.mem_of_getElem? (i := 1) rfl)) (ty := .int) (by decide) rfl rfl (hb hby da1_458) ?_
      intro T626 h629 X627 e628 W630
      have F632 := F611.wr W630
      have F633 := F612.other W630 (Or.inr (slot_ne (Or.inl (hw _ (List.mem_of_getElem? (i := 11) rfl))) (Or.inl (hw _ (List.mem_of_getElem? (i := 31) rfl))) (by decide) (t := (.array .int)) (t' := .int) (by decide) (by decide)))
      have F634 := F613.other W630 (Or.inr (slot_ne (Or.inl (hw _ (List.mem_of_getElem? (i := 14) rfl))) (Or.inl (hw _ (List.mem_of_getElem? (i := 31) rfl))) (by decide) (t := (.array .double)) (t' := .int) (by decide) (by decide)))
      have F635 := F614.other W630 (Or.inr (slot_ne (Or.inl (hw _ (List.mem_of_getElem? (i := 16) rfl))) (Or.inl (hw _ (List.mem_of_getElem? (i := 31) rfl))) (by decide) (t := (.array .double)) (t' := .int) (by decide) (by decide)))
      have F636 := F615.other W630 (Or.inr (slot_ne (Or.inl (hw _ (List.mem_of_getElem? (i := 18) rfl))) (Or.inl (hw _ (List.mem_of_getElem? (i := 31) rfl))) (by decide) (t := (.array .double)) (t' := .int) (by decide) (by decide)))
      have F637 := F616.other W630 (Or.inr (slot_ne (Or.inl (hw _ (List.mem_of_getElem? (i := 21) rfl))) (Or.inl (hw _ (List.mem_of_getElem? (i := 31) rfl))) (by decide) (t := (.array .boolean)) (t' := .int) (by decide) (by decide)))
      have F638 := F618.other W630 (Or.inr (slot_ne (Or.inr (hw _ (List.mem_of_getElem? (i := 23) rfl))) (Or.inl (hw _ (List.mem_of_getElem? (i := 31) rfl))) (by decide) (t := .boolean) (t' := .int) (by decide) (by decide)))
      have F639 := F619.other W630 ne_q1_la.symm
      have F640 := F620.other W630 ne_q1_ma.symm
      have F641 := F621.other W630 ne_q1_si.symm
      have F642 := F622.other W630 ne_q1_rh.symm
      have F643 := F623.other W630 ne_q1_ex.symm
      have F644 := F617.same W630
      have Z645 : n0 ≤ h629.size := by rw [W630.size]; exact Z624
      have N646 := Fr.snoc X627 N625 g_q1
      refine g_iconst X627 hx (hb hby da1_461) (v := (1 : Int32)) (by decide) ?_
      refine g_ireturn X627 hx Bd.notSynchronized Bd.returns rfl (by simp) (hb hby da1_462) (by decide) (by decide) ?_
      rw [e628]
      exact ⟨rfl, N646, Z645, F632, F633, F634, F635, F636, F637, F644, F638, (F639.congr (fun j _ => own_uI _ _ _ j)), (F640.congr (fun j _ => own_uD _ _ _ j)), (F641.congr (fun j _ => own_uD _ _ _ j)), (F642.congr (fun j _ => own_uD _ _ _ j)), (F643.congr (fun j _ => own_uI _ _ _ j)), own_uB hB (Or.inl rfl), ⟨⟨ne_q1_la, ne_q1_ma, ne_q1_si, ne_q1_rh, ne_q1_ex, ne_la_ma, ne_la_si, ne_la_rh, ne_la_ex, ne_ma_si, ne_ma_rh, ne_ma_ex, ne_si_rh, ne_si_ex, ne_rh_ex⟩, ⟨g_q1, g_la, g_ma, g_si, g_rh, g_ex⟩⟩⟩
  ·
    refine g_ifNo X16 hx (hb hby da1_77) (feq hc77_18).1 ?_
    refine g_iload X16 hx (hb hby da1_80) rfl ?_
    refine g_aloadN X16 hx (hb hby da1_82) rfl rfl ?_
    refine g_getF X16 hx hZ hown (hw _ (List.mem_of_getElem? (i := 30) rfl)) e17 F_sz (hb hby da1_83) ?_
    intro T647 X648 e649
    have hc86_650 : ¬ ((1 : Int32) < (1 : Int32)) := (by decide)
    refine g_icmpYes X648 hx (hb hby da1_86) (flt hc86_650).2.1 (by decide) (pc' := 104) (by decide) ?_
    refine g_iload X648 hx (hb hby da1_104) rfl ?_
    refine g_istore X648 hx (hb hby da1_106) (L' := #[.val (.ref q1), .val (.int (20 : Int32)), .val (.double (4611686018427387904 : UInt64)), .second, .val (.double (4611686018427387904 : UInt64)), .second, .val (.double (4611686018427387904 : UInt64)), .second, .val (.int (1 : Int32)), .val (.int (1 : Int32)), .val (.int (1 : Int32)), .unset, .unset, .unset]) rfl ?_
    refine g_iload X648 hx (hb hby da1_108) rfl ?_
    have hc110_651 : (0 : Int32) < (1 : Int32) := (by decide)
    refine g_ifNo X648 hx (hb hby da1_110) (tlt hc110_651).2.2.2 ?_
    refine g_aloadN X648 hx (hb hby da1_113) rfl rfl ?_
    refine g_getF X648 hx hZ hown (hw _ (List.mem_of_getElem? (i := 13) rfl)) e649 F_ma (hb hby da1_114) ?_
    intro T652 X653 e654
    refine g_iload X653 hx (hb hby da1_117) rfl ?_
    refine g_iconst X653 hx (hb hby da1_119) (v := (1 : Int32)) (by decide) ?_
    refine g_isub X653 hx (hb hby da1_120) (show (1 : Int32) - (1 : Int32) = (0 : Int32) from by decide) ?_
    refine g_daload X653 hx hZ e654 A_ma (by decide) (by decide) (i := 0) (by decide) (congrArg Value.double hM0) (hb hby da1_121) ?_
    refine g_dloadN X653 hx (hb hby da1_122) rfl ?_
    refine g_dcmp X653 hx (hb hby da1_123) ?_
    have hc124_655 : ¬ (FP.dcmp (4613937818241073152 : UInt64) (4611686018427387904 : UInt64) = some .eq) := (by decide +kernel)
    refine g_ifYes X653 hx (hb hby da1_124) (feq (fun q => hc124_655 ((cv_l_eq _).mp q))).2 (by decide) (pc' := 130) (by decide) ?_
    refine g_aloadN X653 hx (hb hby da1_130) rfl rfl ?_
    refine g_getF X653 hx hZ hown (hw _ (List.mem_of_getElem? (i := 22) rfl)) e654 F_fg (hb hby da1_131) ?_
    intro T656 X657 e658
    by_cases hc134_659 : fg = (0 : Int32)
    ·
      refine g_ifYes X657 hx (hb hby da1_134) (teq hc134_659).1 (by decide) (pc' := 163) (by decide) ?_
      refine g_iload X657 hx (hb hby da1_163) rfl ?_
      refine g_istore X657 hx (hb hby da1_165) (L' := #[.val (.ref q1), .val (.int (20 : Int32)), .val (.double (4611686018427387904 : UInt64)), .second, .val (.double (4611686018427387904 : UInt64)), .second, .val (.double (4611686018427387904 : UInt64)), .second, .val (.int (1 : Int32)), .val (.int (1 : Int32)), .val (.int (1 : Int32)), .val (.int (1 : Int32)), .unset, .unset]) rfl ?_
      refine g_iload X657 hx (hb hby da1_167) rfl ?_
      refine g_aloadN X657 hx (hb hby da1_169) rfl rfl ?_
      refine g_getF X657 hx hZ hown (hw _ (List.mem_of_getElem? (i := 30) rfl)) e658 F_sz (hb hby da1_170) ?_
      intro T660 X661 e662
      have hc173_663 : ¬ ((1 : Int32) < (1 : Int32)) := (by decide)
      refine g_icmpYes X661 hx (hb hby da1_173) (flt hc173_663).2.1 (by decide) (pc' := 195) (by decide) ?_
      refine g_aloadN X661 hx (hb hby da1_195) rfl rfl ?_
      refine g_getF X661 hx hZ hown (hw _ (List.mem_of_getElem? (i := 30) rfl)) e662 F_sz (hb hby da1_196) ?_
      intro T664 X665 e666
      refine g_iload X665 hx (hb hby da1_199) rfl ?_
      refine g_iload X665 hx (hb hby da1_201) rfl ?_
      refine g_isub X665 hx (hb hby da1_203) (show (1 : Int32) - (1 : Int32) = (0 : Int32) from by decide) ?_
      refine g_isub X665 hx (hb hby da1_204) (show (1 : Int32) - (0 : Int32) = (1 : Int32) from by decide) ?_
      refine g_iconst X665 hx (hb hby da1_205) (v := (1 : Int32)) (by decide) ?_
      refine g_iadd X665 hx (hb hby da1_206) (show (1 : Int32) + (1 : Int32) = (2 : Int32) from by decide) ?_
      refine g_istore X665 hx (hb hby da1_207) (L' := #[.val (.ref q1), .val (.int (20 : Int32)), .val (.double (4611686018427387904 : UInt64)), .second, .val (.double (4611686018427387904 : UInt64)), .second, .val (.double (4611686018427387904 : UInt64)), .second, .val (.int (1 : Int32)), .val (.int (1 : Int32)), .val (.int (1 : Int32)), .val (.int (1 : Int32)), .val (.int (2 : Int32)), .unset]) rfl ?_
      refine g_iload X665 hx (hb hby da1_209) rfl ?_
      refine g_aloadN X665 hx (hb hby da1_211) rfl rfl ?_
      refine g_getF X665 hx hZ hown (hw _ (List.mem_of_getElem? (i := 10) rfl)) e666 F_la (hb hby da1_212) ?_
      intro T667 X668 e669
      refine g_arraylength X668 hx hZ e669 A_la (show Nat.toInt32 4 = (4 : Int32) from by decide) (hb hby da1_215) ?_
      have hc216_670 : ¬ ((4 : Int32) < (2 : Int32)) := (by decide)
      refine g_icmpYes X668 hx (hb hby da1_216) (flt hc216_670).2.2.2 (by decide) (pc' := 293) (by decide) ?_
      refine g_aloadN X668 hx (hb hby da1_293) rfl rfl ?_
      refine g_getF X668 hx hZ hown (hw _ (List.mem_of_getElem? (i := 10) rfl)) e669 F_la (hb hby da1_294) ?_
      intro T671 X672 e673
      refine g_iload X672 hx (hb hby da1_297) rfl ?_
      refine g_aloadN X672 hx (hb hby da1_299) rfl rfl ?_
      refine g_getF X672 hx hZ hown (hw _ (List.mem_of_getElem? (i := 10) rfl)) e673 F_la (hb hby da1_300) ?_
      intro T674 X675 e676
      refine g_iload X675 hx (hb hby da1_303) rfl ?_
      refine g_iconst X675 hx (hb hby da1_305) (v := (1 : Int32)) (by decide) ?_
      refine g_iadd X675 hx (hb hby da1_306) (show (1 : Int32) + (1 : Int32) = (2 : Int32) from by decide) ?_
      refine g_aloadN X675 hx (hb hby da1_307) rfl rfl ?_
      refine g_getF X675 hx hZ hown (hw _ (List.mem_of_getElem? (i := 30) rfl)) e676 F_sz (hb hby da1_308) ?_
      intro T677 X678 e679
      refine g_iload X678 hx (hb hby da1_311) rfl ?_
      refine g_isub X678 hx (hb hby da1_313) (show (1 : Int32) - (1 : Int32) = (0 : Int32) from by decide) ?_
      refine g_acp0 X678 hx hZ hown (hw _ (List.mem_of_getElem? (i := 32) rfl)) (hw _ (List.mem_of_getElem? (i := 35) rfl)) (hw _ (List.mem_of_getElem? (i := 33) rfl)) (hw _ (List.mem_of_getElem? (i := 34) rfl)) e679 A_la rfl (fun _ _ => rfl) (z := 4) (by decide) (by decide) (by decide) (by decide) (by decide) (by decide) N0 g_la (by rw [hml]; rfl) (hb hby da1_314) (by decide) (by decide) ?_
      intro T680 h681 L682 X683 e684 N685 K686 F687
      have F688 := E0.keep K686
      have F689 := F_la.keep K686 (ninS ne_q1_la nin0)
      have F691 := F_ma.keep K686 (ninS ne_q1_la nin0)
      have F692 := A_ma.keep K686 (ninS ne_la_ma.symm nin0)
      have F693 := F_si.keep K686 (ninS ne_q1_la nin0)
      have F694 := A_si.keep K686 (ninS ne_la_si.symm nin0)
      have F695 := F_rh.keep K686 (ninS ne_q1_la nin0)
      have F696 := A_rh.keep K686 (ninS ne_la_rh.symm nin0)
      have F697 := F_ex.keep K686 (ninS ne_q1_la nin0)
      have F698 := A_ex.keep K686 (ninS ne_la_ex.symm nin0)
      have F699 := F_sz.keep K686 (ninS ne_q1_la nin0)
      have F700 := F_fg.keep K686 (ninS ne_q1_la nin0)
      have Z701 : n0 ≤ h681.size := Nat.le_trans Z0 K686.1
      refine g_aloadN X683 hx (hb hby da1_317) rfl rfl ?_
      refine g_getF X683 hx hZ hown (hw _ (List.mem_of_getElem? (i := 13) rfl)) e684 F691 (hb hby da1_318) ?_
      intro T703 X704 e705
      refine g_iload X704 hx (hb hby da1_321) rfl ?_
      refine g_aloadN X704 hx (hb hby da1_323) rfl rfl ?_
      refine g_getF X704 hx hZ hown (hw _ (List.mem_of_getElem? (i := 13) rfl)) e705 F691 (hb hby da1_324) ?_
      intro T706 X707 e708
      refine g_iload X707 hx (hb hby da1_327) rfl ?_
      refine g_iconst X707 hx (hb hby da1_329) (v := (1 : Int32)) (by decide) ?_
      refine g_iadd X707 hx (hb hby da1_330) (show (1 : Int32) + (1 : Int32) = (2 : Int32) from by decide) ?_
      refine g_aloadN X707 hx (hb hby da1_331) rfl rfl ?_
      refine g_getF X707 hx hZ hown (hw _ (List.mem_of_getElem? (i := 30) rfl)) e708 F699 (hb hby da1_332) ?_
      intro T709 X710 e711
      refine g_iload X710 hx (hb hby da1_335) rfl ?_
      refine g_isub X710 hx (hb hby da1_337) (show (1 : Int32) - (1 : Int32) = (0 : Int32) from by decide) ?_
      refine g_acp0 X710 hx hZ hown (hw _ (List.mem_of_getElem? (i := 32) rfl)) (hw _ (List.mem_of_getElem? (i := 35) rfl)) (hw _ (List.mem_of_getElem? (i := 33) rfl)) (hw _ (List.mem_of_getElem? (i := 34) rfl)) e711 F692 rfl (fun _ _ => rfl) (z := 4) (by decide) (by decide) (by decide) (by decide) (by decide) (by decide) N685 g_ma (by rw [hml]; rfl) (hb hby da1_338) (by decide) (by decide) ?_
      intro T712 h713 L714 X715 e716 N717 K718 F719
      have F720 := F688.keep K718
      have F721 := F689.keep K718 (ninS ne_q1_ma nin0)
      have F722 := F691.keep K718 (ninS ne_q1_ma nin0)
      have F724 := F693.keep K718 (ninS ne_q1_ma nin0)
      have F725 := F694.keep K718 (ninS ne_ma_si.symm nin0)
      have F726 := F695.keep K718 (ninS ne_q1_ma nin0)
      have F727 := F696.keep K718 (ninS ne_ma_rh.symm nin0)
      have F728 := F697.keep K718 (ninS ne_q1_ma nin0)
      have F729 := F698.keep K718 (ninS ne_ma_ex.symm nin0)
      have F730 := F699.keep K718 (ninS ne_q1_ma nin0)
      have F731 := F700.keep K718 (ninS ne_q1_ma nin0)
      have F732 := F687.keep K718 (ninS ne_la_ma nin0)
      have Z733 : n0 ≤ h713.size := Nat.le_trans Z701 K718.1
      refine g_aloadN X715 hx (hb hby da1_341) rfl rfl ?_
      refine g_getF X715 hx hZ hown (hw _ (List.mem_of_getElem? (i := 15) rfl)) e716 F724 (hb hby da1_342) ?_
      intro T735 X736 e737
      refine g_iload X736 hx (hb hby da1_345) rfl ?_
      refine g_aloadN X736 hx (hb hby da1_347) rfl rfl ?_
      refine g_getF X736 hx hZ hown (hw _ (List.mem_of_getElem? (i := 15) rfl)) e737 F724 (hb hby da1_348) ?_
      intro T738 X739 e740
      refine g_iload X739 hx (hb hby da1_351) rfl ?_
      refine g_iconst X739 hx (hb hby da1_353) (v := (1 : Int32)) (by decide) ?_
      refine g_iadd X739 hx (hb hby da1_354) (show (1 : Int32) + (1 : Int32) = (2 : Int32) from by decide) ?_
      refine g_aloadN X739 hx (hb hby da1_355) rfl rfl ?_
      refine g_getF X739 hx hZ hown (hw _ (List.mem_of_getElem? (i := 30) rfl)) e740 F730 (hb hby da1_356) ?_
      intro T741 X742 e743
      refine g_iload X742 hx (hb hby da1_359) rfl ?_
      refine g_isub X742 hx (hb hby da1_361) (show (1 : Int32) - (1 : Int32) = (0 : Int32) from by decide) ?_
      refine g_acp0 X742 hx hZ hown (hw _ (List.mem_of_getElem? (i := 32) rfl)) (hw _ (List.mem_of_getElem? (i := 35) rfl)) (hw _ (List.mem_of_getElem? (i := 33) rfl)) (hw _ (List.mem_of_getElem? (i := 34) rfl)) e743 F725 rfl (fun _ _ => rfl) (z := 4) (by decide) (by decide) (by decide) (by decide) (by decide) (by decide) N717 g_si (by rw [hml]; rfl) (hb hby da1_362) (by decide) (by decide) ?_
      intro T744 h745 L746 X747 e748 N749 K750 F751
      have F752 := F720.keep K750
      have F753 := F721.keep K750 (ninS ne_q1_si nin0)
      have F754 := F722.keep K750 (ninS ne_q1_si nin0)
      have F755 := F724.keep K750 (ninS ne_q1_si nin0)
      have F757 := F726.keep K750 (ninS ne_q1_si nin0)
      have F758 := F727.keep K750 (ninS ne_si_rh.symm nin0)
      have F759 := F728.keep K750 (ninS ne_q1_si nin0)
      have F760 := F729.keep K750 (ninS ne_si_ex.symm nin0)
      have F761 := F730.keep K750 (ninS ne_q1_si nin0)
      have F762 := F731.keep K750 (ninS ne_q1_si nin0)
      have F763 := F732.keep K750 (ninS ne_la_si nin0)
      have F764 := F719.keep K750 (ninS ne_ma_si nin0)
      have Z765 : n0 ≤ h745.size := Nat.le_trans Z733 K750.1
      refine g_aloadN X747 hx (hb hby da1_365) rfl rfl ?_
      refine g_getF X747 hx hZ hown (hw _ (List.mem_of_getElem? (i := 17) rfl)) e748 F757 (hb hby da1_366) ?_
      intro T767 X768 e769
      refine g_iload X768 hx (hb hby da1_369) rfl ?_
      refine g_aloadN X768 hx (hb hby da1_371) rfl rfl ?_
      refine g_getF X768 hx hZ hown (hw _ (List.mem_of_getElem? (i := 17) rfl)) e769 F757 (hb hby da1_372) ?_
      intro T770 X771 e772
      refine g_iload X771 hx (hb hby da1_375) rfl ?_
      refine g_iconst X771 hx (hb hby da1_377) (v := (1 : Int32)) (by decide) ?_
      refine g_iadd X771 hx (hb hby da1_378) (show (1 : Int32) + (1 : Int32) = (2 : Int32) from by decide) ?_
      refine g_aloadN X771 hx (hb hby da1_379) rfl rfl ?_
      refine g_getF X771 hx hZ hown (hw _ (List.mem_of_getElem? (i := 30) rfl)) e772 F761 (hb hby da1_380) ?_
      intro T773 X774 e775
      refine g_iload X774 hx (hb hby da1_383) rfl ?_
      refine g_isub X774 hx (hb hby da1_385) (show (1 : Int32) - (1 : Int32) = (0 : Int32) from by decide) ?_
      refine g_acp0 X774 hx hZ hown (hw _ (List.mem_of_getElem? (i := 32) rfl)) (hw _ (List.mem_of_getElem? (i := 35) rfl)) (hw _ (List.mem_of_getElem? (i := 33) rfl)) (hw _ (List.mem_of_getElem? (i := 34) rfl)) e775 F758 rfl (fun _ _ => rfl) (z := 4) (by decide) (by decide) (by decide) (by decide) (by decide) (by decide) N749 g_rh (by rw [hml]; rfl) (hb hby da1_386) (by decide) (by decide) ?_
      intro T776 h777 L778 X779 e780 N781 K782 F783
      have F784 := F752.keep K782
      have F785 := F753.keep K782 (ninS ne_q1_rh nin0)
      have F786 := F754.keep K782 (ninS ne_q1_rh nin0)
      have F787 := F755.keep K782 (ninS ne_q1_rh nin0)
      have F788 := F757.keep K782 (ninS ne_q1_rh nin0)
      have F790 := F759.keep K782 (ninS ne_q1_rh nin0)
      have F791 := F760.keep K782 (ninS ne_rh_ex.symm nin0)
      have F792 := F761.keep K782 (ninS ne_q1_rh nin0)
      have F793 := F762.keep K782 (ninS ne_q1_rh nin0)
      have F794 := F763.keep K782 (ninS ne_la_rh nin0)
      have F795 := F764.keep K782 (ninS ne_ma_rh nin0)
      have F796 := F751.keep K782 (ninS ne_si_rh nin0)
      have Z797 : n0 ≤ h777.size := Nat.le_trans Z765 K782.1
      refine g_aloadN X779 hx (hb hby da1_389) rfl rfl ?_
      refine g_getF X779 hx hZ hown (hw _ (List.mem_of_getElem? (i := 20) rfl)) e780 F790 (hb hby da1_390) ?_
      intro T799 X800 e801
      refine g_iload X800 hx (hb hby da1_393) rfl ?_
      refine g_aloadN X800 hx (hb hby da1_395) rfl rfl ?_
      refine g_getF X800 hx hZ hown (hw _ (List.mem_of_getElem? (i := 20) rfl)) e801 F790 (hb hby da1_396) ?_
      intro T802 X803 e804
      refine g_iload X803 hx (hb hby da1_399) rfl ?_
      refine g_iconst X803 hx (hb hby da1_401) (v := (1 : Int32)) (by decide) ?_
      refine g_iadd X803 hx (hb hby da1_402) (show (1 : Int32) + (1 : Int32) = (2 : Int32) from by decide) ?_
      refine g_aloadN X803 hx (hb hby da1_403) rfl rfl ?_
      refine g_getF X803 hx hZ hown (hw _ (List.mem_of_getElem? (i := 30) rfl)) e804 F792 (hb hby da1_404) ?_
      intro T805 X806 e807
      refine g_iload X806 hx (hb hby da1_407) rfl ?_
      refine g_isub X806 hx (hb hby da1_409) (show (1 : Int32) - (1 : Int32) = (0 : Int32) from by decide) ?_
      refine g_acp0 X806 hx hZ hown (hw _ (List.mem_of_getElem? (i := 32) rfl)) (hw _ (List.mem_of_getElem? (i := 35) rfl)) (hw _ (List.mem_of_getElem? (i := 33) rfl)) (hw _ (List.mem_of_getElem? (i := 34) rfl)) e807 F791 rfl (own_fitB hB) (z := 4) (by decide) (by decide) (by decide) (by decide) (by decide) (by decide) N781 g_ex (by rw [hml]; rfl) (hb hby da1_410) (by decide) (by decide) ?_
      intro T808 h809 L810 X811 e812 N813 K814 F815
      have F816 := F784.keep K814
      have F817 := F785.keep K814 (ninS ne_q1_ex nin0)
      have F818 := F786.keep K814 (ninS ne_q1_ex nin0)
      have F819 := F787.keep K814 (ninS ne_q1_ex nin0)
      have F820 := F788.keep K814 (ninS ne_q1_ex nin0)
      have F821 := F790.keep K814 (ninS ne_q1_ex nin0)
      have F823 := F792.keep K814 (ninS ne_q1_ex nin0)
      have F824 := F793.keep K814 (ninS ne_q1_ex nin0)
      have F825 := F794.keep K814 (ninS ne_la_ex nin0)
      have F826 := F795.keep K814 (ninS ne_ma_ex nin0)
      have F827 := F796.keep K814 (ninS ne_si_ex nin0)
      have F828 := F783.keep K814 (ninS ne_rh_ex nin0)
      have Z829 : n0 ≤ h809.size := Nat.le_trans Z797 K814.1
      refine g_aloadN X811 hx (hb hby da1_413) rfl rfl ?_
      refine g_getF X811 hx hZ hown (hw _ (List.mem_of_getElem? (i := 10) rfl)) e812 F817 (hb hby da1_414) ?_
      intro T831 X832 e833
      refine g_iload X832 hx (hb hby da1_417) rfl ?_
      refine g_iloadN X832 hx (hb hby da1_419) rfl ?_
      refine g_iastore X832 hx hZ e833 F825 (i := 1) (by decide) (by decide) (by decide) (hb hby da1_420) ?_
      intro T834 h837 X835 e836 W838
      have F839 := F816.wr W838
      have F840 := F817.other W838 (Or.inl ne_q1_la)
      have F841 := F818.other W838 (Or.inl ne_q1_la)
      have F842 := F819.other W838 (Or.inl ne_q1_la)
      have F843 := F820.other W838 (Or.inl ne_q1_la)
      have F844 := F821.other W838 (Or.inl ne_q1_la)
      have F845 := F823.other W838 (Or.inl ne_q1_la)
      have F846 := F824.other W838 (Or.inl ne_q1_la)
      have F847 := F825.same W838
      have F848 := F826.other W838 ne_la_ma.symm
      have F849 := F827.other W838 ne_la_si.symm
      have F850 := F828.other W838 ne_la_rh.symm
      have F851 := F815.other W838 ne_la_ex.symm
      have Z852 : n0 ≤ h837.size := by rw [W838.size]; exact Z829
      have N853 := Fr.snoc X835 N813 g_la
      refine g_aloadN X835 hx (hb hby da1_421) rfl rfl ?_
      refine g_getF X835 hx hZ hown (hw _ (List.mem_of_getElem? (i := 13) rfl)) e836 F841 (hb hby da1_422) ?_
      intro T854 X855 e856
      refine g_iload X855 hx (hb hby da1_425) rfl ?_
      refine g_dloadN X855 hx (hb hby da1_427) rfl ?_
      refine g_dastore X855 hx hZ e856 F848 (i := 1) (by decide) (by decide) (by decide) (hb hby da1_428) ?_
      intro T857 h860 X858 e859 W861
      have F862 := F839.wr W861
      have F863 := F840.other W861 (Or.inl ne_q1_ma)
      have F864 := F841.other W861 (Or.inl ne_q1_ma)
      have F865 := F842.other W861 (Or.inl ne_q1_ma)
      have F866 := F843.other W861 (Or.inl ne_q1_ma)
      have F867 := F844.other W861 (Or.inl ne_q1_ma)
      have F868 := F845.other W861 (Or.inl ne_q1_ma)
      have F869 := F846.other W861 (Or.inl ne_q1_ma)
      have F870 := F847.other W861 ne_la_ma
      have F871 := F848.same W861
      have F872 := F849.other W861 ne_ma_si.symm
      have F873 := F850.other W861 ne_ma_rh.symm
      have F874 := F851.other W861 ne_ma_ex.symm
      have Z875 : n0 ≤ h860.size := by rw [W861.size]; exact Z852
      have N876 := Fr.snoc X858 N853 g_ma
      refine g_aloadN X858 hx (hb hby da1_429) rfl rfl ?_
      refine g_getF X858 hx hZ hown (hw _ (List.mem_of_getElem? (i := 15) rfl)) e859 F865 (hb hby da1_430) ?_
      intro T877 X878 e879
      refine g_iload X878 hx (hb hby da1_433) rfl ?_
      refine g_dload X878 hx (hb hby da1_435) rfl ?_
      refine g_dastore X878 hx hZ e879 F872 (i := 1) (by decide) (by decide) (by decide) (hb hby da1_437) ?_
      intro T880 h883 X881 e882 W884
      have F885 := F862.wr W884
      have F886 := F863.other W884 (Or.inl ne_q1_si)
      have F887 := F864.other W884 (Or.inl ne_q1_si)
      have F888 := F865.other W884 (Or.inl ne_q1_si)
      have F889 := F866.other W884 (Or.inl ne_q1_si)
      have F890 := F867.other W884 (Or.inl ne_q1_si)
      have F891 := F868.other W884 (Or.inl ne_q1_si)
      have F892 := F869.other W884 (Or.inl ne_q1_si)
      have F893 := F870.other W884 ne_la_si
      have F894 := F871.other W884 ne_ma_si
      have F895 := F872.same W884
      have F896 := F873.other W884 ne_si_rh.symm
      have F897 := F874.other W884 ne_si_ex.symm
      have Z898 : n0 ≤ h883.size := by rw [W884.size]; exact Z875
      have N899 := Fr.snoc X881 N876 g_si
      refine g_aloadN X881 hx (hb hby da1_438) rfl rfl ?_
      refine g_getF X881 hx hZ hown (hw _ (List.mem_of_getElem? (i := 17) rfl)) e882 F889 (hb hby da1_439) ?_
      intro T900 X901 e902
      refine g_iload X901 hx (hb hby da1_442) rfl ?_
      refine g_dload X901 hx (hb hby da1_444) rfl ?_
      refine g_dastore X901 hx hZ e902 F896 (i := 1) (by decide) (by decide) (by decide) (hb hby da1_446) ?_
      intro T903 h906 X904 e905 W907
      have F908 := F885.wr W907
      have F909 := F886.other W907 (Or.inl ne_q1_rh)
      have F910 := F887.other W907 (Or.inl ne_q1_rh)
      have F911 := F888.other W907 (Or.inl ne_q1_rh)
      have F912 := F889.other W907 (Or.inl ne_q1_rh)
      have F913 := F890.other W907 (Or.inl ne_q1_rh)
      have F914 := F891.other W907 (Or.inl ne_q1_rh)
      have F915 := F892.other W907 (Or.inl ne_q1_rh)
      have F916 := F893.other W907 ne_la_rh
      have F917 := F894.other W907 ne_ma_rh
      have F918 := F895.other W907 ne_si_rh
      have F919 := F896.same W907
      have F920 := F897.other W907 ne_rh_ex.symm
      have Z921 : n0 ≤ h906.size := by rw [W907.size]; exact Z898
      have N922 := Fr.snoc X904 N899 g_rh
      refine g_aloadN X904 hx (hb hby da1_447) rfl rfl ?_
      refine g_getF X904 hx hZ hown (hw _ (List.mem_of_getElem? (i := 20) rfl)) e905 F913 (hb hby da1_448) ?_
      intro T923 X924 e925
      refine g_iload X924 hx (hb hby da1_451) rfl ?_
      refine g_iconst X924 hx (hb hby da1_453) (v := (0 : Int32)) (by decide) ?_
      refine g_bastoreZ X924 hx hZ e925 F920 (i := 1) (by decide) (by decide) (by decide) (hb hby da1_454) ?_
      intro T926 h929 X927 e928 W930
      have F931 := F908.wr W930
      have F932 := F909.other W930 (Or.inl ne_q1_ex)
      have F933 := F910.other W930 (Or.inl ne_q1_ex)
      have F934 := F911.other W930 (Or.inl ne_q1_ex)
      have F935 := F912.other W930 (Or.inl ne_q1_ex)
      have F936 := F913.other W930 (Or.inl ne_q1_ex)
      have F937 := F914.other W930 (Or.inl ne_q1_ex)
      have F938 := F915.other W930 (Or.inl ne_q1_ex)
      have F939 := F916.other W930 ne_la_ex
      have F940 := F917.other W930 ne_ma_ex
      have F941 := F918.other W930 ne_si_ex
      have F942 := F919.other W930 ne_rh_ex
      have F943 := F920.same W930
      have Z944 : n0 ≤ h929.size := by rw [W930.size]; exact Z921
      have N945 := Fr.snoc X927 N922 g_ex
      refine g_aloadN X927 hx (hb hby da1_455) rfl rfl ?_
      refine g_iload X927 hx (hb hby da1_456) rfl ?_
      refine g_putF X927 hx hZ hown (hw _ (List.mem_of_getElem? (i := 30) rfl)) e928 F937 F931 (Or.inl (hw _ (List.mem_of_getElem? (i := 31) rfl))) (hw _ (List.mem_of_getElem? (i := 1) rfl)) (ty := .int) (by decide) rfl rfl (hb hby da1_458) ?_
      intro T946 h949 X947 e948 W950
      have F952 := F931.wr W950
      have F953 := F932.other W950 (Or.inr (slot_ne (Or.inl (hw _ (List.mem_of_getElem? (i := 11) rfl))) (Or.inl (hw _ (List.mem_of_getElem? (i := 31) rfl))) (by decide) (t := (.array .int)) (t' := .int) (by decide) (by decide)))
      have F954 := F933.other W950 (Or.inr (slot_ne (Or.inl (hw _ (List.mem_of_getElem? (i := 14) rfl))) (Or.inl (hw _ (List.mem_of_getElem? (i := 31) rfl))) (by decide) (t := (.array .double)) (t' := .int) (by decide) (by decide)))
      have F955 := F934.other W950 (Or.inr (slot_ne (Or.inl (hw _ (List.mem_of_getElem? (i := 16) rfl))) (Or.inl (hw _ (List.mem_of_getElem? (i := 31) rfl))) (by decide) (t := (.array .double)) (t' := .int) (by decide) (by decide)))
      have F956 := F935.other W950 (Or.inr (slot_ne (Or.inl (hw _ (List.mem_of_getElem? (i := 18) rfl))) (Or.inl (hw _ (List.mem_of_getElem? (i := 31) rfl))) (by decide) (t := (.array .double)) (t' := .int) (by decide) (by decide)))
      have F957 := F936.other W950 (Or.inr (slot_ne (Or.inl (hw _ (List.mem_of_getElem? (i := 21) rfl))) (Or.inl (hw _ (List.mem_of_getElem? (i := 31) rfl))) (by decide) (t := (.array .boolean)) (t' := .int) (by decide) (by decide)))
      have F958 := F938.other W950 (Or.inr (slot_ne (Or.inr (hw _ (List.mem_of_getElem? (i := 23) rfl))) (Or.inl (hw _ (List.mem_of_getElem? (i := 31) rfl))) (by decide) (t := .boolean) (t' := .int) (by decide) (by decide)))
      have F959 := F939.other W950 ne_q1_la.symm
      have F960 := F940.other W950 ne_q1_ma.symm
      have F961 := F941.other W950 ne_q1_si.symm
      have F962 := F942.other W950 ne_q1_rh.symm
      have F963 := F943.other W950 ne_q1_ex.symm
      have F964 := F937.same W950
      have Z965 : n0 ≤ h949.size := by rw [W950.size]; exact Z944
      have N966 := Fr.snoc X947 N945 g_q1
      refine g_iconst X947 hx (hb hby da1_461) (v := (1 : Int32)) (by decide) ?_
      refine g_ireturn X947 hx Bd.notSynchronized Bd.returns rfl (by simp) (hb hby da1_462) (by decide) (by decide) ?_
      rw [e948]
      exact ⟨rfl, N966, Z965, F952, F953, F954, F955, F956, F957, F964, F958, (F959.congr (fun j _ => own_uI _ _ _ j)), (F960.congr (fun j _ => own_uD _ _ _ j)), (F961.congr (fun j _ => own_uD _ _ _ j)), (F962.congr (fun j _ => own_uD _ _ _ j)), (F963.congr (fun j _ => own_uI _ _ _ j)), own_uB hB (Or.inl rfl), ⟨⟨ne_q1_la, ne_q1_ma, ne_q1_si, ne_q1_rh, ne_q1_ex, ne_la_ma, ne_la_si, ne_la_rh, ne_la_ex, ne_ma_si, ne_ma_rh, ne_ma_ex, ne_si_rh, ne_si_ex, ne_rh_ex⟩, ⟨g_q1, g_la, g_ma, g_si, g_rh, g_ex⟩⟩⟩
    ·
      refine g_ifNo X657 hx (hb hby da1_134) (feq hc134_659).1 ?_
      refine g_iload X657 hx (hb hby da1_137) rfl ?_
      have hc139_967 : (0 : Int32) < (1 : Int32) := (by decide)
      refine g_ifNo X657 hx (hb hby da1_139) (tlt hc139_967).2.2.2 ?_
      refine g_aloadN X657 hx (hb hby da1_142) rfl rfl ?_
      refine g_getF X657 hx hZ hown (hw _ (List.mem_of_getElem? (i := 17) rfl)) e658 F_rh (hb hby da1_143) ?_
      intro T968 X969 e970
      refine g_iload X969 hx (hb hby da1_146) rfl ?_
      refine g_iconst X969 hx (hb hby da1_148) (v := (1 : Int32)) (by decide) ?_
      refine g_isub X969 hx (hb hby da1_149) (show (1 : Int32) - (1 : Int32) = (0 : Int32) from by decide) ?_
      refine g_daload X969 hx hZ e970 A_rh (by decide) (by decide) (i := 0) (by decide) (congrArg Value.double hR0) (hb hby da1_150) ?_
      refine g_dload X969 hx (hb hby da1_151) rfl ?_
      refine g_dcmp X969 hx (hb hby da1_153) ?_
      have hc154_971 : FP.dcmp (4607182418800017408 : UInt64) (4611686018427387904 : UInt64) = some .lt ∨ FP.dcmp (4607182418800017408 : UInt64) (4611686018427387904 : UInt64) = none := (by decide +kernel)
      refine g_ifYes X969 hx (hb hby da1_154) (tlt ((cv_l_lt _).mpr hc154_971)).1 (by decide) (pc' := 163) (by decide) ?_
      refine g_iload X969 hx (hb hby da1_163) rfl ?_
      refine g_istore X969 hx (hb hby da1_165) (L' := #[.val (.ref q1), .val (.int (20 : Int32)), .val (.double (4611686018427387904 : UInt64)), .second, .val (.double (4611686018427387904 : UInt64)), .second, .val (.double (4611686018427387904 : UInt64)), .second, .val (.int (1 : Int32)), .val (.int (1 : Int32)), .val (.int (1 : Int32)), .val (.int (1 : Int32)), .unset, .unset]) rfl ?_
      refine g_iload X969 hx (hb hby da1_167) rfl ?_
      refine g_aloadN X969 hx (hb hby da1_169) rfl rfl ?_
      refine g_getF X969 hx hZ hown (hw _ (List.mem_of_getElem? (i := 30) rfl)) e970 F_sz (hb hby da1_170) ?_
      intro T972 X973 e974
      have hc173_975 : ¬ ((1 : Int32) < (1 : Int32)) := (by decide)
      refine g_icmpYes X973 hx (hb hby da1_173) (flt hc173_975).2.1 (by decide) (pc' := 195) (by decide) ?_
      refine g_aloadN X973 hx (hb hby da1_195) rfl rfl ?_
      refine g_getF X973 hx hZ hown (hw _ (List.mem_of_getElem? (i := 30) rfl)) e974 F_sz (hb hby da1_196) ?_
      intro T976 X977 e978
      refine g_iload X977 hx (hb hby da1_199) rfl ?_
      refine g_iload X977 hx (hb hby da1_201) rfl ?_
      refine g_isub X977 hx (hb hby da1_203) (show (1 : Int32) - (1 : Int32) = (0 : Int32) from by decide) ?_
      refine g_isub X977 hx (hb hby da1_204) (show (1 : Int32) - (0 : Int32) = (1 : Int32) from by decide) ?_
      refine g_iconst X977 hx (hb hby da1_205) (v := (1 : Int32)) (by decide) ?_
      refine g_iadd X977 hx (hb hby da1_206) (show (1 : Int32) + (1 : Int32) = (2 : Int32) from by decide) ?_
      refine g_istore X977 hx (hb hby da1_207) (L' := #[.val (.ref q1), .val (.int (20 : Int32)), .val (.double (4611686018427387904 : UInt64)), .second, .val (.double (4611686018427387904 : UInt64)), .second, .val (.double (4611686018427387904 : UInt64)), .second, .val (.int (1 : Int32)), .val (.int (1 : Int32)), .val (.int (1 : Int32)), .val (.int (1 : Int32)), .val (.int (2 : Int32)), .unset]) rfl ?_
      refine g_iload X977 hx (hb hby da1_209) rfl ?_
      refine g_aloadN X977 hx (hb hby da1_211) rfl rfl ?_
      refine g_getF X977 hx hZ hown (hw _ (List.mem_of_getElem? (i := 10) rfl)) e978 F_la (hb hby da1_212) ?_
      intro T979 X980 e981
      refine g_arraylength X980 hx hZ e981 A_la (show Nat.toInt32 4 = (4 : Int32) from by decide) (hb hby da1_215) ?_
      have hc216_982 : ¬ ((4 : Int32) < (2 : Int32)) := (by decide)
      refine g_icmpYes X980 hx (hb hby da1_216) (flt hc216_982).2.2.2 (by decide) (pc' := 293) (by decide) ?_
      refine g_aloadN X980 hx (hb hby da1_293) rfl rfl ?_
      refine g_getF X980 hx hZ hown (hw _ (List.mem_of_getElem? (i := 10) rfl)) e981 F_la (hb hby da1_294) ?_
      intro T983 X984 e985
      refine g_iload X984 hx (hb hby da1_297) rfl ?_
      refine g_aloadN X984 hx (hb hby da1_299) rfl rfl ?_
      refine g_getF X984 hx hZ hown (hw _ (List.mem_of_getElem? (i := 10) rfl)) e985 F_la (hb hby da1_300) ?_
      intro T986 X987 e988
      refine g_iload X987 hx (hb hby da1_303) rfl ?_
      refine g_iconst X987 hx (hb hby da1_305) (v := (1 : Int32)) (by decide) ?_
      refine g_iadd X987 hx (hb hby da1_306) (show (1 : Int32) + (1 : Int32) = (2 : Int32) from by decide) ?_
      refine g_aloadN X987 hx (hb hby da1_307) rfl rfl ?_
      refine g_getF X987 hx hZ hown (hw _ (List.mem_of_getElem? (i := 30) rfl)) e988 F_sz (hb hby da1_308) ?_
      intro T989 X990 e991
      refine g_iload X990 hx (hb hby da1_311) rfl ?_
      refine g_isub X990 hx (hb hby da1_313) (show (1 : Int32) - (1 : Int32) = (0 : Int32) from by decide) ?_
      refine g_acp0 X990 hx hZ hown (hw _ (List.mem_of_getElem? (i := 32) rfl)) (hw _ (List.mem_of_getElem? (i := 35) rfl)) (hw _ (List.mem_of_getElem? (i := 33) rfl)) (hw _ (List.mem_of_getElem? (i := 34) rfl)) e991 A_la rfl (fun _ _ => rfl) (z := 4) (by decide) (by decide) (by decide) (by decide) (by decide) (by decide) N0 g_la (by rw [hml]; rfl) (hb hby da1_314) (by decide) (by decide) ?_
      intro T992 h993 L994 X995 e996 N997 K998 F999
      have F1000 := E0.keep K998
      have F1001 := F_la.keep K998 (ninS ne_q1_la nin0)
      have F1003 := F_ma.keep K998 (ninS ne_q1_la nin0)
      have F1004 := A_ma.keep K998 (ninS ne_la_ma.symm nin0)
      have F1005 := F_si.keep K998 (ninS ne_q1_la nin0)
      have F1006 := A_si.keep K998 (ninS ne_la_si.symm nin0)
      have F1007 := F_rh.keep K998 (ninS ne_q1_la nin0)
      have F1008 := A_rh.keep K998 (ninS ne_la_rh.symm nin0)
      have F1009 := F_ex.keep K998 (ninS ne_q1_la nin0)
      have F1010 := A_ex.keep K998 (ninS ne_la_ex.symm nin0)
      have F1011 := F_sz.keep K998 (ninS ne_q1_la nin0)
      have F1012 := F_fg.keep K998 (ninS ne_q1_la nin0)
      have Z1013 : n0 ≤ h993.size := Nat.le_trans Z0 K998.1
      refine g_aloadN X995 hx (hb hby da1_317) rfl rfl ?_
      refine g_getF X995 hx hZ hown (hw _ (List.mem_of_getElem? (i := 13) rfl)) e996 F1003 (hb hby da1_318) ?_
      intro T1015 X1016 e1017
      refine g_iload X1016 hx (hb hby da1_321) rfl ?_
      refine g_aloadN X1016 hx (hb hby da1_323) rfl rfl ?_
      refine g_getF X1016 hx hZ hown (hw _ (List.mem_of_getElem? (i := 13) rfl)) e1017 F1003 (hb hby da1_324) ?_
      intro T1018 X1019 e1020
      refine g_iload X1019 hx (hb hby da1_327) rfl ?_
      refine g_iconst X1019 hx (hb hby da1_329) (v := (1 : Int32)) (by decide) ?_
      refine g_iadd X1019 hx (hb hby da1_330) (show (1 : Int32) + (1 : Int32) = (2 : Int32) from by decide) ?_
      refine g_aloadN X1019 hx (hb hby da1_331) rfl rfl ?_
      refine g_getF X1019 hx hZ hown (hw _ (List.mem_of_getElem? (i := 30) rfl)) e1020 F1011 (hb hby da1_332) ?_
      intro T1021 X1022 e1023
      refine g_iload X1022 hx (hb hby da1_335) rfl ?_
      refine g_isub X1022 hx (hb hby da1_337) (show (1 : Int32) - (1 : Int32) = (0 : Int32) from by decide) ?_
      refine g_acp0 X1022 hx hZ hown (hw _ (List.mem_of_getElem? (i := 32) rfl)) (hw _ (List.mem_of_getElem? (i := 35) rfl)) (hw _ (List.mem_of_getElem? (i := 33) rfl)) (hw _ (List.mem_of_getElem? (i := 34) rfl)) e1023 F1004 rfl (fun _ _ => rfl) (z := 4) (by decide) (by decide) (by decide) (by decide) (by decide) (by decide) N997 g_ma (by rw [hml]; rfl) (hb hby da1_338) (by decide) (by decide) ?_
      intro T1024 h1025 L1026 X1027 e1028 N1029 K1030 F1031
      have F1032 := F1000.keep K1030
      have F1033 := F1001.keep K1030 (ninS ne_q1_ma nin0)
      have F1034 := F1003.keep K1030 (ninS ne_q1_ma nin0)
      have F1036 := F1005.keep K1030 (ninS ne_q1_ma nin0)
      have F1037 := F1006.keep K1030 (ninS ne_ma_si.symm nin0)
      have F1038 := F1007.keep K1030 (ninS ne_q1_ma nin0)
      have F1039 := F1008.keep K1030 (ninS ne_ma_rh.symm nin0)
      have F1040 := F1009.keep K1030 (ninS ne_q1_ma nin0)
      have F1041 := F1010.keep K1030 (ninS ne_ma_ex.symm nin0)
      have F1042 := F1011.keep K1030 (ninS ne_q1_ma nin0)
      have F1043 := F1012.keep K1030 (ninS ne_q1_ma nin0)
      have F1044 := F999.keep K1030 (ninS ne_la_ma nin0)
      have Z1045 : n0 ≤ h1025.size := Nat.le_trans Z1013 K1030.1
      refine g_aloadN X1027 hx (hb hby da1_341) rfl rfl ?_
      refine g_getF X1027 hx hZ hown (hw _ (List.mem_of_getElem? (i := 15) rfl)) e1028 F1036 (hb hby da1_342) ?_
      intro T1047 X1048 e1049
      refine g_iload X1048 hx (hb hby da1_345) rfl ?_
      refine g_aloadN X1048 hx (hb hby da1_347) rfl rfl ?_
      refine g_getF X1048 hx hZ hown (hw _ (List.mem_of_getElem? (i := 15) rfl)) e1049 F1036 (hb hby da1_348) ?_
      intro T1050 X1051 e1052
      refine g_iload X1051 hx (hb hby da1_351) rfl ?_
      refine g_iconst X1051 hx (hb hby da1_353) (v := (1 : Int32)) (by decide) ?_
      refine g_iadd X1051 hx (hb hby da1_354) (show (1 : Int32) + (1 : Int32) = (2 : Int32) from by decide) ?_
      refine g_aloadN X1051 hx (hb hby da1_355) rfl rfl ?_
      refine g_getF X1051 hx hZ hown (hw _ (List.mem_of_getElem? (i := 30) rfl)) e1052 F1042 (hb hby da1_356) ?_
      intro T1053 X1054 e1055
      refine g_iload X1054 hx (hb hby da1_359) rfl ?_
      refine g_isub X1054 hx (hb hby da1_361) (show (1 : Int32) - (1 : Int32) = (0 : Int32) from by decide) ?_
      refine g_acp0 X1054 hx hZ hown (hw _ (List.mem_of_getElem? (i := 32) rfl)) (hw _ (List.mem_of_getElem? (i := 35) rfl)) (hw _ (List.mem_of_getElem? (i := 33) rfl)) (hw _ (List.mem_of_getElem? (i := 34) rfl)) e1055 F1037 rfl (fun _ _ => rfl) (z := 4) (by decide) (by decide) (by decide) (by decide) (by decide) (by decide) N1029 g_si (by rw [hml]; rfl) (hb hby da1_362) (by decide) (by decide) ?_
      intro T1056 h1057 L1058 X1059 e1060 N1061 K1062 F1063
      have F1064 := F1032.keep K1062
      have F1065 := F1033.keep K1062 (ninS ne_q1_si nin0)
      have F1066 := F1034.keep K1062 (ninS ne_q1_si nin0)
      have F1067 := F1036.keep K1062 (ninS ne_q1_si nin0)
      have F1069 := F1038.keep K1062 (ninS ne_q1_si nin0)
      have F1070 := F1039.keep K1062 (ninS ne_si_rh.symm nin0)
      have F1071 := F1040.keep K1062 (ninS ne_q1_si nin0)
      have F1072 := F1041.keep K1062 (ninS ne_si_ex.symm nin0)
      have F1073 := F1042.keep K1062 (ninS ne_q1_si nin0)
      have F1074 := F1043.keep K1062 (ninS ne_q1_si nin0)
      have F1075 := F1044.keep K1062 (ninS ne_la_si nin0)
      have F1076 := F1031.keep K1062 (ninS ne_ma_si nin0)
      have Z1077 : n0 ≤ h1057.size := Nat.le_trans Z1045 K1062.1
      refine g_aloadN X1059 hx (hb hby da1_365) rfl rfl ?_
      refine g_getF X1059 hx hZ hown (hw _ (List.mem_of_getElem? (i := 17) rfl)) e1060 F1069 (hb hby da1_366) ?_
      intro T1079 X1080 e1081
      refine g_iload X1080 hx (hb hby da1_369) rfl ?_
      refine g_aloadN X1080 hx (hb hby da1_371) rfl rfl ?_
      refine g_getF X1080 hx hZ hown (hw _ (List.mem_of_getElem? (i := 17) rfl)) e1081 F1069 (hb hby da1_372) ?_
      intro T1082 X1083 e1084
      refine g_iload X1083 hx (hb hby da1_375) rfl ?_
      refine g_iconst X1083 hx (hb hby da1_377) (v := (1 : Int32)) (by decide) ?_
      refine g_iadd X1083 hx (hb hby da1_378) (show (1 : Int32) + (1 : Int32) = (2 : Int32) from by decide) ?_
      refine g_aloadN X1083 hx (hb hby da1_379) rfl rfl ?_
      refine g_getF X1083 hx hZ hown (hw _ (List.mem_of_getElem? (i := 30) rfl)) e1084 F1073 (hb hby da1_380) ?_
      intro T1085 X1086 e1087
      refine g_iload X1086 hx (hb hby da1_383) rfl ?_
      refine g_isub X1086 hx (hb hby da1_385) (show (1 : Int32) - (1 : Int32) = (0 : Int32) from by decide) ?_
      refine g_acp0 X1086 hx hZ hown (hw _ (List.mem_of_getElem? (i := 32) rfl)) (hw _ (List.mem_of_getElem? (i := 35) rfl)) (hw _ (List.mem_of_getElem? (i := 33) rfl)) (hw _ (List.mem_of_getElem? (i := 34) rfl)) e1087 F1070 rfl (fun _ _ => rfl) (z := 4) (by decide) (by decide) (by decide) (by decide) (by decide) (by decide) N1061 g_rh (by rw [hml]; rfl) (hb hby da1_386) (by decide) (by decide) ?_
      intro T1088 h1089 L1090 X1091 e1092 N1093 K1094 F1095
      have F1096 := F1064.keep K1094
      have F1097 := F1065.keep K1094 (ninS ne_q1_rh nin0)
      have F1098 := F1066.keep K1094 (ninS ne_q1_rh nin0)
      have F1099 := F1067.keep K1094 (ninS ne_q1_rh nin0)
      have F1100 := F1069.keep K1094 (ninS ne_q1_rh nin0)
      have F1102 := F1071.keep K1094 (ninS ne_q1_rh nin0)
      have F1103 := F1072.keep K1094 (ninS ne_rh_ex.symm nin0)
      have F1104 := F1073.keep K1094 (ninS ne_q1_rh nin0)
      have F1105 := F1074.keep K1094 (ninS ne_q1_rh nin0)
      have F1106 := F1075.keep K1094 (ninS ne_la_rh nin0)
      have F1107 := F1076.keep K1094 (ninS ne_ma_rh nin0)
      have F1108 := F1063.keep K1094 (ninS ne_si_rh nin0)
      have Z1109 : n0 ≤ h1089.size := Nat.le_trans Z1077 K1094.1
      refine g_aloadN X1091 hx (hb hby da1_389) rfl rfl ?_
      refine g_getF X1091 hx hZ hown (hw _ (List.mem_of_getElem? (i := 20) rfl)) e1092 F1102 (hb hby da1_390) ?_
      intro T1111 X1112 e1113
      refine g_iload X1112 hx (hb hby da1_393) rfl ?_
      refine g_aloadN X1112 hx (hb hby da1_395) rfl rfl ?_
      refine g_getF X1112 hx hZ hown (hw _ (List.mem_of_getElem? (i := 20) rfl)) e1113 F1102 (hb hby da1_396) ?_
      intro T1114 X1115 e1116
      refine g_iload X1115 hx (hb hby da1_399) rfl ?_
      refine g_iconst X1115 hx (hb hby da1_401) (v := (1 : Int32)) (by decide) ?_
      refine g_iadd X1115 hx (hb hby da1_402) (show (1 : Int32) + (1 : Int32) = (2 : Int32) from by decide) ?_
      refine g_aloadN X1115 hx (hb hby da1_403) rfl rfl ?_
      refine g_getF X1115 hx hZ hown (hw _ (List.mem_of_getElem? (i := 30) rfl)) e1116 F1104 (hb hby da1_404) ?_
      intro T1117 X1118 e1119
      refine g_iload X1118 hx (hb hby da1_407) rfl ?_
      refine g_isub X1118 hx (hb hby da1_409) (show (1 : Int32) - (1 : Int32) = (0 : Int32) from by decide) ?_
      refine g_acp0 X1118 hx hZ hown (hw _ (List.mem_of_getElem? (i := 32) rfl)) (hw _ (List.mem_of_getElem? (i := 35) rfl)) (hw _ (List.mem_of_getElem? (i := 33) rfl)) (hw _ (List.mem_of_getElem? (i := 34) rfl)) e1119 F1103 rfl (own_fitB hB) (z := 4) (by decide) (by decide) (by decide) (by decide) (by decide) (by decide) N1093 g_ex (by rw [hml]; rfl) (hb hby da1_410) (by decide) (by decide) ?_
      intro T1120 h1121 L1122 X1123 e1124 N1125 K1126 F1127
      have F1128 := F1096.keep K1126
      have F1129 := F1097.keep K1126 (ninS ne_q1_ex nin0)
      have F1130 := F1098.keep K1126 (ninS ne_q1_ex nin0)
      have F1131 := F1099.keep K1126 (ninS ne_q1_ex nin0)
      have F1132 := F1100.keep K1126 (ninS ne_q1_ex nin0)
      have F1133 := F1102.keep K1126 (ninS ne_q1_ex nin0)
      have F1135 := F1104.keep K1126 (ninS ne_q1_ex nin0)
      have F1136 := F1105.keep K1126 (ninS ne_q1_ex nin0)
      have F1137 := F1106.keep K1126 (ninS ne_la_ex nin0)
      have F1138 := F1107.keep K1126 (ninS ne_ma_ex nin0)
      have F1139 := F1108.keep K1126 (ninS ne_si_ex nin0)
      have F1140 := F1095.keep K1126 (ninS ne_rh_ex nin0)
      have Z1141 : n0 ≤ h1121.size := Nat.le_trans Z1109 K1126.1
      refine g_aloadN X1123 hx (hb hby da1_413) rfl rfl ?_
      refine g_getF X1123 hx hZ hown (hw _ (List.mem_of_getElem? (i := 10) rfl)) e1124 F1129 (hb hby da1_414) ?_
      intro T1143 X1144 e1145
      refine g_iload X1144 hx (hb hby da1_417) rfl ?_
      refine g_iloadN X1144 hx (hb hby da1_419) rfl ?_
      refine g_iastore X1144 hx hZ e1145 F1137 (i := 1) (by decide) (by decide) (by decide) (hb hby da1_420) ?_
      intro T1146 h1149 X1147 e1148 W1150
      have F1151 := F1128.wr W1150
      have F1152 := F1129.other W1150 (Or.inl ne_q1_la)
      have F1153 := F1130.other W1150 (Or.inl ne_q1_la)
      have F1154 := F1131.other W1150 (Or.inl ne_q1_la)
      have F1155 := F1132.other W1150 (Or.inl ne_q1_la)
      have F1156 := F1133.other W1150 (Or.inl ne_q1_la)
      have F1157 := F1135.other W1150 (Or.inl ne_q1_la)
      have F1158 := F1136.other W1150 (Or.inl ne_q1_la)
      have F1159 := F1137.same W1150
      have F1160 := F1138.other W1150 ne_la_ma.symm
      have F1161 := F1139.other W1150 ne_la_si.symm
      have F1162 := F1140.other W1150 ne_la_rh.symm
      have F1163 := F1127.other W1150 ne_la_ex.symm
      have Z1164 : n0 ≤ h1149.size := by rw [W1150.size]; exact Z1141
      have N1165 := Fr.snoc X1147 N1125 g_la
      refine g_aloadN X1147 hx (hb hby da1_421) rfl rfl ?_
      refine g_getF X1147 hx hZ hown (hw _ (List.mem_of_getElem? (i := 13) rfl)) e1148 F1153 (hb hby da1_422) ?_
      intro T1166 X1167 e1168
      refine g_iload X1167 hx (hb hby da1_425) rfl ?_
      refine g_dloadN X1167 hx (hb hby da1_427) rfl ?_
      refine g_dastore X1167 hx hZ e1168 F1160 (i := 1) (by decide) (by decide) (by decide) (hb hby da1_428) ?_
      intro T1169 h1172 X1170 e1171 W1173
      have F1174 := F1151.wr W1173
      have F1175 := F1152.other W1173 (Or.inl ne_q1_ma)
      have F1176 := F1153.other W1173 (Or.inl ne_q1_ma)
      have F1177 := F1154.other W1173 (Or.inl ne_q1_ma)
      have F1178 := F1155.other W1173 (Or.inl ne_q1_ma)
      have F1179 := F1156.other W1173 (Or.inl ne_q1_ma)
      have F1180 := F1157.other W1173 (Or.inl ne_q1_ma)
      have F1181 := F1158.other W1173 (Or.inl ne_q1_ma)
      have F1182 := F1159.other W1173 ne_la_ma
      have F1183 := F1160.same W1173
      have F1184 := F1161.other W1173 ne_ma_si.symm
      have F1185 := F1162.other W1173 ne_ma_rh.symm
      have F1186 := F1163.other W1173 ne_ma_ex.symm
      have Z1187 : n0 ≤ h1172.size := by rw [W1173.size]; exact Z1164
      have N1188 := Fr.snoc X1170 N1165 g_ma
      refine g_aloadN X1170 hx (hb hby da1_429) rfl rfl ?_
      refine g_getF X1170 hx hZ hown (hw _ (List.mem_of_getElem? (i := 15) rfl)) e1171 F1177 (hb hby da1_430) ?_
      intro T1189 X1190 e1191
      refine g_iload X1190 hx (hb hby da1_433) rfl ?_
      refine g_dload X1190 hx (hb hby da1_435) rfl ?_
      refine g_dastore X1190 hx hZ e1191 F1184 (i := 1) (by decide) (by decide) (by decide) (hb hby da1_437) ?_
      intro T1192 h1195 X1193 e1194 W1196
      have F1197 := F1174.wr W1196
      have F1198 := F1175.other W1196 (Or.inl ne_q1_si)
      have F1199 := F1176.other W1196 (Or.inl ne_q1_si)
      have F1200 := F1177.other W1196 (Or.inl ne_q1_si)
      have F1201 := F1178.other W1196 (Or.inl ne_q1_si)
      have F1202 := F1179.other W1196 (Or.inl ne_q1_si)
      have F1203 := F1180.other W1196 (Or.inl ne_q1_si)
      have F1204 := F1181.other W1196 (Or.inl ne_q1_si)
      have F1205 := F1182.other W1196 ne_la_si
      have F1206 := F1183.other W1196 ne_ma_si
      have F1207 := F1184.same W1196
      have F1208 := F1185.other W1196 ne_si_rh.symm
      have F1209 := F1186.other W1196 ne_si_ex.symm
      have Z1210 : n0 ≤ h1195.size := by rw [W1196.size]; exact Z1187
      have N1211 := Fr.snoc X1193 N1188 g_si
      refine g_aloadN X1193 hx (hb hby da1_438) rfl rfl ?_
      refine g_getF X1193 hx hZ hown (hw _ (List.mem_of_getElem? (i := 17) rfl)) e1194 F1201 (hb hby da1_439) ?_
      intro T1212 X1213 e1214
      refine g_iload X1213 hx (hb hby da1_442) rfl ?_
      refine g_dload X1213 hx (hb hby da1_444) rfl ?_
      refine g_dastore X1213 hx hZ e1214 F1208 (i := 1) (by decide) (by decide) (by decide) (hb hby da1_446) ?_
      intro T1215 h1218 X1216 e1217 W1219
      have F1220 := F1197.wr W1219
      have F1221 := F1198.other W1219 (Or.inl ne_q1_rh)
      have F1222 := F1199.other W1219 (Or.inl ne_q1_rh)
      have F1223 := F1200.other W1219 (Or.inl ne_q1_rh)
      have F1224 := F1201.other W1219 (Or.inl ne_q1_rh)
      have F1225 := F1202.other W1219 (Or.inl ne_q1_rh)
      have F1226 := F1203.other W1219 (Or.inl ne_q1_rh)
      have F1227 := F1204.other W1219 (Or.inl ne_q1_rh)
      have F1228 := F1205.other W1219 ne_la_rh
      have F1229 := F1206.other W1219 ne_ma_rh
      have F1230 := F1207.other W1219 ne_si_rh
      have F1231 := F1208.same W1219
      have F1232 := F1209.other W1219 ne_rh_ex.symm
      have Z1233 : n0 ≤ h1218.size := by rw [W1219.size]; exact Z1210
      have N1234 := Fr.snoc X1216 N1211 g_rh
      refine g_aloadN X1216 hx (hb hby da1_447) rfl rfl ?_
      refine g_getF X1216 hx hZ hown (hw _ (List.mem_of_getElem? (i := 20) rfl)) e1217 F1225 (hb hby da1_448) ?_
      intro T1235 X1236 e1237
      refine g_iload X1236 hx (hb hby da1_451) rfl ?_
      refine g_iconst X1236 hx (hb hby da1_453) (v := (0 : Int32)) (by decide) ?_
      refine g_bastoreZ X1236 hx hZ e1237 F1232 (i := 1) (by decide) (by decide) (by decide) (hb hby da1_454) ?_
      intro T1238 h1241 X1239 e1240 W1242
      have F1243 := F1220.wr W1242
      have F1244 := F1221.other W1242 (Or.inl ne_q1_ex)
      have F1245 := F1222.other W1242 (Or.inl ne_q1_ex)
      have F1246 := F1223.other W1242 (Or.inl ne_q1_ex)
      have F1247 := F1224.other W1242 (Or.inl ne_q1_ex)
      have F1248 := F1225.other W1242 (Or.inl ne_q1_ex)
      have F1249 := F1226.other W1242 (Or.inl ne_q1_ex)
      have F1250 := F1227.other W1242 (Or.inl ne_q1_ex)
      have F1251 := F1228.other W1242 ne_la_ex
      have F1252 := F1229.other W1242 ne_ma_ex
      have F1253 := F1230.other W1242 ne_si_ex
      have F1254 := F1231.other W1242 ne_rh_ex
      have F1255 := F1232.same W1242
      have Z1256 : n0 ≤ h1241.size := by rw [W1242.size]; exact Z1233
      have N1257 := Fr.snoc X1239 N1234 g_ex
      refine g_aloadN X1239 hx (hb hby da1_455) rfl rfl ?_
      refine g_iload X1239 hx (hb hby da1_456) rfl ?_
      refine g_putF X1239 hx hZ hown (hw _ (List.mem_of_getElem? (i := 30) rfl)) e1240 F1249 F1243 (Or.inl (hw _ (List.mem_of_getElem? (i := 31) rfl))) (hw _ (List.mem_of_getElem? (i := 1) rfl)) (ty := .int) (by decide) rfl rfl (hb hby da1_458) ?_
      intro T1258 h1261 X1259 e1260 W1262
      have F1264 := F1243.wr W1262
      have F1265 := F1244.other W1262 (Or.inr (slot_ne (Or.inl (hw _ (List.mem_of_getElem? (i := 11) rfl))) (Or.inl (hw _ (List.mem_of_getElem? (i := 31) rfl))) (by decide) (t := (.array .int)) (t' := .int) (by decide) (by decide)))
      have F1266 := F1245.other W1262 (Or.inr (slot_ne (Or.inl (hw _ (List.mem_of_getElem? (i := 14) rfl))) (Or.inl (hw _ (List.mem_of_getElem? (i := 31) rfl))) (by decide) (t := (.array .double)) (t' := .int) (by decide) (by decide)))
      have F1267 := F1246.other W1262 (Or.inr (slot_ne (Or.inl (hw _ (List.mem_of_getElem? (i := 16) rfl))) (Or.inl (hw _ (List.mem_of_getElem? (i := 31) rfl))) (by decide) (t := (.array .double)) (t' := .int) (by decide) (by decide)))
      have F1268 := F1247.other W1262 (Or.inr (slot_ne (Or.inl (hw _ (List.mem_of_getElem? (i := 18) rfl))) (Or.inl (hw _ (List.mem_of_getElem? (i := 31) rfl))) (by decide) (t := (.array .double)) (t' := .int) (by decide) (by decide)))
      have F1269 := F1248.other W1262 (Or.inr (slot_ne (Or.inl (hw _ (List.mem_of_getElem? (i := 21) rfl))) (Or.inl (hw _ (List.mem_of_getElem? (i := 31) rfl))) (by decide) (t := (.array .boolean)) (t' := .int) (by decide) (by decide)))
      have F1270 := F1250.other W1262 (Or.inr (slot_ne (Or.inr (hw _ (List.mem_of_getElem? (i := 23) rfl))) (Or.inl (hw _ (List.mem_of_getElem? (i := 31) rfl))) (by decide) (t := .boolean) (t' := .int) (by decide) (by decide)))
      have F1271 := F1251.other W1262 ne_q1_la.symm
      have F1272 := F1252.other W1262 ne_q1_ma.symm
      have F1273 := F1253.other W1262 ne_q1_si.symm
      have F1274 := F1254.other W1262 ne_q1_rh.symm
      have F1275 := F1255.other W1262 ne_q1_ex.symm
      have F1276 := F1249.same W1262
      have Z1277 : n0 ≤ h1261.size := by rw [W1262.size]; exact Z1256
      have N1278 := Fr.snoc X1259 N1257 g_q1
      refine g_iconst X1259 hx (hb hby da1_461) (v := (1 : Int32)) (by decide) ?_
      refine g_ireturn X1259 hx Bd.notSynchronized Bd.returns rfl (by simp) (hb hby da1_462) (by decide) (by decide) ?_
      rw [e1260]
      exact ⟨rfl, N1278, Z1277, F1264, F1265, F1266, F1267, F1268, F1269, F1276, F1270, (F1271.congr (fun j _ => own_uI _ _ _ j)), (F1272.congr (fun j _ => own_uD _ _ _ j)), (F1273.congr (fun j _ => own_uD _ _ _ j)), (F1274.congr (fun j _ => own_uD _ _ _ j)), (F1275.congr (fun j _ => own_uI _ _ _ j)), own_uB hB (Or.inl rfl), ⟨⟨ne_q1_la, ne_q1_ma, ne_q1_si, ne_q1_rh, ne_q1_ex, ne_la_ma, ne_la_si, ne_la_rh, ne_la_ex, ne_ma_si, ne_ma_rh, ne_ma_ex, ne_si_rh, ne_si_ex, ne_rh_ex⟩, ⟨g_q1, g_la, g_ma, g_si, g_rh, g_ex⟩⟩⟩
theorem da2_0 : decode prog_29_method_2_code 0 = .ok (.iconst 0, 1) := by decide +kernel
theorem da2_1 : decode prog_29_method_2_code 1 = .ok (.istore 8, 2) := by decide +kernel
theorem da2_3 : decode prog_29_method_2_code 3 = .ok (.aload_n 0, 1) := by decide +kernel
theorem da2_4 : decode prog_29_method_2_code 4 = .ok (.getfield 31, 3) := by decide +kernel
theorem da2_7 : decode prog_29_method_2_code 7 = .ok (.istore 9, 2) := by decide +kernel
theorem da2_9 : decode prog_29_method_2_code 9 = .ok (.iload 8, 2) := by decide +kernel
theorem da2_11 : decode prog_29_method_2_code 11 = .ok (.iload 9, 2) := by decide +kernel
theorem da2_13 : decode prog_29_method_2_code 13 = .ok (.if_icmp .ge 40, 3) := by decide +kernel
theorem da2_16 : decode prog_29_method_2_code 16 = .ok (.iload 8, 2) := by decide +kernel
theorem da2_18 : decode prog_29_method_2_code 18 = .ok (.iload 9, 2) := by decide +kernel
theorem da2_20 : decode prog_29_method_2_code 20 = .ok (.iadd, 1) := by decide +kernel
theorem da2_21 : decode prog_29_method_2_code 21 = .ok (.iconst 1, 1) := by decide +kernel
theorem da2_22 : decode prog_29_method_2_code 22 = .ok (.iushr, 1) := by decide +kernel
theorem da2_23 : decode prog_29_method_2_code 23 = .ok (.istore 10, 2) := by decide +kernel
theorem da2_25 : decode prog_29_method_2_code 25 = .ok (.aload_n 0, 1) := by decide +kernel
theorem da2_26 : decode prog_29_method_2_code 26 = .ok (.getfield 13, 3) := by decide +kernel
theorem da2_29 : decode prog_29_method_2_code 29 = .ok (.iload 10, 2) := by decide +kernel
theorem da2_31 : decode prog_29_method_2_code 31 = .ok (.daload, 1) := by decide +kernel
theorem da2_32 : decode prog_29_method_2_code 32 = .ok (.dload_n 2, 1) := by decide +kernel
theorem da2_33 : decode prog_29_method_2_code 33 = .ok (.dcmp .l, 1) := by decide +kernel
theorem da2_34 : decode prog_29_method_2_code 34 = .ok (.ifCond .lt 12, 3) := by decide +kernel
theorem da2_37 : decode prog_29_method_2_code 37 = .ok (.iload 10, 2) := by decide +kernel
theorem da2_39 : decode prog_29_method_2_code 39 = .ok (.iconst 1, 1) := by decide +kernel
theorem da2_40 : decode prog_29_method_2_code 40 = .ok (.iadd, 1) := by decide +kernel
theorem da2_41 : decode prog_29_method_2_code 41 = .ok (.istore 8, 2) := by decide +kernel
theorem da2_43 : decode prog_29_method_2_code 43 = .ok (.goto 7, 3) := by decide +kernel
theorem da2_50 : decode prog_29_method_2_code 50 = .ok (.goto (-41), 3) := by decide +kernel
theorem da2_53 : decode prog_29_method_2_code 53 = .ok (.iload 8, 2) := by decide +kernel
theorem da2_55 : decode prog_29_method_2_code 55 = .ok (.ifCond .le 18, 3) := by decide +kernel
theorem da2_58 : decode prog_29_method_2_code 58 = .ok (.aload_n 0, 1) := by decide +kernel
theorem da2_59 : decode prog_29_method_2_code 59 = .ok (.getfield 17, 3) := by decide +kernel
theorem da2_62 : decode prog_29_method_2_code 62 = .ok (.iload 8, 2) := by decide +kernel
theorem da2_64 : decode prog_29_method_2_code 64 = .ok (.iconst 1, 1) := by decide +kernel
theorem da2_65 : decode prog_29_method_2_code 65 = .ok (.isub, 1) := by decide +kernel
theorem da2_66 : decode prog_29_method_2_code 66 = .ok (.daload, 1) := by decide +kernel
theorem da2_67 : decode prog_29_method_2_code 67 = .ok (.dload 4, 2) := by decide +kernel
theorem da2_69 : decode prog_29_method_2_code 69 = .ok (.dcmp .g, 1) := by decide +kernel
theorem da2_70 : decode prog_29_method_2_code 70 = .ok (.ifCond .le 32, 3) := by decide +kernel
theorem da2_73 : decode prog_29_method_2_code 73 = .ok (.aload_n 0, 1) := by decide +kernel
theorem da2_74 : decode prog_29_method_2_code 74 = .ok (.getfield 27, 3) := by decide +kernel
theorem da2_77 : decode prog_29_method_2_code 77 = .ok (.ifCond .eq 27, 3) := by decide +kernel
theorem da2_80 : decode prog_29_method_2_code 80 = .ok (.iload 8, 2) := by decide +kernel
theorem da2_82 : decode prog_29_method_2_code 82 = .ok (.aload_n 0, 1) := by decide +kernel
theorem da2_83 : decode prog_29_method_2_code 83 = .ok (.getfield 31, 3) := by decide +kernel
theorem da2_86 : decode prog_29_method_2_code 86 = .ok (.if_icmp .ge 18, 3) := by decide +kernel
theorem da2_104 : decode prog_29_method_2_code 104 = .ok (.iload 8, 2) := by decide +kernel
theorem da2_106 : decode prog_29_method_2_code 106 = .ok (.istore 10, 2) := by decide +kernel
theorem da2_108 : decode prog_29_method_2_code 108 = .ok (.iload 10, 2) := by decide +kernel
theorem da2_110 : decode prog_29_method_2_code 110 = .ok (.ifCond .le 20, 3) := by decide +kernel
theorem da2_113 : decode prog_29_method_2_code 113 = .ok (.aload_n 0, 1) := by decide +kernel
theorem da2_114 : decode prog_29_method_2_code 114 = .ok (.getfield 13, 3) := by decide +kernel
theorem da2_117 : decode prog_29_method_2_code 117 = .ok (.iload 10, 2) := by decide +kernel
theorem da2_119 : decode prog_29_method_2_code 119 = .ok (.iconst 1, 1) := by decide +kernel
theorem da2_120 : decode prog_29_method_2_code 120 = .ok (.isub, 1) := by decide +kernel
theorem da2_121 : decode prog_29_method_2_code 121 = .ok (.daload, 1) := by decide +kernel
theorem da2_122 : decode prog_29_method_2_code 122 = .ok (.dload_n 2, 1) := by decide +kernel
theorem da2_123 : decode prog_29_method_2_code 123 = .ok (.dcmp .l, 1) := by decide +kernel
theorem da2_124 : decode prog_29_method_2_code 124 = .ok (.ifCond .ne 6, 3) := by decide +kernel
theorem da2_130 : decode prog_29_method_2_code 130 = .ok (.aload_n 0, 1) := by decide +kernel
theorem da2_131 : decode prog_29_method_2_code 131 = .ok (.getfield 27, 3) := by decide +kernel
theorem da2_134 : decode prog_29_method_2_code 134 = .ok (.ifCond .eq 29, 3) := by decide +kernel
theorem da2_137 : decode prog_29_method_2_code 137 = .ok (.iload 10, 2) := by decide +kernel
theorem da2_139 : decode prog_29_method_2_code 139 = .ok (.ifCond .le 24, 3) := by decide +kernel
theorem da2_142 : decode prog_29_method_2_code 142 = .ok (.aload_n 0, 1) := by decide +kernel
theorem da2_143 : decode prog_29_method_2_code 143 = .ok (.getfield 20, 3) := by decide +kernel
theorem da2_146 : decode prog_29_method_2_code 146 = .ok (.iload 10, 2) := by decide +kernel
theorem da2_148 : decode prog_29_method_2_code 148 = .ok (.iconst 1, 1) := by decide +kernel
theorem da2_149 : decode prog_29_method_2_code 149 = .ok (.isub, 1) := by decide +kernel
theorem da2_150 : decode prog_29_method_2_code 150 = .ok (.daload, 1) := by decide +kernel
theorem da2_151 : decode prog_29_method_2_code 151 = .ok (.dload 6, 2) := by decide +kernel
theorem da2_153 : decode prog_29_method_2_code 153 = .ok (.dcmp .l, 1) := by decide +kernel
theorem da2_154 : decode prog_29_method_2_code 154 = .ok (.ifCond .lt 9, 3) := by decide +kernel
theorem da2_163 : decode prog_29_method_2_code 163 = .ok (.iload 8, 2) := by decide +kernel
theorem da2_165 : decode prog_29_method_2_code 165 = .ok (.istore 11, 2) := by decide +kernel
theorem da2_167 : decode prog_29_method_2_code 167 = .ok (.iload 11, 2) := by decide +kernel
theorem da2_169 : decode prog_29_method_2_code 169 = .ok (.aload_n 0, 1) := by decide +kernel
theorem da2_170 : decode prog_29_method_2_code 170 = .ok (.getfield 31, 3) := by decide +kernel
theorem da2_173 : decode prog_29_method_2_code 173 = .ok (.if_icmp .ge 22, 3) := by decide +kernel
theorem da2_195 : decode prog_29_method_2_code 195 = .ok (.aload_n 0, 1) := by decide +kernel
theorem da2_196 : decode prog_29_method_2_code 196 = .ok (.getfield 31, 3) := by decide +kernel
theorem da2_199 : decode prog_29_method_2_code 199 = .ok (.iload 11, 2) := by decide +kernel
theorem da2_201 : decode prog_29_method_2_code 201 = .ok (.iload 10, 2) := by decide +kernel
theorem da2_203 : decode prog_29_method_2_code 203 = .ok (.isub, 1) := by decide +kernel
theorem da2_204 : decode prog_29_method_2_code 204 = .ok (.isub, 1) := by decide +kernel
theorem da2_205 : decode prog_29_method_2_code 205 = .ok (.iconst 1, 1) := by decide +kernel
theorem da2_206 : decode prog_29_method_2_code 206 = .ok (.iadd, 1) := by decide +kernel
theorem da2_207 : decode prog_29_method_2_code 207 = .ok (.istore 12, 2) := by decide +kernel
theorem da2_209 : decode prog_29_method_2_code 209 = .ok (.iload 12, 2) := by decide +kernel
theorem da2_211 : decode prog_29_method_2_code 211 = .ok (.aload_n 0, 1) := by decide +kernel
theorem da2_212 : decode prog_29_method_2_code 212 = .ok (.getfield 7, 3) := by decide +kernel
theorem da2_215 : decode prog_29_method_2_code 215 = .ok (.arraylength, 1) := by decide +kernel
theorem da2_216 : decode prog_29_method_2_code 216 = .ok (.if_icmp .le 77, 3) := by decide +kernel
theorem da2_293 : decode prog_29_method_2_code 293 = .ok (.aload_n 0, 1) := by decide +kernel
theorem da2_294 : decode prog_29_method_2_code 294 = .ok (.getfield 7, 3) := by decide +kernel
theorem da2_297 : decode prog_29_method_2_code 297 = .ok (.iload 11, 2) := by decide +kernel
theorem da2_299 : decode prog_29_method_2_code 299 = .ok (.aload_n 0, 1) := by decide +kernel
theorem da2_300 : decode prog_29_method_2_code 300 = .ok (.getfield 7, 3) := by decide +kernel
theorem da2_303 : decode prog_29_method_2_code 303 = .ok (.iload 10, 2) := by decide +kernel
theorem da2_305 : decode prog_29_method_2_code 305 = .ok (.iconst 1, 1) := by decide +kernel
theorem da2_306 : decode prog_29_method_2_code 306 = .ok (.iadd, 1) := by decide +kernel
theorem da2_307 : decode prog_29_method_2_code 307 = .ok (.aload_n 0, 1) := by decide +kernel
theorem da2_308 : decode prog_29_method_2_code 308 = .ok (.getfield 31, 3) := by decide +kernel
theorem da2_311 : decode prog_29_method_2_code 311 = .ok (.iload 11, 2) := by decide +kernel
theorem da2_313 : decode prog_29_method_2_code 313 = .ok (.isub, 1) := by decide +kernel
theorem da2_314 : decode prog_29_method_2_code 314 = .ok (.invokestatic 47, 3) := by decide +kernel
theorem da2_317 : decode prog_29_method_2_code 317 = .ok (.aload_n 0, 1) := by decide +kernel
theorem da2_318 : decode prog_29_method_2_code 318 = .ok (.getfield 13, 3) := by decide +kernel
theorem da2_321 : decode prog_29_method_2_code 321 = .ok (.iload 11, 2) := by decide +kernel
theorem da2_323 : decode prog_29_method_2_code 323 = .ok (.aload_n 0, 1) := by decide +kernel
theorem da2_324 : decode prog_29_method_2_code 324 = .ok (.getfield 13, 3) := by decide +kernel
theorem da2_327 : decode prog_29_method_2_code 327 = .ok (.iload 10, 2) := by decide +kernel
theorem da2_329 : decode prog_29_method_2_code 329 = .ok (.iconst 1, 1) := by decide +kernel
theorem da2_330 : decode prog_29_method_2_code 330 = .ok (.iadd, 1) := by decide +kernel
theorem da2_331 : decode prog_29_method_2_code 331 = .ok (.aload_n 0, 1) := by decide +kernel
theorem da2_332 : decode prog_29_method_2_code 332 = .ok (.getfield 31, 3) := by decide +kernel
theorem da2_335 : decode prog_29_method_2_code 335 = .ok (.iload 11, 2) := by decide +kernel
theorem da2_337 : decode prog_29_method_2_code 337 = .ok (.isub, 1) := by decide +kernel
theorem da2_338 : decode prog_29_method_2_code 338 = .ok (.invokestatic 47, 3) := by decide +kernel
theorem da2_341 : decode prog_29_method_2_code 341 = .ok (.aload_n 0, 1) := by decide +kernel
theorem da2_342 : decode prog_29_method_2_code 342 = .ok (.getfield 17, 3) := by decide +kernel
theorem da2_345 : decode prog_29_method_2_code 345 = .ok (.iload 11, 2) := by decide +kernel
theorem da2_347 : decode prog_29_method_2_code 347 = .ok (.aload_n 0, 1) := by decide +kernel
theorem da2_348 : decode prog_29_method_2_code 348 = .ok (.getfield 17, 3) := by decide +kernel
theorem da2_351 : decode prog_29_method_2_code 351 = .ok (.iload 10, 2) := by decide +kernel
theorem da2_353 : decode prog_29_method_2_code 353 = .ok (.iconst 1, 1) := by decide +kernel
theorem da2_354 : decode prog_29_method_2_code 354 = .ok (.iadd, 1) := by decide +kernel
theorem da2_355 : decode prog_29_method_2_code 355 = .ok (.aload_n 0, 1) := by decide +kernel
theorem da2_356 : decode prog_29_method_2_code 356 = .ok (.getfield 31, 3) := by decide +kernel
theorem da2_359 : decode prog_29_method_2_code 359 = .ok (.iload 11, 2) := by decide +kernel
theorem da2_361 : decode prog_29_method_2_code 361 = .ok (.isub, 1) := by decide +kernel
theorem da2_362 : decode prog_29_method_2_code 362 = .ok (.invokestatic 47, 3) := by decide +kernel
theorem da2_365 : decode prog_29_method_2_code 365 = .ok (.aload_n 0, 1) := by decide +kernel
theorem da2_366 : decode prog_29_method_2_code 366 = .ok (.getfield 20, 3) := by decide +kernel
theorem da2_369 : decode prog_29_method_2_code 369 = .ok (.iload 11, 2) := by decide +kernel
theorem da2_371 : decode prog_29_method_2_code 371 = .ok (.aload_n 0, 1) := by decide +kernel
theorem da2_372 : decode prog_29_method_2_code 372 = .ok (.getfield 20, 3) := by decide +kernel
theorem da2_375 : decode prog_29_method_2_code 375 = .ok (.iload 10, 2) := by decide +kernel
theorem da2_377 : decode prog_29_method_2_code 377 = .ok (.iconst 1, 1) := by decide +kernel
theorem da2_378 : decode prog_29_method_2_code 378 = .ok (.iadd, 1) := by decide +kernel
theorem da2_379 : decode prog_29_method_2_code 379 = .ok (.aload_n 0, 1) := by decide +kernel
theorem da2_380 : decode prog_29_method_2_code 380 = .ok (.getfield 31, 3) := by decide +kernel
theorem da2_383 : decode prog_29_method_2_code 383 = .ok (.iload 11, 2) := by decide +kernel
theorem da2_385 : decode prog_29_method_2_code 385 = .ok (.isub, 1) := by decide +kernel
theorem da2_386 : decode prog_29_method_2_code 386 = .ok (.invokestatic 47, 3) := by decide +kernel
theorem da2_389 : decode prog_29_method_2_code 389 = .ok (.aload_n 0, 1) := by decide +kernel
theorem da2_390 : decode prog_29_method_2_code 390 = .ok (.getfield 23, 3) := by decide +kernel
theorem da2_393 : decode prog_29_method_2_code 393 = .ok (.iload 11, 2) := by decide +kernel
theorem da2_395 : decode prog_29_method_2_code 395 = .ok (.aload_n 0, 1) := by decide +kernel
theorem da2_396 : decode prog_29_method_2_code 396 = .ok (.getfield 23, 3) := by decide +kernel
theorem da2_399 : decode prog_29_method_2_code 399 = .ok (.iload 10, 2) := by decide +kernel
theorem da2_401 : decode prog_29_method_2_code 401 = .ok (.iconst 1, 1) := by decide +kernel
theorem da2_402 : decode prog_29_method_2_code 402 = .ok (.iadd, 1) := by decide +kernel
theorem da2_403 : decode prog_29_method_2_code 403 = .ok (.aload_n 0, 1) := by decide +kernel
theorem da2_404 : decode prog_29_method_2_code 404 = .ok (.getfield 31, 3) := by decide +kernel
theorem da2_407 : decode prog_29_method_2_code 407 = .ok (.iload 11, 2) := by decide +kernel
theorem da2_409 : decode prog_29_method_2_code 409 = .ok (.isub, 1) := by decide +kernel
theorem da2_410 : decode prog_29_method_2_code 410 = .ok (.invokestatic 47, 3) := by decide +kernel
theorem da2_413 : decode prog_29_method_2_code 413 = .ok (.aload_n 0, 1) := by decide +kernel
theorem da2_414 : decode prog_29_method_2_code 414 = .ok (.getfield 7, 3) := by decide +kernel
theorem da2_417 : decode prog_29_method_2_code 417 = .ok (.iload 10, 2) := by decide +kernel
theorem da2_419 : decode prog_29_method_2_code 419 = .ok (.iload_n 1, 1) := by decide +kernel
theorem da2_420 : decode prog_29_method_2_code 420 = .ok (.iastore, 1) := by decide +kernel
theorem da2_421 : decode prog_29_method_2_code 421 = .ok (.aload_n 0, 1) := by decide +kernel
theorem da2_422 : decode prog_29_method_2_code 422 = .ok (.getfield 13, 3) := by decide +kernel
theorem da2_425 : decode prog_29_method_2_code 425 = .ok (.iload 10, 2) := by decide +kernel
theorem da2_427 : decode prog_29_method_2_code 427 = .ok (.dload_n 2, 1) := by decide +kernel
theorem da2_428 : decode prog_29_method_2_code 428 = .ok (.dastore, 1) := by decide +kernel
theorem da2_429 : decode prog_29_method_2_code 429 = .ok (.aload_n 0, 1) := by decide +kernel
theorem da2_430 : decode prog_29_method_2_code 430 = .ok (.getfield 17, 3) := by decide +kernel
theorem da2_433 : decode prog_29_method_2_code 433 = .ok (.iload 10, 2) := by decide +kernel
theorem da2_435 : decode prog_29_method_2_code 435 = .ok (.dload 4, 2) := by decide +kernel
theorem da2_437 : decode prog_29_method_2_code 437 = .ok (.dastore, 1) := by decide +kernel
theorem da2_438 : decode prog_29_method_2_code 438 = .ok (.aload_n 0, 1) := by decide +kernel
theorem da2_439 : decode prog_29_method_2_code 439 = .ok (.getfield 20, 3) := by decide +kernel
theorem da2_442 : decode prog_29_method_2_code 442 = .ok (.iload 10, 2) := by decide +kernel
theorem da2_444 : decode prog_29_method_2_code 444 = .ok (.dload 6, 2) := by decide +kernel
theorem da2_446 : decode prog_29_method_2_code 446 = .ok (.dastore, 1) := by decide +kernel
theorem da2_447 : decode prog_29_method_2_code 447 = .ok (.aload_n 0, 1) := by decide +kernel
theorem da2_448 : decode prog_29_method_2_code 448 = .ok (.getfield 23, 3) := by decide +kernel
theorem da2_451 : decode prog_29_method_2_code 451 = .ok (.iload 10, 2) := by decide +kernel
theorem da2_453 : decode prog_29_method_2_code 453 = .ok (.iconst 0, 1) := by decide +kernel
theorem da2_454 : decode prog_29_method_2_code 454 = .ok (.bastore, 1) := by decide +kernel
theorem da2_455 : decode prog_29_method_2_code 455 = .ok (.aload_n 0, 1) := by decide +kernel
theorem da2_456 : decode prog_29_method_2_code 456 = .ok (.iload 12, 2) := by decide +kernel
theorem da2_458 : decode prog_29_method_2_code 458 = .ok (.putfield 31, 3) := by decide +kernel
theorem da2_461 : decode prog_29_method_2_code 461 = .ok (.iconst 1, 1) := by decide +kernel
theorem da2_462 : decode prog_29_method_2_code 462 = .ok (.ireturn, 1) := by decide +kernel
theorem pna2 : plainName "com/example/skywright/skywright/search/Kept" = true := by first | (simp [plainName, overriddenIn]; done) | decide +kernel
theorem efa2 (m : MethodId) (z0 : Addr) (z1 : Int32) (z2 : UInt64) (z3 : UInt64) (z4 : UInt64) : entryFrame m #[(.ref z0), (.int z1), (.double z2), (.double z3), (.double z4)] 14 = mkF m 0 #[.val (.ref z0), .val (.int z1), .val (.double z2), .second, .val (.double z3), .second, .val (.double z4), .second, .unset, .unset, .unset, .unset, .unset, .unset] [] := by first | (simp [entryFrame, mkF, argsToLocals, Value.category]; done) | rfl
def Qa2 (Z : State) (q1 : Addr) (la : Addr) (ma : Addr) (si : Addr) (rh : Addr) (ex : Addr) (fg : Int32) (LA : Nat → Int32) (M : Nat → UInt64) (S : Nat → UInt64) (R : Nat → UInt64) (B : Nat → Int32) (h0 : Heap) (n0 : Nat) (v : Option Value) (h : Heap) (L : List Loc) : Prop := v = some (.int 1) ∧ Fr n0 L ∧ n0 ≤ h.size ∧ own_K Z h n0 q1 la ma si rh ex 3 fg (own_u LA 2 30) (own_u M 2 (4607182418800017408 : UInt64)) (own_u S 2 (4607182418800017408 : UInt64)) (own_u R 2 (4613937818241073152 : UInt64)) (own_u B 2 0)
set_option maxRecDepth 65536 in
set_option maxHeartbeats 40000000 in
theorem rma2 (l : Launch) (Z : State) (a0 : Array Value) (hw : ∀ d ∈ tables_1, d.before a0 Z = true) (ws : List Jvm.Cond) (q1 : Addr) (la : Addr) (ma : Addr) (si : Addr) (rh : Addr) (ex : Addr) (fg : Int32) (LA : Nat → Int32) (M : Nat → UInt64) (S : Nat → UInt64) (R : Nat → UInt64) (B : Nat → Int32) (h0 : Heap) (n0 : Nat) (Z0 : n0 ≤ h0.size) (hK0 : own_K Z h0 n0 q1 la ma si rh ex 2 fg LA M S R B) (hM0 : M 0 = (4613937818241073152 : UInt64)) (hS0 : S 0 = (4613937818241073152 : UInt64)) (hR0 : R 0 = (4607182418800017408 : UInt64)) (hM1 : M 1 = (4611686018427387904 : UInt64)) (hS1 : S 1 = (4611686018427387904 : UInt64)) (hR1 : R 1 = (4611686018427387904 : UInt64)) :
    MetFree l (⟨"com/example/skywright/skywright/search/Kept", "admit", "(IDDD)Z"⟩ : MethodName) (head1 (Jvm.Cond.code (⟨"com/example/skywright/skywright/search/Kept", "admit", "(IDDD)Z"⟩ : MethodName) prog_29_method_2_code 14 (Option.some Jvm.ClassFile.FieldType.boolean) :: ws) ({ frames := 1, cells := 0, slots := 0, locals := 18 } : Room)) (fun a U => a = #[(.ref q1), (.int (30 : Int32)), (.double (4607182418800017408 : UInt64)), (.double (4607182418800017408 : UInt64)), (.double (4613937818241073152 : UInt64))] ∧ Z.Warmed39 U.vm ∧ U.heap = h0) (fun _ _ _ _ _ => True) (fun _ U o U' => ∃ v L, o = .returned v ∧ Qa2 Z q1 la ma si rh ex fg LA M S R B h0 n0 v U'.heap L ∧ FrameEnd U o U' L ({ frames := 1, cells := 0, slots := 0, locals := 18 } : Room).cells ({ frames := 1, cells := 0, slots := 0, locals := 18 } : Room).slots) := by
  refine MetFree.of_bodySF (plainFor_of_name pna2) hisR ?_
  intro p e s m args below meth c s₁ Bd hml0 hP hK
  obtain ⟨rfl, hZ, hh⟩ := hP
  have hx := Bd.exec
  have hby := Bd.bytes
  have hml : c.maxLocals = 14 := hml0
  have hown : s.vm.findClass "com/example/skywright/skywright/search/Kept" = some m.cls := findClass_of_methodNamed Bd.named
  have hnm := (name_of_methodNamed Bd.named Bd.method).1
  have X0 : Stand p l e ({ frames := 1, cells := 0, slots := 0, locals := 18 } : Room) s m #[(.ref q1), (.int (30 : Int32)), (.double (4607182418800017408 : UInt64)), (.double (4607182418800017408 : UInt64)), (.double (4613937818241073152 : UInt64))] below meth c s₁ [] 0 0 := Stand.of_body Bd
  have e0 : s₁.heap = h0 := by rw [← hh, Bd.state]; rfl
  have N0 := Fr.nil n0
  show Go p e below (Ret s (Qa2 Z q1 la ma si rh ex fg LA M S R B h0 n0) ({ frames := 1, cells := 0, slots := 0, locals := 18 } : Room).cells ({ frames := 1, cells := 0, slots := 0, locals := 18 } : Room).slots) (s₁.setTop (entryFrame m #[(.ref q1), (.int (30 : Int32)), (.double (4607182418800017408 : UInt64)), (.double (4607182418800017408 : UInt64)), (.double (4613937818241073152 : UInt64))] 14))
  rw [efa2 m q1 (30 : Int32) (4607182418800017408 : UInt64) (4607182418800017408 : UInt64) (4613937818241073152 : UInt64)]
  obtain ⟨E0, F_la, F_ma, F_si, F_rh, F_ex, F_sz, F_fg, A_la, A_ma, A_si, A_rh, A_ex, hB, ⟨ne_q1_la, ne_q1_ma, ne_q1_si, ne_q1_rh, ne_q1_ex, ne_la_ma, ne_la_si, ne_la_rh, ne_la_ex, ne_ma_si, ne_ma_rh, ne_ma_ex, ne_si_rh, ne_si_ex, ne_rh_ex⟩, ⟨g_q1, g_la, g_ma, g_si, g_rh, g_ex⟩⟩ := hK0
  refine g_iconst X0 hx (hb hby da2_0) (v := (0 : Int32)) (by decide) ?_
  refine g_istore X0 hx (hb hby da2_1) (L' := #[.val (.ref q1), .val (.int (30 : Int32)), .val (.double (4607182418800017408 : UInt64)), .second, .val (.double (4607182418800017408 : UInt64)), .second, .val (.double (4613937818241073152 : UInt64)), .second, .val (.int (0 : Int32)), .unset, .unset, .unset, .unset, .unset]) rfl ?_
  refine g_aloadN X0 hx (hb hby da2_3) rfl rfl ?_
  refine g_getF X0 hx hZ hown (hw _ (List.mem_of_getElem? (i := 30) rfl)) e0 F_sz (hb hby da2_4) ?_
  intro T1 X2 e3
  refine g_istore X2 hx (hb hby da2_7) (L' := #[.val (.ref q1), .val (.int (30 : Int32)), .val (.double (4607182418800017408 : UInt64)), .second, .val (.double (4607182418800017408 : UInt64)), .second, .val (.double (4613937818241073152 : UInt64)), .second, .val (.int (0 : Int32)), .val (.int (2 : Int32)), .unset, .unset, .unset, .unset]) rfl ?_
  refine g_iload X2 hx (hb hby da2_9) rfl ?_
  refine g_iload X2 hx (hb hby da2_11) rfl ?_
  have hc13_4 : (0 : Int32) < (2 : Int32) := (by decide)
  refine g_icmpNo X2 hx (hb hby da2_13) (tlt hc13_4).2.1 ?_
  refine g_iload X2 hx (hb hby da2_16) rfl ?_
  refine g_iload X2 hx (hb hby da2_18) rfl ?_
  refine g_iadd X2 hx (hb hby da2_20) (show (0 : Int32) + (2 : Int32) = (2 : Int32) from by decide) ?_
  refine g_iconst X2 hx (hb hby da2_21) (v := (1 : Int32)) (by decide) ?_
  refine g_iushr X2 hx (hb hby da2_22) (show ((2 : Int32).toUInt32 >>> ((1 : Int32) &&& 31).toUInt32).toInt32 = (1 : Int32) from by decide) ?_
  refine g_istore X2 hx (hb hby da2_23) (L' := #[.val (.ref q1), .val (.int (30 : Int32)), .val (.double (4607182418800017408 : UInt64)), .second, .val (.double (4607182418800017408 : UInt64)), .second, .val (.double (4613937818241073152 : UInt64)), .second, .val (.int (0 : Int32)), .val (.int (2 : Int32)), .val (.int (1 : Int32)), .unset, .unset, .unset]) rfl ?_
  refine g_aloadN X2 hx (hb hby da2_25) rfl rfl ?_
  refine g_getF X2 hx hZ hown (hw _ (List.mem_of_getElem? (i := 13) rfl)) e3 F_ma (hb hby da2_26) ?_
  intro T5 X6 e7
  refine g_iload X6 hx (hb hby da2_29) rfl ?_
  refine g_daload X6 hx hZ e7 A_ma (by decide) (by decide) (i := 1) (by decide) (congrArg Value.double hM1) (hb hby da2_31) ?_
  refine g_dloadN X6 hx (hb hby da2_32) rfl ?_
  refine g_dcmp X6 hx (hb hby da2_33) ?_
  have hc34_8 : ¬ (FP.dcmp (4611686018427387904 : UInt64) (4607182418800017408 : UInt64) = some .lt ∨ FP.dcmp (4611686018427387904 : UInt64) (4607182418800017408 : UInt64) = none) := (by decide +kernel)
  refine g_ifNo X6 hx (hb hby da2_34) (flt (fun q => hc34_8 ((cv_l_lt _).mp q))).1 ?_
  refine g_iload X6 hx (hb hby da2_37) rfl ?_
  refine g_iconst X6 hx (hb hby da2_39) (v := (1 : Int32)) (by decide) ?_
  refine g_iadd X6 hx (hb hby da2_40) (show (1 : Int32) + (1 : Int32) = (2 : Int32) from by decide) ?_
  refine g_istore X6 hx (hb hby da2_41) (L' := #[.val (.ref q1), .val (.int (30 : Int32)), .val (.double (4607182418800017408 : UInt64)), .second, .val (.double (4607182418800017408 : UInt64)), .second, .val (.double (4613937818241073152 : UInt64)), .second, .val (.int (2 : Int32)), .val (.int (2 : Int32)), .val (.int (1 : Int32)), .unset, .unset, .unset]) rfl ?_
  refine g_goto X6 hx (hb hby da2_43) (by decide) (pc' := 50) (by decide) ?_
  refine g_goto X6 hx (hb hby da2_50) (by decide) (pc' := 9) (by decide) ?_
  refine g_iload X6 hx (hb hby da2_9) rfl ?_
  refine g_iload X6 hx (hb hby da2_11) rfl ?_
  have hc13_9 : ¬ ((2 : Int32) < (2 : Int32)) := (by decide)
  refine g_icmpYes X6 hx (hb hby da2_13) (flt hc13_9).2.1 (by decide) (pc' := 53) (by decide) ?_
  refine g_iload X6 hx (hb hby da2_53) rfl ?_
  have hc55_10 : (0 : Int32) < (2 : Int32) := (by decide)
  refine g_ifNo X6 hx (hb hby da2_55) (tlt hc55_10).2.2.2 ?_
  refine g_aloadN X6 hx (hb hby da2_58) rfl rfl ?_
  refine g_getF X6 hx hZ hown (hw _ (List.mem_of_getElem? (i := 15) rfl)) e7 F_si (hb hby da2_59) ?_
  intro T11 X12 e13
  refine g_iload X12 hx (hb hby da2_62) rfl ?_
  refine g_iconst X12 hx (hb hby da2_64) (v := (1 : Int32)) (by decide) ?_
  refine g_isub X12 hx (hb hby da2_65) (show (2 : Int32) - (1 : Int32) = (1 : Int32) from by decide) ?_
  refine g_daload X12 hx hZ e13 A_si (by decide) (by decide) (i := 1) (by decide) (congrArg Value.double hS1) (hb hby da2_66) ?_
  refine g_dload X12 hx (hb hby da2_67) rfl ?_
  refine g_dcmp X12 hx (hb hby da2_69) ?_
  have hc70_14 : FP.dcmp (4611686018427387904 : UInt64) (4607182418800017408 : UInt64) = some .gt ∨ FP.dcmp (4611686018427387904 : UInt64) (4607182418800017408 : UInt64) = none := (by decide +kernel)
  refine g_ifNo X12 hx (hb hby da2_70) (tlt ((cv_g_gt _).mpr hc70_14)).2.2.2 ?_
  refine g_aloadN X12 hx (hb hby da2_73) rfl rfl ?_
  refine g_getF X12 hx hZ hown (hw _ (List.mem_of_getElem? (i := 22) rfl)) e13 F_fg (hb hby da2_74) ?_
  intro T15 X16 e17
  by_cases hc77_18 : fg = (0 : Int32)
  ·
    refine g_ifYes X16 hx (hb hby da2_77) (teq hc77_18).1 (by decide) (pc' := 104) (by decide) ?_
    refine g_iload X16 hx (hb hby da2_104) rfl ?_
    refine g_istore X16 hx (hb hby da2_106) (L' := #[.val (.ref q1), .val (.int (30 : Int32)), .val (.double (4607182418800017408 : UInt64)), .second, .val (.double (4607182418800017408 : UInt64)), .second, .val (.double (4613937818241073152 : UInt64)), .second, .val (.int (2 : Int32)), .val (.int (2 : Int32)), .val (.int (2 : Int32)), .unset, .unset, .unset]) rfl ?_
    refine g_iload X16 hx (hb hby da2_108) rfl ?_
    have hc110_19 : (0 : Int32) < (2 : Int32) := (by decide)
    refine g_ifNo X16 hx (hb hby da2_110) (tlt hc110_19).2.2.2 ?_
    refine g_aloadN X16 hx (hb hby da2_113) rfl rfl ?_
    refine g_getF X16 hx hZ hown (hw _ (List.mem_of_getElem? (i := 13) rfl)) e17 F_ma (hb hby da2_114) ?_
    intro T20 X21 e22
    refine g_iload X21 hx (hb hby da2_117) rfl ?_
    refine g_iconst X21 hx (hb hby da2_119) (v := (1 : Int32)) (by decide) ?_
    refine g_isub X21 hx (hb hby da2_120) (show (2 : Int32) - (1 : Int32) = (1 : Int32) from by decide) ?_
    refine g_daload X21 hx hZ e22 A_ma (by decide) (by decide) (i := 1) (by decide) (congrArg Value.double hM1) (hb hby da2_121) ?_
    refine g_dloadN X21 hx (hb hby da2_122) rfl ?_
    refine g_dcmp X21 hx (hb hby da2_123) ?_
    have hc124_23 : ¬ (FP.dcmp (4611686018427387904 : UInt64) (4607182418800017408 : UInt64) = some .eq) := (by decide +kernel)
    refine g_ifYes X21 hx (hb hby da2_124) (feq (fun q => hc124_23 ((cv_l_eq _).mp q))).2 (by decide) (pc' := 130) (by decide) ?_
    refine g_aloadN X21 hx (hb hby da2_130) rfl rfl ?_
    refine g_getF X21 hx hZ hown (hw _ (List.mem_of_getElem? (i := 22) rfl)) e22 F_fg (hb hby da2_131) ?_
    intro T24 X25 e26
    by_cases hc134_27 : fg = (0 : Int32)
    ·
      refine g_ifYes X25 hx (hb hby da2_134) (teq hc134_27).1 (by decide) (pc' := 163) (by decide) ?_
      refine g_iload X25 hx (hb hby da2_163) rfl ?_
      refine g_istore X25 hx (hb hby da2_165) (L' := #[.val (.ref q1), .val (.int (30 : Int32)), .val (.double (4607182418800017408 : UInt64)), .second, .val (.double (4607182418800017408 : UInt64)), .second, .val (.double (4613937818241073152 : UInt64)), .second, .val (.int (2 : Int32)), .val (.int (2 : Int32)), .val (.int (2 : Int32)), .val (.int (2 : Int32)), .unset, .unset]) rfl ?_
      refine g_iload X25 hx (hb hby da2_167) rfl ?_
      refine g_aloadN X25 hx (hb hby da2_169) rfl rfl ?_
      refine g_getF X25 hx hZ hown (hw _ (List.mem_of_getElem? (i := 30) rfl)) e26 F_sz (hb hby da2_170) ?_
      intro T28 X29 e30
      have hc173_31 : ¬ ((2 : Int32) < (2 : Int32)) := (by decide)
      refine g_icmpYes X29 hx (hb hby da2_173) (flt hc173_31).2.1 (by decide) (pc' := 195) (by decide) ?_
      refine g_aloadN X29 hx (hb hby da2_195) rfl rfl ?_
      refine g_getF X29 hx hZ hown (hw _ (List.mem_of_getElem? (i := 30) rfl)) e30 F_sz (hb hby da2_196) ?_
      intro T32 X33 e34
      refine g_iload X33 hx (hb hby da2_199) rfl ?_
      refine g_iload X33 hx (hb hby da2_201) rfl ?_
      refine g_isub X33 hx (hb hby da2_203) (show (2 : Int32) - (2 : Int32) = (0 : Int32) from by decide) ?_
      refine g_isub X33 hx (hb hby da2_204) (show (2 : Int32) - (0 : Int32) = (2 : Int32) from by decide) ?_
      refine g_iconst X33 hx (hb hby da2_205) (v := (1 : Int32)) (by decide) ?_
      refine g_iadd X33 hx (hb hby da2_206) (show (2 : Int32) + (1 : Int32) = (3 : Int32) from by decide) ?_
      refine g_istore X33 hx (hb hby da2_207) (L' := #[.val (.ref q1), .val (.int (30 : Int32)), .val (.double (4607182418800017408 : UInt64)), .second, .val (.double (4607182418800017408 : UInt64)), .second, .val (.double (4613937818241073152 : UInt64)), .second, .val (.int (2 : Int32)), .val (.int (2 : Int32)), .val (.int (2 : Int32)), .val (.int (2 : Int32)), .val (.int (3 : Int32)), .unset]) rfl ?_
      refine g_iload X33 hx (hb hby da2_209) rfl ?_
      refine g_aloadN X33 hx (hb hby da2_211) rfl rfl ?_
      refine g_getF X33 hx hZ hown (hw _ (List.mem_of_getElem? (i := 10) rfl)) e34 F_la (hb hby da2_212) ?_
      intro T35 X36 e37
      refine g_arraylength X36 hx hZ e37 A_la (show Nat.toInt32 4 = (4 : Int32) from by decide) (hb hby da2_215) ?_
      have hc216_38 : ¬ ((4 : Int32) < (3 : Int32)) := (by decide)
      refine g_icmpYes X36 hx (hb hby da2_216) (flt hc216_38).2.2.2 (by decide) (pc' := 293) (by decide) ?_
      refine g_aloadN X36 hx (hb hby da2_293) rfl rfl ?_
      refine g_getF X36 hx hZ hown (hw _ (List.mem_of_getElem? (i := 10) rfl)) e37 F_la (hb hby da2_294) ?_
      intro T39 X40 e41
      refine g_iload X40 hx (hb hby da2_297) rfl ?_
      refine g_aloadN X40 hx (hb hby da2_299) rfl rfl ?_
      refine g_getF X40 hx hZ hown (hw _ (List.mem_of_getElem? (i := 10) rfl)) e41 F_la (hb hby da2_300) ?_
      intro T42 X43 e44
      refine g_iload X43 hx (hb hby da2_303) rfl ?_
      refine g_iconst X43 hx (hb hby da2_305) (v := (1 : Int32)) (by decide) ?_
      refine g_iadd X43 hx (hb hby da2_306) (show (2 : Int32) + (1 : Int32) = (3 : Int32) from by decide) ?_
      refine g_aloadN X43 hx (hb hby da2_307) rfl rfl ?_
      refine g_getF X43 hx hZ hown (hw _ (List.mem_of_getElem? (i := 30) rfl)) e44 F_sz (hb hby da2_308) ?_
      intro T45 X46 e47
      refine g_iload X46 hx (hb hby da2_311) rfl ?_
      refine g_isub X46 hx (hb hby da2_313) (show (2 : Int32) - (2 : Int32) = (0 : Int32) from by decide) ?_
      refine g_acp0 X46 hx hZ hown (hw _ (List.mem_of_getElem? (i := 32) rfl)) (hw _ (List.mem_of_getElem? (i := 35) rfl)) (hw _ (List.mem_of_getElem? (i := 33) rfl)) (hw _ (List.mem_of_getElem? (i := 34) rfl)) e47 A_la rfl (fun _ _ => rfl) (z := 4) (by decide) (by decide) (by decide) (by decide) (by decide) (by decide) N0 g_la (by rw [hml]; rfl) (hb hby da2_314) (by decide) (by decide) ?_
      intro T48 h49 L50 X51 e52 N53 K54 F55
      have F56 := E0.keep K54
      have F57 := F_la.keep K54 (ninS ne_q1_la nin0)
      have F59 := F_ma.keep K54 (ninS ne_q1_la nin0)
      have F60 := A_ma.keep K54 (ninS ne_la_ma.symm nin0)
      have F61 := F_si.keep K54 (ninS ne_q1_la nin0)
      have F62 := A_si.keep K54 (ninS ne_la_si.symm nin0)
      have F63 := F_rh.keep K54 (ninS ne_q1_la nin0)
      have F64 := A_rh.keep K54 (ninS ne_la_rh.symm nin0)
      have F65 := F_ex.keep K54 (ninS ne_q1_la nin0)
      have F66 := A_ex.keep K54 (ninS ne_la_ex.symm nin0)
      have F67 := F_sz.keep K54 (ninS ne_q1_la nin0)
      have F68 := F_fg.keep K54 (ninS ne_q1_la nin0)
      have Z69 : n0 ≤ h49.size := Nat.le_trans Z0 K54.1
      refine g_aloadN X51 hx (hb hby da2_317) rfl rfl ?_
      refine g_getF X51 hx hZ hown (hw _ (List.mem_of_getElem? (i := 13) rfl)) e52 F59 (hb hby da2_318) ?_
      intro T71 X72 e73
      refine g_iload X72 hx (hb hby da2_321) rfl ?_
      refine g_aloadN X72 hx (hb hby da2_323) rfl rfl ?_
      refine g_getF X72 hx hZ hown (hw _ (List.mem_of_getElem? (i := 13) rfl)) e73 F59 (hb hby da2_324) ?_
      intro T74 X75 e76
      refine g_iload X75 hx (hb hby da2_327) rfl ?_
      refine g_iconst X75 hx (hb hby da2_329) (v := (1 : Int32)) (by decide) ?_
      refine g_iadd X75 hx (hb hby da2_330) (show (2 : Int32) + (1 : Int32) = (3 : Int32) from by decide) ?_
      refine g_aloadN X75 hx (hb hby da2_331) rfl rfl ?_
      refine g_getF X75 hx hZ hown (hw _ (List.mem_of_getElem? (i := 30) rfl)) e76 F67 (hb hby da2_332) ?_
      intro T77 X78 e79
      refine g_iload X78 hx (hb hby da2_335) rfl ?_
      refine g_isub X78 hx (hb hby da2_337) (show (2 : Int32) - (2 : Int32) = (0 : Int32) from by decide) ?_
      refine g_acp0 X78 hx hZ hown (hw _ (List.mem_of_getElem? (i := 32) rfl)) (hw _ (List.mem_of_getElem? (i := 35) rfl)) (hw _ (List.mem_of_getElem? (i := 33) rfl)) (hw _ (List.mem_of_getElem? (i := 34) rfl)) e79 F60 rfl (fun _ _ => rfl) (z := 4) (by decide) (by decide) (by decide) (by decide) (by decide) (by decide) N53 g_ma (by rw [hml]; rfl) (hb hby da2_338) (by decide) (by decide) ?_
      intro T80 h81 L82 X83 e84 N85 K86 F87
      have F88 := F56.keep K86
      have F89 := F57.keep K86 (ninS ne_q1_ma nin0)
      have F90 := F59.keep K86 (ninS ne_q1_ma nin0)
      have F92 := F61.keep K86 (ninS ne_q1_ma nin0)
      have F93 := F62.keep K86 (ninS ne_ma_si.symm nin0)
      have F94 := F63.keep K86 (ninS ne_q1_ma nin0)
      have F95 := F64.keep K86 (ninS ne_ma_rh.symm nin0)
      have F96 := F65.keep K86 (ninS ne_q1_ma nin0)
      have F97 := F66.keep K86 (ninS ne_ma_ex.symm nin0)
      have F98 := F67.keep K86 (ninS ne_q1_ma nin0)
      have F99 := F68.keep K86 (ninS ne_q1_ma nin0)
      have F100 := F55.keep K86 (ninS ne_la_ma nin0)
      have Z101 : n0 ≤ h81.size := Nat.le_trans Z69 K86.1
      refine g_aloadN X83 hx (hb hby da2_341) rfl rfl ?_
      refine g_getF X83 hx hZ hown (hw _ (List.mem_of_getElem? (i := 15) rfl)) e84 F92 (hb hby da2_342) ?_
      intro T103 X104 e105
      refine g_iload X104 hx (hb hby da2_345) rfl ?_
      refine g_aloadN X104 hx (hb hby da2_347) rfl rfl ?_
      refine g_getF X104 hx hZ hown (hw _ (List.mem_of_getElem? (i := 15) rfl)) e105 F92 (hb hby da2_348) ?_
      intro T106 X107 e108
      refine g_iload X107 hx (hb hby da2_351) rfl ?_
      refine g_iconst X107 hx (hb hby da2_353) (v := (1 : Int32)) (by decide) ?_
      refine g_iadd X107 hx (hb hby da2_354) (show (2 : Int32) + (1 : Int32) = (3 : Int32) from by decide) ?_
      refine g_aloadN X107 hx (hb hby da2_355) rfl rfl ?_
      refine g_getF X107 hx hZ hown (hw _ (List.mem_of_getElem? (i := 30) rfl)) e108 F98 (hb hby da2_356) ?_
      intro T109 X110 e111
      refine g_iload X110 hx (hb hby da2_359) rfl ?_
      refine g_isub X110 hx (hb hby da2_361) (show (2 : Int32) - (2 : Int32) = (0 : Int32) from by decide) ?_
      refine g_acp0 X110 hx hZ hown (hw _ (List.mem_of_getElem? (i := 32) rfl)) (hw _ (List.mem_of_getElem? (i := 35) rfl)) (hw _ (List.mem_of_getElem? (i := 33) rfl)) (hw _ (List.mem_of_getElem? (i := 34) rfl)) e111 F93 rfl (fun _ _ => rfl) (z := 4) (by decide) (by decide) (by decide) (by decide) (by decide) (by decide) N85 g_si (by rw [hml]; rfl) (hb hby da2_362) (by decide) (by decide) ?_
      intro T112 h113 L114 X115 e116 N117 K118 F119
      have F120 := F88.keep K118
      have F121 := F89.keep K118 (ninS ne_q1_si nin0)
      have F122 := F90.keep K118 (ninS ne_q1_si nin0)
      have F123 := F92.keep K118 (ninS ne_q1_si nin0)
      have F125 := F94.keep K118 (ninS ne_q1_si nin0)
      have F126 := F95.keep K118 (ninS ne_si_rh.symm nin0)
      have F127 := F96.keep K118 (ninS ne_q1_si nin0)
      have F128 := F97.keep K118 (ninS ne_si_ex.symm nin0)
      have F129 := F98.keep K118 (ninS ne_q1_si nin0)
      have F130 := F99.keep K118 (ninS ne_q1_si nin0)
      have F131 := F100.keep K118 (ninS ne_la_si nin0)
      have F132 := F87.keep K118 (ninS ne_ma_si nin0)
      have Z133 : n0 ≤ h113.size := Nat.le_trans Z101 K118.1
      refine g_aloadN X115 hx (hb hby da2_365) rfl rfl ?_
      refine g_getF X115 hx hZ hown (hw _ (List.mem_of_getElem? (i := 17) rfl)) e116 F125 (hb hby da2_366) ?_
      intro T135 X136 e137
      refine g_iload X136 hx (hb hby da2_369) rfl ?_
      refine g_aloadN X136 hx (hb hby da2_371) rfl rfl ?_
      refine g_getF X136 hx hZ hown (hw _ (List.mem_of_getElem? (i := 17) rfl)) e137 F125 (hb hby da2_372) ?_
      intro T138 X139 e140
      refine g_iload X139 hx (hb hby da2_375) rfl ?_
      refine g_iconst X139 hx (hb hby da2_377) (v := (1 : Int32)) (by decide) ?_
      refine g_iadd X139 hx (hb hby da2_378) (show (2 : Int32) + (1 : Int32) = (3 : Int32) from by decide) ?_
      refine g_aloadN X139 hx (hb hby da2_379) rfl rfl ?_
      refine g_getF X139 hx hZ hown (hw _ (List.mem_of_getElem? (i := 30) rfl)) e140 F129 (hb hby da2_380) ?_
      intro T141 X142 e143
      refine g_iload X142 hx (hb hby da2_383) rfl ?_
      refine g_isub X142 hx (hb hby da2_385) (show (2 : Int32) - (2 : Int32) = (0 : Int32) from by decide) ?_
      refine g_acp0 X142 hx hZ hown (hw _ (List.mem_of_getElem? (i := 32) rfl)) (hw _ (List.mem_of_getElem? (i := 35) rfl)) (hw _ (List.mem_of_getElem? (i := 33) rfl)) (hw _ (List.mem_of_getElem? (i := 34) rfl)) e143 F126 rfl (fun _ _ => rfl) (z := 4) (by decide) (by decide) (by decide) (by decide) (by decide) (by decide) N117 g_rh (by rw [hml]; rfl) (hb hby da2_386) (by decide) (by decide) ?_
      intro T144 h145 L146 X147 e148 N149 K150 F151
      have F152 := F120.keep K150
      have F153 := F121.keep K150 (ninS ne_q1_rh nin0)
      have F154 := F122.keep K150 (ninS ne_q1_rh nin0)
      have F155 := F123.keep K150 (ninS ne_q1_rh nin0)
      have F156 := F125.keep K150 (ninS ne_q1_rh nin0)
      have F158 := F127.keep K150 (ninS ne_q1_rh nin0)
      have F159 := F128.keep K150 (ninS ne_rh_ex.symm nin0)
      have F160 := F129.keep K150 (ninS ne_q1_rh nin0)
      have F161 := F130.keep K150 (ninS ne_q1_rh nin0)
      have F162 := F131.keep K150 (ninS ne_la_rh nin0)
      have F163 := F132.keep K150 (ninS ne_ma_rh nin0)
      have F164 := F119.keep K150 (ninS ne_si_rh nin0)
      have Z165 : n0 ≤ h145.size := Nat.le_trans Z133 K150.1
      refine g_aloadN X147 hx (hb hby da2_389) rfl rfl ?_
      refine g_getF X147 hx hZ hown (hw _ (List.mem_of_getElem? (i := 20) rfl)) e148 F158 (hb hby da2_390) ?_
      intro T167 X168 e169
      refine g_iload X168 hx (hb hby da2_393) rfl ?_
      refine g_aloadN X168 hx (hb hby da2_395) rfl rfl ?_
      refine g_getF X168 hx hZ hown (hw _ (List.mem_of_getElem? (i := 20) rfl)) e169 F158 (hb hby da2_396) ?_
      intro T170 X171 e172
      refine g_iload X171 hx (hb hby da2_399) rfl ?_
      refine g_iconst X171 hx (hb hby da2_401) (v := (1 : Int32)) (by decide) ?_
      refine g_iadd X171 hx (hb hby da2_402) (show (2 : Int32) + (1 : Int32) = (3 : Int32) from by decide) ?_
      refine g_aloadN X171 hx (hb hby da2_403) rfl rfl ?_
      refine g_getF X171 hx hZ hown (hw _ (List.mem_of_getElem? (i := 30) rfl)) e172 F160 (hb hby da2_404) ?_
      intro T173 X174 e175
      refine g_iload X174 hx (hb hby da2_407) rfl ?_
      refine g_isub X174 hx (hb hby da2_409) (show (2 : Int32) - (2 : Int32) = (0 : Int32) from by decide) ?_
      refine g_acp0 X174 hx hZ hown (hw _ (List.mem_of_getElem? (i := 32) rfl)) (hw _ (List.mem_of_getElem? (i := 35) rfl)) (hw _ (List.mem_of_getElem? (i := 33) rfl)) (hw _ (List.mem_of_getElem? (i := 34) rfl)) e175 F159 rfl (own_fitB hB) (z := 4) (by decide) (by decide) (by decide) (by decide) (by decide) (by decide) N149 g_ex (by rw [hml]; rfl) (hb hby da2_410) (by decide) (by decide) ?_
      intro T176 h177 L178 X179 e180 N181 K182 F183
      have F184 := F152.keep K182
      have F185 := F153.keep K182 (ninS ne_q1_ex nin0)
      have F186 := F154.keep K182 (ninS ne_q1_ex nin0)
      have F187 := F155.keep K182 (ninS ne_q1_ex nin0)
      have F188 := F156.keep K182 (ninS ne_q1_ex nin0)
      have F189 := F158.keep K182 (ninS ne_q1_ex nin0)
      have F191 := F160.keep K182 (ninS ne_q1_ex nin0)
      have F192 := F161.keep K182 (ninS ne_q1_ex nin0)
      have F193 := F162.keep K182 (ninS ne_la_ex nin0)
      have F194 := F163.keep K182 (ninS ne_ma_ex nin0)
      have F195 := F164.keep K182 (ninS ne_si_ex nin0)
      have F196 := F151.keep K182 (ninS ne_rh_ex nin0)
      have Z197 : n0 ≤ h177.size := Nat.le_trans Z165 K182.1
      refine g_aloadN X179 hx (hb hby da2_413) rfl rfl ?_
      refine g_getF X179 hx hZ hown (hw _ (List.mem_of_getElem? (i := 10) rfl)) e180 F185 (hb hby da2_414) ?_
      intro T199 X200 e201
      refine g_iload X200 hx (hb hby da2_417) rfl ?_
      refine g_iloadN X200 hx (hb hby da2_419) rfl ?_
      refine g_iastore X200 hx hZ e201 F193 (i := 2) (by decide) (by decide) (by decide) (hb hby da2_420) ?_
      intro T202 h205 X203 e204 W206
      have F207 := F184.wr W206
      have F208 := F185.other W206 (Or.inl ne_q1_la)
      have F209 := F186.other W206 (Or.inl ne_q1_la)
      have F210 := F187.other W206 (Or.inl ne_q1_la)
      have F211 := F188.other W206 (Or.inl ne_q1_la)
      have F212 := F189.other W206 (Or.inl ne_q1_la)
      have F213 := F191.other W206 (Or.inl ne_q1_la)
      have F214 := F192.other W206 (Or.inl ne_q1_la)
      have F215 := F193.same W206
      have F216 := F194.other W206 ne_la_ma.symm
      have F217 := F195.other W206 ne_la_si.symm
      have F218 := F196.other W206 ne_la_rh.symm
      have F219 := F183.other W206 ne_la_ex.symm
      have Z220 : n0 ≤ h205.size := by rw [W206.size]; exact Z197
      have N221 := Fr.snoc X203 N181 g_la
      refine g_aloadN X203 hx (hb hby da2_421) rfl rfl ?_
      refine g_getF X203 hx hZ hown (hw _ (List.mem_of_getElem? (i := 13) rfl)) e204 F209 (hb hby da2_422) ?_
      intro T222 X223 e224
      refine g_iload X223 hx (hb hby da2_425) rfl ?_
      refine g_dloadN X223 hx (hb hby da2_427) rfl ?_
      refine g_dastore X223 hx hZ e224 F216 (i := 2) (by decide) (by decide) (by decide) (hb hby da2_428) ?_
      intro T225 h228 X226 e227 W229
      have F230 := F207.wr W229
      have F231 := F208.other W229 (Or.inl ne_q1_ma)
      have F232 := F209.other W229 (Or.inl ne_q1_ma)
      have F233 := F210.other W229 (Or.inl ne_q1_ma)
      have F234 := F211.other W229 (Or.inl ne_q1_ma)
      have F235 := F212.other W229 (Or.inl ne_q1_ma)
      have F236 := F213.other W229 (Or.inl ne_q1_ma)
      have F237 := F214.other W229 (Or.inl ne_q1_ma)
      have F238 := F215.other W229 ne_la_ma
      have F239 := F216.same W229
      have F240 := F217.other W229 ne_ma_si.symm
      have F241 := F218.other W229 ne_ma_rh.symm
      have F242 := F219.other W229 ne_ma_ex.symm
      have Z243 : n0 ≤ h228.size := by rw [W229.size]; exact Z220
      have N244 := Fr.snoc X226 N221 g_ma
      refine g_aloadN X226 hx (hb hby da2_429) rfl rfl ?_
      refine g_getF X226 hx hZ hown (hw _ (List.mem_of_getElem? (i := 15) rfl)) e227 F233 (hb hby da2_430) ?_
      intro T245 X246 e247
      refine g_iload X246 hx (hb hby da2_433) rfl ?_
      refine g_dload X246 hx (hb hby da2_435) rfl ?_
      refine g_dastore X246 hx hZ e247 F240 (i := 2) (by decide) (by decide) (by decide) (hb hby da2_437) ?_
      intro T248 h251 X249 e250 W252
      have F253 := F230.wr W252
      have F254 := F231.other W252 (Or.inl ne_q1_si)
      have F255 := F232.other W252 (Or.inl ne_q1_si)
      have F256 := F233.other W252 (Or.inl ne_q1_si)
      have F257 := F234.other W252 (Or.inl ne_q1_si)
      have F258 := F235.other W252 (Or.inl ne_q1_si)
      have F259 := F236.other W252 (Or.inl ne_q1_si)
      have F260 := F237.other W252 (Or.inl ne_q1_si)
      have F261 := F238.other W252 ne_la_si
      have F262 := F239.other W252 ne_ma_si
      have F263 := F240.same W252
      have F264 := F241.other W252 ne_si_rh.symm
      have F265 := F242.other W252 ne_si_ex.symm
      have Z266 : n0 ≤ h251.size := by rw [W252.size]; exact Z243
      have N267 := Fr.snoc X249 N244 g_si
      refine g_aloadN X249 hx (hb hby da2_438) rfl rfl ?_
      refine g_getF X249 hx hZ hown (hw _ (List.mem_of_getElem? (i := 17) rfl)) e250 F257 (hb hby da2_439) ?_
      intro T268 X269 e270
      refine g_iload X269 hx (hb hby da2_442) rfl ?_
      refine g_dload X269 hx (hb hby da2_444) rfl ?_
      refine g_dastore X269 hx hZ e270 F264 (i := 2) (by decide) (by decide) (by decide) (hb hby da2_446) ?_
      intro T271 h274 X272 e273 W275
      have F276 := F253.wr W275
      have F277 := F254.other W275 (Or.inl ne_q1_rh)
      have F278 := F255.other W275 (Or.inl ne_q1_rh)
      have F279 := F256.other W275 (Or.inl ne_q1_rh)
      have F280 := F257.other W275 (Or.inl ne_q1_rh)
      have F281 := F258.other W275 (Or.inl ne_q1_rh)
      have F282 := F259.other W275 (Or.inl ne_q1_rh)
      have F283 := F260.other W275 (Or.inl ne_q1_rh)
      have F284 := F261.other W275 ne_la_rh
      have F285 := F262.other W275 ne_ma_rh
      have F286 := F263.other W275 ne_si_rh
      have F287 := F264.same W275
      have F288 := F265.other W275 ne_rh_ex.symm
      have Z289 : n0 ≤ h274.size := by rw [W275.size]; exact Z266
      have N290 := Fr.snoc X272 N267 g_rh
      refine g_aloadN X272 hx (hb hby da2_447) rfl rfl ?_
      refine g_getF X272 hx hZ hown (hw _ (List.mem_of_getElem? (i := 20) rfl)) e273 F281 (hb hby da2_448) ?_
      intro T291 X292 e293
      refine g_iload X292 hx (hb hby da2_451) rfl ?_
      refine g_iconst X292 hx (hb hby da2_453) (v := (0 : Int32)) (by decide) ?_
      refine g_bastoreZ X292 hx hZ e293 F288 (i := 2) (by decide) (by decide) (by decide) (hb hby da2_454) ?_
      intro T294 h297 X295 e296 W298
      have F299 := F276.wr W298
      have F300 := F277.other W298 (Or.inl ne_q1_ex)
      have F301 := F278.other W298 (Or.inl ne_q1_ex)
      have F302 := F279.other W298 (Or.inl ne_q1_ex)
      have F303 := F280.other W298 (Or.inl ne_q1_ex)
      have F304 := F281.other W298 (Or.inl ne_q1_ex)
      have F305 := F282.other W298 (Or.inl ne_q1_ex)
      have F306 := F283.other W298 (Or.inl ne_q1_ex)
      have F307 := F284.other W298 ne_la_ex
      have F308 := F285.other W298 ne_ma_ex
      have F309 := F286.other W298 ne_si_ex
      have F310 := F287.other W298 ne_rh_ex
      have F311 := F288.same W298
      have Z312 : n0 ≤ h297.size := by rw [W298.size]; exact Z289
      have N313 := Fr.snoc X295 N290 g_ex
      refine g_aloadN X295 hx (hb hby da2_455) rfl rfl ?_
      refine g_iload X295 hx (hb hby da2_456) rfl ?_
      refine g_putF X295 hx hZ hown (hw _ (List.mem_of_getElem? (i := 30) rfl)) e296 F305 F299 (Or.inl (hw _ (List.mem_of_getElem? (i := 31) rfl))) (hw _ (List.mem_of_getElem? (i := 1) rfl)) (ty := .int) (by decide) rfl rfl (hb hby da2_458) ?_
      intro T314 h317 X315 e316 W318
      have F320 := F299.wr W318
      have F321 := F300.other W318 (Or.inr (slot_ne (Or.inl (hw _ (List.mem_of_getElem? (i := 11) rfl))) (Or.inl (hw _ (List.mem_of_getElem? (i := 31) rfl))) (by decide) (t := (.array .int)) (t' := .int) (by decide) (by decide)))
      have F322 := F301.other W318 (Or.inr (slot_ne (Or.inl (hw _ (List.mem_of_getElem? (i := 14) rfl))) (Or.inl (hw _ (List.mem_of_getElem? (i := 31) rfl))) (by decide) (t := (.array .double)) (t' := .int) (by decide) (by decide)))
      have F323 := F302.other W318 (Or.inr (slot_ne (Or.inl (hw _ (List.mem_of_getElem? (i := 16) rfl))) (Or.inl (hw _ (List.mem_of_getElem? (i := 31) rfl))) (by decide) (t := (.array .double)) (t' := .int) (by decide) (by decide)))
      have F324 := F303.other W318 (Or.inr (slot_ne (Or.inl (hw _ (List.mem_of_getElem? (i := 18) rfl))) (Or.inl (hw _ (List.mem_of_getElem? (i := 31) rfl))) (by decide) (t := (.array .double)) (t' := .int) (by decide) (by decide)))
      have F325 := F304.other W318 (Or.inr (slot_ne (Or.inl (hw _ (List.mem_of_getElem? (i := 21) rfl))) (Or.inl (hw _ (List.mem_of_getElem? (i := 31) rfl))) (by decide) (t := (.array .boolean)) (t' := .int) (by decide) (by decide)))
      have F326 := F306.other W318 (Or.inr (slot_ne (Or.inr (hw _ (List.mem_of_getElem? (i := 23) rfl))) (Or.inl (hw _ (List.mem_of_getElem? (i := 31) rfl))) (by decide) (t := .boolean) (t' := .int) (by decide) (by decide)))
      have F327 := F307.other W318 ne_q1_la.symm
      have F328 := F308.other W318 ne_q1_ma.symm
      have F329 := F309.other W318 ne_q1_si.symm
      have F330 := F310.other W318 ne_q1_rh.symm
      have F331 := F311.other W318 ne_q1_ex.symm
      have F332 := F305.same W318
      have Z333 : n0 ≤ h317.size := by rw [W318.size]; exact Z312
      have N334 := Fr.snoc X315 N313 g_q1
      refine g_iconst X315 hx (hb hby da2_461) (v := (1 : Int32)) (by decide) ?_
      refine g_ireturn X315 hx Bd.notSynchronized Bd.returns rfl (by simp) (hb hby da2_462) (by decide) (by decide) ?_
      rw [e316]
      exact ⟨rfl, N334, Z333, F320, F321, F322, F323, F324, F325, F332, F326, (F327.congr (fun j _ => own_uI _ _ _ j)), (F328.congr (fun j _ => own_uD _ _ _ j)), (F329.congr (fun j _ => own_uD _ _ _ j)), (F330.congr (fun j _ => own_uD _ _ _ j)), (F331.congr (fun j _ => own_uI _ _ _ j)), own_uB hB (Or.inl rfl), ⟨⟨ne_q1_la, ne_q1_ma, ne_q1_si, ne_q1_rh, ne_q1_ex, ne_la_ma, ne_la_si, ne_la_rh, ne_la_ex, ne_ma_si, ne_ma_rh, ne_ma_ex, ne_si_rh, ne_si_ex, ne_rh_ex⟩, ⟨g_q1, g_la, g_ma, g_si, g_rh, g_ex⟩⟩⟩
    ·
      refine g_ifNo X25 hx (hb hby da2_134) (feq hc134_27).1 ?_
      refine g_iload X25 hx (hb hby da2_137) rfl ?_
      have hc139_335 : (0 : Int32) < (2 : Int32) := (by decide)
      refine g_ifNo X25 hx (hb hby da2_139) (tlt hc139_335).2.2.2 ?_
      refine g_aloadN X25 hx (hb hby da2_142) rfl rfl ?_
      refine g_getF X25 hx hZ hown (hw _ (List.mem_of_getElem? (i := 17) rfl)) e26 F_rh (hb hby da2_143) ?_
      intro T336 X337 e338
      refine g_iload X337 hx (hb hby da2_146) rfl ?_
      refine g_iconst X337 hx (hb hby da2_148) (v := (1 : Int32)) (by decide) ?_
      refine g_isub X337 hx (hb hby da2_149) (show (2 : Int32) - (1 : Int32) = (1 : Int32) from by decide) ?_
      refine g_daload X337 hx hZ e338 A_rh (by decide) (by decide) (i := 1) (by decide) (congrArg Value.double hR1) (hb hby da2_150) ?_
      refine g_dload X337 hx (hb hby da2_151) rfl ?_
      refine g_dcmp X337 hx (hb hby da2_153) ?_
      have hc154_339 : FP.dcmp (4611686018427387904 : UInt64) (4613937818241073152 : UInt64) = some .lt ∨ FP.dcmp (4611686018427387904 : UInt64) (4613937818241073152 : UInt64) = none := (by decide +kernel)
      refine g_ifYes X337 hx (hb hby da2_154) (tlt ((cv_l_lt _).mpr hc154_339)).1 (by decide) (pc' := 163) (by decide) ?_
      refine g_iload X337 hx (hb hby da2_163) rfl ?_
      refine g_istore X337 hx (hb hby da2_165) (L' := #[.val (.ref q1), .val (.int (30 : Int32)), .val (.double (4607182418800017408 : UInt64)), .second, .val (.double (4607182418800017408 : UInt64)), .second, .val (.double (4613937818241073152 : UInt64)), .second, .val (.int (2 : Int32)), .val (.int (2 : Int32)), .val (.int (2 : Int32)), .val (.int (2 : Int32)), .unset, .unset]) rfl ?_
      refine g_iload X337 hx (hb hby da2_167) rfl ?_
      refine g_aloadN X337 hx (hb hby da2_169) rfl rfl ?_
      refine g_getF X337 hx hZ hown (hw _ (List.mem_of_getElem? (i := 30) rfl)) e338 F_sz (hb hby da2_170) ?_
      intro T340 X341 e342
      have hc173_343 : ¬ ((2 : Int32) < (2 : Int32)) := (by decide)
      refine g_icmpYes X341 hx (hb hby da2_173) (flt hc173_343).2.1 (by decide) (pc' := 195) (by decide) ?_
      refine g_aloadN X341 hx (hb hby da2_195) rfl rfl ?_
      refine g_getF X341 hx hZ hown (hw _ (List.mem_of_getElem? (i := 30) rfl)) e342 F_sz (hb hby da2_196) ?_
      intro T344 X345 e346
      refine g_iload X345 hx (hb hby da2_199) rfl ?_
      refine g_iload X345 hx (hb hby da2_201) rfl ?_
      refine g_isub X345 hx (hb hby da2_203) (show (2 : Int32) - (2 : Int32) = (0 : Int32) from by decide) ?_
      refine g_isub X345 hx (hb hby da2_204) (show (2 : Int32) - (0 : Int32) = (2 : Int32) from by decide) ?_
      refine g_iconst X345 hx (hb hby da2_205) (v := (1 : Int32)) (by decide) ?_
      refine g_iadd X345 hx (hb hby da2_206) (show (2 : Int32) + (1 : Int32) = (3 : Int32) from by decide) ?_
      refine g_istore X345 hx (hb hby da2_207) (L' := #[.val (.ref q1), .val (.int (30 : Int32)), .val (.double (4607182418800017408 : UInt64)), .second, .val (.double (4607182418800017408 : UInt64)), .second, .val (.double (4613937818241073152 : UInt64)), .second, .val (.int (2 : Int32)), .val (.int (2 : Int32)), .val (.int (2 : Int32)), .val (.int (2 : Int32)), .val (.int (3 : Int32)), .unset]) rfl ?_
      refine g_iload X345 hx (hb hby da2_209) rfl ?_
      refine g_aloadN X345 hx (hb hby da2_211) rfl rfl ?_
      refine g_getF X345 hx hZ hown (hw _ (List.mem_of_getElem? (i := 10) rfl)) e346 F_la (hb hby da2_212) ?_
      intro T347 X348 e349
      refine g_arraylength X348 hx hZ e349 A_la (show Nat.toInt32 4 = (4 : Int32) from by decide) (hb hby da2_215) ?_
      have hc216_350 : ¬ ((4 : Int32) < (3 : Int32)) := (by decide)
      refine g_icmpYes X348 hx (hb hby da2_216) (flt hc216_350).2.2.2 (by decide) (pc' := 293) (by decide) ?_
      refine g_aloadN X348 hx (hb hby da2_293) rfl rfl ?_
      refine g_getF X348 hx hZ hown (hw _ (List.mem_of_getElem? (i := 10) rfl)) e349 F_la (hb hby da2_294) ?_
      intro T351 X352 e353
      refine g_iload X352 hx (hb hby da2_297) rfl ?_
      refine g_aloadN X352 hx (hb hby da2_299) rfl rfl ?_
      refine g_getF X352 hx hZ hown (hw _ (List.mem_of_getElem? (i := 10) rfl)) e353 F_la (hb hby da2_300) ?_
      intro T354 X355 e356
      refine g_iload X355 hx (hb hby da2_303) rfl ?_
      refine g_iconst X355 hx (hb hby da2_305) (v := (1 : Int32)) (by decide) ?_
      refine g_iadd X355 hx (hb hby da2_306) (show (2 : Int32) + (1 : Int32) = (3 : Int32) from by decide) ?_
      refine g_aloadN X355 hx (hb hby da2_307) rfl rfl ?_
      refine g_getF X355 hx hZ hown (hw _ (List.mem_of_getElem? (i := 30) rfl)) e356 F_sz (hb hby da2_308) ?_
      intro T357 X358 e359
      refine g_iload X358 hx (hb hby da2_311) rfl ?_
      refine g_isub X358 hx (hb hby da2_313) (show (2 : Int32) - (2 : Int32) = (0 : Int32) from by decide) ?_
      refine g_acp0 X358 hx hZ hown (hw _ (List.mem_of_getElem? (i := 32) rfl)) (hw _ (List.mem_of_getElem? (i := 35) rfl)) (hw _ (List.mem_of_getElem? (i := 33) rfl)) (hw _ (List.mem_of_getElem? (i := 34) rfl)) e359 A_la rfl (fun _ _ => rfl) (z := 4) (by decide) (by decide) (by decide) (by decide) (by decide) (by decide) N0 g_la (by rw [hml]; rfl) (hb hby da2_314) (by decide) (by decide) ?_
      intro T360 h361 L362 X363 e364 N365 K366 F367
      have F368 := E0.keep K366
      have F369 := F_la.keep K366 (ninS ne_q1_la nin0)
      have F371 := F_ma.keep K366 (ninS ne_q1_la nin0)
      have F372 := A_ma.keep K366 (ninS ne_la_ma.symm nin0)
      have F373 := F_si.keep K366 (ninS ne_q1_la nin0)
      have F374 := A_si.keep K366 (ninS ne_la_si.symm nin0)
      have F375 := F_rh.keep K366 (ninS ne_q1_la nin0)
      have F376 := A_rh.keep K366 (ninS ne_la_rh.symm nin0)
      have F377 := F_ex.keep K366 (ninS ne_q1_la nin0)
      have F378 := A_ex.keep K366 (ninS ne_la_ex.symm nin0)
      have F379 := F_sz.keep K366 (ninS ne_q1_la nin0)
      have F380 := F_fg.keep K366 (ninS ne_q1_la nin0)
      have Z381 : n0 ≤ h361.size := Nat.le_trans Z0 K366.1
      refine g_aloadN X363 hx (hb hby da2_317) rfl rfl ?_
      refine g_getF X363 hx hZ hown (hw _ (List.mem_of_getElem? (i := 13) rfl)) e364 F371 (hb hby da2_318) ?_
      intro T383 X384 e385
      refine g_iload X384 hx (hb hby da2_321) rfl ?_
      refine g_aloadN X384 hx (hb hby da2_323) rfl rfl ?_
      refine g_getF X384 hx hZ hown (hw _ (List.mem_of_getElem? (i := 13) rfl)) e385 F371 (hb hby da2_324) ?_
      intro T386 X387 e388
      refine g_iload X387 hx (hb hby da2_327) rfl ?_
      refine g_iconst X387 hx (hb hby da2_329) (v := (1 : Int32)) (by decide) ?_
      refine g_iadd X387 hx (hb hby da2_330) (show (2 : Int32) + (1 : Int32) = (3 : Int32) from by decide) ?_
      refine g_aloadN X387 hx (hb hby da2_331) rfl rfl ?_
      refine g_getF X387 hx hZ hown (hw _ (List.mem_of_getElem? (i := 30) rfl)) e388 F379 (hb hby da2_332) ?_
      intro T389 X390 e391
      refine g_iload X390 hx (hb hby da2_335) rfl ?_
      refine g_isub X390 hx (hb hby da2_337) (show (2 : Int32) - (2 : Int32) = (0 : Int32) from by decide) ?_
      refine g_acp0 X390 hx hZ hown (hw _ (List.mem_of_getElem? (i := 32) rfl)) (hw _ (List.mem_of_getElem? (i := 35) rfl)) (hw _ (List.mem_of_getElem? (i := 33) rfl)) (hw _ (List.mem_of_getElem? (i := 34) rfl)) e391 F372 rfl (fun _ _ => rfl) (z := 4) (by decide) (by decide) (by decide) (by decide) (by decide) (by decide) N365 g_ma (by rw [hml]; rfl) (hb hby da2_338) (by decide) (by decide) ?_
      intro T392 h393 L394 X395 e396 N397 K398 F399
      have F400 := F368.keep K398
      have F401 := F369.keep K398 (ninS ne_q1_ma nin0)
      have F402 := F371.keep K398 (ninS ne_q1_ma nin0)
      have F404 := F373.keep K398 (ninS ne_q1_ma nin0)
      have F405 := F374.keep K398 (ninS ne_ma_si.symm nin0)
      have F406 := F375.keep K398 (ninS ne_q1_ma nin0)
      have F407 := F376.keep K398 (ninS ne_ma_rh.symm nin0)
      have F408 := F377.keep K398 (ninS ne_q1_ma nin0)
      have F409 := F378.keep K398 (ninS ne_ma_ex.symm nin0)
      have F410 := F379.keep K398 (ninS ne_q1_ma nin0)
      have F411 := F380.keep K398 (ninS ne_q1_ma nin0)
      have F412 := F367.keep K398 (ninS ne_la_ma nin0)
      have Z413 : n0 ≤ h393.size := Nat.le_trans Z381 K398.1
      refine g_aloadN X395 hx (hb hby da2_341) rfl rfl ?_
      refine g_getF X395 hx hZ hown (hw _ (List.mem_of_getElem? (i := 15) rfl)) e396 F404 (hb hby da2_342) ?_
      intro T415 X416 e417
      refine g_iload X416 hx (hb hby da2_345) rfl ?_
      refine g_aloadN X416 hx (hb hby da2_347) rfl rfl ?_
      refine g_getF X416 hx hZ hown (hw _ (List.mem_of_getElem? (i := 15) rfl)) e417 F404 (hb hby da2_348) ?_
      intro T418 X419 e420
      refine g_iload X419 hx (hb hby da2_351) rfl ?_
      refine g_iconst X419 hx (hb hby da2_353) (v := (1 : Int32)) (by decide) ?_
      refine g_iadd X419 hx (hb hby da2_354) (show (2 : Int32) + (1 : Int32) = (3 : Int32) from by decide) ?_
      refine g_aloadN X419 hx (hb hby da2_355) rfl rfl ?_
      refine g_getF X419 hx hZ hown (hw _ (List.mem_of_getElem? (i := 30) rfl)) e420 F410 (hb hby da2_356) ?_
      intro T421 X422 e423
      refine g_iload X422 hx (hb hby da2_359) rfl ?_
      refine g_isub X422 hx (hb hby da2_361) (show (2 : Int32) - (2 : Int32) = (0 : Int32) from by decide) ?_
      refine g_acp0 X422 hx hZ hown (hw _ (List.mem_of_getElem? (i := 32) rfl)) (hw _ (List.mem_of_getElem? (i := 35) rfl)) (hw _ (List.mem_of_getElem? (i := 33) rfl)) (hw _ (List.mem_of_getElem? (i := 34) rfl)) e423 F405 rfl (fun _ _ => rfl) (z := 4) (by decide) (by decide) (by decide) (by decide) (by decide) (by decide) N397 g_si (by rw [hml]; rfl) (hb hby da2_362) (by decide) (by decide) ?_
      intro T424 h425 L426 X427 e428 N429 K430 F431
      have F432 := F400.keep K430
      have F433 := F401.keep K430 (ninS ne_q1_si nin0)
      have F434 := F402.keep K430 (ninS ne_q1_si nin0)
      have F435 := F404.keep K430 (ninS ne_q1_si nin0)
      have F437 := F406.keep K430 (ninS ne_q1_si nin0)
      have F438 := F407.keep K430 (ninS ne_si_rh.symm nin0)
      have F439 := F408.keep K430 (ninS ne_q1_si nin0)
      have F440 := F409.keep K430 (ninS ne_si_ex.symm nin0)
      have F441 := F410.keep K430 (ninS ne_q1_si nin0)
      have F442 := F411.keep K430 (ninS ne_q1_si nin0)
      have F443 := F412.keep K430 (ninS ne_la_si nin0)
      have F444 := F399.keep K430 (ninS ne_ma_si nin0)
      have Z445 : n0 ≤ h425.size := Nat.le_trans Z413 K430.1
      refine g_aloadN X427 hx (hb hby da2_365) rfl rfl ?_
      refine g_getF X427 hx hZ hown (hw _ (List.mem_of_getElem? (i := 17) rfl)) e428 F437 (hb hby da2_366) ?_
      intro T447 X448 e449
      refine g_iload X448 hx (hb hby da2_369) rfl ?_
      refine g_aloadN X448 hx (hb hby da2_371) rfl rfl ?_
      refine g_getF X448 hx hZ hown (hw _ (List.mem_of_getElem? (i := 17) rfl)) e449 F437 (hb hby da2_372) ?_
      intro T450 X451 e452
      refine g_iload X451 hx (hb hby da2_375) rfl ?_
      refine g_iconst X451 hx (hb hby da2_377) (v := (1 : Int32)) (by decide) ?_
      refine g_iadd X451 hx (hb hby da2_378) (show (2 : Int32) + (1 : Int32) = (3 : Int32) from by decide) ?_
      refine g_aloadN X451 hx (hb hby da2_379) rfl rfl ?_
      refine g_getF X451 hx hZ hown (hw _ (List.mem_of_getElem? (i := 30) rfl)) e452 F441 (hb hby da2_380) ?_
      intro T453 X454 e455
      refine g_iload X454 hx (hb hby da2_383) rfl ?_
      refine g_isub X454 hx (hb hby da2_385) (show (2 : Int32) - (2 : Int32) = (0 : Int32) from by decide) ?_
      refine g_acp0 X454 hx hZ hown (hw _ (List.mem_of_getElem? (i := 32) rfl)) (hw _ (List.mem_of_getElem? (i := 35) rfl)) (hw _ (List.mem_of_getElem? (i := 33) rfl)) (hw _ (List.mem_of_getElem? (i := 34) rfl)) e455 F438 rfl (fun _ _ => rfl) (z := 4) (by decide) (by decide) (by decide) (by decide) (by decide) (by decide) N429 g_rh (by rw [hml]; rfl) (hb hby da2_386) (by decide) (by decide) ?_
      intro T456 h457 L458 X459 e460 N461 K462 F463
      have F464 := F432.keep K462
      have F465 := F433.keep K462 (ninS ne_q1_rh nin0)
      have F466 := F434.keep K462 (ninS ne_q1_rh nin0)
      have F467 := F435.keep K462 (ninS ne_q1_rh nin0)
      have F468 := F437.keep K462 (ninS ne_q1_rh nin0)
      have F470 := F439.keep K462 (ninS ne_q1_rh nin0)
      have F471 := F440.keep K462 (ninS ne_rh_ex.symm nin0)
      have F472 := F441.keep K462 (ninS ne_q1_rh nin0)
      have F473 := F442.keep K462 (ninS ne_q1_rh nin0)
      have F474 := F443.keep K462 (ninS ne_la_rh nin0)
      have F475 := F444.keep K462 (ninS ne_ma_rh nin0)
      have F476 := F431.keep K462 (ninS ne_si_rh nin0)
      have Z477 : n0 ≤ h457.size := Nat.le_trans Z445 K462.1
      refine g_aloadN X459 hx (hb hby da2_389) rfl rfl ?_
      refine g_getF X459 hx hZ hown (hw _ (List.mem_of_getElem? (i := 20) rfl)) e460 F470 (hb hby da2_390) ?_
      intro T479 X480 e481
      refine g_iload X480 hx (hb hby da2_393) rfl ?_
      refine g_aloadN X480 hx (hb hby da2_395) rfl rfl ?_
      refine g_getF X480 hx hZ hown (hw _ (List.mem_of_getElem? (i := 20) rfl)) e481 F470 (hb hby da2_396) ?_
      intro T482 X483 e484
      refine g_iload X483 hx (hb hby da2_399) rfl ?_
      refine g_iconst X483 hx (hb hby da2_401) (v := (1 : Int32)) (by decide) ?_
      refine g_iadd X483 hx (hb hby da2_402) (show (2 : Int32) + (1 : Int32) = (3 : Int32) from by decide) ?_
      refine g_aloadN X483 hx (hb hby da2_403) rfl rfl ?_
      refine g_getF X483 hx hZ hown (hw _ (List.mem_of_getElem? (i := 30) rfl)) e484 F472 (hb hby da2_404) ?_
      intro T485 X486 e487
      refine g_iload X486 hx (hb hby da2_407) rfl ?_
      refine g_isub X486 hx (hb hby da2_409) (show (2 : Int32) - (2 : Int32) = (0 : Int32) from by decide) ?_
      refine g_acp0 X486 hx hZ hown (hw _ (List.mem_of_getElem? (i := 32) rfl)) (hw _ (List.mem_of_getElem? (i := 35) rfl)) (hw _ (List.mem_of_getElem? (i := 33) rfl)) (hw _ (List.mem_of_getElem? (i := 34) rfl)) e487 F471 rfl (own_fitB hB) (z := 4) (by decide) (by decide) (by decide) (by decide) (by decide) (by decide) N461 g_ex (by rw [hml]; rfl) (hb hby da2_410) (by decide) (by decide) ?_
      intro T488 h489 L490 X491 e492 N493 K494 F495
      have F496 := F464.keep K494
      have F497 := F465.keep K494 (ninS ne_q1_ex nin0)
      have F498 := F466.keep K494 (ninS ne_q1_ex nin0)
      have F499 := F467.keep K494 (ninS ne_q1_ex nin0)
      have F500 := F468.keep K494 (ninS ne_q1_ex nin0)
      have F501 := F470.keep K494 (ninS ne_q1_ex nin0)
      have F503 := F472.keep K494 (ninS ne_q1_ex nin0)
      have F504 := F473.keep K494 (ninS ne_q1_ex nin0)
      have F505 := F474.keep K494 (ninS ne_la_ex nin0)
      have F506 := F475.keep K494 (ninS ne_ma_ex nin0)
      have F507 := F476.keep K494 (ninS ne_si_ex nin0)
      have F508 := F463.keep K494 (ninS ne_rh_ex nin0)
      have Z509 : n0 ≤ h489.size := Nat.le_trans Z477 K494.1
      refine g_aloadN X491 hx (hb hby da2_413) rfl rfl ?_
      refine g_getF X491 hx hZ hown (hw _ (List.mem_of_getElem? (i := 10) rfl)) e492 F497 (hb hby da2_414) ?_
      intro T511 X512 e513
      refine g_iload X512 hx (hb hby da2_417) rfl ?_
      refine g_iloadN X512 hx (hb hby da2_419) rfl ?_
      refine g_iastore X512 hx hZ e513 F505 (i := 2) (by decide) (by decide) (by decide) (hb hby da2_420) ?_
      intro T514 h517 X515 e516 W518
      have F519 := F496.wr W518
      have F520 := F497.other W518 (Or.inl ne_q1_la)
      have F521 := F498.other W518 (Or.inl ne_q1_la)
      have F522 := F499.other W518 (Or.inl ne_q1_la)
      have F523 := F500.other W518 (Or.inl ne_q1_la)
      have F524 := F501.other W518 (Or.inl ne_q1_la)
      have F525 := F503.other W518 (Or.inl ne_q1_la)
      have F526 := F504.other W518 (Or.inl ne_q1_la)
      have F527 := F505.same W518
      have F528 := F506.other W518 ne_la_ma.symm
      have F529 := F507.other W518 ne_la_si.symm
      have F530 := F508.other W518 ne_la_rh.symm
      have F531 := F495.other W518 ne_la_ex.symm
      have Z532 : n0 ≤ h517.size := by rw [W518.size]; exact Z509
      have N533 := Fr.snoc X515 N493 g_la
      refine g_aloadN X515 hx (hb hby da2_421) rfl rfl ?_
      refine g_getF X515 hx hZ hown (hw _ (List.mem_of_getElem? (i := 13) rfl)) e516 F521 (hb hby da2_422) ?_
      intro T534 X535 e536
      refine g_iload X535 hx (hb hby da2_425) rfl ?_
      refine g_dloadN X535 hx (hb hby da2_427) rfl ?_
      refine g_dastore X535 hx hZ e536 F528 (i := 2) (by decide) (by decide) (by decide) (hb hby da2_428) ?_
      intro T537 h540 X538 e539 W541
      have F542 := F519.wr W541
      have F543 := F520.other W541 (Or.inl ne_q1_ma)
      have F544 := F521.other W541 (Or.inl ne_q1_ma)
      have F545 := F522.other W541 (Or.inl ne_q1_ma)
      have F546 := F523.other W541 (Or.inl ne_q1_ma)
      have F547 := F524.other W541 (Or.inl ne_q1_ma)
      have F548 := F525.other W541 (Or.inl ne_q1_ma)
      have F549 := F526.other W541 (Or.inl ne_q1_ma)
      have F550 := F527.other W541 ne_la_ma
      have F551 := F528.same W541
      have F552 := F529.other W541 ne_ma_si.symm
      have F553 := F530.other W541 ne_ma_rh.symm
      have F554 := F531.other W541 ne_ma_ex.symm
      have Z555 : n0 ≤ h540.size := by rw [W541.size]; exact Z532
      have N556 := Fr.snoc X538 N533 g_ma
      refine g_aloadN X538 hx (hb hby da2_429) rfl rfl ?_
      refine g_getF X538 hx hZ hown (hw _ (List.mem_of_getElem? (i := 15) rfl)) e539 F545 (hb hby da2_430) ?_
      intro T557 X558 e559
      refine g_iload X558 hx (hb hby da2_433) rfl ?_
      refine g_dload X558 hx (hb hby da2_435) rfl ?_
      refine g_dastore X558 hx hZ e559 F552 (i := 2) (by decide) (by decide) (by decide) (hb hby da2_437) ?_
      intro T560 h563 X561 e562 W564
      have F565 := F542.wr W564
      have F566 := F543.other W564 (Or.inl ne_q1_si)
      have F567 := F544.other W564 (Or.inl ne_q1_si)
      have F568 := F545.other W564 (Or.inl ne_q1_si)
      have F569 := F546.other W564 (Or.inl ne_q1_si)
      have F570 := F547.other W564 (Or.inl ne_q1_si)
      have F571 := F548.other W564 (Or.inl ne_q1_si)
      have F572 := F549.other W564 (Or.inl ne_q1_si)
      have F573 := F550.other W564 ne_la_si
      have F574 := F551.other W564 ne_ma_si
      have F575 := F552.same W564
      have F576 := F553.other W564 ne_si_rh.symm
      have F577 := F554.other W564 ne_si_ex.symm
      have Z578 : n0 ≤ h563.size := by rw [W564.size]; exact Z555
      have N579 := Fr.snoc X561 N556 g_si
      refine g_aloadN X561 hx (hb hby da2_438) rfl rfl ?_
      refine g_getF X561 hx hZ hown (hw _ (List.mem_of_getElem? (i := 17) rfl)) e562 F569 (hb hby da2_439) ?_
      intro T580 X581 e582
      refine g_iload X581 hx (hb hby da2_442) rfl ?_
      refine g_dload X581 hx (hb hby da2_444) rfl ?_
      refine g_dastore X581 hx hZ e582 F576 (i := 2) (by decide) (by decide) (by decide) (hb hby da2_446) ?_
      intro T583 h586 X584 e585 W587
      have F588 := F565.wr W587
      have F589 := F566.other W587 (Or.inl ne_q1_rh)
      have F590 := F567.other W587 (Or.inl ne_q1_rh)
      have F591 := F568.other W587 (Or.inl ne_q1_rh)
      have F592 := F569.other W587 (Or.inl ne_q1_rh)
      have F593 := F570.other W587 (Or.inl ne_q1_rh)
      have F594 := F571.other W587 (Or.inl ne_q1_rh)
      have F595 := F572.other W587 (Or.inl ne_q1_rh)
      have F596 := F573.other W587 ne_la_rh
      have F597 := F574.other W587 ne_ma_rh
      have F598 := F575.other W587 ne_si_rh
      have F599 := F576.same W587
      have F600 := F577.other W587 ne_rh_ex.symm
      have Z601 : n0 ≤ h586.size := by rw [W587.size]; exact Z578
      have N602 := Fr.snoc X584 N579 g_rh
      refine g_aloadN X584 hx (hb hby da2_447) rfl rfl ?_
      refine g_getF X584 hx hZ hown (hw _ (List.mem_of_getElem? (i := 20) rfl)) e585 F593 (hb hby da2_448) ?_
      intro T603 X604 e605
      refine g_iload X604 hx (hb hby da2_451) rfl ?_
      refine g_iconst X604 hx (hb hby da2_453) (v := (0 : Int32)) (by decide) ?_
      refine g_bastoreZ X604 hx hZ e605 F600 (i := 2) (by decide) (by decide) (by decide) (hb hby da2_454) ?_
      intro T606 h609 X607 e608 W610
      have F611 := F588.wr W610
      have F612 := F589.other W610 (Or.inl ne_q1_ex)
      have F613 := F590.other W610 (Or.inl ne_q1_ex)
      have F614 := F591.other W610 (Or.inl ne_q1_ex)
      have F615 := F592.other W610 (Or.inl ne_q1_ex)
      have F616 := F593.other W610 (Or.inl ne_q1_ex)
      have F617 := F594.other W610 (Or.inl ne_q1_ex)
      have F618 := F595.other W610 (Or.inl ne_q1_ex)
      have F619 := F596.other W610 ne_la_ex
      have F620 := F597.other W610 ne_ma_ex
      have F621 := F598.other W610 ne_si_ex
      have F622 := F599.other W610 ne_rh_ex
      have F623 := F600.same W610
      have Z624 : n0 ≤ h609.size := by rw [W610.size]; exact Z601
      have N625 := Fr.snoc X607 N602 g_ex
      refine g_aloadN X607 hx (hb hby da2_455) rfl rfl ?_
      refine g_iload X607 hx (hb hby da2_456) rfl ?_
      refine g_putF X607 hx hZ hown (hw _ (List.mem_of_getElem? (i := 30) rfl)) e608 F617 F611 (Or.inl (hw _ (List.mem_of_getElem? (i := 31) rfl))) (hw _ (List.mem_of_getElem? (i := 1) rfl)) (ty := .int) (by decide) rfl rfl (hb hby da2_458) ?_
      intro T626 h629 X627 e628 W630
      have F632 := F611.wr W630
      have F633 := F612.other W630 (Or.inr (slot_ne (Or.inl (hw _ (List.mem_of_getElem? (i := 11) rfl))) (Or.inl (hw _ (List.mem_of_getElem? (i := 31) rfl))) (by decide) (t := (.array .int)) (t' := .int) (by decide) (by decide)))
      have F634 := F613.other W630 (Or.inr (slot_ne (Or.inl (hw _ (List.mem_of_getElem? (i := 14) rfl))) (Or.inl (hw _ (List.mem_of_getElem? (i := 31) rfl))) (by decide) (t := (.array .double)) (t' := .int) (by decide) (by decide)))
      have F635 := F614.other W630 (Or.inr (slot_ne (Or.inl (hw _ (List.mem_of_getElem? (i := 16) rfl))) (Or.inl (hw _ (List.mem_of_getElem? (i := 31) rfl))) (by decide) (t := (.array .double)) (t' := .int) (by decide) (by decide)))
      have F636 := F615.other W630 (Or.inr (slot_ne (Or.inl (hw _ (List.mem_of_getElem? (i := 18) rfl))) (Or.inl (hw _ (List.mem_of_getElem? (i := 31) rfl))) (by decide) (t := (.array .double)) (t' := .int) (by decide) (by decide)))
      have F637 := F616.other W630 (Or.inr (slot_ne (Or.inl (hw _ (List.mem_of_getElem? (i := 21) rfl))) (Or.inl (hw _ (List.mem_of_getElem? (i := 31) rfl))) (by decide) (t := (.array .boolean)) (t' := .int) (by decide) (by decide)))
      have F638 := F618.other W630 (Or.inr (slot_ne (Or.inr (hw _ (List.mem_of_getElem? (i := 23) rfl))) (Or.inl (hw _ (List.mem_of_getElem? (i := 31) rfl))) (by decide) (t := .boolean) (t' := .int) (by decide) (by decide)))
      have F639 := F619.other W630 ne_q1_la.symm
      have F640 := F620.other W630 ne_q1_ma.symm
      have F641 := F621.other W630 ne_q1_si.symm
      have F642 := F622.other W630 ne_q1_rh.symm
      have F643 := F623.other W630 ne_q1_ex.symm
      have F644 := F617.same W630
      have Z645 : n0 ≤ h629.size := by rw [W630.size]; exact Z624
      have N646 := Fr.snoc X627 N625 g_q1
      refine g_iconst X627 hx (hb hby da2_461) (v := (1 : Int32)) (by decide) ?_
      refine g_ireturn X627 hx Bd.notSynchronized Bd.returns rfl (by simp) (hb hby da2_462) (by decide) (by decide) ?_
      rw [e628]
      exact ⟨rfl, N646, Z645, F632, F633, F634, F635, F636, F637, F644, F638, (F639.congr (fun j _ => own_uI _ _ _ j)), (F640.congr (fun j _ => own_uD _ _ _ j)), (F641.congr (fun j _ => own_uD _ _ _ j)), (F642.congr (fun j _ => own_uD _ _ _ j)), (F643.congr (fun j _ => own_uI _ _ _ j)), own_uB hB (Or.inl rfl), ⟨⟨ne_q1_la, ne_q1_ma, ne_q1_si, ne_q1_rh, ne_q1_ex, ne_la_ma, ne_la_si, ne_la_rh, ne_la_ex, ne_ma_si, ne_ma_rh, ne_ma_ex, ne_si_rh, ne_si_ex, ne_rh_ex⟩, ⟨g_q1, g_la, g_ma, g_si, g_rh, g_ex⟩⟩⟩
  ·
    refine g_ifNo X16 hx (hb hby da2_77) (feq hc77_18).1 ?_
    refine g_iload X16 hx (hb hby da2_80) rfl ?_
    refine g_aloadN X16 hx (hb hby da2_82) rfl rfl ?_
    refine g_getF X16 hx hZ hown (hw _ (List.mem_of_getElem? (i := 30) rfl)) e17 F_sz (hb hby da2_83) ?_
    intro T647 X648 e649
    have hc86_650 : ¬ ((2 : Int32) < (2 : Int32)) := (by decide)
    refine g_icmpYes X648 hx (hb hby da2_86) (flt hc86_650).2.1 (by decide) (pc' := 104) (by decide) ?_
    refine g_iload X648 hx (hb hby da2_104) rfl ?_
    refine g_istore X648 hx (hb hby da2_106) (L' := #[.val (.ref q1), .val (.int (30 : Int32)), .val (.double (4607182418800017408 : UInt64)), .second, .val (.double (4607182418800017408 : UInt64)), .second, .val (.double (4613937818241073152 : UInt64)), .second, .val (.int (2 : Int32)), .val (.int (2 : Int32)), .val (.int (2 : Int32)), .unset, .unset, .unset]) rfl ?_
    refine g_iload X648 hx (hb hby da2_108) rfl ?_
    have hc110_651 : (0 : Int32) < (2 : Int32) := (by decide)
    refine g_ifNo X648 hx (hb hby da2_110) (tlt hc110_651).2.2.2 ?_
    refine g_aloadN X648 hx (hb hby da2_113) rfl rfl ?_
    refine g_getF X648 hx hZ hown (hw _ (List.mem_of_getElem? (i := 13) rfl)) e649 F_ma (hb hby da2_114) ?_
    intro T652 X653 e654
    refine g_iload X653 hx (hb hby da2_117) rfl ?_
    refine g_iconst X653 hx (hb hby da2_119) (v := (1 : Int32)) (by decide) ?_
    refine g_isub X653 hx (hb hby da2_120) (show (2 : Int32) - (1 : Int32) = (1 : Int32) from by decide) ?_
    refine g_daload X653 hx hZ e654 A_ma (by decide) (by decide) (i := 1) (by decide) (congrArg Value.double hM1) (hb hby da2_121) ?_
    refine g_dloadN X653 hx (hb hby da2_122) rfl ?_
    refine g_dcmp X653 hx (hb hby da2_123) ?_
    have hc124_655 : ¬ (FP.dcmp (4611686018427387904 : UInt64) (4607182418800017408 : UInt64) = some .eq) := (by decide +kernel)
    refine g_ifYes X653 hx (hb hby da2_124) (feq (fun q => hc124_655 ((cv_l_eq _).mp q))).2 (by decide) (pc' := 130) (by decide) ?_
    refine g_aloadN X653 hx (hb hby da2_130) rfl rfl ?_
    refine g_getF X653 hx hZ hown (hw _ (List.mem_of_getElem? (i := 22) rfl)) e654 F_fg (hb hby da2_131) ?_
    intro T656 X657 e658
    by_cases hc134_659 : fg = (0 : Int32)
    ·
      refine g_ifYes X657 hx (hb hby da2_134) (teq hc134_659).1 (by decide) (pc' := 163) (by decide) ?_
      refine g_iload X657 hx (hb hby da2_163) rfl ?_
      refine g_istore X657 hx (hb hby da2_165) (L' := #[.val (.ref q1), .val (.int (30 : Int32)), .val (.double (4607182418800017408 : UInt64)), .second, .val (.double (4607182418800017408 : UInt64)), .second, .val (.double (4613937818241073152 : UInt64)), .second, .val (.int (2 : Int32)), .val (.int (2 : Int32)), .val (.int (2 : Int32)), .val (.int (2 : Int32)), .unset, .unset]) rfl ?_
      refine g_iload X657 hx (hb hby da2_167) rfl ?_
      refine g_aloadN X657 hx (hb hby da2_169) rfl rfl ?_
      refine g_getF X657 hx hZ hown (hw _ (List.mem_of_getElem? (i := 30) rfl)) e658 F_sz (hb hby da2_170) ?_
      intro T660 X661 e662
      have hc173_663 : ¬ ((2 : Int32) < (2 : Int32)) := (by decide)
      refine g_icmpYes X661 hx (hb hby da2_173) (flt hc173_663).2.1 (by decide) (pc' := 195) (by decide) ?_
      refine g_aloadN X661 hx (hb hby da2_195) rfl rfl ?_
      refine g_getF X661 hx hZ hown (hw _ (List.mem_of_getElem? (i := 30) rfl)) e662 F_sz (hb hby da2_196) ?_
      intro T664 X665 e666
      refine g_iload X665 hx (hb hby da2_199) rfl ?_
      refine g_iload X665 hx (hb hby da2_201) rfl ?_
      refine g_isub X665 hx (hb hby da2_203) (show (2 : Int32) - (2 : Int32) = (0 : Int32) from by decide) ?_
      refine g_isub X665 hx (hb hby da2_204) (show (2 : Int32) - (0 : Int32) = (2 : Int32) from by decide) ?_
      refine g_iconst X665 hx (hb hby da2_205) (v := (1 : Int32)) (by decide) ?_
      refine g_iadd X665 hx (hb hby da2_206) (show (2 : Int32) + (1 : Int32) = (3 : Int32) from by decide) ?_
      refine g_istore X665 hx (hb hby da2_207) (L' := #[.val (.ref q1), .val (.int (30 : Int32)), .val (.double (4607182418800017408 : UInt64)), .second, .val (.double (4607182418800017408 : UInt64)), .second, .val (.double (4613937818241073152 : UInt64)), .second, .val (.int (2 : Int32)), .val (.int (2 : Int32)), .val (.int (2 : Int32)), .val (.int (2 : Int32)), .val (.int (3 : Int32)), .unset]) rfl ?_
      refine g_iload X665 hx (hb hby da2_209) rfl ?_
      refine g_aloadN X665 hx (hb hby da2_211) rfl rfl ?_
      refine g_getF X665 hx hZ hown (hw _ (List.mem_of_getElem? (i := 10) rfl)) e666 F_la (hb hby da2_212) ?_
      intro T667 X668 e669
      refine g_arraylength X668 hx hZ e669 A_la (show Nat.toInt32 4 = (4 : Int32) from by decide) (hb hby da2_215) ?_
      have hc216_670 : ¬ ((4 : Int32) < (3 : Int32)) := (by decide)
      refine g_icmpYes X668 hx (hb hby da2_216) (flt hc216_670).2.2.2 (by decide) (pc' := 293) (by decide) ?_
      refine g_aloadN X668 hx (hb hby da2_293) rfl rfl ?_
      refine g_getF X668 hx hZ hown (hw _ (List.mem_of_getElem? (i := 10) rfl)) e669 F_la (hb hby da2_294) ?_
      intro T671 X672 e673
      refine g_iload X672 hx (hb hby da2_297) rfl ?_
      refine g_aloadN X672 hx (hb hby da2_299) rfl rfl ?_
      refine g_getF X672 hx hZ hown (hw _ (List.mem_of_getElem? (i := 10) rfl)) e673 F_la (hb hby da2_300) ?_
      intro T674 X675 e676
      refine g_iload X675 hx (hb hby da2_303) rfl ?_
      refine g_iconst X675 hx (hb hby da2_305) (v := (1 : Int32)) (by decide) ?_
      refine g_iadd X675 hx (hb hby da2_306) (show (2 : Int32) + (1 : Int32) = (3 : Int32) from by decide) ?_
      refine g_aloadN X675 hx (hb hby da2_307) rfl rfl ?_
      refine g_getF X675 hx hZ hown (hw _ (List.mem_of_getElem? (i := 30) rfl)) e676 F_sz (hb hby da2_308) ?_
      intro T677 X678 e679
      refine g_iload X678 hx (hb hby da2_311) rfl ?_
      refine g_isub X678 hx (hb hby da2_313) (show (2 : Int32) - (2 : Int32) = (0 : Int32) from by decide) ?_
      refine g_acp0 X678 hx hZ hown (hw _ (List.mem_of_getElem? (i := 32) rfl)) (hw _ (List.mem_of_getElem? (i := 35) rfl)) (hw _ (List.mem_of_getElem? (i := 33) rfl)) (hw _ (List.mem_of_getElem? (i := 34) rfl)) e679 A_la rfl (fun _ _ => rfl) (z := 4) (by decide) (by decide) (by decide) (by decide) (by decide) (by decide) N0 g_la (by rw [hml]; rfl) (hb hby da2_314) (by decide) (by decide) ?_
      intro T680 h681 L682 X683 e684 N685 K686 F687
      have F688 := E0.keep K686
      have F689 := F_la.keep K686 (ninS ne_q1_la nin0)
      have F691 := F_ma.keep K686 (ninS ne_q1_la nin0)
      have F692 := A_ma.keep K686 (ninS ne_la_ma.symm nin0)
      have F693 := F_si.keep K686 (ninS ne_q1_la nin0)
      have F694 := A_si.keep K686 (ninS ne_la_si.symm nin0)
      have F695 := F_rh.keep K686 (ninS ne_q1_la nin0)
      have F696 := A_rh.keep K686 (ninS ne_la_rh.symm nin0)
      have F697 := F_ex.keep K686 (ninS ne_q1_la nin0)
      have F698 := A_ex.keep K686 (ninS ne_la_ex.symm nin0)
      have F699 := F_sz.keep K686 (ninS ne_q1_la nin0)
      have F700 := F_fg.keep K686 (ninS ne_q1_la nin0)
      have Z701 : n0 ≤ h681.size := Nat.le_trans Z0 K686.1
      refine g_aloadN X683 hx (hb hby da2_317) rfl rfl ?_
      refine g_getF X683 hx hZ hown (hw _ (List.mem_of_getElem? (i := 13) rfl)) e684 F691 (hb hby da2_318) ?_
      intro T703 X704 e705
      refine g_iload X704 hx (hb hby da2_321) rfl ?_
      refine g_aloadN X704 hx (hb hby da2_323) rfl rfl ?_
      refine g_getF X704 hx hZ hown (hw _ (List.mem_of_getElem? (i := 13) rfl)) e705 F691 (hb hby da2_324) ?_
      intro T706 X707 e708
      refine g_iload X707 hx (hb hby da2_327) rfl ?_
      refine g_iconst X707 hx (hb hby da2_329) (v := (1 : Int32)) (by decide) ?_
      refine g_iadd X707 hx (hb hby da2_330) (show (2 : Int32) + (1 : Int32) = (3 : Int32) from by decide) ?_
      refine g_aloadN X707 hx (hb hby da2_331) rfl rfl ?_
      refine g_getF X707 hx hZ hown (hw _ (List.mem_of_getElem? (i := 30) rfl)) e708 F699 (hb hby da2_332) ?_
      intro T709 X710 e711
      refine g_iload X710 hx (hb hby da2_335) rfl ?_
      refine g_isub X710 hx (hb hby da2_337) (show (2 : Int32) - (2 : Int32) = (0 : Int32) from by decide) ?_
      refine g_acp0 X710 hx hZ hown (hw _ (List.mem_of_getElem? (i := 32) rfl)) (hw _ (List.mem_of_getElem? (i := 35) rfl)) (hw _ (List.mem_of_getElem? (i := 33) rfl)) (hw _ (List.mem_of_getElem? (i := 34) rfl)) e711 F692 rfl (fun _ _ => rfl) (z := 4) (by decide) (by decide) (by decide) (by decide) (by decide) (by decide) N685 g_ma (by rw [hml]; rfl) (hb hby da2_338) (by decide) (by decide) ?_
      intro T712 h713 L714 X715 e716 N717 K718 F719
      have F720 := F688.keep K718
      have F721 := F689.keep K718 (ninS ne_q1_ma nin0)
      have F722 := F691.keep K718 (ninS ne_q1_ma nin0)
      have F724 := F693.keep K718 (ninS ne_q1_ma nin0)
      have F725 := F694.keep K718 (ninS ne_ma_si.symm nin0)
      have F726 := F695.keep K718 (ninS ne_q1_ma nin0)
      have F727 := F696.keep K718 (ninS ne_ma_rh.symm nin0)
      have F728 := F697.keep K718 (ninS ne_q1_ma nin0)
      have F729 := F698.keep K718 (ninS ne_ma_ex.symm nin0)
      have F730 := F699.keep K718 (ninS ne_q1_ma nin0)
      have F731 := F700.keep K718 (ninS ne_q1_ma nin0)
      have F732 := F687.keep K718 (ninS ne_la_ma nin0)
      have Z733 : n0 ≤ h713.size := Nat.le_trans Z701 K718.1
      refine g_aloadN X715 hx (hb hby da2_341) rfl rfl ?_
      refine g_getF X715 hx hZ hown (hw _ (List.mem_of_getElem? (i := 15) rfl)) e716 F724 (hb hby da2_342) ?_
      intro T735 X736 e737
      refine g_iload X736 hx (hb hby da2_345) rfl ?_
      refine g_aloadN X736 hx (hb hby da2_347) rfl rfl ?_
      refine g_getF X736 hx hZ hown (hw _ (List.mem_of_getElem? (i := 15) rfl)) e737 F724 (hb hby da2_348) ?_
      intro T738 X739 e740
      refine g_iload X739 hx (hb hby da2_351) rfl ?_
      refine g_iconst X739 hx (hb hby da2_353) (v := (1 : Int32)) (by decide) ?_
      refine g_iadd X739 hx (hb hby da2_354) (show (2 : Int32) + (1 : Int32) = (3 : Int32) from by decide) ?_
      refine g_aloadN X739 hx (hb hby da2_355) rfl rfl ?_
      refine g_getF X739 hx hZ hown (hw _ (List.mem_of_getElem? (i := 30) rfl)) e740 F730 (hb hby da2_356) ?_
      intro T741 X742 e743
      refine g_iload X742 hx (hb hby da2_359) rfl ?_
      refine g_isub X742 hx (hb hby da2_361) (show (2 : Int32) - (2 : Int32) = (0 : Int32) from by decide) ?_
      refine g_acp0 X742 hx hZ hown (hw _ (List.mem_of_getElem? (i := 32) rfl)) (hw _ (List.mem_of_getElem? (i := 35) rfl)) (hw _ (List.mem_of_getElem? (i := 33) rfl)) (hw _ (List.mem_of_getElem? (i := 34) rfl)) e743 F725 rfl (fun _ _ => rfl) (z := 4) (by decide) (by decide) (by decide) (by decide) (by decide) (by decide) N717 g_si (by rw [hml]; rfl) (hb hby da2_362) (by decide) (by decide) ?_
      intro T744 h745 L746 X747 e748 N749 K750 F751
      have F752 := F720.keep K750
      have F753 := F721.keep K750 (ninS ne_q1_si nin0)
      have F754 := F722.keep K750 (ninS ne_q1_si nin0)
      have F755 := F724.keep K750 (ninS ne_q1_si nin0)
      have F757 := F726.keep K750 (ninS ne_q1_si nin0)
      have F758 := F727.keep K750 (ninS ne_si_rh.symm nin0)
      have F759 := F728.keep K750 (ninS ne_q1_si nin0)
      have F760 := F729.keep K750 (ninS ne_si_ex.symm nin0)
      have F761 := F730.keep K750 (ninS ne_q1_si nin0)
      have F762 := F731.keep K750 (ninS ne_q1_si nin0)
      have F763 := F732.keep K750 (ninS ne_la_si nin0)
      have F764 := F719.keep K750 (ninS ne_ma_si nin0)
      have Z765 : n0 ≤ h745.size := Nat.le_trans Z733 K750.1
      refine g_aloadN X747 hx (hb hby da2_365) rfl rfl ?_
      refine g_getF X747 hx hZ hown (hw _ (List.mem_of_getElem? (i := 17) rfl)) e748 F757 (hb hby da2_366) ?_
      intro T767 X768 e769
      refine g_iload X768 hx (hb hby da2_369) rfl ?_
      refine g_aloadN X768 hx (hb hby da2_371) rfl rfl ?_
      refine g_getF X768 hx hZ hown (hw _ (List.mem_of_getElem? (i := 17) rfl)) e769 F757 (hb hby da2_372) ?_
      intro T770 X771 e772
      refine g_iload X771 hx (hb hby da2_375) rfl ?_
      refine g_iconst X771 hx (hb hby da2_377) (v := (1 : Int32)) (by decide) ?_
      refine g_iadd X771 hx (hb hby da2_378) (show (2 : Int32) + (1 : Int32) = (3 : Int32) from by decide) ?_
      refine g_aloadN X771 hx (hb hby da2_379) rfl rfl ?_
      refine g_getF X771 hx hZ hown (hw _ (List.mem_of_getElem? (i := 30) rfl)) e772 F761 (hb hby da2_380) ?_
      intro T773 X774 e775
      refine g_iload X774 hx (hb hby da2_383) rfl ?_
      refine g_isub X774 hx (hb hby da2_385) (show (2 : Int32) - (2 : Int32) = (0 : Int32) from by decide) ?_
      refine g_acp0 X774 hx hZ hown (hw _ (List.mem_of_getElem? (i := 32) rfl)) (hw _ (List.mem_of_getElem? (i := 35) rfl)) (hw _ (List.mem_of_getElem? (i := 33) rfl)) (hw _ (List.mem_of_getElem? (i := 34) rfl)) e775 F758 rfl (fun _ _ => rfl) (z := 4) (by decide) (by decide) (by decide) (by decide) (by decide) (by decide) N749 g_rh (by rw [hml]; rfl) (hb hby da2_386) (by decide) (by decide) ?_
      intro T776 h777 L778 X779 e780 N781 K782 F783
      have F784 := F752.keep K782
      have F785 := F753.keep K782 (ninS ne_q1_rh nin0)
      have F786 := F754.keep K782 (ninS ne_q1_rh nin0)
      have F787 := F755.keep K782 (ninS ne_q1_rh nin0)
      have F788 := F757.keep K782 (ninS ne_q1_rh nin0)
      have F790 := F759.keep K782 (ninS ne_q1_rh nin0)
      have F791 := F760.keep K782 (ninS ne_rh_ex.symm nin0)
      have F792 := F761.keep K782 (ninS ne_q1_rh nin0)
      have F793 := F762.keep K782 (ninS ne_q1_rh nin0)
      have F794 := F763.keep K782 (ninS ne_la_rh nin0)
      have F795 := F764.keep K782 (ninS ne_ma_rh nin0)
      have F796 := F751.keep K782 (ninS ne_si_rh nin0)
      have Z797 : n0 ≤ h777.size := Nat.le_trans Z765 K782.1
      refine g_aloadN X779 hx (hb hby da2_389) rfl rfl ?_
      refine g_getF X779 hx hZ hown (hw _ (List.mem_of_getElem? (i := 20) rfl)) e780 F790 (hb hby da2_390) ?_
      intro T799 X800 e801
      refine g_iload X800 hx (hb hby da2_393) rfl ?_
      refine g_aloadN X800 hx (hb hby da2_395) rfl rfl ?_
      refine g_getF X800 hx hZ hown (hw _ (List.mem_of_getElem? (i := 20) rfl)) e801 F790 (hb hby da2_396) ?_
      intro T802 X803 e804
      refine g_iload X803 hx (hb hby da2_399) rfl ?_
      refine g_iconst X803 hx (hb hby da2_401) (v := (1 : Int32)) (by decide) ?_
      refine g_iadd X803 hx (hb hby da2_402) (show (2 : Int32) + (1 : Int32) = (3 : Int32) from by decide) ?_
      refine g_aloadN X803 hx (hb hby da2_403) rfl rfl ?_
      refine g_getF X803 hx hZ hown (hw _ (List.mem_of_getElem? (i := 30) rfl)) e804 F792 (hb hby da2_404) ?_
      intro T805 X806 e807
      refine g_iload X806 hx (hb hby da2_407) rfl ?_
      refine g_isub X806 hx (hb hby da2_409) (show (2 : Int32) - (2 : Int32) = (0 : Int32) from by decide) ?_
      refine g_acp0 X806 hx hZ hown (hw _ (List.mem_of_getElem? (i := 32) rfl)) (hw _ (List.mem_of_getElem? (i := 35) rfl)) (hw _ (List.mem_of_getElem? (i := 33) rfl)) (hw _ (List.mem_of_getElem? (i := 34) rfl)) e807 F791 rfl (own_fitB hB) (z := 4) (by decide) (by decide) (by decide) (by decide) (by decide) (by decide) N781 g_ex (by rw [hml]; rfl) (hb hby da2_410) (by decide) (by decide) ?_
      intro T808 h809 L810 X811 e812 N813 K814 F815
      have F816 := F784.keep K814
      have F817 := F785.keep K814 (ninS ne_q1_ex nin0)
      have F818 := F786.keep K814 (ninS ne_q1_ex nin0)
      have F819 := F787.keep K814 (ninS ne_q1_ex nin0)
      have F820 := F788.keep K814 (ninS ne_q1_ex nin0)
      have F821 := F790.keep K814 (ninS ne_q1_ex nin0)
      have F823 := F792.keep K814 (ninS ne_q1_ex nin0)
      have F824 := F793.keep K814 (ninS ne_q1_ex nin0)
      have F825 := F794.keep K814 (ninS ne_la_ex nin0)
      have F826 := F795.keep K814 (ninS ne_ma_ex nin0)
      have F827 := F796.keep K814 (ninS ne_si_ex nin0)
      have F828 := F783.keep K814 (ninS ne_rh_ex nin0)
      have Z829 : n0 ≤ h809.size := Nat.le_trans Z797 K814.1
      refine g_aloadN X811 hx (hb hby da2_413) rfl rfl ?_
      refine g_getF X811 hx hZ hown (hw _ (List.mem_of_getElem? (i := 10) rfl)) e812 F817 (hb hby da2_414) ?_
      intro T831 X832 e833
      refine g_iload X832 hx (hb hby da2_417) rfl ?_
      refine g_iloadN X832 hx (hb hby da2_419) rfl ?_
      refine g_iastore X832 hx hZ e833 F825 (i := 2) (by decide) (by decide) (by decide) (hb hby da2_420) ?_
      intro T834 h837 X835 e836 W838
      have F839 := F816.wr W838
      have F840 := F817.other W838 (Or.inl ne_q1_la)
      have F841 := F818.other W838 (Or.inl ne_q1_la)
      have F842 := F819.other W838 (Or.inl ne_q1_la)
      have F843 := F820.other W838 (Or.inl ne_q1_la)
      have F844 := F821.other W838 (Or.inl ne_q1_la)
      have F845 := F823.other W838 (Or.inl ne_q1_la)
      have F846 := F824.other W838 (Or.inl ne_q1_la)
      have F847 := F825.same W838
      have F848 := F826.other W838 ne_la_ma.symm
      have F849 := F827.other W838 ne_la_si.symm
      have F850 := F828.other W838 ne_la_rh.symm
      have F851 := F815.other W838 ne_la_ex.symm
      have Z852 : n0 ≤ h837.size := by rw [W838.size]; exact Z829
      have N853 := Fr.snoc X835 N813 g_la
      refine g_aloadN X835 hx (hb hby da2_421) rfl rfl ?_
      refine g_getF X835 hx hZ hown (hw _ (List.mem_of_getElem? (i := 13) rfl)) e836 F841 (hb hby da2_422) ?_
      intro T854 X855 e856
      refine g_iload X855 hx (hb hby da2_425) rfl ?_
      refine g_dloadN X855 hx (hb hby da2_427) rfl ?_
      refine g_dastore X855 hx hZ e856 F848 (i := 2) (by decide) (by decide) (by decide) (hb hby da2_428) ?_
      intro T857 h860 X858 e859 W861
      have F862 := F839.wr W861
      have F863 := F840.other W861 (Or.inl ne_q1_ma)
      have F864 := F841.other W861 (Or.inl ne_q1_ma)
      have F865 := F842.other W861 (Or.inl ne_q1_ma)
      have F866 := F843.other W861 (Or.inl ne_q1_ma)
      have F867 := F844.other W861 (Or.inl ne_q1_ma)
      have F868 := F845.other W861 (Or.inl ne_q1_ma)
      have F869 := F846.other W861 (Or.inl ne_q1_ma)
      have F870 := F847.other W861 ne_la_ma
      have F871 := F848.same W861
      have F872 := F849.other W861 ne_ma_si.symm
      have F873 := F850.other W861 ne_ma_rh.symm
      have F874 := F851.other W861 ne_ma_ex.symm
      have Z875 : n0 ≤ h860.size := by rw [W861.size]; exact Z852
      have N876 := Fr.snoc X858 N853 g_ma
      refine g_aloadN X858 hx (hb hby da2_429) rfl rfl ?_
      refine g_getF X858 hx hZ hown (hw _ (List.mem_of_getElem? (i := 15) rfl)) e859 F865 (hb hby da2_430) ?_
      intro T877 X878 e879
      refine g_iload X878 hx (hb hby da2_433) rfl ?_
      refine g_dload X878 hx (hb hby da2_435) rfl ?_
      refine g_dastore X878 hx hZ e879 F872 (i := 2) (by decide) (by decide) (by decide) (hb hby da2_437) ?_
      intro T880 h883 X881 e882 W884
      have F885 := F862.wr W884
      have F886 := F863.other W884 (Or.inl ne_q1_si)
      have F887 := F864.other W884 (Or.inl ne_q1_si)
      have F888 := F865.other W884 (Or.inl ne_q1_si)
      have F889 := F866.other W884 (Or.inl ne_q1_si)
      have F890 := F867.other W884 (Or.inl ne_q1_si)
      have F891 := F868.other W884 (Or.inl ne_q1_si)
      have F892 := F869.other W884 (Or.inl ne_q1_si)
      have F893 := F870.other W884 ne_la_si
      have F894 := F871.other W884 ne_ma_si
      have F895 := F872.same W884
      have F896 := F873.other W884 ne_si_rh.symm
      have F897 := F874.other W884 ne_si_ex.symm
      have Z898 : n0 ≤ h883.size := by rw [W884.size]; exact Z875
      have N899 := Fr.snoc X881 N876 g_si
      refine g_aloadN X881 hx (hb hby da2_438) rfl rfl ?_
      refine g_getF X881 hx hZ hown (hw _ (List.mem_of_getElem? (i := 17) rfl)) e882 F889 (hb hby da2_439) ?_
      intro T900 X901 e902
      refine g_iload X901 hx (hb hby da2_442) rfl ?_
      refine g_dload X901 hx (hb hby da2_444) rfl ?_
      refine g_dastore X901 hx hZ e902 F896 (i := 2) (by decide) (by decide) (by decide) (hb hby da2_446) ?_
      intro T903 h906 X904 e905 W907
      have F908 := F885.wr W907
      have F909 := F886.other W907 (Or.inl ne_q1_rh)
      have F910 := F887.other W907 (Or.inl ne_q1_rh)
      have F911 := F888.other W907 (Or.inl ne_q1_rh)
      have F912 := F889.other W907 (Or.inl ne_q1_rh)
      have F913 := F890.other W907 (Or.inl ne_q1_rh)
      have F914 := F891.other W907 (Or.inl ne_q1_rh)
      have F915 := F892.other W907 (Or.inl ne_q1_rh)
      have F916 := F893.other W907 ne_la_rh
      have F917 := F894.other W907 ne_ma_rh
      have F918 := F895.other W907 ne_si_rh
      have F919 := F896.same W907
      have F920 := F897.other W907 ne_rh_ex.symm
      have Z921 : n0 ≤ h906.size := by rw [W907.size]; exact Z898
      have N922 := Fr.snoc X904 N899 g_rh
      refine g_aloadN X904 hx (hb hby da2_447) rfl rfl ?_
      refine g_getF X904 hx hZ hown (hw _ (List.mem_of_getElem? (i := 20) rfl)) e905 F913 (hb hby da2_448) ?_
      intro T923 X924 e925
      refine g_iload X924 hx (hb hby da2_451) rfl ?_
      refine g_iconst X924 hx (hb hby da2_453) (v := (0 : Int32)) (by decide) ?_
      refine g_bastoreZ X924 hx hZ e925 F920 (i := 2) (by decide) (by decide) (by decide) (hb hby da2_454) ?_
      intro T926 h929 X927 e928 W930
      have F931 := F908.wr W930
      have F932 := F909.other W930 (Or.inl ne_q1_ex)
      have F933 := F910.other W930 (Or.inl ne_q1_ex)
      have F934 := F911.other W930 (Or.inl ne_q1_ex)
      have F935 := F912.other W930 (Or.inl ne_q1_ex)
      have F936 := F913.other W930 (Or.inl ne_q1_ex)
      have F937 := F914.other W930 (Or.inl ne_q1_ex)
      have F938 := F915.other W930 (Or.inl ne_q1_ex)
      have F939 := F916.other W930 ne_la_ex
      have F940 := F917.other W930 ne_ma_ex
      have F941 := F918.other W930 ne_si_ex
      have F942 := F919.other W930 ne_rh_ex
      have F943 := F920.same W930
      have Z944 : n0 ≤ h929.size := by rw [W930.size]; exact Z921
      have N945 := Fr.snoc X927 N922 g_ex
      refine g_aloadN X927 hx (hb hby da2_455) rfl rfl ?_
      refine g_iload X927 hx (hb hby da2_456) rfl ?_
      refine g_putF X927 hx hZ hown (hw _ (List.mem_of_getElem? (i := 30) rfl)) e928 F937 F931 (Or.inl (hw _ (List.mem_of_getElem? (i := 31) rfl))) (hw _ (List.mem_of_getElem? (i := 1) rfl)) (ty := .int) (by decide) rfl rfl (hb hby da2_458) ?_
      intro T946 h949 X947 e948 W950
      have F952 := F931.wr W950
      have F953 := F932.other W950 (Or.inr (slot_ne (Or.inl (hw _ (List.mem_of_getElem? (i := 11) rfl))) (Or.inl (hw _ (List.mem_of_getElem? (i := 31) rfl))) (by decide) (t := (.array .int)) (t' := .int) (by decide) (by decide)))
      have F954 := F933.other W950 (Or.inr (slot_ne (Or.inl (hw _ (List.mem_of_getElem? (i := 14) rfl))) (Or.inl (hw _ (List.mem_of_getElem? (i := 31) rfl))) (by decide) (t := (.array .double)) (t' := .int) (by decide) (by decide)))
      have F955 := F934.other W950 (Or.inr (slot_ne (Or.inl (hw _ (List.mem_of_getElem? (i := 16) rfl))) (Or.inl (hw _ (List.mem_of_getElem? (i := 31) rfl))) (by decide) (t := (.array .double)) (t' := .int) (by decide) (by decide)))
      have F956 := F935.other W950 (Or.inr (slot_ne (Or.inl (hw _ (List.mem_of_getElem? (i := 18) rfl))) (Or.inl (hw _ (List.mem_of_getElem? (i := 31) rfl))) (by decide) (t := (.array .double)) (t' := .int) (by decide) (by decide)))
      have F957 := F936.other W950 (Or.inr (slot_ne (Or.inl (hw _ (List.mem_of_getElem? (i := 21) rfl))) (Or.inl (hw _ (List.mem_of_getElem? (i := 31) rfl))) (by decide) (t := (.array .boolean)) (t' := .int) (by decide) (by decide)))
      have F958 := F938.other W950 (Or.inr (slot_ne (Or.inr (hw _ (List.mem_of_getElem? (i := 23) rfl))) (Or.inl (hw _ (List.mem_of_getElem? (i := 31) rfl))) (by decide) (t := .boolean) (t' := .int) (by decide) (by decide)))
      have F959 := F939.other W950 ne_q1_la.symm
      have F960 := F940.other W950 ne_q1_ma.symm
      have F961 := F941.other W950 ne_q1_si.symm
      have F962 := F942.other W950 ne_q1_rh.symm
      have F963 := F943.other W950 ne_q1_ex.symm
      have F964 := F937.same W950
      have Z965 : n0 ≤ h949.size := by rw [W950.size]; exact Z944
      have N966 := Fr.snoc X947 N945 g_q1
      refine g_iconst X947 hx (hb hby da2_461) (v := (1 : Int32)) (by decide) ?_
      refine g_ireturn X947 hx Bd.notSynchronized Bd.returns rfl (by simp) (hb hby da2_462) (by decide) (by decide) ?_
      rw [e948]
      exact ⟨rfl, N966, Z965, F952, F953, F954, F955, F956, F957, F964, F958, (F959.congr (fun j _ => own_uI _ _ _ j)), (F960.congr (fun j _ => own_uD _ _ _ j)), (F961.congr (fun j _ => own_uD _ _ _ j)), (F962.congr (fun j _ => own_uD _ _ _ j)), (F963.congr (fun j _ => own_uI _ _ _ j)), own_uB hB (Or.inl rfl), ⟨⟨ne_q1_la, ne_q1_ma, ne_q1_si, ne_q1_rh, ne_q1_ex, ne_la_ma, ne_la_si, ne_la_rh, ne_la_ex, ne_ma_si, ne_ma_rh, ne_ma_ex, ne_si_rh, ne_si_ex, ne_rh_ex⟩, ⟨g_q1, g_la, g_ma, g_si, g_rh, g_ex⟩⟩⟩
    ·
      refine g_ifNo X657 hx (hb hby da2_134) (feq hc134_659).1 ?_
      refine g_iload X657 hx (hb hby da2_137) rfl ?_
      have hc139_967 : (0 : Int32) < (2 : Int32) := (by decide)
      refine g_ifNo X657 hx (hb hby da2_139) (tlt hc139_967).2.2.2 ?_
      refine g_aloadN X657 hx (hb hby da2_142) rfl rfl ?_
      refine g_getF X657 hx hZ hown (hw _ (List.mem_of_getElem? (i := 17) rfl)) e658 F_rh (hb hby da2_143) ?_
      intro T968 X969 e970
      refine g_iload X969 hx (hb hby da2_146) rfl ?_
      refine g_iconst X969 hx (hb hby da2_148) (v := (1 : Int32)) (by decide) ?_
      refine g_isub X969 hx (hb hby da2_149) (show (2 : Int32) - (1 : Int32) = (1 : Int32) from by decide) ?_
      refine g_daload X969 hx hZ e970 A_rh (by decide) (by decide) (i := 1) (by decide) (congrArg Value.double hR1) (hb hby da2_150) ?_
      refine g_dload X969 hx (hb hby da2_151) rfl ?_
      refine g_dcmp X969 hx (hb hby da2_153) ?_
      have hc154_971 : FP.dcmp (4611686018427387904 : UInt64) (4613937818241073152 : UInt64) = some .lt ∨ FP.dcmp (4611686018427387904 : UInt64) (4613937818241073152 : UInt64) = none := (by decide +kernel)
      refine g_ifYes X969 hx (hb hby da2_154) (tlt ((cv_l_lt _).mpr hc154_971)).1 (by decide) (pc' := 163) (by decide) ?_
      refine g_iload X969 hx (hb hby da2_163) rfl ?_
      refine g_istore X969 hx (hb hby da2_165) (L' := #[.val (.ref q1), .val (.int (30 : Int32)), .val (.double (4607182418800017408 : UInt64)), .second, .val (.double (4607182418800017408 : UInt64)), .second, .val (.double (4613937818241073152 : UInt64)), .second, .val (.int (2 : Int32)), .val (.int (2 : Int32)), .val (.int (2 : Int32)), .val (.int (2 : Int32)), .unset, .unset]) rfl ?_
      refine g_iload X969 hx (hb hby da2_167) rfl ?_
      refine g_aloadN X969 hx (hb hby da2_169) rfl rfl ?_
      refine g_getF X969 hx hZ hown (hw _ (List.mem_of_getElem? (i := 30) rfl)) e970 F_sz (hb hby da2_170) ?_
      intro T972 X973 e974
      have hc173_975 : ¬ ((2 : Int32) < (2 : Int32)) := (by decide)
      refine g_icmpYes X973 hx (hb hby da2_173) (flt hc173_975).2.1 (by decide) (pc' := 195) (by decide) ?_
      refine g_aloadN X973 hx (hb hby da2_195) rfl rfl ?_
      refine g_getF X973 hx hZ hown (hw _ (List.mem_of_getElem? (i := 30) rfl)) e974 F_sz (hb hby da2_196) ?_
      intro T976 X977 e978
      refine g_iload X977 hx (hb hby da2_199) rfl ?_
      refine g_iload X977 hx (hb hby da2_201) rfl ?_
      refine g_isub X977 hx (hb hby da2_203) (show (2 : Int32) - (2 : Int32) = (0 : Int32) from by decide) ?_
      refine g_isub X977 hx (hb hby da2_204) (show (2 : Int32) - (0 : Int32) = (2 : Int32) from by decide) ?_
      refine g_iconst X977 hx (hb hby da2_205) (v := (1 : Int32)) (by decide) ?_
      refine g_iadd X977 hx (hb hby da2_206) (show (2 : Int32) + (1 : Int32) = (3 : Int32) from by decide) ?_
      refine g_istore X977 hx (hb hby da2_207) (L' := #[.val (.ref q1), .val (.int (30 : Int32)), .val (.double (4607182418800017408 : UInt64)), .second, .val (.double (4607182418800017408 : UInt64)), .second, .val (.double (4613937818241073152 : UInt64)), .second, .val (.int (2 : Int32)), .val (.int (2 : Int32)), .val (.int (2 : Int32)), .val (.int (2 : Int32)), .val (.int (3 : Int32)), .unset]) rfl ?_
      refine g_iload X977 hx (hb hby da2_209) rfl ?_
      refine g_aloadN X977 hx (hb hby da2_211) rfl rfl ?_
      refine g_getF X977 hx hZ hown (hw _ (List.mem_of_getElem? (i := 10) rfl)) e978 F_la (hb hby da2_212) ?_
      intro T979 X980 e981
      refine g_arraylength X980 hx hZ e981 A_la (show Nat.toInt32 4 = (4 : Int32) from by decide) (hb hby da2_215) ?_
      have hc216_982 : ¬ ((4 : Int32) < (3 : Int32)) := (by decide)
      refine g_icmpYes X980 hx (hb hby da2_216) (flt hc216_982).2.2.2 (by decide) (pc' := 293) (by decide) ?_
      refine g_aloadN X980 hx (hb hby da2_293) rfl rfl ?_
      refine g_getF X980 hx hZ hown (hw _ (List.mem_of_getElem? (i := 10) rfl)) e981 F_la (hb hby da2_294) ?_
      intro T983 X984 e985
      refine g_iload X984 hx (hb hby da2_297) rfl ?_
      refine g_aloadN X984 hx (hb hby da2_299) rfl rfl ?_
      refine g_getF X984 hx hZ hown (hw _ (List.mem_of_getElem? (i := 10) rfl)) e985 F_la (hb hby da2_300) ?_
      intro T986 X987 e988
      refine g_iload X987 hx (hb hby da2_303) rfl ?_
      refine g_iconst X987 hx (hb hby da2_305) (v := (1 : Int32)) (by decide) ?_
      refine g_iadd X987 hx (hb hby da2_306) (show (2 : Int32) + (1 : Int32) = (3 : Int32) from by decide) ?_
      refine g_aloadN X987 hx (hb hby da2_307) rfl rfl ?_
      refine g_getF X987 hx hZ hown (hw _ (List.mem_of_getElem? (i := 30) rfl)) e988 F_sz (hb hby da2_308) ?_
      intro T989 X990 e991
      refine g_iload X990 hx (hb hby da2_311) rfl ?_
      refine g_isub X990 hx (hb hby da2_313) (show (2 : Int32) - (2 : Int32) = (0 : Int32) from by decide) ?_
      refine g_acp0 X990 hx hZ hown (hw _ (List.mem_of_getElem? (i := 32) rfl)) (hw _ (List.mem_of_getElem? (i := 35) rfl)) (hw _ (List.mem_of_getElem? (i := 33) rfl)) (hw _ (List.mem_of_getElem? (i := 34) rfl)) e991 A_la rfl (fun _ _ => rfl) (z := 4) (by decide) (by decide) (by decide) (by decide) (by decide) (by decide) N0 g_la (by rw [hml]; rfl) (hb hby da2_314) (by decide) (by decide) ?_
      intro T992 h993 L994 X995 e996 N997 K998 F999
      have F1000 := E0.keep K998
      have F1001 := F_la.keep K998 (ninS ne_q1_la nin0)
      have F1003 := F_ma.keep K998 (ninS ne_q1_la nin0)
      have F1004 := A_ma.keep K998 (ninS ne_la_ma.symm nin0)
      have F1005 := F_si.keep K998 (ninS ne_q1_la nin0)
      have F1006 := A_si.keep K998 (ninS ne_la_si.symm nin0)
      have F1007 := F_rh.keep K998 (ninS ne_q1_la nin0)
      have F1008 := A_rh.keep K998 (ninS ne_la_rh.symm nin0)
      have F1009 := F_ex.keep K998 (ninS ne_q1_la nin0)
      have F1010 := A_ex.keep K998 (ninS ne_la_ex.symm nin0)
      have F1011 := F_sz.keep K998 (ninS ne_q1_la nin0)
      have F1012 := F_fg.keep K998 (ninS ne_q1_la nin0)
      have Z1013 : n0 ≤ h993.size := Nat.le_trans Z0 K998.1
      refine g_aloadN X995 hx (hb hby da2_317) rfl rfl ?_
      refine g_getF X995 hx hZ hown (hw _ (List.mem_of_getElem? (i := 13) rfl)) e996 F1003 (hb hby da2_318) ?_
      intro T1015 X1016 e1017
      refine g_iload X1016 hx (hb hby da2_321) rfl ?_
      refine g_aloadN X1016 hx (hb hby da2_323) rfl rfl ?_
      refine g_getF X1016 hx hZ hown (hw _ (List.mem_of_getElem? (i := 13) rfl)) e1017 F1003 (hb hby da2_324) ?_
      intro T1018 X1019 e1020
      refine g_iload X1019 hx (hb hby da2_327) rfl ?_
      refine g_iconst X1019 hx (hb hby da2_329) (v := (1 : Int32)) (by decide) ?_
      refine g_iadd X1019 hx (hb hby da2_330) (show (2 : Int32) + (1 : Int32) = (3 : Int32) from by decide) ?_
      refine g_aloadN X1019 hx (hb hby da2_331) rfl rfl ?_
      refine g_getF X1019 hx hZ hown (hw _ (List.mem_of_getElem? (i := 30) rfl)) e1020 F1011 (hb hby da2_332) ?_
      intro T1021 X1022 e1023
      refine g_iload X1022 hx (hb hby da2_335) rfl ?_
      refine g_isub X1022 hx (hb hby da2_337) (show (2 : Int32) - (2 : Int32) = (0 : Int32) from by decide) ?_
      refine g_acp0 X1022 hx hZ hown (hw _ (List.mem_of_getElem? (i := 32) rfl)) (hw _ (List.mem_of_getElem? (i := 35) rfl)) (hw _ (List.mem_of_getElem? (i := 33) rfl)) (hw _ (List.mem_of_getElem? (i := 34) rfl)) e1023 F1004 rfl (fun _ _ => rfl) (z := 4) (by decide) (by decide) (by decide) (by decide) (by decide) (by decide) N997 g_ma (by rw [hml]; rfl) (hb hby da2_338) (by decide) (by decide) ?_
      intro T1024 h1025 L1026 X1027 e1028 N1029 K1030 F1031
      have F1032 := F1000.keep K1030
      have F1033 := F1001.keep K1030 (ninS ne_q1_ma nin0)
      have F1034 := F1003.keep K1030 (ninS ne_q1_ma nin0)
      have F1036 := F1005.keep K1030 (ninS ne_q1_ma nin0)
      have F1037 := F1006.keep K1030 (ninS ne_ma_si.symm nin0)
      have F1038 := F1007.keep K1030 (ninS ne_q1_ma nin0)
      have F1039 := F1008.keep K1030 (ninS ne_ma_rh.symm nin0)
      have F1040 := F1009.keep K1030 (ninS ne_q1_ma nin0)
      have F1041 := F1010.keep K1030 (ninS ne_ma_ex.symm nin0)
      have F1042 := F1011.keep K1030 (ninS ne_q1_ma nin0)
      have F1043 := F1012.keep K1030 (ninS ne_q1_ma nin0)
      have F1044 := F999.keep K1030 (ninS ne_la_ma nin0)
      have Z1045 : n0 ≤ h1025.size := Nat.le_trans Z1013 K1030.1
      refine g_aloadN X1027 hx (hb hby da2_341) rfl rfl ?_
      refine g_getF X1027 hx hZ hown (hw _ (List.mem_of_getElem? (i := 15) rfl)) e1028 F1036 (hb hby da2_342) ?_
      intro T1047 X1048 e1049
      refine g_iload X1048 hx (hb hby da2_345) rfl ?_
      refine g_aloadN X1048 hx (hb hby da2_347) rfl rfl ?_
      refine g_getF X1048 hx hZ hown (hw _ (List.mem_of_getElem? (i := 15) rfl)) e1049 F1036 (hb hby da2_348) ?_
      intro T1050 X1051 e1052
      refine g_iload X1051 hx (hb hby da2_351) rfl ?_
      refine g_iconst X1051 hx (hb hby da2_353) (v := (1 : Int32)) (by decide) ?_
      refine g_iadd X1051 hx (hb hby da2_354) (show (2 : Int32) + (1 : Int32) = (3 : Int32) from by decide) ?_
      refine g_aloadN X1051 hx (hb hby da2_355) rfl rfl ?_
      refine g_getF X1051 hx hZ hown (hw _ (List.mem_of_getElem? (i := 30) rfl)) e1052 F1042 (hb hby da2_356) ?_
      intro T1053 X1054 e1055
      refine g_iload X1054 hx (hb hby da2_359) rfl ?_
      refine g_isub X1054 hx (hb hby da2_361) (show (2 : Int32) - (2 : Int32) = (0 : Int32) from by decide) ?_
      refine g_acp0 X1054 hx hZ hown (hw _ (List.mem_of_getElem? (i := 32) rfl)) (hw _ (List.mem_of_getElem? (i := 35) rfl)) (hw _ (List.mem_of_getElem? (i := 33) rfl)) (hw _ (List.mem_of_getElem? (i := 34) rfl)) e1055 F1037 rfl (fun _ _ => rfl) (z := 4) (by decide) (by decide) (by decide) (by decide) (by decide) (by decide) N1029 g_si (by rw [hml]; rfl) (hb hby da2_362) (by decide) (by decide) ?_
      intro T1056 h1057 L1058 X1059 e1060 N1061 K1062 F1063
      have F1064 := F1032.keep K1062
      have F1065 := F1033.keep K1062 (ninS ne_q1_si nin0)
      have F1066 := F1034.keep K1062 (ninS ne_q1_si nin0)
      have F1067 := F1036.keep K1062 (ninS ne_q1_si nin0)
      have F1069 := F1038.keep K1062 (ninS ne_q1_si nin0)
      have F1070 := F1039.keep K1062 (ninS ne_si_rh.symm nin0)
      have F1071 := F1040.keep K1062 (ninS ne_q1_si nin0)
      have F1072 := F1041.keep K1062 (ninS ne_si_ex.symm nin0)
      have F1073 := F1042.keep K1062 (ninS ne_q1_si nin0)
      have F1074 := F1043.keep K1062 (ninS ne_q1_si nin0)
      have F1075 := F1044.keep K1062 (ninS ne_la_si nin0)
      have F1076 := F1031.keep K1062 (ninS ne_ma_si nin0)
      have Z1077 : n0 ≤ h1057.size := Nat.le_trans Z1045 K1062.1
      refine g_aloadN X1059 hx (hb hby da2_365) rfl rfl ?_
      refine g_getF X1059 hx hZ hown (hw _ (List.mem_of_getElem? (i := 17) rfl)) e1060 F1069 (hb hby da2_366) ?_
      intro T1079 X1080 e1081
      refine g_iload X1080 hx (hb hby da2_369) rfl ?_
      refine g_aloadN X1080 hx (hb hby da2_371) rfl rfl ?_
      refine g_getF X1080 hx hZ hown (hw _ (List.mem_of_getElem? (i := 17) rfl)) e1081 F1069 (hb hby da2_372) ?_
      intro T1082 X1083 e1084
      refine g_iload X1083 hx (hb hby da2_375) rfl ?_
      refine g_iconst X1083 hx (hb hby da2_377) (v := (1 : Int32)) (by decide) ?_
      refine g_iadd X1083 hx (hb hby da2_378) (show (2 : Int32) + (1 : Int32) = (3 : Int32) from by decide) ?_
      refine g_aloadN X1083 hx (hb hby da2_379) rfl rfl ?_
      refine g_getF X1083 hx hZ hown (hw _ (List.mem_of_getElem? (i := 30) rfl)) e1084 F1073 (hb hby da2_380) ?_
      intro T1085 X1086 e1087
      refine g_iload X1086 hx (hb hby da2_383) rfl ?_
      refine g_isub X1086 hx (hb hby da2_385) (show (2 : Int32) - (2 : Int32) = (0 : Int32) from by decide) ?_
      refine g_acp0 X1086 hx hZ hown (hw _ (List.mem_of_getElem? (i := 32) rfl)) (hw _ (List.mem_of_getElem? (i := 35) rfl)) (hw _ (List.mem_of_getElem? (i := 33) rfl)) (hw _ (List.mem_of_getElem? (i := 34) rfl)) e1087 F1070 rfl (fun _ _ => rfl) (z := 4) (by decide) (by decide) (by decide) (by decide) (by decide) (by decide) N1061 g_rh (by rw [hml]; rfl) (hb hby da2_386) (by decide) (by decide) ?_
      intro T1088 h1089 L1090 X1091 e1092 N1093 K1094 F1095
      have F1096 := F1064.keep K1094
      have F1097 := F1065.keep K1094 (ninS ne_q1_rh nin0)
      have F1098 := F1066.keep K1094 (ninS ne_q1_rh nin0)
      have F1099 := F1067.keep K1094 (ninS ne_q1_rh nin0)
      have F1100 := F1069.keep K1094 (ninS ne_q1_rh nin0)
      have F1102 := F1071.keep K1094 (ninS ne_q1_rh nin0)
      have F1103 := F1072.keep K1094 (ninS ne_rh_ex.symm nin0)
      have F1104 := F1073.keep K1094 (ninS ne_q1_rh nin0)
      have F1105 := F1074.keep K1094 (ninS ne_q1_rh nin0)
      have F1106 := F1075.keep K1094 (ninS ne_la_rh nin0)
      have F1107 := F1076.keep K1094 (ninS ne_ma_rh nin0)
      have F1108 := F1063.keep K1094 (ninS ne_si_rh nin0)
      have Z1109 : n0 ≤ h1089.size := Nat.le_trans Z1077 K1094.1
      refine g_aloadN X1091 hx (hb hby da2_389) rfl rfl ?_
      refine g_getF X1091 hx hZ hown (hw _ (List.mem_of_getElem? (i := 20) rfl)) e1092 F1102 (hb hby da2_390) ?_
      intro T1111 X1112 e1113
      refine g_iload X1112 hx (hb hby da2_393) rfl ?_
      refine g_aloadN X1112 hx (hb hby da2_395) rfl rfl ?_
      refine g_getF X1112 hx hZ hown (hw _ (List.mem_of_getElem? (i := 20) rfl)) e1113 F1102 (hb hby da2_396) ?_
      intro T1114 X1115 e1116
      refine g_iload X1115 hx (hb hby da2_399) rfl ?_
      refine g_iconst X1115 hx (hb hby da2_401) (v := (1 : Int32)) (by decide) ?_
      refine g_iadd X1115 hx (hb hby da2_402) (show (2 : Int32) + (1 : Int32) = (3 : Int32) from by decide) ?_
      refine g_aloadN X1115 hx (hb hby da2_403) rfl rfl ?_
      refine g_getF X1115 hx hZ hown (hw _ (List.mem_of_getElem? (i := 30) rfl)) e1116 F1104 (hb hby da2_404) ?_
      intro T1117 X1118 e1119
      refine g_iload X1118 hx (hb hby da2_407) rfl ?_
      refine g_isub X1118 hx (hb hby da2_409) (show (2 : Int32) - (2 : Int32) = (0 : Int32) from by decide) ?_
      refine g_acp0 X1118 hx hZ hown (hw _ (List.mem_of_getElem? (i := 32) rfl)) (hw _ (List.mem_of_getElem? (i := 35) rfl)) (hw _ (List.mem_of_getElem? (i := 33) rfl)) (hw _ (List.mem_of_getElem? (i := 34) rfl)) e1119 F1103 rfl (own_fitB hB) (z := 4) (by decide) (by decide) (by decide) (by decide) (by decide) (by decide) N1093 g_ex (by rw [hml]; rfl) (hb hby da2_410) (by decide) (by decide) ?_
      intro T1120 h1121 L1122 X1123 e1124 N1125 K1126 F1127
      have F1128 := F1096.keep K1126
      have F1129 := F1097.keep K1126 (ninS ne_q1_ex nin0)
      have F1130 := F1098.keep K1126 (ninS ne_q1_ex nin0)
      have F1131 := F1099.keep K1126 (ninS ne_q1_ex nin0)
      have F1132 := F1100.keep K1126 (ninS ne_q1_ex nin0)
      have F1133 := F1102.keep K1126 (ninS ne_q1_ex nin0)
      have F1135 := F1104.keep K1126 (ninS ne_q1_ex nin0)
      have F1136 := F1105.keep K1126 (ninS ne_q1_ex nin0)
      have F1137 := F1106.keep K1126 (ninS ne_la_ex nin0)
      have F1138 := F1107.keep K1126 (ninS ne_ma_ex nin0)
      have F1139 := F1108.keep K1126 (ninS ne_si_ex nin0)
      have F1140 := F1095.keep K1126 (ninS ne_rh_ex nin0)
      have Z1141 : n0 ≤ h1121.size := Nat.le_trans Z1109 K1126.1
      refine g_aloadN X1123 hx (hb hby da2_413) rfl rfl ?_
      refine g_getF X1123 hx hZ hown (hw _ (List.mem_of_getElem? (i := 10) rfl)) e1124 F1129 (hb hby da2_414) ?_
      intro T1143 X1144 e1145
      refine g_iload X1144 hx (hb hby da2_417) rfl ?_
      refine g_iloadN X1144 hx (hb hby da2_419) rfl ?_
      refine g_iastore X1144 hx hZ e1145 F1137 (i := 2) (by decide) (by decide) (by decide) (hb hby da2_420) ?_
      intro T1146 h1149 X1147 e1148 W1150
      have F1151 := F1128.wr W1150
      have F1152 := F1129.other W1150 (Or.inl ne_q1_la)
      have F1153 := F1130.other W1150 (Or.inl ne_q1_la)
      have F1154 := F1131.other W1150 (Or.inl ne_q1_la)
      have F1155 := F1132.other W1150 (Or.inl ne_q1_la)
      have F1156 := F1133.other W1150 (Or.inl ne_q1_la)
      have F1157 := F1135.other W1150 (Or.inl ne_q1_la)
      have F1158 := F1136.other W1150 (Or.inl ne_q1_la)
      have F1159 := F1137.same W1150
      have F1160 := F1138.other W1150 ne_la_ma.symm
      have F1161 := F1139.other W1150 ne_la_si.symm
      have F1162 := F1140.other W1150 ne_la_rh.symm
      have F1163 := F1127.other W1150 ne_la_ex.symm
      have Z1164 : n0 ≤ h1149.size := by rw [W1150.size]; exact Z1141
      have N1165 := Fr.snoc X1147 N1125 g_la
      refine g_aloadN X1147 hx (hb hby da2_421) rfl rfl ?_
      refine g_getF X1147 hx hZ hown (hw _ (List.mem_of_getElem? (i := 13) rfl)) e1148 F1153 (hb hby da2_422) ?_
      intro T1166 X1167 e1168
      refine g_iload X1167 hx (hb hby da2_425) rfl ?_
      refine g_dloadN X1167 hx (hb hby da2_427) rfl ?_
      refine g_dastore X1167 hx hZ e1168 F1160 (i := 2) (by decide) (by decide) (by decide) (hb hby da2_428) ?_
      intro T1169 h1172 X1170 e1171 W1173
      have F1174 := F1151.wr W1173
      have F1175 := F1152.other W1173 (Or.inl ne_q1_ma)
      have F1176 := F1153.other W1173 (Or.inl ne_q1_ma)
      have F1177 := F1154.other W1173 (Or.inl ne_q1_ma)
      have F1178 := F1155.other W1173 (Or.inl ne_q1_ma)
      have F1179 := F1156.other W1173 (Or.inl ne_q1_ma)
      have F1180 := F1157.other W1173 (Or.inl ne_q1_ma)
      have F1181 := F1158.other W1173 (Or.inl ne_q1_ma)
      have F1182 := F1159.other W1173 ne_la_ma
      have F1183 := F1160.same W1173
      have F1184 := F1161.other W1173 ne_ma_si.symm
      have F1185 := F1162.other W1173 ne_ma_rh.symm
      have F1186 := F1163.other W1173 ne_ma_ex.symm
      have Z1187 : n0 ≤ h1172.size := by rw [W1173.size]; exact Z1164
      have N1188 := Fr.snoc X1170 N1165 g_ma
      refine g_aloadN X1170 hx (hb hby da2_429) rfl rfl ?_
      refine g_getF X1170 hx hZ hown (hw _ (List.mem_of_getElem? (i := 15) rfl)) e1171 F1177 (hb hby da2_430) ?_
      intro T1189 X1190 e1191
      refine g_iload X1190 hx (hb hby da2_433) rfl ?_
      refine g_dload X1190 hx (hb hby da2_435) rfl ?_
      refine g_dastore X1190 hx hZ e1191 F1184 (i := 2) (by decide) (by decide) (by decide) (hb hby da2_437) ?_
      intro T1192 h1195 X1193 e1194 W1196
      have F1197 := F1174.wr W1196
      have F1198 := F1175.other W1196 (Or.inl ne_q1_si)
      have F1199 := F1176.other W1196 (Or.inl ne_q1_si)
      have F1200 := F1177.other W1196 (Or.inl ne_q1_si)
      have F1201 := F1178.other W1196 (Or.inl ne_q1_si)
      have F1202 := F1179.other W1196 (Or.inl ne_q1_si)
      have F1203 := F1180.other W1196 (Or.inl ne_q1_si)
      have F1204 := F1181.other W1196 (Or.inl ne_q1_si)
      have F1205 := F1182.other W1196 ne_la_si
      have F1206 := F1183.other W1196 ne_ma_si
      have F1207 := F1184.same W1196
      have F1208 := F1185.other W1196 ne_si_rh.symm
      have F1209 := F1186.other W1196 ne_si_ex.symm
      have Z1210 : n0 ≤ h1195.size := by rw [W1196.size]; exact Z1187
      have N1211 := Fr.snoc X1193 N1188 g_si
      refine g_aloadN X1193 hx (hb hby da2_438) rfl rfl ?_
      refine g_getF X1193 hx hZ hown (hw _ (List.mem_of_getElem? (i := 17) rfl)) e1194 F1201 (hb hby da2_439) ?_
      intro T1212 X1213 e1214
      refine g_iload X1213 hx (hb hby da2_442) rfl ?_
      refine g_dload X1213 hx (hb hby da2_444) rfl ?_
      refine g_dastore X1213 hx hZ e1214 F1208 (i := 2) (by decide) (by decide) (by decide) (hb hby da2_446) ?_
      intro T1215 h1218 X1216 e1217 W1219
      have F1220 := F1197.wr W1219
      have F1221 := F1198.other W1219 (Or.inl ne_q1_rh)
      have F1222 := F1199.other W1219 (Or.inl ne_q1_rh)
      have F1223 := F1200.other W1219 (Or.inl ne_q1_rh)
      have F1224 := F1201.other W1219 (Or.inl ne_q1_rh)
      have F1225 := F1202.other W1219 (Or.inl ne_q1_rh)
      have F1226 := F1203.other W1219 (Or.inl ne_q1_rh)
      have F1227 := F1204.other W1219 (Or.inl ne_q1_rh)
      have F1228 := F1205.other W1219 ne_la_rh
      have F1229 := F1206.other W1219 ne_ma_rh
      have F1230 := F1207.other W1219 ne_si_rh
      have F1231 := F1208.same W1219
      have F1232 := F1209.other W1219 ne_rh_ex.symm
      have Z1233 : n0 ≤ h1218.size := by rw [W1219.size]; exact Z1210
      have N1234 := Fr.snoc X1216 N1211 g_rh
      refine g_aloadN X1216 hx (hb hby da2_447) rfl rfl ?_
      refine g_getF X1216 hx hZ hown (hw _ (List.mem_of_getElem? (i := 20) rfl)) e1217 F1225 (hb hby da2_448) ?_
      intro T1235 X1236 e1237
      refine g_iload X1236 hx (hb hby da2_451) rfl ?_
      refine g_iconst X1236 hx (hb hby da2_453) (v := (0 : Int32)) (by decide) ?_
      refine g_bastoreZ X1236 hx hZ e1237 F1232 (i := 2) (by decide) (by decide) (by decide) (hb hby da2_454) ?_
      intro T1238 h1241 X1239 e1240 W1242
      have F1243 := F1220.wr W1242
      have F1244 := F1221.other W1242 (Or.inl ne_q1_ex)
      have F1245 := F1222.other W1242 (Or.inl ne_q1_ex)
      have F1246 := F1223.other W1242 (Or.inl ne_q1_ex)
      have F1247 := F1224.other W1242 (Or.inl ne_q1_ex)
      have F1248 := F1225.other W1242 (Or.inl ne_q1_ex)
      have F1249 := F1226.other W1242 (Or.inl ne_q1_ex)
      have F1250 := F1227.other W1242 (Or.inl ne_q1_ex)
      have F1251 := F1228.other W1242 ne_la_ex
      have F1252 := F1229.other W1242 ne_ma_ex
      have F1253 := F1230.other W1242 ne_si_ex
      have F1254 := F1231.other W1242 ne_rh_ex
      have F1255 := F1232.same W1242
      have Z1256 : n0 ≤ h1241.size := by rw [W1242.size]; exact Z1233
      have N1257 := Fr.snoc X1239 N1234 g_ex
      refine g_aloadN X1239 hx (hb hby da2_455) rfl rfl ?_
      refine g_iload X1239 hx (hb hby da2_456) rfl ?_
      refine g_putF X1239 hx hZ hown (hw _ (List.mem_of_getElem? (i := 30) rfl)) e1240 F1249 F1243 (Or.inl (hw _ (List.mem_of_getElem? (i := 31) rfl))) (hw _ (List.mem_of_getElem? (i := 1) rfl)) (ty := .int) (by decide) rfl rfl (hb hby da2_458) ?_
      intro T1258 h1261 X1259 e1260 W1262
      have F1264 := F1243.wr W1262
      have F1265 := F1244.other W1262 (Or.inr (slot_ne (Or.inl (hw _ (List.mem_of_getElem? (i := 11) rfl))) (Or.inl (hw _ (List.mem_of_getElem? (i := 31) rfl))) (by decide) (t := (.array .int)) (t' := .int) (by decide) (by decide)))
      have F1266 := F1245.other W1262 (Or.inr (slot_ne (Or.inl (hw _ (List.mem_of_getElem? (i := 14) rfl))) (Or.inl (hw _ (List.mem_of_getElem? (i := 31) rfl))) (by decide) (t := (.array .double)) (t' := .int) (by decide) (by decide)))
      have F1267 := F1246.other W1262 (Or.inr (slot_ne (Or.inl (hw _ (List.mem_of_getElem? (i := 16) rfl))) (Or.inl (hw _ (List.mem_of_getElem? (i := 31) rfl))) (by decide) (t := (.array .double)) (t' := .int) (by decide) (by decide)))
      have F1268 := F1247.other W1262 (Or.inr (slot_ne (Or.inl (hw _ (List.mem_of_getElem? (i := 18) rfl))) (Or.inl (hw _ (List.mem_of_getElem? (i := 31) rfl))) (by decide) (t := (.array .double)) (t' := .int) (by decide) (by decide)))
      have F1269 := F1248.other W1262 (Or.inr (slot_ne (Or.inl (hw _ (List.mem_of_getElem? (i := 21) rfl))) (Or.inl (hw _ (List.mem_of_getElem? (i := 31) rfl))) (by decide) (t := (.array .boolean)) (t' := .int) (by decide) (by decide)))
      have F1270 := F1250.other W1262 (Or.inr (slot_ne (Or.inr (hw _ (List.mem_of_getElem? (i := 23) rfl))) (Or.inl (hw _ (List.mem_of_getElem? (i := 31) rfl))) (by decide) (t := .boolean) (t' := .int) (by decide) (by decide)))
      have F1271 := F1251.other W1262 ne_q1_la.symm
      have F1272 := F1252.other W1262 ne_q1_ma.symm
      have F1273 := F1253.other W1262 ne_q1_si.symm
      have F1274 := F1254.other W1262 ne_q1_rh.symm
      have F1275 := F1255.other W1262 ne_q1_ex.symm
      have F1276 := F1249.same W1262
      have Z1277 : n0 ≤ h1261.size := by rw [W1262.size]; exact Z1256
      have N1278 := Fr.snoc X1259 N1257 g_q1
      refine g_iconst X1259 hx (hb hby da2_461) (v := (1 : Int32)) (by decide) ?_
      refine g_ireturn X1259 hx Bd.notSynchronized Bd.returns rfl (by simp) (hb hby da2_462) (by decide) (by decide) ?_
      rw [e1260]
      exact ⟨rfl, N1278, Z1277, F1264, F1265, F1266, F1267, F1268, F1269, F1276, F1270, (F1271.congr (fun j _ => own_uI _ _ _ j)), (F1272.congr (fun j _ => own_uD _ _ _ j)), (F1273.congr (fun j _ => own_uD _ _ _ j)), (F1274.congr (fun j _ => own_uD _ _ _ j)), (F1275.congr (fun j _ => own_uI _ _ _ j)), own_uB hB (Or.inl rfl), ⟨⟨ne_q1_la, ne_q1_ma, ne_q1_si, ne_q1_rh, ne_q1_ex, ne_la_ma, ne_la_si, ne_la_rh, ne_la_ex, ne_ma_si, ne_ma_rh, ne_ma_ex, ne_si_rh, ne_si_ex, ne_rh_ex⟩, ⟨g_q1, g_la, g_ma, g_si, g_rh, g_ex⟩⟩⟩
theorem dt_0 : decode prog_29_method_5_code 0 = .ok (.aload_n 0, 1) := by decide +kernel
theorem dt_1 : decode prog_29_method_5_code 1 = .ok (.getfield 23, 3) := by decide +kernel
theorem dt_4 : decode prog_29_method_5_code 4 = .ok (.iload_n 1, 1) := by decide +kernel
theorem dt_5 : decode prog_29_method_5_code 5 = .ok (.baload, 1) := by decide +kernel
theorem dt_6 : decode prog_29_method_5_code 6 = .ok (.istore_n 2, 1) := by decide +kernel
theorem dt_7 : decode prog_29_method_5_code 7 = .ok (.aload_n 0, 1) := by decide +kernel
theorem dt_8 : decode prog_29_method_5_code 8 = .ok (.getfield 23, 3) := by decide +kernel
theorem dt_11 : decode prog_29_method_5_code 11 = .ok (.iload_n 1, 1) := by decide +kernel
theorem dt_12 : decode prog_29_method_5_code 12 = .ok (.iconst 1, 1) := by decide +kernel
theorem dt_13 : decode prog_29_method_5_code 13 = .ok (.bastore, 1) := by decide +kernel
theorem dt_14 : decode prog_29_method_5_code 14 = .ok (.iload_n 2, 1) := by decide +kernel
theorem dt_15 : decode prog_29_method_5_code 15 = .ok (.ifCond .ne 7, 3) := by decide +kernel
theorem dt_18 : decode prog_29_method_5_code 18 = .ok (.iconst 1, 1) := by decide +kernel
theorem dt_19 : decode prog_29_method_5_code 19 = .ok (.goto 4, 3) := by decide +kernel
theorem dt_22 : decode prog_29_method_5_code 22 = .ok (.iconst 0, 1) := by decide +kernel
theorem dt_23 : decode prog_29_method_5_code 23 = .ok (.ireturn, 1) := by decide +kernel
theorem pnt : plainName "com/example/skywright/skywright/search/Kept" = true := by first | (simp [plainName, overriddenIn]; done) | decide +kernel
theorem eft (m : MethodId) (z0 : Addr) (z1 : Int32) : entryFrame m #[(.ref z0), (.int z1)] 3 = mkF m 0 #[.val (.ref z0), .val (.int z1), .unset] [] := by first | (simp [entryFrame, mkF, argsToLocals, Value.category]; done) | rfl
def Qt (Z : State) (q1 : Addr) (q2 : Int32) (la : Addr) (ma : Addr) (si : Addr) (rh : Addr) (ex : Addr) (fg : Int32) (LA : Nat → Int32) (M : Nat → UInt64) (S : Nat → UInt64) (R : Nat → UInt64) (B : Nat → Int32) (h0 : Heap) (n0 : Nat) (v : Option Value) (h : Heap) (L : List Loc) : Prop := v = some (.int (own_t (B q2.toInt.toNat))) ∧ Fr n0 L ∧ n0 ≤ h.size ∧ own_K Z h n0 q1 la ma si rh ex 3 fg LA M S R (own_u B q2.toInt.toNat 1)
set_option maxRecDepth 65536 in
set_option maxHeartbeats 40000000 in
theorem rmt (l : Launch) (Z : State) (a0 : Array Value) (hw : ∀ d ∈ tables_1, d.before a0 Z = true) (ws : List Jvm.Cond) (q1 : Addr) (q2 : Int32) (la : Addr) (ma : Addr) (si : Addr) (rh : Addr) (ex : Addr) (fg : Int32) (LA : Nat → Int32) (M : Nat → UInt64) (S : Nat → UInt64) (R : Nat → UInt64) (B : Nat → Int32) (h0 : Heap) (n0 : Nat) (Z0 : n0 ≤ h0.size) (hK0 : own_K Z h0 n0 q1 la ma si rh ex 3 fg LA M S R B) (hbd : 0 ≤ q2.toInt ∧ q2.toInt < ((4 : Nat) : Int)) :
    MetFree l (⟨"com/example/skywright/skywright/search/Kept", "takeUnextended", "(I)Z"⟩ : MethodName) (head1 (Jvm.Cond.code (⟨"com/example/skywright/skywright/search/Kept", "takeUnextended", "(I)Z"⟩ : MethodName) prog_29_method_5_code 3 (Option.some Jvm.ClassFile.FieldType.boolean) :: ws) ({ frames := 0, cells := 0, slots := 0, locals := 0 } : Room)) (fun a U => a = #[(.ref q1), (.int q2)] ∧ Z.Warmed39 U.vm ∧ U.heap = h0) (fun _ _ _ _ _ => True) (fun _ U o U' => ∃ v L, o = .returned v ∧ Qt Z q1 q2 la ma si rh ex fg LA M S R B h0 n0 v U'.heap L ∧ FrameEnd U o U' L ({ frames := 0, cells := 0, slots := 0, locals := 0 } : Room).cells ({ frames := 0, cells := 0, slots := 0, locals := 0 } : Room).slots) := by
  refine MetFree.of_bodySF (plainFor_of_name pnt) hisR ?_
  intro p e s m args below meth c s₁ Bd hml0 hP hK
  obtain ⟨rfl, hZ, hh⟩ := hP
  have hx := Bd.exec
  have hby := Bd.bytes
  have hml : c.maxLocals = 3 := hml0
  have hown : s.vm.findClass "com/example/skywright/skywright/search/Kept" = some m.cls := findClass_of_methodNamed Bd.named
  have hnm := (name_of_methodNamed Bd.named Bd.method).1
  have X0 : Stand p l e ({ frames := 0, cells := 0, slots := 0, locals := 0 } : Room) s m #[(.ref q1), (.int q2)] below meth c s₁ [] 0 0 := Stand.of_body Bd
  have e0 : s₁.heap = h0 := by rw [← hh, Bd.state]; rfl
  have N0 := Fr.nil n0
  show Go p e below (Ret s (Qt Z q1 q2 la ma si rh ex fg LA M S R B h0 n0) ({ frames := 0, cells := 0, slots := 0, locals := 0 } : Room).cells ({ frames := 0, cells := 0, slots := 0, locals := 0 } : Room).slots) (s₁.setTop (entryFrame m #[(.ref q1), (.int q2)] 3))
  rw [eft m q1 q2]
  obtain ⟨E0, F_la, F_ma, F_si, F_rh, F_ex, F_sz, F_fg, A_la, A_ma, A_si, A_rh, A_ex, hB, ⟨ne_q1_la, ne_q1_ma, ne_q1_si, ne_q1_rh, ne_q1_ex, ne_la_ma, ne_la_si, ne_la_rh, ne_la_ex, ne_ma_si, ne_ma_rh, ne_ma_ex, ne_si_rh, ne_si_ex, ne_rh_ex⟩, ⟨g_q1, g_la, g_ma, g_si, g_rh, g_ex⟩⟩ := hK0
  refine g_aloadN X0 hx (hb hby dt_0) rfl rfl ?_
  refine g_getF X0 hx hZ hown (hw _ (List.mem_of_getElem? (i := 20) rfl)) e0 F_ex (hb hby dt_1) ?_
  intro T1 X2 e3
  refine g_iloadN X2 hx (hb hby dt_4) rfl ?_
  refine g_baloadZ X2 hx hZ e3 A_ex hbd.1 hbd.2 (i := q2.toInt.toNat) rfl rfl (hb hby dt_5) ?_
  refine g_istoreN X2 hx (hb hby dt_6) (L' := #[.val (.ref q1), .val (.int q2), .val (.int (B q2.toInt.toNat))]) rfl ?_
  refine g_aloadN X2 hx (hb hby dt_7) rfl rfl ?_
  refine g_getF X2 hx hZ hown (hw _ (List.mem_of_getElem? (i := 20) rfl)) e3 F_ex (hb hby dt_8) ?_
  intro T4 X5 e6
  refine g_iloadN X5 hx (hb hby dt_11) rfl ?_
  refine g_iconst X5 hx (hb hby dt_12) (v := (1 : Int32)) (by decide) ?_
  refine g_bastoreZ X5 hx hZ e6 A_ex (i := q2.toInt.toNat) hbd.1 hbd.2 rfl (hb hby dt_13) ?_
  intro T7 h10 X8 e9 W11
  have F12 := E0.wr W11
  have F13 := F_la.other W11 (Or.inl ne_q1_ex)
  have F14 := A_la.other W11 ne_la_ex
  have F15 := F_ma.other W11 (Or.inl ne_q1_ex)
  have F16 := A_ma.other W11 ne_ma_ex
  have F17 := F_si.other W11 (Or.inl ne_q1_ex)
  have F18 := A_si.other W11 ne_si_ex
  have F19 := F_rh.other W11 (Or.inl ne_q1_ex)
  have F20 := A_rh.other W11 ne_rh_ex
  have F21 := F_ex.other W11 (Or.inl ne_q1_ex)
  have F22 := A_ex.same W11
  have F23 := F_sz.other W11 (Or.inl ne_q1_ex)
  have F24 := F_fg.other W11 (Or.inl ne_q1_ex)
  have Z25 : n0 ≤ h10.size := by rw [W11.size]; exact Z0
  have N26 := Fr.snoc X8 N0 g_ex
  refine g_iloadN X8 hx (hb hby dt_14) rfl ?_
  by_cases hc15_27 : (B q2.toInt.toNat) = (0 : Int32)
  ·
    refine g_ifNo X8 hx (hb hby dt_15) (teq hc15_27).2 ?_
    refine g_iconst X8 hx (hb hby dt_18) (v := (1 : Int32)) (by decide) ?_
    refine g_goto X8 hx (hb hby dt_19) (by decide) (pc' := 23) (by decide) ?_
    refine g_ireturn X8 hx Bd.notSynchronized Bd.returns rfl (by simp) (hb hby dt_23) (by decide) (by decide) ?_
    have ht : some (Value.int (1 : Int32)) = some (.int (own_t (B q2.toInt.toNat))) := by unfold own_t; rw [if_pos hc15_27]
    rw [e9]
    exact ⟨ht, N26, Z25, F12, F13, F15, F17, F19, F21, F23, F24, F14, F16, F18, F20, (F22.congr (fun j _ => own_uI _ _ _ j)), own_uB hB (Or.inr rfl), ⟨⟨ne_q1_la, ne_q1_ma, ne_q1_si, ne_q1_rh, ne_q1_ex, ne_la_ma, ne_la_si, ne_la_rh, ne_la_ex, ne_ma_si, ne_ma_rh, ne_ma_ex, ne_si_rh, ne_si_ex, ne_rh_ex⟩, ⟨g_q1, g_la, g_ma, g_si, g_rh, g_ex⟩⟩⟩
  ·
    refine g_ifYes X8 hx (hb hby dt_15) (feq hc15_27).2 (by decide) (pc' := 22) (by decide) ?_
    refine g_iconst X8 hx (hb hby dt_22) (v := (0 : Int32)) (by decide) ?_
    refine g_ireturn X8 hx Bd.notSynchronized Bd.returns rfl (by simp) (hb hby dt_23) (by decide) (by decide) ?_
    have ht : some (Value.int (0 : Int32)) = some (.int (own_t (B q2.toInt.toNat))) := by unfold own_t; rw [if_neg hc15_27]
    rw [e9]
    exact ⟨ht, N26, Z25, F12, F13, F15, F17, F19, F21, F23, F24, F14, F16, F18, F20, (F22.congr (fun j _ => own_uI _ _ _ j)), own_uB hB (Or.inr rfl), ⟨⟨ne_q1_la, ne_q1_ma, ne_q1_si, ne_q1_rh, ne_q1_ex, ne_la_ma, ne_la_si, ne_la_rh, ne_la_ex, ne_ma_si, ne_ma_rh, ne_ma_ex, ne_si_rh, ne_si_ex, ne_rh_ex⟩, ⟨g_q1, g_la, g_ma, g_si, g_rh, g_ex⟩⟩⟩
theorem ds_0 : decode prog_29_method_3_code 0 = .ok (.aload_n 0, 1) := by decide +kernel
theorem ds_1 : decode prog_29_method_3_code 1 = .ok (.getfield 31, 3) := by decide +kernel
theorem ds_4 : decode prog_29_method_3_code 4 = .ok (.ireturn, 1) := by decide +kernel
theorem pns : plainName "com/example/skywright/skywright/search/Kept" = true := by first | (simp [plainName, overriddenIn]; done) | decide +kernel
theorem efs (m : MethodId) (z0 : Addr) : entryFrame m #[(.ref z0)] 1 = mkF m 0 #[.val (.ref z0)] [] := by first | (simp [entryFrame, mkF, argsToLocals, Value.category]; done) | rfl
def Qs (Z : State) (q1 : Addr) (h0 : Heap) (n0 : Nat) (v : Option Value) (h : Heap) (L : List Loc) : Prop := v = some (.int 3) ∧ Fr n0 L ∧ h = h0
set_option maxRecDepth 65536 in
set_option maxHeartbeats 40000000 in
theorem rms (l : Launch) (Z : State) (a0 : Array Value) (hw : ∀ d ∈ tables_1, d.before a0 Z = true) (ws : List Jvm.Cond) (q1 : Addr) (h0 : Heap) (n0 : Nat) (Z0 : n0 ≤ h0.size) (F1 : Fld Z h0 q1 "com/example/skywright/skywright/search/Kept" "size" "I" (.int 3)) :
    MetFree l (⟨"com/example/skywright/skywright/search/Kept", "size", "()I"⟩ : MethodName) (head1 (Jvm.Cond.code (⟨"com/example/skywright/skywright/search/Kept", "size", "()I"⟩ : MethodName) prog_29_method_3_code 1 (Option.some Jvm.ClassFile.FieldType.int) :: ws) ({ frames := 0, cells := 0, slots := 0, locals := 0 } : Room)) (fun a U => a = #[(.ref q1)] ∧ Z.Warmed39 U.vm ∧ U.heap = h0) (fun _ _ _ _ _ => True) (fun _ U o U' => ∃ v L, o = .returned v ∧ Qs Z q1 h0 n0 v U'.heap L ∧ FrameEnd U o U' L ({ frames := 0, cells := 0, slots := 0, locals := 0 } : Room).cells ({ frames := 0, cells := 0, slots := 0, locals := 0 } : Room).slots) := by
  refine MetFree.of_bodySF (plainFor_of_name pns) hisR ?_
  intro p e s m args below meth c s₁ Bd hml0 hP hK
  obtain ⟨rfl, hZ, hh⟩ := hP
  have hx := Bd.exec
  have hby := Bd.bytes
  have hml : c.maxLocals = 1 := hml0
  have hown : s.vm.findClass "com/example/skywright/skywright/search/Kept" = some m.cls := findClass_of_methodNamed Bd.named
  have hnm := (name_of_methodNamed Bd.named Bd.method).1
  have X0 : Stand p l e ({ frames := 0, cells := 0, slots := 0, locals := 0 } : Room) s m #[(.ref q1)] below meth c s₁ [] 0 0 := Stand.of_body Bd
  have e0 : s₁.heap = h0 := by rw [← hh, Bd.state]; rfl
  have N0 := Fr.nil n0
  show Go p e below (Ret s (Qs Z q1 h0 n0) ({ frames := 0, cells := 0, slots := 0, locals := 0 } : Room).cells ({ frames := 0, cells := 0, slots := 0, locals := 0 } : Room).slots) (s₁.setTop (entryFrame m #[(.ref q1)] 1))
  rw [efs m q1]
  refine g_aloadN X0 hx (hb hby ds_0) rfl rfl ?_
  refine g_getF X0 hx hZ hown (hw _ (List.mem_of_getElem? (i := 30) rfl)) e0 F1 (hb hby ds_1) ?_
  intro T1 X2 e3
  refine g_ireturn X2 hx Bd.notSynchronized Bd.returns rfl (by simp) (hb hby ds_4) (by decide) (by decide) ?_
  exact ⟨rfl, N0, e3⟩
theorem dl_0 : decode prog_29_method_4_code 0 = .ok (.aload_n 0, 1) := by decide +kernel
theorem dl_1 : decode prog_29_method_4_code 1 = .ok (.getfield 7, 3) := by decide +kernel
theorem dl_4 : decode prog_29_method_4_code 4 = .ok (.iload_n 1, 1) := by decide +kernel
theorem dl_5 : decode prog_29_method_4_code 5 = .ok (.iaload, 1) := by decide +kernel
theorem dl_6 : decode prog_29_method_4_code 6 = .ok (.ireturn, 1) := by decide +kernel
theorem pnl : plainName "com/example/skywright/skywright/search/Kept" = true := by first | (simp [plainName, overriddenIn]; done) | decide +kernel
theorem efl (m : MethodId) (z0 : Addr) (z1 : Int32) : entryFrame m #[(.ref z0), (.int z1)] 2 = mkF m 0 #[.val (.ref z0), .val (.int z1)] [] := by first | (simp [entryFrame, mkF, argsToLocals, Value.category]; done) | rfl
def Ql (Z : State) (q1 : Addr) (q2 : Int32) (la : Addr) (G : Nat → Int32) (h0 : Heap) (n0 : Nat) (v : Option Value) (h : Heap) (L : List Loc) : Prop := v = some (.int (G q2.toInt.toNat)) ∧ Fr n0 L ∧ h = h0
set_option maxRecDepth 65536 in
set_option maxHeartbeats 40000000 in
theorem rml (l : Launch) (Z : State) (a0 : Array Value) (hw : ∀ d ∈ tables_1, d.before a0 Z = true) (ws : List Jvm.Cond) (q1 : Addr) (q2 : Int32) (la : Addr) (G : Nat → Int32) (h0 : Heap) (n0 : Nat) (Z0 : n0 ≤ h0.size) (F1 : Fld Z h0 q1 "com/example/skywright/skywright/search/Kept" "labels" "[I" (.ref la)) (A1 : Av Z h0 la .int 4 (fun i => .int (G i))) (hbd : 0 ≤ q2.toInt ∧ q2.toInt < ((4 : Nat) : Int)) :
    MetFree l (⟨"com/example/skywright/skywright/search/Kept", "label", "(I)I"⟩ : MethodName) (head1 (Jvm.Cond.code (⟨"com/example/skywright/skywright/search/Kept", "label", "(I)I"⟩ : MethodName) prog_29_method_4_code 2 (Option.some Jvm.ClassFile.FieldType.int) :: ws) ({ frames := 0, cells := 0, slots := 0, locals := 0 } : Room)) (fun a U => a = #[(.ref q1), (.int q2)] ∧ Z.Warmed39 U.vm ∧ U.heap = h0) (fun _ _ _ _ _ => True) (fun _ U o U' => ∃ v L, o = .returned v ∧ Ql Z q1 q2 la G h0 n0 v U'.heap L ∧ FrameEnd U o U' L ({ frames := 0, cells := 0, slots := 0, locals := 0 } : Room).cells ({ frames := 0, cells := 0, slots := 0, locals := 0 } : Room).slots) := by
  refine MetFree.of_bodySF (plainFor_of_name pnl) hisR ?_
  intro p e s m args below meth c s₁ Bd hml0 hP hK
  obtain ⟨rfl, hZ, hh⟩ := hP
  have hx := Bd.exec
  have hby := Bd.bytes
  have hml : c.maxLocals = 2 := hml0
  have hown : s.vm.findClass "com/example/skywright/skywright/search/Kept" = some m.cls := findClass_of_methodNamed Bd.named
  have hnm := (name_of_methodNamed Bd.named Bd.method).1
  have X0 : Stand p l e ({ frames := 0, cells := 0, slots := 0, locals := 0 } : Room) s m #[(.ref q1), (.int q2)] below meth c s₁ [] 0 0 := Stand.of_body Bd
  have e0 : s₁.heap = h0 := by rw [← hh, Bd.state]; rfl
  have N0 := Fr.nil n0
  show Go p e below (Ret s (Ql Z q1 q2 la G h0 n0) ({ frames := 0, cells := 0, slots := 0, locals := 0 } : Room).cells ({ frames := 0, cells := 0, slots := 0, locals := 0 } : Room).slots) (s₁.setTop (entryFrame m #[(.ref q1), (.int q2)] 2))
  rw [efl m q1 q2]
  refine g_aloadN X0 hx (hb hby dl_0) rfl rfl ?_
  refine g_getF X0 hx hZ hown (hw _ (List.mem_of_getElem? (i := 10) rfl)) e0 F1 (hb hby dl_1) ?_
  intro T1 X2 e3
  refine g_iloadN X2 hx (hb hby dl_4) rfl ?_
  refine g_iaload X2 hx hZ e3 A1 hbd.1 hbd.2 (i := q2.toInt.toNat) rfl rfl (hb hby dl_5) ?_
  refine g_ireturn X2 hx Bd.notSynchronized Bd.returns rfl (by simp) (hb hby dl_6) (by decide) (by decide) ?_
  exact ⟨rfl, N0, e3⟩
theorem pn0 : plainName "com/example/skywright/skywright/search/KeptTakeUnextendedPinLaw" = true := by first | (simp [plainName, overriddenIn]; done) | decide +kernel
theorem pd0_0 : parseMethodDescriptor "(Z)V" = some ⟨[.boolean], none⟩ := by decide +kernel
theorem pd0_1 : parseMethodDescriptor "(IDDD)Z" = some ⟨[.int, .double, .double, .double], some .boolean⟩ := by decide +kernel
theorem pd0_2 : parseMethodDescriptor "()I" = some ⟨[], some .int⟩ := by decide +kernel
theorem pd0_3 : parseMethodDescriptor "(I)Z" = some ⟨[.int], some .boolean⟩ := by decide +kernel
theorem pd0_4 : parseMethodDescriptor "(I)I" = some ⟨[.int], some .int⟩ := by decide +kernel
theorem ef0 (m : MethodId) (z0 : Int32) (z1 : Int32) (z2 : Int32) (z3 : Int32) : entryFrame m #[(.int z0), (.int z1), (.int z2), (.int z3)] maxLocals = mkF m 0 #[.val (.int z0), .val (.int z1), .val (.int z2), .val (.int z3), .unset, .unset, .unset, .unset, .unset, .unset, .unset, .unset, .unset] [] := by first | (simp [entryFrame, mkF, argsToLocals, Value.category, maxLocals]; done) | rfl
def Q0 (Z : State) (q0 : Int32) (q1 : Int32) (q2 : Int32) (q3 : Int32) (h0 : Heap) (n0 : Nat) (v : Option Value) (h : Heap) (L : List Loc) : Prop := v = some (.int 1) ∧ Fr n0 L
set_option maxRecDepth 65536 in
set_option maxHeartbeats 40000000 in
theorem rm0 (l : Launch) (Z : State) (a0 : Array Value) (hw : ∀ d ∈ tables_1, d.before a0 Z = true) (ws : List Jvm.Cond) (q0 : Int32) (q1 : Int32) (q2 : Int32) (q3 : Int32) (h0 : Heap) (n0 : Nat) (Z0 : n0 ≤ h0.size)  :
    MetFree l x (head1 (Jvm.Cond.code x code maxLocals ret :: ws) room_1) (fun a U => a = #[(.int q0), (.int q1), (.int q2), (.int q3)] ∧ Z.Warmed39 U.vm ∧ U.heap = h0) (fun _ _ _ _ _ => True) (fun _ U o U' => ∃ v L, o = .returned v ∧ Q0 Z q0 q1 q2 q3 h0 n0 v U'.heap L ∧ FrameEnd U o U' L 24 128) := by
  refine MetFree.of_bodySF (plainFor_of_name pn0) hisR ?_
  intro p e s m args below meth c s₁ Bd hml0 hP hK
  obtain ⟨rfl, hZ, hh⟩ := hP
  have hx := Bd.exec
  have hby := Bd.bytes
  have hml : c.maxLocals = 13 := hml0
  have hown : s.vm.findClass "com/example/skywright/skywright/search/KeptTakeUnextendedPinLaw" = some m.cls := findClass_of_methodNamed Bd.named
  have hnm := (name_of_methodNamed Bd.named Bd.method).1
  have X0 : Stand p l e room_1 s m #[(.int q0), (.int q1), (.int q2), (.int q3)] below meth c s₁ [] 0 0 := Stand.of_body Bd
  have e0 : s₁.heap = h0 := by rw [← hh, Bd.state]; rfl
  have N0 := Fr.nil n0
  show Go p e below (Ret s (Q0 Z q0 q1 q2 q3 h0 n0) 24 128) (s₁.setTop (entryFrame m #[(.int q0), (.int q1), (.int q2), (.int q3)] maxLocals))
  rw [ef0 m q0 q1 q2 q3]
  refine g_new X0 hx hZ hown (hw _ (List.mem_of_getElem? (i := 0) rfl)) (hw _ (List.mem_of_getElem? (i := 1) rfl)) (hw _ (List.mem_of_getElem? (i := 2) rfl)) e0 (hb hby at_0) (by decide) (by decide) ?_
  intro T1 h4 ke gke X2 e3 E5 F6 D7
  have ge_ke : n0 ≤ ke := by rw [gke]; exact Z0
  have Z9 : n0 ≤ h4.size := Nat.le_trans Z0 E5.1
  have F11 : Fld Z h4 ke "com/example/skywright/skywright/search/Kept" "size" "I" (.int (0 : Int32)) := D7 (Or.inl (hw _ (List.mem_of_getElem? (i := 31) rfl))) (ty := .int) (by decide)
  refine g_dup X2 hx (hb hby at_3) rfl ?_
  have J15 : ∀ (fg : Int32), (fg = 0 ∨ fg = 1) → Go p e below (Ret s (Q0 Z q0 q1 q2 q3 h0 n0) 24 128) (T1.setTop (mkF m 15 #[.val (.int q0), .val (.int q1), .val (.int q2), .val (.int q3), .unset, .unset, .unset, .unset, .unset, .unset, .unset, .unset, .unset] [(.int fg), (.ref ke), (.ref ke)])) := by
    intro fg hfg
    refine g_init X2 hx hZ hown rfl (hw _ (List.mem_of_getElem? (i := 3) rfl)) (hw _ (List.mem_of_getElem? (i := 4) rfl)) (hw _ (List.mem_of_getElem? (i := 2) rfl)) (hw _ (List.mem_of_getElem? (i := 5) rfl)) (by decide) (rmi l Z a0 hw [] ke fg h4 n0 Z9 F6 F11 ge_ke hfg) e3 (W := 1) (by decide) (by decide) (by rw [hml]; rfl) ke [(.int fg)] [(.ref ke)] (lenOf pd0_0 rfl) rfl rfl (Nat.le_of_eq rfl) (hb hby at_15) (by decide) (by decide) ?_
    intro v17 T13 L16 X14 hQ15
    obtain ⟨rfl, N18, Z19, la, ma, si, rh, ex, HK20⟩ := hQ15
    have N21 := Fr.app N0 N18
    show Go p e below (Ret s (Q0 Z q0 q1 q2 q3 h0 n0) 24 128) (T13.setTop (mkF m 18 #[.val (.int q0), .val (.int q1), .val (.int q2), .val (.int q3), .unset, .unset, .unset, .unset, .unset, .unset, .unset, .unset, .unset] [(.ref ke)]))
    refine g_astore X14 hx (hb hby at_18) rfl (L' := #[.val (.int q0), .val (.int q1), .val (.int q2), .val (.int q3), .val (.ref ke), .unset, .unset, .unset, .unset, .unset, .unset, .unset, .unset]) rfl ?_
    refine g_aload X14 hx (hb hby at_20) rfl rfl ?_
    refine g_bipush X14 hx (hb hby at_22) (v := (10 : Int32)) (by decide) ?_
    refine g_ldc2D X14 hx hZ hown (hw _ (List.mem_of_getElem? (i := 24) rfl)) (hb hby at_24) ?_
    refine g_ldc2D X14 hx hZ hown (hw _ (List.mem_of_getElem? (i := 24) rfl)) (hb hby at_27) ?_
    refine g_dconst1 X14 hx (hb hby at_30) ?_
    refine g_callV X14 hx hZ hown (hw _ (List.mem_of_getElem? (i := 25) rfl)) (hw _ (List.mem_of_getElem? (i := 26) rfl)) (hw _ (List.mem_of_getElem? (i := 28) rfl)) (hw _ (List.mem_of_getElem? (i := 27) rfl)) (hw _ (List.mem_of_getElem? (i := 2) rfl)) (hw _ (List.mem_of_getElem? (i := 29) rfl)) (by decide) (rma0 l Z a0 hw [] ke la ma si rh ex fg (fun _ => 0) (fun _ => 0) (fun _ => 0) (fun _ => 0) (fun _ => 0) T13.heap n0 Z19 HK20 ) rfl (W := 0) (by decide) (by decide) (by rw [hml]; rfl) ke HK20.1 [(.int (10 : Int32)), (.double (4613937818241073152 : UInt64)), (.double (4613937818241073152 : UInt64)), (.double (4607182418800017408 : UInt64))] [] (lenOf pd0_1 rfl) rfl rfl (Nat.le_of_eq rfl) (hb hby at_31) (by decide) (by decide) ?_
    intro v26 T22 L25 X23 hQ24
    obtain ⟨rfl, N27, Z28, HK29⟩ := hQ24
    have N30 := Fr.app N21 N27
    show Go p e below (Ret s (Q0 Z q0 q1 q2 q3 h0 n0) 24 128) (T22.setTop (mkF m 34 #[.val (.int q0), .val (.int q1), .val (.int q2), .val (.int q3), .val (.ref ke), .unset, .unset, .unset, .unset, .unset, .unset, .unset, .unset] [(.int (1 : Int32))]))
    have hc34_31 : ¬ ((1 : Int32) = (0 : Int32)) := (by decide)
    refine g_ifNo X23 hx (hb hby at_34) (feq hc34_31).1 ?_
    refine g_aload X23 hx (hb hby at_37) rfl rfl ?_
    refine g_bipush X23 hx (hb hby at_39) (v := (20 : Int32)) (by decide) ?_
    refine g_ldc2D X23 hx hZ hown (hw _ (List.mem_of_getElem? (i := 36) rfl)) (hb hby at_41) ?_
    refine g_ldc2D X23 hx hZ hown (hw _ (List.mem_of_getElem? (i := 36) rfl)) (hb hby at_44) ?_
    refine g_ldc2D X23 hx hZ hown (hw _ (List.mem_of_getElem? (i := 36) rfl)) (hb hby at_47) ?_
    refine g_callV X23 hx hZ hown (hw _ (List.mem_of_getElem? (i := 25) rfl)) (hw _ (List.mem_of_getElem? (i := 26) rfl)) (hw _ (List.mem_of_getElem? (i := 28) rfl)) (hw _ (List.mem_of_getElem? (i := 27) rfl)) (hw _ (List.mem_of_getElem? (i := 2) rfl)) (hw _ (List.mem_of_getElem? (i := 29) rfl)) (by decide) (rma1 l Z a0 hw [] ke la ma si rh ex fg (own_u (fun _ => 0) 0 10) (own_u (fun _ => 0) 0 (4613937818241073152 : UInt64)) (own_u (fun _ => 0) 0 (4613937818241073152 : UInt64)) (own_u (fun _ => 0) 0 (4607182418800017408 : UInt64)) (own_u (fun _ => 0) 0 0) T22.heap n0 Z28 HK29 (by decide) (by decide) (by decide)) rfl (W := 0) (by decide) (by decide) (by rw [hml]; rfl) ke HK29.1 [(.int (20 : Int32)), (.double (4611686018427387904 : UInt64)), (.double (4611686018427387904 : UInt64)), (.double (4611686018427387904 : UInt64))] [] (lenOf pd0_1 rfl) rfl rfl (Nat.le_of_eq rfl) (hb hby at_50) (by decide) (by decide) ?_
    intro v36 T32 L35 X33 hQ34
    obtain ⟨rfl, N37, Z38, HK39⟩ := hQ34
    have N40 := Fr.app N30 N37
    show Go p e below (Ret s (Q0 Z q0 q1 q2 q3 h0 n0) 24 128) (T32.setTop (mkF m 53 #[.val (.int q0), .val (.int q1), .val (.int q2), .val (.int q3), .val (.ref ke), .unset, .unset, .unset, .unset, .unset, .unset, .unset, .unset] [(.int (1 : Int32))]))
    have hc53_41 : ¬ ((1 : Int32) = (0 : Int32)) := (by decide)
    refine g_ifNo X33 hx (hb hby at_53) (feq hc53_41).1 ?_
    refine g_aload X33 hx (hb hby at_56) rfl rfl ?_
    refine g_bipush X33 hx (hb hby at_58) (v := (30 : Int32)) (by decide) ?_
    refine g_dconst1 X33 hx (hb hby at_60) ?_
    refine g_dconst1 X33 hx (hb hby at_61) ?_
    refine g_ldc2D X33 hx hZ hown (hw _ (List.mem_of_getElem? (i := 24) rfl)) (hb hby at_62) ?_
    refine g_callV X33 hx hZ hown (hw _ (List.mem_of_getElem? (i := 25) rfl)) (hw _ (List.mem_of_getElem? (i := 26) rfl)) (hw _ (List.mem_of_getElem? (i := 28) rfl)) (hw _ (List.mem_of_getElem? (i := 27) rfl)) (hw _ (List.mem_of_getElem? (i := 2) rfl)) (hw _ (List.mem_of_getElem? (i := 29) rfl)) (by decide) (rma2 l Z a0 hw [] ke la ma si rh ex fg (own_u (own_u (fun _ => 0) 0 10) 1 20) (own_u (own_u (fun _ => 0) 0 (4613937818241073152 : UInt64)) 1 (4611686018427387904 : UInt64)) (own_u (own_u (fun _ => 0) 0 (4613937818241073152 : UInt64)) 1 (4611686018427387904 : UInt64)) (own_u (own_u (fun _ => 0) 0 (4607182418800017408 : UInt64)) 1 (4611686018427387904 : UInt64)) (own_u (own_u (fun _ => 0) 0 0) 1 0) T32.heap n0 Z38 HK39 (by decide) (by decide) (by decide) (by decide) (by decide) (by decide)) rfl (W := 0) (by decide) (by decide) (by rw [hml]; rfl) ke HK39.1 [(.int (30 : Int32)), (.double (4607182418800017408 : UInt64)), (.double (4607182418800017408 : UInt64)), (.double (4613937818241073152 : UInt64))] [] (lenOf pd0_1 rfl) rfl rfl (Nat.le_of_eq rfl) (hb hby at_65) (by decide) (by decide) ?_
    intro v46 T42 L45 X43 hQ44
    obtain ⟨rfl, N47, Z48, HK49⟩ := hQ44
    have N50 := Fr.app N40 N47
    show Go p e below (Ret s (Q0 Z q0 q1 q2 q3 h0 n0) 24 128) (T42.setTop (mkF m 68 #[.val (.int q0), .val (.int q1), .val (.int q2), .val (.int q3), .val (.ref ke), .unset, .unset, .unset, .unset, .unset, .unset, .unset, .unset] [(.int (1 : Int32))]))
    have hc68_51 : ¬ ((1 : Int32) = (0 : Int32)) := (by decide)
    refine g_ifNo X43 hx (hb hby at_68) (feq hc68_51).1 ?_
    refine g_iconst X43 hx (hb hby at_71) (v := (1 : Int32)) (by decide) ?_
    refine g_goto X43 hx (hb hby at_72) (by decide) (pc' := 76) (by decide) ?_
    refine g_istore X43 hx (hb hby at_76) (L' := #[.val (.int q0), .val (.int q1), .val (.int q2), .val (.int q3), .val (.ref ke), .val (.int (1 : Int32)), .unset, .unset, .unset, .unset, .unset, .unset, .unset]) rfl ?_
    refine g_iload X43 hx (hb hby at_78) rfl ?_
    have hc80_52 : ¬ ((1 : Int32) = (0 : Int32)) := (by decide)
    refine g_ifNo X43 hx (hb hby at_80) (feq hc80_52).1 ?_
    refine g_aload X43 hx (hb hby at_83) rfl rfl ?_
    refine g_callV X43 hx hZ hown (hw _ (List.mem_of_getElem? (i := 37) rfl)) (hw _ (List.mem_of_getElem? (i := 38) rfl)) (hw _ (List.mem_of_getElem? (i := 40) rfl)) (hw _ (List.mem_of_getElem? (i := 39) rfl)) (hw _ (List.mem_of_getElem? (i := 2) rfl)) (hw _ (List.mem_of_getElem? (i := 41) rfl)) (by decide) (rms l Z a0 hw [] ke T42.heap n0 Z48 HK49.2.2.2.2.2.2.1) rfl (W := 0) (by decide) (by decide) (by rw [hml]; rfl) ke HK49.1 [] [] (lenOf pd0_2 rfl) rfl rfl (Nat.le_of_eq rfl) (hb hby at_85) (by decide) (by decide) ?_
    intro v57 T53 L56 X54 hQ55
    obtain ⟨rfl, N58, e59⟩ := hQ55
    have N60 := Fr.app N50 N58
    show Go p e below (Ret s (Q0 Z q0 q1 q2 q3 h0 n0) 24 128) (T53.setTop (mkF m 88 #[.val (.int q0), .val (.int q1), .val (.int q2), .val (.int q3), .val (.ref ke), .val (.int (1 : Int32)), .unset, .unset, .unset, .unset, .unset, .unset, .unset] [(.int (3 : Int32))]))
    refine g_iconst X54 hx (hb hby at_88) (v := (3 : Int32)) (by decide) ?_
    have hc89_61 : (3 : Int32) = (3 : Int32) := (by decide)
    refine g_icmpYes X54 hx (hb hby at_89) (teq hc89_61).1 (by decide) (pc' := 94) (by decide) ?_
    refine g_iloadN X54 hx (hb hby at_94) rfl ?_
    refine g_ldcI X54 hx hZ hown (hw _ (List.mem_of_getElem? (i := 42) rfl)) (hb hby at_95) ?_
    obtain ⟨i62, hi62⟩ : ∃ v : Int32, q1 &&& (2147483647 : Int32) = v := ⟨_, rfl⟩
    refine g_iand X54 hx (hb hby at_97) hi62 ?_
    refine g_iconst X54 hx (hb hby at_98) (v := (3 : Int32)) (by decide) ?_
    obtain ⟨ii, hii⟩ : ∃ v : Int32, i62 % (3 : Int32) = v := ⟨_, rfl⟩
    refine g_irem X54 hx (hb hby at_99) (by decide) hii ?_
    have b_ii : 0 ≤ ii.toInt ∧ ii.toInt < 3 := by
      have a := c_and q1 (2147483647 : Int32) (by decide)
      rw [hi62] at a
      have b := (c_iremV i62 (3 : Int32)).1 a.1 (by decide)
      rw [hii] at b
      have z : (3 : Int32).toInt = 3 := rfl
      omega
    have d_ii : 0 ≤ ii.toInt ∧ ii.toInt < ((4 : Nat) : Int) := by omega
    refine g_istore X54 hx (hb hby at_100) (L' := #[.val (.int q0), .val (.int q1), .val (.int q2), .val (.int q3), .val (.ref ke), .val (.int (1 : Int32)), .val (.int ii), .unset, .unset, .unset, .unset, .unset, .unset]) rfl ?_
    refine g_iloadN X54 hx (hb hby at_102) rfl ?_
    refine g_ldcI X54 hx hZ hown (hw _ (List.mem_of_getElem? (i := 42) rfl)) (hb hby at_103) ?_
    obtain ⟨i63, hi63⟩ : ∃ v : Int32, q2 &&& (2147483647 : Int32) = v := ⟨_, rfl⟩
    refine g_iand X54 hx (hb hby at_105) hi63 ?_
    refine g_iconst X54 hx (hb hby at_106) (v := (3 : Int32)) (by decide) ?_
    obtain ⟨jj, hjj⟩ : ∃ v : Int32, i63 % (3 : Int32) = v := ⟨_, rfl⟩
    refine g_irem X54 hx (hb hby at_107) (by decide) hjj ?_
    have b_jj : 0 ≤ jj.toInt ∧ jj.toInt < 3 := by
      have a := c_and q2 (2147483647 : Int32) (by decide)
      rw [hi63] at a
      have b := (c_iremV i63 (3 : Int32)).1 a.1 (by decide)
      rw [hjj] at b
      have z : (3 : Int32).toInt = 3 := rfl
      omega
    have d_jj : 0 ≤ jj.toInt ∧ jj.toInt < ((4 : Nat) : Int) := by omega
    refine g_istore X54 hx (hb hby at_108) (L' := #[.val (.int q0), .val (.int q1), .val (.int q2), .val (.int q3), .val (.ref ke), .val (.int (1 : Int32)), .val (.int ii), .val (.int jj), .unset, .unset, .unset, .unset, .unset]) rfl ?_
    refine g_iloadN X54 hx (hb hby at_110) rfl ?_
    refine g_ldcI X54 hx hZ hown (hw _ (List.mem_of_getElem? (i := 42) rfl)) (hb hby at_111) ?_
    obtain ⟨i64, hi64⟩ : ∃ v : Int32, q3 &&& (2147483647 : Int32) = v := ⟨_, rfl⟩
    refine g_iand X54 hx (hb hby at_113) hi64 ?_
    refine g_iconst X54 hx (hb hby at_114) (v := (3 : Int32)) (by decide) ?_
    obtain ⟨kk, hkk⟩ : ∃ v : Int32, i64 % (3 : Int32) = v := ⟨_, rfl⟩
    refine g_irem X54 hx (hb hby at_115) (by decide) hkk ?_
    have b_kk : 0 ≤ kk.toInt ∧ kk.toInt < 3 := by
      have a := c_and q3 (2147483647 : Int32) (by decide)
      rw [hi64] at a
      have b := (c_iremV i64 (3 : Int32)).1 a.1 (by decide)
      rw [hkk] at b
      have z : (3 : Int32).toInt = 3 := rfl
      omega
    have d_kk : 0 ≤ kk.toInt ∧ kk.toInt < ((4 : Nat) : Int) := by omega
    obtain ⟨BB, hBB⟩ : ∃ f : Nat → Int32, (own_u (own_u (own_u (fun _ => 0) 0 0) 1 0) 2 0) = f := ⟨_, rfl⟩
    have hB0 : ∀ i, BB i = 0 := by
      intro i; rw [← hBB]; unfold own_u; repeat (first | rfl | split)
    rw [hBB] at HK49
    refine g_istore X54 hx (hb hby at_116) (L' := #[.val (.int q0), .val (.int q1), .val (.int q2), .val (.int q3), .val (.ref ke), .val (.int (1 : Int32)), .val (.int ii), .val (.int jj), .val (.int kk), .unset, .unset, .unset, .unset]) rfl ?_
    refine g_aload X54 hx (hb hby at_118) rfl rfl ?_
    refine g_iload X54 hx (hb hby at_120) rfl ?_
    refine g_callV X54 hx hZ hown (hw _ (List.mem_of_getElem? (i := 43) rfl)) (hw _ (List.mem_of_getElem? (i := 44) rfl)) (hw _ (List.mem_of_getElem? (i := 46) rfl)) (hw _ (List.mem_of_getElem? (i := 45) rfl)) (hw _ (List.mem_of_getElem? (i := 2) rfl)) (hw _ (List.mem_of_getElem? (i := 47) rfl)) (by decide) (rmt l Z a0 hw [] ke ii la ma si rh ex fg (own_u (own_u (own_u (fun _ => 0) 0 10) 1 20) 2 30) (own_u (own_u (own_u (fun _ => 0) 0 (4613937818241073152 : UInt64)) 1 (4611686018427387904 : UInt64)) 2 (4607182418800017408 : UInt64)) (own_u (own_u (own_u (fun _ => 0) 0 (4613937818241073152 : UInt64)) 1 (4611686018427387904 : UInt64)) 2 (4607182418800017408 : UInt64)) (own_u (own_u (own_u (fun _ => 0) 0 (4607182418800017408 : UInt64)) 1 (4611686018427387904 : UInt64)) 2 (4613937818241073152 : UInt64)) BB T42.heap n0 Z48 HK49 d_ii) e59 (W := 0) (by decide) (by decide) (by rw [hml]; rfl) ke HK49.1 [(.int ii)] [] (lenOf pd0_3 rfl) rfl rfl (Nat.le_of_eq rfl) (hb hby at_122) (by decide) (by decide) ?_
    intro v69 T65 L68 X66 hQ67
    obtain ⟨rfl, N70, Z71, HK72⟩ := hQ67
    have N73 := Fr.app N60 N70
    show Go p e below (Ret s (Q0 Z q0 q1 q2 q3 h0 n0) 24 128) (T65.setTop (mkF m 125 #[.val (.int q0), .val (.int q1), .val (.int q2), .val (.int q3), .val (.ref ke), .val (.int (1 : Int32)), .val (.int ii), .val (.int jj), .val (.int kk), .unset, .unset, .unset, .unset] [(.int (own_t (BB ii.toInt.toNat)))]))
    obtain ⟨t0, ht0⟩ : ∃ v : Int32, (own_t (BB ii.toInt.toNat)) = v := ⟨_, rfl⟩
    rw [ht0]
    refine g_istore X66 hx (hb hby at_125) (L' := #[.val (.int q0), .val (.int q1), .val (.int q2), .val (.int q3), .val (.ref ke), .val (.int (1 : Int32)), .val (.int ii), .val (.int jj), .val (.int kk), .val (.int t0), .unset, .unset, .unset]) rfl ?_
    refine g_aload X66 hx (hb hby at_127) rfl rfl ?_
    refine g_iload X66 hx (hb hby at_129) rfl ?_
    refine g_callV X66 hx hZ hown (hw _ (List.mem_of_getElem? (i := 43) rfl)) (hw _ (List.mem_of_getElem? (i := 44) rfl)) (hw _ (List.mem_of_getElem? (i := 46) rfl)) (hw _ (List.mem_of_getElem? (i := 45) rfl)) (hw _ (List.mem_of_getElem? (i := 2) rfl)) (hw _ (List.mem_of_getElem? (i := 47) rfl)) (by decide) (rmt l Z a0 hw [] ke jj la ma si rh ex fg (own_u (own_u (own_u (fun _ => 0) 0 10) 1 20) 2 30) (own_u (own_u (own_u (fun _ => 0) 0 (4613937818241073152 : UInt64)) 1 (4611686018427387904 : UInt64)) 2 (4607182418800017408 : UInt64)) (own_u (own_u (own_u (fun _ => 0) 0 (4613937818241073152 : UInt64)) 1 (4611686018427387904 : UInt64)) 2 (4607182418800017408 : UInt64)) (own_u (own_u (own_u (fun _ => 0) 0 (4607182418800017408 : UInt64)) 1 (4611686018427387904 : UInt64)) 2 (4613937818241073152 : UInt64)) (own_u BB ii.toInt.toNat 1) T65.heap n0 Z71 HK72 d_jj) rfl (W := 0) (by decide) (by decide) (by rw [hml]; rfl) ke HK72.1 [(.int jj)] [] (lenOf pd0_3 rfl) rfl rfl (Nat.le_of_eq rfl) (hb hby at_131) (by decide) (by decide) ?_
    intro v78 T74 L77 X75 hQ76
    obtain ⟨rfl, N79, Z80, HK81⟩ := hQ76
    have N82 := Fr.app N73 N79
    show Go p e below (Ret s (Q0 Z q0 q1 q2 q3 h0 n0) 24 128) (T74.setTop (mkF m 134 #[.val (.int q0), .val (.int q1), .val (.int q2), .val (.int q3), .val (.ref ke), .val (.int (1 : Int32)), .val (.int ii), .val (.int jj), .val (.int kk), .val (.int t0), .unset, .unset, .unset] [(.int (own_t ((own_u BB ii.toInt.toNat 1) jj.toInt.toNat)))]))
    obtain ⟨t1, ht1⟩ : ∃ v : Int32, (own_t ((own_u BB ii.toInt.toNat 1) jj.toInt.toNat)) = v := ⟨_, rfl⟩
    rw [ht1]
    refine g_istore X75 hx (hb hby at_134) (L' := #[.val (.int q0), .val (.int q1), .val (.int q2), .val (.int q3), .val (.ref ke), .val (.int (1 : Int32)), .val (.int ii), .val (.int jj), .val (.int kk), .val (.int t0), .val (.int t1), .unset, .unset]) rfl ?_
    refine g_aload X75 hx (hb hby at_136) rfl rfl ?_
    refine g_iload X75 hx (hb hby at_138) rfl ?_
    refine g_callV X75 hx hZ hown (hw _ (List.mem_of_getElem? (i := 43) rfl)) (hw _ (List.mem_of_getElem? (i := 44) rfl)) (hw _ (List.mem_of_getElem? (i := 46) rfl)) (hw _ (List.mem_of_getElem? (i := 45) rfl)) (hw _ (List.mem_of_getElem? (i := 2) rfl)) (hw _ (List.mem_of_getElem? (i := 47) rfl)) (by decide) (rmt l Z a0 hw [] ke ii la ma si rh ex fg (own_u (own_u (own_u (fun _ => 0) 0 10) 1 20) 2 30) (own_u (own_u (own_u (fun _ => 0) 0 (4613937818241073152 : UInt64)) 1 (4611686018427387904 : UInt64)) 2 (4607182418800017408 : UInt64)) (own_u (own_u (own_u (fun _ => 0) 0 (4613937818241073152 : UInt64)) 1 (4611686018427387904 : UInt64)) 2 (4607182418800017408 : UInt64)) (own_u (own_u (own_u (fun _ => 0) 0 (4607182418800017408 : UInt64)) 1 (4611686018427387904 : UInt64)) 2 (4613937818241073152 : UInt64)) (own_u (own_u BB ii.toInt.toNat 1) jj.toInt.toNat 1) T74.heap n0 Z80 HK81 d_ii) rfl (W := 0) (by decide) (by decide) (by rw [hml]; rfl) ke HK81.1 [(.int ii)] [] (lenOf pd0_3 rfl) rfl rfl (Nat.le_of_eq rfl) (hb hby at_140) (by decide) (by decide) ?_
    intro v87 T83 L86 X84 hQ85
    obtain ⟨rfl, N88, Z89, HK90⟩ := hQ85
    have N91 := Fr.app N82 N88
    show Go p e below (Ret s (Q0 Z q0 q1 q2 q3 h0 n0) 24 128) (T83.setTop (mkF m 143 #[.val (.int q0), .val (.int q1), .val (.int q2), .val (.int q3), .val (.ref ke), .val (.int (1 : Int32)), .val (.int ii), .val (.int jj), .val (.int kk), .val (.int t0), .val (.int t1), .unset, .unset] [(.int (own_t ((own_u (own_u BB ii.toInt.toNat 1) jj.toInt.toNat 1) ii.toInt.toNat)))]))
    obtain ⟨t2, ht2⟩ : ∃ v : Int32, (own_t ((own_u (own_u BB ii.toInt.toNat 1) jj.toInt.toNat 1) ii.toInt.toNat)) = v := ⟨_, rfl⟩
    rw [ht2]
    refine g_istore X84 hx (hb hby at_143) (L' := #[.val (.int q0), .val (.int q1), .val (.int q2), .val (.int q3), .val (.ref ke), .val (.int (1 : Int32)), .val (.int ii), .val (.int jj), .val (.int kk), .val (.int t0), .val (.int t1), .val (.int t2), .unset]) rfl ?_
    refine g_aload X84 hx (hb hby at_145) rfl rfl ?_
    refine g_iload X84 hx (hb hby at_147) rfl ?_
    refine g_callV X84 hx hZ hown (hw _ (List.mem_of_getElem? (i := 43) rfl)) (hw _ (List.mem_of_getElem? (i := 44) rfl)) (hw _ (List.mem_of_getElem? (i := 46) rfl)) (hw _ (List.mem_of_getElem? (i := 45) rfl)) (hw _ (List.mem_of_getElem? (i := 2) rfl)) (hw _ (List.mem_of_getElem? (i := 47) rfl)) (by decide) (rmt l Z a0 hw [] ke kk la ma si rh ex fg (own_u (own_u (own_u (fun _ => 0) 0 10) 1 20) 2 30) (own_u (own_u (own_u (fun _ => 0) 0 (4613937818241073152 : UInt64)) 1 (4611686018427387904 : UInt64)) 2 (4607182418800017408 : UInt64)) (own_u (own_u (own_u (fun _ => 0) 0 (4613937818241073152 : UInt64)) 1 (4611686018427387904 : UInt64)) 2 (4607182418800017408 : UInt64)) (own_u (own_u (own_u (fun _ => 0) 0 (4607182418800017408 : UInt64)) 1 (4611686018427387904 : UInt64)) 2 (4613937818241073152 : UInt64)) (own_u (own_u (own_u BB ii.toInt.toNat 1) jj.toInt.toNat 1) ii.toInt.toNat 1) T83.heap n0 Z89 HK90 d_kk) rfl (W := 0) (by decide) (by decide) (by rw [hml]; rfl) ke HK90.1 [(.int kk)] [] (lenOf pd0_3 rfl) rfl rfl (Nat.le_of_eq rfl) (hb hby at_149) (by decide) (by decide) ?_
    intro v96 T92 L95 X93 hQ94
    obtain ⟨rfl, N97, Z98, HK99⟩ := hQ94
    have N100 := Fr.app N91 N97
    show Go p e below (Ret s (Q0 Z q0 q1 q2 q3 h0 n0) 24 128) (T92.setTop (mkF m 152 #[.val (.int q0), .val (.int q1), .val (.int q2), .val (.int q3), .val (.ref ke), .val (.int (1 : Int32)), .val (.int ii), .val (.int jj), .val (.int kk), .val (.int t0), .val (.int t1), .val (.int t2), .unset] [(.int (own_t ((own_u (own_u (own_u BB ii.toInt.toNat 1) jj.toInt.toNat 1) ii.toInt.toNat 1) kk.toInt.toNat)))]))
    obtain ⟨t3, ht3⟩ : ∃ v : Int32, (own_t ((own_u (own_u (own_u BB ii.toInt.toNat 1) jj.toInt.toNat 1) ii.toInt.toNat 1) kk.toInt.toNat)) = v := ⟨_, rfl⟩
    rw [ht3]
    refine g_istore X93 hx (hb hby at_152) (L' := #[.val (.int q0), .val (.int q1), .val (.int q2), .val (.int q3), .val (.ref ke), .val (.int (1 : Int32)), .val (.int ii), .val (.int jj), .val (.int kk), .val (.int t0), .val (.int t1), .val (.int t2), .val (.int t3)]) rfl ?_
    refine g_iload X93 hx (hb hby at_154) rfl ?_
    have hc156_101 : ¬ (t0 = (0 : Int32)) := (by rw [← ht0]; simp [own_t, hB0])
    refine g_ifNo X93 hx (hb hby at_156) (feq hc156_101).1 ?_
    refine g_iload X93 hx (hb hby at_159) rfl ?_
    refine g_iload X93 hx (hb hby at_161) rfl ?_
    refine g_iload X93 hx (hb hby at_163) rfl ?_
    by_cases hc165_102 : jj = ii
    ·
      refine g_icmpYes X93 hx (hb hby at_165) (teq hc165_102).1 (by decide) (pc' := 172) (by decide) ?_
      refine g_iconst X93 hx (hb hby at_172) (v := (0 : Int32)) (by decide) ?_
      have hc173_103 : t1 = (0 : Int32) := (by rw [← ht1]; simp [own_t, own_u, hc165_102])
      refine g_icmpNo X93 hx (hb hby at_173) (teq hc173_103).2 ?_
      refine g_iload X93 hx (hb hby at_176) rfl ?_
      have hc178_104 : t2 = (0 : Int32) := (by rw [← ht2]; unfold own_t own_u; by_cases q : ii.toInt.toNat = jj.toInt.toNat <;> simp [q])
      refine g_ifNo X93 hx (hb hby at_178) (teq hc178_104).2 ?_
      refine g_iload X93 hx (hb hby at_181) rfl ?_
      refine g_iload X93 hx (hb hby at_183) rfl ?_
      refine g_iload X93 hx (hb hby at_185) rfl ?_
      by_cases hc187_105 : kk = ii
      ·
        refine g_icmpYes X93 hx (hb hby at_187) (teq hc187_105).1 (by decide) (pc' := 201) (by decide) ?_
        refine g_iconst X93 hx (hb hby at_201) (v := (0 : Int32)) (by decide) ?_
        have hc202_106 : t3 = (0 : Int32) := (by rw [← ht3]; simp [own_t, own_u, hc187_105])
        refine g_icmpNo X93 hx (hb hby at_202) (teq hc202_106).2 ?_
        refine g_aload X93 hx (hb hby at_205) rfl rfl ?_
        refine g_callV X93 hx hZ hown (hw _ (List.mem_of_getElem? (i := 37) rfl)) (hw _ (List.mem_of_getElem? (i := 38) rfl)) (hw _ (List.mem_of_getElem? (i := 40) rfl)) (hw _ (List.mem_of_getElem? (i := 39) rfl)) (hw _ (List.mem_of_getElem? (i := 2) rfl)) (hw _ (List.mem_of_getElem? (i := 41) rfl)) (by decide) (rms l Z a0 hw [] ke T92.heap n0 Z98 HK99.2.2.2.2.2.2.1) rfl (W := 0) (by decide) (by decide) (by rw [hml]; rfl) ke HK99.1 [] [] (lenOf pd0_2 rfl) rfl rfl (Nat.le_of_eq rfl) (hb hby at_207) (by decide) (by decide) ?_
        intro v111 T107 L110 X108 hQ109
        obtain ⟨rfl, N112, e113⟩ := hQ109
        have N114 := Fr.app N100 N112
        show Go p e below (Ret s (Q0 Z q0 q1 q2 q3 h0 n0) 24 128) (T107.setTop (mkF m 210 #[.val (.int q0), .val (.int q1), .val (.int q2), .val (.int q3), .val (.ref ke), .val (.int (1 : Int32)), .val (.int ii), .val (.int jj), .val (.int kk), .val (.int t0), .val (.int t1), .val (.int t2), .val (.int t3)] [(.int (3 : Int32))]))
        refine g_iconst X108 hx (hb hby at_210) (v := (3 : Int32)) (by decide) ?_
        have hc211_115 : (3 : Int32) = (3 : Int32) := (by decide)
        refine g_icmpNo X108 hx (hb hby at_211) (teq hc211_115).2 ?_
        refine g_aload X108 hx (hb hby at_214) rfl rfl ?_
        refine g_iload X108 hx (hb hby at_216) rfl ?_
        refine g_callV X108 hx hZ hown (hw _ (List.mem_of_getElem? (i := 48) rfl)) (hw _ (List.mem_of_getElem? (i := 49) rfl)) (hw _ (List.mem_of_getElem? (i := 51) rfl)) (hw _ (List.mem_of_getElem? (i := 50) rfl)) (hw _ (List.mem_of_getElem? (i := 2) rfl)) (hw _ (List.mem_of_getElem? (i := 52) rfl)) (by decide) (rml l Z a0 hw [] ke kk la own_L T92.heap n0 Z98 HK99.2.1 HK99.2.2.2.2.2.2.2.2.1 d_kk) e113 (W := 0) (by decide) (by decide) (by rw [hml]; rfl) ke HK99.1 [(.int kk)] [] (lenOf pd0_4 rfl) rfl rfl (Nat.le_of_eq rfl) (hb hby at_218) (by decide) (by decide) ?_
        intro v120 T116 L119 X117 hQ118
        obtain ⟨rfl, N121, e122⟩ := hQ118
        have N123 := Fr.app N114 N121
        show Go p e below (Ret s (Q0 Z q0 q1 q2 q3 h0 n0) 24 128) (T116.setTop (mkF m 221 #[.val (.int q0), .val (.int q1), .val (.int q2), .val (.int q3), .val (.ref ke), .val (.int (1 : Int32)), .val (.int ii), .val (.int jj), .val (.int kk), .val (.int t0), .val (.int t1), .val (.int t2), .val (.int t3)] [(.int (own_L kk.toInt.toNat))]))
        refine g_bipush X117 hx (hb hby at_221) (v := (10 : Int32)) (by decide) ?_
        refine g_bipush X117 hx (hb hby at_223) (v := (10 : Int32)) (by decide) ?_
        refine g_iload X117 hx (hb hby at_225) rfl ?_
        obtain ⟨tk, htk⟩ : ∃ v : Int32, (10 : Int32) * kk = v := ⟨_, rfl⟩
        refine g_imul X117 hx (hb hby at_227) htk ?_
        obtain ⟨lk, hlk⟩ : ∃ v : Int32, (10 : Int32) + tk = v := ⟨_, rfl⟩
        refine g_iadd X117 hx (hb hby at_228) hlk ?_
        have hc229_124 : (own_L kk.toInt.toNat) = lk := (own_lab b_kk htk hlk)
        refine g_icmpNo X117 hx (hb hby at_229) (teq hc229_124).2 ?_
        refine g_iconst X117 hx (hb hby at_232) (v := (1 : Int32)) (by decide) ?_
        refine g_goto X117 hx (hb hby at_233) (by decide) (pc' := 237) (by decide) ?_
        refine g_ireturn X117 hx Bd.notSynchronized Bd.returns rfl (by simp) (hb hby at_237) (by decide) (by decide) ?_
        exact ⟨rfl, N123⟩
      ·
        refine g_icmpNo X93 hx (hb hby at_187) (feq hc187_105).1 ?_
        refine g_iload X93 hx (hb hby at_190) rfl ?_
        refine g_iload X93 hx (hb hby at_192) rfl ?_
        by_cases hc194_125 : kk = jj
        ·
          refine g_icmpYes X93 hx (hb hby at_194) (teq hc194_125).1 (by decide) (pc' := 201) (by decide) ?_
          refine g_iconst X93 hx (hb hby at_201) (v := (0 : Int32)) (by decide) ?_
          have hc202_126 : t3 = (0 : Int32) := (by rw [← ht3]; unfold own_t own_u; rw [if_neg (show kk.toInt.toNat ≠ ii.toInt.toNat from fun q => hc187_105 (Int32.toInt_inj.mp (by omega))), show kk.toInt.toNat = jj.toInt.toNat from by rw [hc194_125]]; simp)
          refine g_icmpNo X93 hx (hb hby at_202) (teq hc202_126).2 ?_
          refine g_aload X93 hx (hb hby at_205) rfl rfl ?_
          refine g_callV X93 hx hZ hown (hw _ (List.mem_of_getElem? (i := 37) rfl)) (hw _ (List.mem_of_getElem? (i := 38) rfl)) (hw _ (List.mem_of_getElem? (i := 40) rfl)) (hw _ (List.mem_of_getElem? (i := 39) rfl)) (hw _ (List.mem_of_getElem? (i := 2) rfl)) (hw _ (List.mem_of_getElem? (i := 41) rfl)) (by decide) (rms l Z a0 hw [] ke T92.heap n0 Z98 HK99.2.2.2.2.2.2.1) rfl (W := 0) (by decide) (by decide) (by rw [hml]; rfl) ke HK99.1 [] [] (lenOf pd0_2 rfl) rfl rfl (Nat.le_of_eq rfl) (hb hby at_207) (by decide) (by decide) ?_
          intro v131 T127 L130 X128 hQ129
          obtain ⟨rfl, N132, e133⟩ := hQ129
          have N134 := Fr.app N100 N132
          show Go p e below (Ret s (Q0 Z q0 q1 q2 q3 h0 n0) 24 128) (T127.setTop (mkF m 210 #[.val (.int q0), .val (.int q1), .val (.int q2), .val (.int q3), .val (.ref ke), .val (.int (1 : Int32)), .val (.int ii), .val (.int jj), .val (.int kk), .val (.int t0), .val (.int t1), .val (.int t2), .val (.int t3)] [(.int (3 : Int32))]))
          refine g_iconst X128 hx (hb hby at_210) (v := (3 : Int32)) (by decide) ?_
          have hc211_135 : (3 : Int32) = (3 : Int32) := (by decide)
          refine g_icmpNo X128 hx (hb hby at_211) (teq hc211_135).2 ?_
          refine g_aload X128 hx (hb hby at_214) rfl rfl ?_
          refine g_iload X128 hx (hb hby at_216) rfl ?_
          refine g_callV X128 hx hZ hown (hw _ (List.mem_of_getElem? (i := 48) rfl)) (hw _ (List.mem_of_getElem? (i := 49) rfl)) (hw _ (List.mem_of_getElem? (i := 51) rfl)) (hw _ (List.mem_of_getElem? (i := 50) rfl)) (hw _ (List.mem_of_getElem? (i := 2) rfl)) (hw _ (List.mem_of_getElem? (i := 52) rfl)) (by decide) (rml l Z a0 hw [] ke kk la own_L T92.heap n0 Z98 HK99.2.1 HK99.2.2.2.2.2.2.2.2.1 d_kk) e133 (W := 0) (by decide) (by decide) (by rw [hml]; rfl) ke HK99.1 [(.int kk)] [] (lenOf pd0_4 rfl) rfl rfl (Nat.le_of_eq rfl) (hb hby at_218) (by decide) (by decide) ?_
          intro v140 T136 L139 X137 hQ138
          obtain ⟨rfl, N141, e142⟩ := hQ138
          have N143 := Fr.app N134 N141
          show Go p e below (Ret s (Q0 Z q0 q1 q2 q3 h0 n0) 24 128) (T136.setTop (mkF m 221 #[.val (.int q0), .val (.int q1), .val (.int q2), .val (.int q3), .val (.ref ke), .val (.int (1 : Int32)), .val (.int ii), .val (.int jj), .val (.int kk), .val (.int t0), .val (.int t1), .val (.int t2), .val (.int t3)] [(.int (own_L kk.toInt.toNat))]))
          refine g_bipush X137 hx (hb hby at_221) (v := (10 : Int32)) (by decide) ?_
          refine g_bipush X137 hx (hb hby at_223) (v := (10 : Int32)) (by decide) ?_
          refine g_iload X137 hx (hb hby at_225) rfl ?_
          obtain ⟨tk, htk⟩ : ∃ v : Int32, (10 : Int32) * kk = v := ⟨_, rfl⟩
          refine g_imul X137 hx (hb hby at_227) htk ?_
          obtain ⟨lk, hlk⟩ : ∃ v : Int32, (10 : Int32) + tk = v := ⟨_, rfl⟩
          refine g_iadd X137 hx (hb hby at_228) hlk ?_
          have hc229_144 : (own_L kk.toInt.toNat) = lk := (own_lab b_kk htk hlk)
          refine g_icmpNo X137 hx (hb hby at_229) (teq hc229_144).2 ?_
          refine g_iconst X137 hx (hb hby at_232) (v := (1 : Int32)) (by decide) ?_
          refine g_goto X137 hx (hb hby at_233) (by decide) (pc' := 237) (by decide) ?_
          refine g_ireturn X137 hx Bd.notSynchronized Bd.returns rfl (by simp) (hb hby at_237) (by decide) (by decide) ?_
          exact ⟨rfl, N143⟩
        ·
          refine g_icmpNo X93 hx (hb hby at_194) (feq hc194_125).1 ?_
          refine g_iconst X93 hx (hb hby at_197) (v := (1 : Int32)) (by decide) ?_
          refine g_goto X93 hx (hb hby at_198) (by decide) (pc' := 202) (by decide) ?_
          have hc202_145 : t3 = (1 : Int32) := (by rw [← ht3]; unfold own_t own_u; rw [if_neg (show kk.toInt.toNat ≠ ii.toInt.toNat from fun q => hc187_105 (Int32.toInt_inj.mp (by omega))), if_neg (show kk.toInt.toNat ≠ jj.toInt.toNat from fun q => hc194_125 (Int32.toInt_inj.mp (by omega))), if_neg (show kk.toInt.toNat ≠ ii.toInt.toNat from fun q => hc187_105 (Int32.toInt_inj.mp (by omega))), hB0, if_pos rfl])
          refine g_icmpNo X93 hx (hb hby at_202) (teq hc202_145).2 ?_
          refine g_aload X93 hx (hb hby at_205) rfl rfl ?_
          refine g_callV X93 hx hZ hown (hw _ (List.mem_of_getElem? (i := 37) rfl)) (hw _ (List.mem_of_getElem? (i := 38) rfl)) (hw _ (List.mem_of_getElem? (i := 40) rfl)) (hw _ (List.mem_of_getElem? (i := 39) rfl)) (hw _ (List.mem_of_getElem? (i := 2) rfl)) (hw _ (List.mem_of_getElem? (i := 41) rfl)) (by decide) (rms l Z a0 hw [] ke T92.heap n0 Z98 HK99.2.2.2.2.2.2.1) rfl (W := 0) (by decide) (by decide) (by rw [hml]; rfl) ke HK99.1 [] [] (lenOf pd0_2 rfl) rfl rfl (Nat.le_of_eq rfl) (hb hby at_207) (by decide) (by decide) ?_
          intro v150 T146 L149 X147 hQ148
          obtain ⟨rfl, N151, e152⟩ := hQ148
          have N153 := Fr.app N100 N151
          show Go p e below (Ret s (Q0 Z q0 q1 q2 q3 h0 n0) 24 128) (T146.setTop (mkF m 210 #[.val (.int q0), .val (.int q1), .val (.int q2), .val (.int q3), .val (.ref ke), .val (.int (1 : Int32)), .val (.int ii), .val (.int jj), .val (.int kk), .val (.int t0), .val (.int t1), .val (.int t2), .val (.int t3)] [(.int (3 : Int32))]))
          refine g_iconst X147 hx (hb hby at_210) (v := (3 : Int32)) (by decide) ?_
          have hc211_154 : (3 : Int32) = (3 : Int32) := (by decide)
          refine g_icmpNo X147 hx (hb hby at_211) (teq hc211_154).2 ?_
          refine g_aload X147 hx (hb hby at_214) rfl rfl ?_
          refine g_iload X147 hx (hb hby at_216) rfl ?_
          refine g_callV X147 hx hZ hown (hw _ (List.mem_of_getElem? (i := 48) rfl)) (hw _ (List.mem_of_getElem? (i := 49) rfl)) (hw _ (List.mem_of_getElem? (i := 51) rfl)) (hw _ (List.mem_of_getElem? (i := 50) rfl)) (hw _ (List.mem_of_getElem? (i := 2) rfl)) (hw _ (List.mem_of_getElem? (i := 52) rfl)) (by decide) (rml l Z a0 hw [] ke kk la own_L T92.heap n0 Z98 HK99.2.1 HK99.2.2.2.2.2.2.2.2.1 d_kk) e152 (W := 0) (by decide) (by decide) (by rw [hml]; rfl) ke HK99.1 [(.int kk)] [] (lenOf pd0_4 rfl) rfl rfl (Nat.le_of_eq rfl) (hb hby at_218) (by decide) (by decide) ?_
          intro v159 T155 L158 X156 hQ157
          obtain ⟨rfl, N160, e161⟩ := hQ157
          have N162 := Fr.app N153 N160
          show Go p e below (Ret s (Q0 Z q0 q1 q2 q3 h0 n0) 24 128) (T155.setTop (mkF m 221 #[.val (.int q0), .val (.int q1), .val (.int q2), .val (.int q3), .val (.ref ke), .val (.int (1 : Int32)), .val (.int ii), .val (.int jj), .val (.int kk), .val (.int t0), .val (.int t1), .val (.int t2), .val (.int t3)] [(.int (own_L kk.toInt.toNat))]))
          refine g_bipush X156 hx (hb hby at_221) (v := (10 : Int32)) (by decide) ?_
          refine g_bipush X156 hx (hb hby at_223) (v := (10 : Int32)) (by decide) ?_
          refine g_iload X156 hx (hb hby at_225) rfl ?_
          obtain ⟨tk, htk⟩ : ∃ v : Int32, (10 : Int32) * kk = v := ⟨_, rfl⟩
          refine g_imul X156 hx (hb hby at_227) htk ?_
          obtain ⟨lk, hlk⟩ : ∃ v : Int32, (10 : Int32) + tk = v := ⟨_, rfl⟩
          refine g_iadd X156 hx (hb hby at_228) hlk ?_
          have hc229_163 : (own_L kk.toInt.toNat) = lk := (own_lab b_kk htk hlk)
          refine g_icmpNo X156 hx (hb hby at_229) (teq hc229_163).2 ?_
          refine g_iconst X156 hx (hb hby at_232) (v := (1 : Int32)) (by decide) ?_
          refine g_goto X156 hx (hb hby at_233) (by decide) (pc' := 237) (by decide) ?_
          refine g_ireturn X156 hx Bd.notSynchronized Bd.returns rfl (by simp) (hb hby at_237) (by decide) (by decide) ?_
          exact ⟨rfl, N162⟩
    ·
      refine g_icmpNo X93 hx (hb hby at_165) (feq hc165_102).1 ?_
      refine g_iconst X93 hx (hb hby at_168) (v := (1 : Int32)) (by decide) ?_
      refine g_goto X93 hx (hb hby at_169) (by decide) (pc' := 173) (by decide) ?_
      have hc173_164 : t1 = (1 : Int32) := (by rw [← ht1]; unfold own_t own_u; rw [if_neg (show jj.toInt.toNat ≠ ii.toInt.toNat from fun q => hc165_102 (Int32.toInt_inj.mp (by omega))), hB0, if_pos rfl])
      refine g_icmpNo X93 hx (hb hby at_173) (teq hc173_164).2 ?_
      refine g_iload X93 hx (hb hby at_176) rfl ?_
      have hc178_165 : t2 = (0 : Int32) := (by rw [← ht2]; unfold own_t own_u; by_cases q : ii.toInt.toNat = jj.toInt.toNat <;> simp [q])
      refine g_ifNo X93 hx (hb hby at_178) (teq hc178_165).2 ?_
      refine g_iload X93 hx (hb hby at_181) rfl ?_
      refine g_iload X93 hx (hb hby at_183) rfl ?_
      refine g_iload X93 hx (hb hby at_185) rfl ?_
      by_cases hc187_166 : kk = ii
      ·
        refine g_icmpYes X93 hx (hb hby at_187) (teq hc187_166).1 (by decide) (pc' := 201) (by decide) ?_
        refine g_iconst X93 hx (hb hby at_201) (v := (0 : Int32)) (by decide) ?_
        have hc202_167 : t3 = (0 : Int32) := (by rw [← ht3]; simp [own_t, own_u, hc187_166])
        refine g_icmpNo X93 hx (hb hby at_202) (teq hc202_167).2 ?_
        refine g_aload X93 hx (hb hby at_205) rfl rfl ?_
        refine g_callV X93 hx hZ hown (hw _ (List.mem_of_getElem? (i := 37) rfl)) (hw _ (List.mem_of_getElem? (i := 38) rfl)) (hw _ (List.mem_of_getElem? (i := 40) rfl)) (hw _ (List.mem_of_getElem? (i := 39) rfl)) (hw _ (List.mem_of_getElem? (i := 2) rfl)) (hw _ (List.mem_of_getElem? (i := 41) rfl)) (by decide) (rms l Z a0 hw [] ke T92.heap n0 Z98 HK99.2.2.2.2.2.2.1) rfl (W := 0) (by decide) (by decide) (by rw [hml]; rfl) ke HK99.1 [] [] (lenOf pd0_2 rfl) rfl rfl (Nat.le_of_eq rfl) (hb hby at_207) (by decide) (by decide) ?_
        intro v172 T168 L171 X169 hQ170
        obtain ⟨rfl, N173, e174⟩ := hQ170
        have N175 := Fr.app N100 N173
        show Go p e below (Ret s (Q0 Z q0 q1 q2 q3 h0 n0) 24 128) (T168.setTop (mkF m 210 #[.val (.int q0), .val (.int q1), .val (.int q2), .val (.int q3), .val (.ref ke), .val (.int (1 : Int32)), .val (.int ii), .val (.int jj), .val (.int kk), .val (.int t0), .val (.int t1), .val (.int t2), .val (.int t3)] [(.int (3 : Int32))]))
        refine g_iconst X169 hx (hb hby at_210) (v := (3 : Int32)) (by decide) ?_
        have hc211_176 : (3 : Int32) = (3 : Int32) := (by decide)
        refine g_icmpNo X169 hx (hb hby at_211) (teq hc211_176).2 ?_
        refine g_aload X169 hx (hb hby at_214) rfl rfl ?_
        refine g_iload X169 hx (hb hby at_216) rfl ?_
        refine g_callV X169 hx hZ hown (hw _ (List.mem_of_getElem? (i := 48) rfl)) (hw _ (List.mem_of_getElem? (i := 49) rfl)) (hw _ (List.mem_of_getElem? (i := 51) rfl)) (hw _ (List.mem_of_getElem? (i := 50) rfl)) (hw _ (List.mem_of_getElem? (i := 2) rfl)) (hw _ (List.mem_of_getElem? (i := 52) rfl)) (by decide) (rml l Z a0 hw [] ke kk la own_L T92.heap n0 Z98 HK99.2.1 HK99.2.2.2.2.2.2.2.2.1 d_kk) e174 (W := 0) (by decide) (by decide) (by rw [hml]; rfl) ke HK99.1 [(.int kk)] [] (lenOf pd0_4 rfl) rfl rfl (Nat.le_of_eq rfl) (hb hby at_218) (by decide) (by decide) ?_
        intro v181 T177 L180 X178 hQ179
        obtain ⟨rfl, N182, e183⟩ := hQ179
        have N184 := Fr.app N175 N182
        show Go p e below (Ret s (Q0 Z q0 q1 q2 q3 h0 n0) 24 128) (T177.setTop (mkF m 221 #[.val (.int q0), .val (.int q1), .val (.int q2), .val (.int q3), .val (.ref ke), .val (.int (1 : Int32)), .val (.int ii), .val (.int jj), .val (.int kk), .val (.int t0), .val (.int t1), .val (.int t2), .val (.int t3)] [(.int (own_L kk.toInt.toNat))]))
        refine g_bipush X178 hx (hb hby at_221) (v := (10 : Int32)) (by decide) ?_
        refine g_bipush X178 hx (hb hby at_223) (v := (10 : Int32)) (by decide) ?_
        refine g_iload X178 hx (hb hby at_225) rfl ?_
        obtain ⟨tk, htk⟩ : ∃ v : Int32, (10 : Int32) * kk = v := ⟨_, rfl⟩
        refine g_imul X178 hx (hb hby at_227) htk ?_
        obtain ⟨lk, hlk⟩ : ∃ v : Int32, (10 : Int32) + tk = v := ⟨_, rfl⟩
        refine g_iadd X178 hx (hb hby at_228) hlk ?_
        have hc229_185 : (own_L kk.toInt.toNat) = lk := (own_lab b_kk htk hlk)
        refine g_icmpNo X178 hx (hb hby at_229) (teq hc229_185).2 ?_
        refine g_iconst X178 hx (hb hby at_232) (v := (1 : Int32)) (by decide) ?_
        refine g_goto X178 hx (hb hby at_233) (by decide) (pc' := 237) (by decide) ?_
        refine g_ireturn X178 hx Bd.notSynchronized Bd.returns rfl (by simp) (hb hby at_237) (by decide) (by decide) ?_
        exact ⟨rfl, N184⟩
      ·
        refine g_icmpNo X93 hx (hb hby at_187) (feq hc187_166).1 ?_
        refine g_iload X93 hx (hb hby at_190) rfl ?_
        refine g_iload X93 hx (hb hby at_192) rfl ?_
        by_cases hc194_186 : kk = jj
        ·
          refine g_icmpYes X93 hx (hb hby at_194) (teq hc194_186).1 (by decide) (pc' := 201) (by decide) ?_
          refine g_iconst X93 hx (hb hby at_201) (v := (0 : Int32)) (by decide) ?_
          have hc202_187 : t3 = (0 : Int32) := (by rw [← ht3]; unfold own_t own_u; rw [if_neg (show kk.toInt.toNat ≠ ii.toInt.toNat from fun q => hc187_166 (Int32.toInt_inj.mp (by omega))), show kk.toInt.toNat = jj.toInt.toNat from by rw [hc194_186]]; simp)
          refine g_icmpNo X93 hx (hb hby at_202) (teq hc202_187).2 ?_
          refine g_aload X93 hx (hb hby at_205) rfl rfl ?_
          refine g_callV X93 hx hZ hown (hw _ (List.mem_of_getElem? (i := 37) rfl)) (hw _ (List.mem_of_getElem? (i := 38) rfl)) (hw _ (List.mem_of_getElem? (i := 40) rfl)) (hw _ (List.mem_of_getElem? (i := 39) rfl)) (hw _ (List.mem_of_getElem? (i := 2) rfl)) (hw _ (List.mem_of_getElem? (i := 41) rfl)) (by decide) (rms l Z a0 hw [] ke T92.heap n0 Z98 HK99.2.2.2.2.2.2.1) rfl (W := 0) (by decide) (by decide) (by rw [hml]; rfl) ke HK99.1 [] [] (lenOf pd0_2 rfl) rfl rfl (Nat.le_of_eq rfl) (hb hby at_207) (by decide) (by decide) ?_
          intro v192 T188 L191 X189 hQ190
          obtain ⟨rfl, N193, e194⟩ := hQ190
          have N195 := Fr.app N100 N193
          show Go p e below (Ret s (Q0 Z q0 q1 q2 q3 h0 n0) 24 128) (T188.setTop (mkF m 210 #[.val (.int q0), .val (.int q1), .val (.int q2), .val (.int q3), .val (.ref ke), .val (.int (1 : Int32)), .val (.int ii), .val (.int jj), .val (.int kk), .val (.int t0), .val (.int t1), .val (.int t2), .val (.int t3)] [(.int (3 : Int32))]))
          refine g_iconst X189 hx (hb hby at_210) (v := (3 : Int32)) (by decide) ?_
          have hc211_196 : (3 : Int32) = (3 : Int32) := (by decide)
          refine g_icmpNo X189 hx (hb hby at_211) (teq hc211_196).2 ?_
          refine g_aload X189 hx (hb hby at_214) rfl rfl ?_
          refine g_iload X189 hx (hb hby at_216) rfl ?_
          refine g_callV X189 hx hZ hown (hw _ (List.mem_of_getElem? (i := 48) rfl)) (hw _ (List.mem_of_getElem? (i := 49) rfl)) (hw _ (List.mem_of_getElem? (i := 51) rfl)) (hw _ (List.mem_of_getElem? (i := 50) rfl)) (hw _ (List.mem_of_getElem? (i := 2) rfl)) (hw _ (List.mem_of_getElem? (i := 52) rfl)) (by decide) (rml l Z a0 hw [] ke kk la own_L T92.heap n0 Z98 HK99.2.1 HK99.2.2.2.2.2.2.2.2.1 d_kk) e194 (W := 0) (by decide) (by decide) (by rw [hml]; rfl) ke HK99.1 [(.int kk)] [] (lenOf pd0_4 rfl) rfl rfl (Nat.le_of_eq rfl) (hb hby at_218) (by decide) (by decide) ?_
          intro v201 T197 L200 X198 hQ199
          obtain ⟨rfl, N202, e203⟩ := hQ199
          have N204 := Fr.app N195 N202
          show Go p e below (Ret s (Q0 Z q0 q1 q2 q3 h0 n0) 24 128) (T197.setTop (mkF m 221 #[.val (.int q0), .val (.int q1), .val (.int q2), .val (.int q3), .val (.ref ke), .val (.int (1 : Int32)), .val (.int ii), .val (.int jj), .val (.int kk), .val (.int t0), .val (.int t1), .val (.int t2), .val (.int t3)] [(.int (own_L kk.toInt.toNat))]))
          refine g_bipush X198 hx (hb hby at_221) (v := (10 : Int32)) (by decide) ?_
          refine g_bipush X198 hx (hb hby at_223) (v := (10 : Int32)) (by decide) ?_
          refine g_iload X198 hx (hb hby at_225) rfl ?_
          obtain ⟨tk, htk⟩ : ∃ v : Int32, (10 : Int32) * kk = v := ⟨_, rfl⟩
          refine g_imul X198 hx (hb hby at_227) htk ?_
          obtain ⟨lk, hlk⟩ : ∃ v : Int32, (10 : Int32) + tk = v := ⟨_, rfl⟩
          refine g_iadd X198 hx (hb hby at_228) hlk ?_
          have hc229_205 : (own_L kk.toInt.toNat) = lk := (own_lab b_kk htk hlk)
          refine g_icmpNo X198 hx (hb hby at_229) (teq hc229_205).2 ?_
          refine g_iconst X198 hx (hb hby at_232) (v := (1 : Int32)) (by decide) ?_
          refine g_goto X198 hx (hb hby at_233) (by decide) (pc' := 237) (by decide) ?_
          refine g_ireturn X198 hx Bd.notSynchronized Bd.returns rfl (by simp) (hb hby at_237) (by decide) (by decide) ?_
          exact ⟨rfl, N204⟩
        ·
          refine g_icmpNo X93 hx (hb hby at_194) (feq hc194_186).1 ?_
          refine g_iconst X93 hx (hb hby at_197) (v := (1 : Int32)) (by decide) ?_
          refine g_goto X93 hx (hb hby at_198) (by decide) (pc' := 202) (by decide) ?_
          have hc202_206 : t3 = (1 : Int32) := (by rw [← ht3]; unfold own_t own_u; rw [if_neg (show kk.toInt.toNat ≠ ii.toInt.toNat from fun q => hc187_166 (Int32.toInt_inj.mp (by omega))), if_neg (show kk.toInt.toNat ≠ jj.toInt.toNat from fun q => hc194_186 (Int32.toInt_inj.mp (by omega))), if_neg (show kk.toInt.toNat ≠ ii.toInt.toNat from fun q => hc187_166 (Int32.toInt_inj.mp (by omega))), hB0, if_pos rfl])
          refine g_icmpNo X93 hx (hb hby at_202) (teq hc202_206).2 ?_
          refine g_aload X93 hx (hb hby at_205) rfl rfl ?_
          refine g_callV X93 hx hZ hown (hw _ (List.mem_of_getElem? (i := 37) rfl)) (hw _ (List.mem_of_getElem? (i := 38) rfl)) (hw _ (List.mem_of_getElem? (i := 40) rfl)) (hw _ (List.mem_of_getElem? (i := 39) rfl)) (hw _ (List.mem_of_getElem? (i := 2) rfl)) (hw _ (List.mem_of_getElem? (i := 41) rfl)) (by decide) (rms l Z a0 hw [] ke T92.heap n0 Z98 HK99.2.2.2.2.2.2.1) rfl (W := 0) (by decide) (by decide) (by rw [hml]; rfl) ke HK99.1 [] [] (lenOf pd0_2 rfl) rfl rfl (Nat.le_of_eq rfl) (hb hby at_207) (by decide) (by decide) ?_
          intro v211 T207 L210 X208 hQ209
          obtain ⟨rfl, N212, e213⟩ := hQ209
          have N214 := Fr.app N100 N212
          show Go p e below (Ret s (Q0 Z q0 q1 q2 q3 h0 n0) 24 128) (T207.setTop (mkF m 210 #[.val (.int q0), .val (.int q1), .val (.int q2), .val (.int q3), .val (.ref ke), .val (.int (1 : Int32)), .val (.int ii), .val (.int jj), .val (.int kk), .val (.int t0), .val (.int t1), .val (.int t2), .val (.int t3)] [(.int (3 : Int32))]))
          refine g_iconst X208 hx (hb hby at_210) (v := (3 : Int32)) (by decide) ?_
          have hc211_215 : (3 : Int32) = (3 : Int32) := (by decide)
          refine g_icmpNo X208 hx (hb hby at_211) (teq hc211_215).2 ?_
          refine g_aload X208 hx (hb hby at_214) rfl rfl ?_
          refine g_iload X208 hx (hb hby at_216) rfl ?_
          refine g_callV X208 hx hZ hown (hw _ (List.mem_of_getElem? (i := 48) rfl)) (hw _ (List.mem_of_getElem? (i := 49) rfl)) (hw _ (List.mem_of_getElem? (i := 51) rfl)) (hw _ (List.mem_of_getElem? (i := 50) rfl)) (hw _ (List.mem_of_getElem? (i := 2) rfl)) (hw _ (List.mem_of_getElem? (i := 52) rfl)) (by decide) (rml l Z a0 hw [] ke kk la own_L T92.heap n0 Z98 HK99.2.1 HK99.2.2.2.2.2.2.2.2.1 d_kk) e213 (W := 0) (by decide) (by decide) (by rw [hml]; rfl) ke HK99.1 [(.int kk)] [] (lenOf pd0_4 rfl) rfl rfl (Nat.le_of_eq rfl) (hb hby at_218) (by decide) (by decide) ?_
          intro v220 T216 L219 X217 hQ218
          obtain ⟨rfl, N221, e222⟩ := hQ218
          have N223 := Fr.app N214 N221
          show Go p e below (Ret s (Q0 Z q0 q1 q2 q3 h0 n0) 24 128) (T216.setTop (mkF m 221 #[.val (.int q0), .val (.int q1), .val (.int q2), .val (.int q3), .val (.ref ke), .val (.int (1 : Int32)), .val (.int ii), .val (.int jj), .val (.int kk), .val (.int t0), .val (.int t1), .val (.int t2), .val (.int t3)] [(.int (own_L kk.toInt.toNat))]))
          refine g_bipush X217 hx (hb hby at_221) (v := (10 : Int32)) (by decide) ?_
          refine g_bipush X217 hx (hb hby at_223) (v := (10 : Int32)) (by decide) ?_
          refine g_iload X217 hx (hb hby at_225) rfl ?_
          obtain ⟨tk, htk⟩ : ∃ v : Int32, (10 : Int32) * kk = v := ⟨_, rfl⟩
          refine g_imul X217 hx (hb hby at_227) htk ?_
          obtain ⟨lk, hlk⟩ : ∃ v : Int32, (10 : Int32) + tk = v := ⟨_, rfl⟩
          refine g_iadd X217 hx (hb hby at_228) hlk ?_
          have hc229_224 : (own_L kk.toInt.toNat) = lk := (own_lab b_kk htk hlk)
          refine g_icmpNo X217 hx (hb hby at_229) (teq hc229_224).2 ?_
          refine g_iconst X217 hx (hb hby at_232) (v := (1 : Int32)) (by decide) ?_
          refine g_goto X217 hx (hb hby at_233) (by decide) (pc' := 237) (by decide) ?_
          refine g_ireturn X217 hx Bd.notSynchronized Bd.returns rfl (by simp) (hb hby at_237) (by decide) (by decide) ?_
          exact ⟨rfl, N223⟩
  refine g_iloadN X2 hx (hb hby at_4) rfl ?_
  refine g_iconst X2 hx (hb hby at_5) (v := (1 : Int32)) (by decide) ?_
  obtain ⟨i225, hi225⟩ : ∃ v : Int32, q0 &&& (1 : Int32) = v := ⟨_, rfl⟩
  refine g_iand X2 hx (hb hby at_6) hi225 ?_
  by_cases hc7_226 : i225 = (0 : Int32)
  ·
    refine g_ifYes X2 hx (hb hby at_7) (teq hc7_226).1 (by decide) (pc' := 14) (by decide) ?_
    refine g_iconst X2 hx (hb hby at_14) (v := (0 : Int32)) (by decide) ?_
    exact J15 (0 : Int32) (by decide)
  ·
    refine g_ifNo X2 hx (hb hby at_7) (feq hc7_226).1 ?_
    refine g_iconst X2 hx (hb hby at_10) (v := (1 : Int32)) (by decide) ?_
    refine g_goto X2 hx (hb hby at_11) (by decide) (pc' := 15) (by decide) ?_
    exact J15 (1 : Int32) (by decide)
set_option maxRecDepth 65536 in
set_option maxHeartbeats 40000000 in
theorem comes_1 {Post : Tables → Env → Array Value → State → Outcome → State → Prop} (hpost : ∀ tb e args s v u, (limb_1_1.after args s (.returned v) u = true ∧ limb_1_2.after args s (.returned v) u = true ∧ True) → FrameEnd s (.returned v) u (Jvm.fieldLocs frame_1_writes args s ++ Jvm.arrayLocs frame_1_arrays args s ++ Jvm.staticLocs frame_1_statics s) 24 128 → Post tb e args s (.returned v) u) :
    ArmFor flags0 classFile x code maxLocals ret World_1 tables_1 room_1 Calls_1 rest_1 Pre_1 Post := by
  intro l hfl _ _ p e ha hc hk s m args below hf hA hF happ hP
  obtain ⟨hcalls, hrest, hpre⟩ := hP
  obtain ⟨-, -, -, hnamed, -, -, -, hat⟩ := (Spec.applies_iff hf).mp happ
  obtain ⟨hg, hn⟩ := and_e (Cond.before_iff.mp (show (Jvm.Cond.and given_1 narrow_1).before args s = true from hpre))
  obtain ⟨h1, g0⟩ := and_e hg
  obtain ⟨k0, g1⟩ := and_e g0
  obtain ⟨k1, g2⟩ := and_e g1
  obtain ⟨k2, g3⟩ := and_e g2
  obtain ⟨w0, w1, w2, w3, rfl⟩ : ∃ w0 w1 w2 w3 : Value, args = #[w0, w1, w2, w3] := by
    have hs : args.size = 4 := by simpa [Cond.value, given_1] using h1
    obtain ⟨L⟩ := args
    match L, hs with
    | [w0, w1, w2, w3], _ => exact ⟨w0, w1, w2, w3, rfl⟩
  have hw := fun d (hd : d ∈ tables_1) => atoms_spec (ws := Jvm.Cond.code x code maxLocals ret :: tables_1) hat d (List.mem_cons_of_mem _ hd)
  have hfit : Fit s := fun {y c} hc i hi => by
    obtain ⟨ha, rfl⟩ := Array.getElem?_eq_some_iff.mp hc
    have q := List.all_eq_true.mp ((Array.all_eq_true_iff_forall_mem.mp hF) _ (Array.getElem_mem ha)) i (List.mem_range.mpr hi)
    simpa [Array.getElem?_eq_getElem hi] using q
  obtain ⟨i0, e0⟩ := is_v k0
  obtain rfl : w0 = (.int i0) := Option.some.inj e0
  obtain ⟨i1, e1⟩ := is_v k1
  obtain rfl : w1 = (.int i1) := Option.some.inj e1
  obtain ⟨i2, e2⟩ := is_v k2
  obtain rfl : w2 = (.int i2) := Option.some.inj e2
  obtain ⟨i3, e3⟩ := is_v g3
  obtain rfl : w3 = (.int i3) := Option.some.inj e3
  obtain ⟨n, o, h1, h2, h3, _, L, rfl, ⟨rfl, N⟩, hq⟩ := rm0 l s _ hw tables_1 i0 i1 i2 i3 s.heap s.heap.size (Nat.le_refl _)  p e ha hc hk s m _ below hf ((Spec.applies_iff_loose hf).mp happ).1 ⟨rfl, State.Warmed39.refl s, rfl⟩ trivial
  refine ⟨n, _, h1, h2, h3, hpost _ _ _ _ _ _ ⟨Cond.after_iff.mpr rfl, Cond.after_iff.mpr (eq_i res_at (Term.int_eval (1)) rfl), trivial⟩ ⟨hq.1, hq.2.1, (hq.2.2.sift fun y hy => Or.inr (N y hy)).mono (by decide) (by decide)⟩⟩
theorem main_1_1 : Claimed_1_1 := comes_1 fun _ _ _ _ _ _ h hF => ⟨h.1, hF⟩
theorem main_1_2 : Claimed_1_2 := comes_1 fun _ _ _ _ _ _ h hF => ⟨h.2.1, hF⟩
end Jvm.Pilot.@@N@@
namespace Jvm.Pilot.@@N@@
open Jvm Jvm.ClassFile Sem Op Lib Jvm.Free Jvm.Stand Jvm.Pilot.@@N@@.Jvm.D
/-! MADE BY PROGRAM (witnessworld.py) out of the Statement's table words and the real class files: 14 classes; the members and pool entries that the words name. The judged class is class 1, her method 1. -/
namespace start1
open Jvm.ClassFile
def u (s : String) : CpInfo := .utf8 (stringToUtf16 s)
/-- a pool by its gaps: so many unusable entries, then the entry; so many at the end -/
def gap : Nat → List CpInfo → List CpInfo
  | 0, r => r
  | n + 1, r => .unusable :: gap n r
def poolList (es : List (Nat × CpInfo)) (last : Nat) : List CpInfo := es.foldr (fun e r => gap e.1 (e.2 :: r)) (gap last [])
def pool (es : List (Nat × CpInfo)) (last : Nat) : Array CpInfo := ⟨poolList es last⟩
def fileOf (pool : Array CpInfo) (this : Nat) (attrs : Array Attribute := #[]) (ms : Array MethodInfo := #[]) (fl : Nat := 33) (sup : Nat := 0) (ifs : Array Nat := #[]) (fds : Array FieldInfo := #[]) : ClassFile where
  minorVersion := 0
  majorVersion := 65
  constantPool := pool
  accessFlags := fl
  thisClass := this
  superClass := sup
  interfaces := ifs
  fields := fds
  methods := ms
  attributes := attrs
def plain (name : String) (sup : Option ClassId) : Class where
  name := name
  kind := .ordinary
  loader := none
  accessFlags := 33
  super := sup
  interfaces := #[]
  cf := none
  fields := #[]
  methods := #[]
  instanceTypes := #[]
  staticTypes := #[]
  resolved := #[]
  callSites := []
  init := .initialized
  statics := none
  mirror := none

def pool0 : Array CpInfo := pool [(5, u "<init>"), (0, u "()V"), (1, .class_ 10), (1, u "java/lang/Object")] 113

def k0c0 : Code := { maxStack := 0, maxLocals := 1, code := object_method_1_code, exceptionTable := #[], attributes := #[] }
def k0m0 : Method := { name := "<init>", desc := "()V", sig := { parameters := [], returnType := none }, accessFlags := 1, code := some k0c0 }
/-- java/lang/Object -/
def k0 : Class := { plain "java/lang/Object" none with
  accessFlags := 33
  interfaces := #[]
  cf := some (fileOf pool0 8 #[] #[{ accessFlags := 1, nameIndex := 5, descriptorIndex := 6, attributes := #[] }] 33 0 #[] #[])
  fields := #[]
  methods := #[k0m0]
  instanceTypes := #[]
  staticTypes := #[]
  resolved := Array.replicate 124 none
  statics := none }

def pool1 : Array CpInfo := pool [(2, .class_ 4), (1, u "java/lang/Object"), (0, u "<init>"), (0, u "()V"), (0, .class_ 8), (0, u "com/example/skywright/skywright/search/Kept"), (0, .methodref 7 10), (0, .nameAndType 5 11), (0, u "(Z)V"), (0, .double 4613937818241073152), (1, .methodref 7 15), (0, .nameAndType 16 17), (0, u "admit"), (0, u "(IDDD)Z"), (0, .double 4611686018427387904), (1, .methodref 7 21), (0, .nameAndType 22 23), (0, u "size"), (0, u "()I"), (0, .integer 2147483647), (0, .methodref 7 26), (0, .nameAndType 27 28), (0, u "takeUnextended"), (0, u "(I)Z"), (0, .methodref 7 30), (0, .nameAndType 31 32), (0, u "label"), (0, u "(I)I"), (0, .class_ 34), (0, u "com/example/skywright/skywright/search/KeptTakeUnextendedPinLaw"), (2, u "law"), (0, u "(IIII)Z")] 3

def k1m0 : Method := { name := "<init>", desc := "()V", sig := { parameters := [], returnType := none }, accessFlags := 1, code := none }
def k1c1 : Code := { maxStack := 8, maxLocals := 13, code := code, exceptionTable := #[], attributes := #[] }
def k1m1 : Method := { name := "law", desc := "(IIII)Z", sig := { parameters := [.int, .int, .int, .int], returnType := some .boolean }, accessFlags := 9, code := some k1c1 }
/-- com/example/skywright/skywright/search/KeptTakeUnextendedPinLaw -/
def k1 : Class := { plain "com/example/skywright/skywright/search/KeptTakeUnextendedPinLaw" (some 0) with
  accessFlags := 49
  interfaces := #[]
  cf := some (fileOf pool1 33 #[] #[{ accessFlags := 1, nameIndex := 5, descriptorIndex := 6, attributes := #[] }, { accessFlags := 9, nameIndex := 37, descriptorIndex := 38, attributes := #[] }] 49 2 #[] #[])
  fields := #[]
  methods := #[k1m0, k1m1]
  instanceTypes := #[]
  staticTypes := #[]
  resolved := Array.replicate 42 none
  statics := none }

def pool2 : Array CpInfo := pool [(1, .methodref 2 3), (0, .class_ 4), (0, .nameAndType 5 6), (0, u "java/lang/Object"), (0, u "<init>"), (0, u "()V"), (0, .fieldref 8 9), (0, .class_ 10), (0, .nameAndType 11 12), (0, u "com/example/skywright/skywright/search/Kept"), (0, u "labels"), (0, u "[I"), (0, .fieldref 8 14), (0, .nameAndType 15 16), (0, u "masses"), (0, u "[D"), (0, .fieldref 8 18), (0, .nameAndType 19 16), (0, u "sigmaCosts"), (0, .fieldref 8 21), (0, .nameAndType 22 16), (0, u "rhoCosts"), (0, .fieldref 8 24), (0, .nameAndType 25 26), (0, u "extended"), (0, u "[Z"), (0, .fieldref 8 28), (0, .nameAndType 29 30), (0, u "lighterMayDo"), (0, u "Z"), (0, .fieldref 8 32), (0, .nameAndType 33 34), (0, u "size"), (0, u "I"), (12, .methodref 48 49), (0, .class_ 50), (0, .nameAndType 51 52), (0, u "java/lang/System"), (0, u "arraycopy"), (0, u "(Ljava/lang/Object;ILjava/lang/Object;II)V"), (0, u "(Z)V"), (2, u "admit"), (0, u "(IDDD)Z"), (1, u "()I"), (0, u "label"), (0, u "(I)I"), (0, u "takeUnextended"), (0, u "(I)Z")] 2

def k2c0 : Code := { maxStack := 2, maxLocals := 2, code := prog_29_method_1_code, exceptionTable := #[], attributes := #[] }
def k2m0 : Method := { name := "<init>", desc := "(Z)V", sig := { parameters := [.boolean], returnType := none }, accessFlags := 0, code := some k2c0 }
def k2c1 : Code := { maxStack := 6, maxLocals := 14, code := prog_29_method_2_code, exceptionTable := #[], attributes := #[] }
def k2m1 : Method := { name := "admit", desc := "(IDDD)Z", sig := { parameters := [.int, .double, .double, .double], returnType := some .boolean }, accessFlags := 0, code := some k2c1 }
def k2c2 : Code := { maxStack := 1, maxLocals := 1, code := prog_29_method_3_code, exceptionTable := #[], attributes := #[] }
def k2m2 : Method := { name := "size", desc := "()I", sig := { parameters := [], returnType := some .int }, accessFlags := 0, code := some k2c2 }
def k2c3 : Code := { maxStack := 2, maxLocals := 2, code := prog_29_method_4_code, exceptionTable := #[], attributes := #[] }
def k2m3 : Method := { name := "label", desc := "(I)I", sig := { parameters := [.int], returnType := some .int }, accessFlags := 0, code := some k2c3 }
def k2c4 : Code := { maxStack := 3, maxLocals := 3, code := prog_29_method_5_code, exceptionTable := #[], attributes := #[] }
def k2m4 : Method := { name := "takeUnextended", desc := "(I)Z", sig := { parameters := [.int], returnType := some .boolean }, accessFlags := 0, code := some k2c4 }
/-- com/example/skywright/skywright/search/Kept -/
def k2 : Class := { plain "com/example/skywright/skywright/search/Kept" (some 0) with
  accessFlags := 48
  interfaces := #[]
  cf := some (fileOf pool2 8 #[] #[{ accessFlags := 0, nameIndex := 5, descriptorIndex := 53, attributes := #[] }, { accessFlags := 0, nameIndex := 56, descriptorIndex := 57, attributes := #[] }, { accessFlags := 0, nameIndex := 33, descriptorIndex := 59, attributes := #[] }, { accessFlags := 0, nameIndex := 60, descriptorIndex := 61, attributes := #[] }, { accessFlags := 0, nameIndex := 62, descriptorIndex := 63, attributes := #[] }] 48 2 #[] #[{ accessFlags := 2, nameIndex := 11, descriptorIndex := 12, attributes := #[] }, { accessFlags := 2, nameIndex := 15, descriptorIndex := 16, attributes := #[] }, { accessFlags := 2, nameIndex := 19, descriptorIndex := 16, attributes := #[] }, { accessFlags := 2, nameIndex := 22, descriptorIndex := 16, attributes := #[] }, { accessFlags := 2, nameIndex := 25, descriptorIndex := 26, attributes := #[] }, { accessFlags := 2, nameIndex := 33, descriptorIndex := 34, attributes := #[] }, { accessFlags := 18, nameIndex := 29, descriptorIndex := 30, attributes := #[] }])
  fields := #[{ name := "labels", type := (.array .int), accessFlags := 2, slot := 0, constantValue := 0 }, { name := "masses", type := (.array .double), accessFlags := 2, slot := 1, constantValue := 0 }, { name := "sigmaCosts", type := (.array .double), accessFlags := 2, slot := 2, constantValue := 0 }, { name := "rhoCosts", type := (.array .double), accessFlags := 2, slot := 3, constantValue := 0 }, { name := "extended", type := (.array .boolean), accessFlags := 2, slot := 4, constantValue := 0 }, { name := "size", type := .int, accessFlags := 2, slot := 5, constantValue := 0 }, { name := "lighterMayDo", type := .boolean, accessFlags := 18, slot := 6, constantValue := 0 }]
  methods := #[k2m0, k2m1, k2m2, k2m3, k2m4]
  instanceTypes := #[(.array .int), (.array .double), (.array .double), (.array .double), (.array .boolean), .int, .boolean]
  staticTypes := #[]
  resolved := Array.replicate 66 none
  statics := none }

def pool3 : Array CpInfo := pool [(2, .class_ 4), (1, u "java/lang/Object"), (0, u "<init>"), (0, u "()V"), (1, .class_ 10), (1, u "java/lang/System"), (0, u "allowSecurityManager"), (0, u "I"), (16, u "cons"), (0, u "Ljava/io/Console;"), (77, .class_ 110), (1, u "java/lang/System$CallersHolder"), (43, u "initialErrStream"), (0, u "Ljava/io/PrintStream;"), (19, u "security"), (0, u "Ljava/lang/SecurityManager;"), (31, .class_ 209), (0, u "java/lang/System$1"), (7, u "props"), (0, u "Ljava/util/Properties;"), (2, u "lineSeparator"), (0, u "Ljava/lang/String;"), (96, .class_ 321), (1, u "java/lang/System$LoggerFinder"), (5, .class_ 328), (0, u "java/lang/System$Logger"), (67, u "err"), (2, u "out"), (91, u "notSupportedJnuEncoding"), (15, u "in"), (17, u "initialIn"), (0, u "Ljava/io/InputStream;"), (35, u "bootLayer"), (0, u "Ljava/lang/ModuleLayer;"), (99, .class_ 664), (0, u "java/lang/System$2"), (9, u "NEVER"), (2, u "MAYBE"), (49, u "arraycopy"), (0, u "(Ljava/lang/Object;ILjava/lang/Object;II)V"), (72, .class_ 802), (0, u "java/lang/System$Logger$Level")] 31

def k3m0 : Method := { name := "<init>", desc := "()V", sig := { parameters := [], returnType := none }, accessFlags := 2, code := none }
def k3m1 : Method := { name := "arraycopy", desc := "(Ljava/lang/Object;ILjava/lang/Object;II)V", sig := { parameters := [(.object "java/lang/Object"), .int, (.object "java/lang/Object"), .int, .int], returnType := none }, accessFlags := 265, code := none }
/-- java/lang/System -/
def k3 : Class := { plain "java/lang/System" (some 0) with
  accessFlags := 49
  interfaces := #[]
  cf := some (fileOf pool3 8 #[.nestMembers #[319, 327, 801, 108, 663, 208]] #[{ accessFlags := 2, nameIndex := 5, descriptorIndex := 6, attributes := #[] }, { accessFlags := 265, nameIndex := 727, descriptorIndex := 728, attributes := #[] }] 49 2 #[] #[{ accessFlags := 25, nameIndex := 507, descriptorIndex := 526, attributes := #[] }, { accessFlags := 25, nameIndex := 399, descriptorIndex := 155, attributes := #[] }, { accessFlags := 25, nameIndex := 396, descriptorIndex := 155, attributes := #[] }, { accessFlags := 10, nameIndex := 525, descriptorIndex := 526, attributes := #[] }, { accessFlags := 26, nameIndex := 674, descriptorIndex := 12, attributes := #[] }, { accessFlags := 26, nameIndex := 677, descriptorIndex := 12, attributes := #[] }, { accessFlags := 10, nameIndex := 11, descriptorIndex := 12, attributes := #[] }, { accessFlags := 74, nameIndex := 175, descriptorIndex := 176, attributes := #[] }, { accessFlags := 10, nameIndex := 491, descriptorIndex := 222, attributes := #[] }, { accessFlags := 74, nameIndex := 29, descriptorIndex := 30, attributes := #[] }, { accessFlags := 74, nameIndex := 154, descriptorIndex := 155, attributes := #[] }, { accessFlags := 10, nameIndex := 217, descriptorIndex := 218, attributes := #[] }, { accessFlags := 10, nameIndex := 221, descriptorIndex := 222, attributes := #[] }, { accessFlags := 8, nameIndex := 562, descriptorIndex := 563, attributes := #[] }])
  fields := #[{ name := "in", type := (.object "java/io/InputStream"), accessFlags := 25, slot := 0, constantValue := 0 }, { name := "out", type := (.object "java/io/PrintStream"), accessFlags := 25, slot := 1, constantValue := 0 }, { name := "err", type := (.object "java/io/PrintStream"), accessFlags := 25, slot := 2, constantValue := 0 }, { name := "initialIn", type := (.object "java/io/InputStream"), accessFlags := 10, slot := 3, constantValue := 0 }, { name := "NEVER", type := .int, accessFlags := 26, slot := 4, constantValue := 0 }, { name := "MAYBE", type := .int, accessFlags := 26, slot := 5, constantValue := 0 }, { name := "allowSecurityManager", type := .int, accessFlags := 10, slot := 6, constantValue := 0 }, { name := "security", type := (.object "java/lang/SecurityManager"), accessFlags := 74, slot := 7, constantValue := 0 }, { name := "notSupportedJnuEncoding", type := (.object "java/lang/String"), accessFlags := 10, slot := 8, constantValue := 0 }, { name := "cons", type := (.object "java/io/Console"), accessFlags := 74, slot := 9, constantValue := 0 }, { name := "initialErrStream", type := (.object "java/io/PrintStream"), accessFlags := 74, slot := 10, constantValue := 0 }, { name := "props", type := (.object "java/util/Properties"), accessFlags := 10, slot := 11, constantValue := 0 }, { name := "lineSeparator", type := (.object "java/lang/String"), accessFlags := 10, slot := 12, constantValue := 0 }, { name := "bootLayer", type := (.object "java/lang/ModuleLayer"), accessFlags := 8, slot := 13, constantValue := 0 }]
  methods := #[k3m0, k3m1]
  instanceTypes := #[]
  staticTypes := #[(.object "java/io/InputStream"), (.object "java/io/PrintStream"), (.object "java/io/PrintStream"), (.object "java/io/InputStream"), .int, .int, .int, (.object "java/lang/SecurityManager"), (.object "java/lang/String"), (.object "java/io/Console"), (.object "java/io/PrintStream"), (.object "java/util/Properties"), (.object "java/lang/String"), (.object "java/lang/ModuleLayer")]
  resolved := Array.replicate 834 none
  statics := none }

def pool4 : Array CpInfo := pool [(1, u "java/lang/Cloneable"), (0, .class_ 1), (0, u "java/lang/Object"), (0, .class_ 3)] 3

/-- java/lang/Cloneable -/
def k4 : Class := { plain "java/lang/Cloneable" (some 0) with
  accessFlags := 1537
  interfaces := #[]
  cf := some (fileOf pool4 2 #[] #[] 1537 4 #[] #[])
  fields := #[]
  methods := #[]
  instanceTypes := #[]
  staticTypes := #[]
  resolved := Array.replicate 8 none
  statics := none }

def pool5 : Array CpInfo := pool [(1, u "java/io/Serializable"), (0, .class_ 1), (0, u "java/lang/Object"), (0, .class_ 3)] 3

/-- java/io/Serializable -/
def k5 : Class := { plain "java/io/Serializable" (some 0) with
  accessFlags := 1537
  interfaces := #[]
  cf := some (fileOf pool5 2 #[] #[] 1537 4 #[] #[])
  fields := #[]
  methods := #[]
  instanceTypes := #[]
  staticTypes := #[]
  resolved := Array.replicate 8 none
  statics := none }

/-- the primitive boolean -/
def k6 : Class := { plain "boolean" none with kind := .primitive 'Z', accessFlags := 0x411 }
/-- [Z -/
def k7 : Class := { plain "[Z" (some 0) with kind := .array 6 .boolean, interfaces := #[4, 5], accessFlags := 1041 }

/-- the primitive byte -/
def k8 : Class := { plain "byte" none with kind := .primitive 'B', accessFlags := 0x411 }
/-- [B -/
def k9 : Class := { plain "[B" (some 0) with kind := .array 8 .byte, interfaces := #[4, 5], accessFlags := 1041 }

/-- the primitive double -/
def k10 : Class := { plain "double" none with kind := .primitive 'D', accessFlags := 0x411 }
/-- [D -/
def k11 : Class := { plain "[D" (some 0) with kind := .array 10 .double, interfaces := #[4, 5], accessFlags := 1041 }

/-- the primitive int -/
def k12 : Class := { plain "int" none with kind := .primitive 'I', accessFlags := 0x411 }
/-- [I -/
def k13 : Class := { plain "[I" (some 0) with kind := .array 12 .int, interfaces := #[4, 5], accessFlags := 1041 }

def heap : Heap := #[]
def classes : Array Class := #[k0, k1, k2, k3, k4, k5, k6, k7, k8, k9, k10, k11, k12, k13]
def interned : List (Array UInt16 × Addr) := []
def slotsUsed : Nat := 0
def theMethod : MethodId := ⟨1, 1⟩
def args0 : Array Value := #[.int 5, .int 7, .int 0, .int 1]
def aboutOver (below : List Frame) : State where
  vm := { classes := classes, interned := interned.toArray }
  heap := heap
  slotsUsed := slotsUsed
  threads := #[{ frames := .invoking theMethod args0 :: below }]
def below0 : List Frame := [.native { method := ⟨0, 0⟩, args := #[] }]
def about1 : State := aboutOver below0
def p0 : Program := .bare "" "" ""
def e0 : Env := launch0.env 0 0 0
theorem w_frames : about1.frames = Frame.invoking theMethod args0 :: below0 := rfl
set_option maxRecDepth 65536 in
theorem w_args : argsFit about1.vm theMethod args0 = true := by decide +kernel
set_option maxRecDepth 65536 in
theorem w_heap : heapFits about1 = true := by decide +kernel
set_option maxRecDepth 65536 in
theorem w_runnable : about1.curStatus? = some .runnable := by decide +kernel
set_option maxRecDepth 65536 in
theorem w_alone : about1.alone = true := by decide +kernel
set_option maxRecDepth 65536 in
theorem w_named : about1.methodNamed? x = some theMethod := by decide +kernel
set_option maxRecDepth 65536 in
theorem w_hears : about1.hears theMethod below0 = true := by decide +kernel
set_option maxRecDepth 65536 in
theorem w_ripe : about1.ripe theMethod args0 below0 = true := by decide +kernel
theorem w_running : about1.status = .running := rfl
set_option maxRecDepth 65536 in
theorem w_room : about1.hasRoom e0.platform room_1 = true :=
  launch0.hasRoom_least _ room_1 (by decide +kernel) (by decide +kernel) (by decide +kernel) (by decide +kernel) (by decide +kernel) (by decide +kernel)
theorem allAtoms_all (ts : List Jvm.Cond) (a : Array Jvm.Value) (st : Jvm.State) : (allAtoms ts).before a st = ts.all (fun c => c.before a st) := by
  induction ts with
  | nil => rfl
  | cons c t ih =>
    show (Jvm.Cond.and c (allAtoms t)).before a st = _
    rw [Jvm.Cond.before_and, ih, List.all_cons]
def words1 : List Jvm.Cond := Jvm.Cond.code x code maxLocals ret :: tables_1
/-- a 'code' word, met by the world's own term for the bytes: nothing is compared byte by byte -/
theorem code_word {y : MethodName} {bytes : ByteArray} {mx : Nat} {rt : Option FieldType} {a : Array Value} {s : State} {m : MethodId} {meth : Method} {c : Code} (h1 : s.methodNamed? y = some m) (h2 : s.vm.method? m = some meth) (h3 : meth.code = some c) (h4 : c.code = bytes)
    (h5 : (c.maxLocals == mx && c.exceptionTable.isEmpty && decide (c.maxStack ≤ mostOperands) && decide (meth.sig.returnType = rt) && !meth.locks && decide (parseMethodDescriptor y.desc = some meth.sig)) = true) : (Jvm.Cond.code y bytes mx rt).before a s = true := by
  simp only [Bool.and_eq_true, beq_iff_eq, Bool.not_eq_true', decide_eq_true_eq] at h5
  obtain ⟨⟨⟨⟨⟨g1, g2⟩, g3⟩, g4⟩, g5⟩, g6⟩ := h5
  simp [Cond.before, Cond.holds, Cond.value, h1, h2, h3, h4, g1, g2, g3, g4, g5, g6]
def isCode : Jvm.Cond → Bool
  | .code _ _ _ _ => true
  | _ => false
theorem all_split {L : List Jvm.Cond} {P : Jvm.Cond → Bool} (h1 : L.all (fun c => isCode c || P c) = true) (h2 : ∀ c ∈ L.filter isCode, P c = true) : L.all P = true := by
  refine List.all_eq_true.mpr fun c hc => ?_
  have h := List.all_eq_true.mp h1 c hc
  rcases Bool.eq_false_or_eq_true (isCode c) with hi | hi
  · exact h2 c (List.mem_filter.mpr ⟨hc, hi⟩)
  · simpa [hi] using h
set_option maxRecDepth 65536 in
theorem w_c0 : (Jvm.Cond.code x code maxLocals ret).before args0 about1 = true := code_word (m := ⟨1, 1⟩) (meth := k1m1) (c := k1c1) (by decide +kernel) rfl rfl rfl (by decide +kernel)
set_option maxRecDepth 65536 in
theorem w_c1 : (Jvm.Cond.code ({ cls := "com/example/skywright/skywright/search/Kept", name := "<init>", desc := "(Z)V" } : Jvm.MethodName) prog_29_method_1_code (2 : Nat) (Option.none : Option Jvm.ClassFile.FieldType)).before args0 about1 = true := code_word (m := ⟨2, 0⟩) (meth := k2m0) (c := k2c0) (by decide +kernel) rfl rfl rfl (by decide +kernel)
set_option maxRecDepth 65536 in
theorem w_c2 : (Jvm.Cond.code ({ cls := "java/lang/Object", name := "<init>", desc := "()V" } : Jvm.MethodName) object_method_1_code (1 : Nat) (Option.none : Option Jvm.ClassFile.FieldType)).before args0 about1 = true := code_word (m := ⟨0, 0⟩) (meth := k0m0) (c := k0c0) (by decide +kernel) rfl rfl rfl (by decide +kernel)
set_option maxRecDepth 65536 in
theorem w_c3 : (Jvm.Cond.code ({ cls := "com/example/skywright/skywright/search/Kept", name := "admit", desc := "(IDDD)Z" } : Jvm.MethodName) prog_29_method_2_code (14 : Nat) (Option.some Jvm.ClassFile.FieldType.boolean)).before args0 about1 = true := code_word (m := ⟨2, 1⟩) (meth := k2m1) (c := k2c1) (by decide +kernel) rfl rfl rfl (by decide +kernel)
set_option maxRecDepth 65536 in
theorem w_c4 : (Jvm.Cond.code ({ cls := "com/example/skywright/skywright/search/Kept", name := "size", desc := "()I" } : Jvm.MethodName) prog_29_method_3_code (1 : Nat) (Option.some Jvm.ClassFile.FieldType.int)).before args0 about1 = true := code_word (m := ⟨2, 2⟩) (meth := k2m2) (c := k2c2) (by decide +kernel) rfl rfl rfl (by decide +kernel)
set_option maxRecDepth 65536 in
theorem w_c5 : (Jvm.Cond.code ({ cls := "com/example/skywright/skywright/search/Kept", name := "takeUnextended", desc := "(I)Z" } : Jvm.MethodName) prog_29_method_5_code (3 : Nat) (Option.some Jvm.ClassFile.FieldType.boolean)).before args0 about1 = true := code_word (m := ⟨2, 4⟩) (meth := k2m4) (c := k2c4) (by decide +kernel) rfl rfl rfl (by decide +kernel)
set_option maxRecDepth 65536 in
theorem w_c6 : (Jvm.Cond.code ({ cls := "com/example/skywright/skywright/search/Kept", name := "label", desc := "(I)I" } : Jvm.MethodName) prog_29_method_4_code (2 : Nat) (Option.some Jvm.ClassFile.FieldType.int)).before args0 about1 = true := code_word (m := ⟨2, 3⟩) (meth := k2m3) (c := k2c3) (by decide +kernel) rfl rfl rfl (by decide +kernel)
def codes1 : List Jvm.Cond := [Jvm.Cond.code x code maxLocals ret, Jvm.Cond.code ({ cls := "com/example/skywright/skywright/search/Kept", name := "<init>", desc := "(Z)V" } : Jvm.MethodName) prog_29_method_1_code (2 : Nat) (Option.none : Option Jvm.ClassFile.FieldType), Jvm.Cond.code ({ cls := "java/lang/Object", name := "<init>", desc := "()V" } : Jvm.MethodName) object_method_1_code (1 : Nat) (Option.none : Option Jvm.ClassFile.FieldType), Jvm.Cond.code ({ cls := "com/example/skywright/skywright/search/Kept", name := "admit", desc := "(IDDD)Z" } : Jvm.MethodName) prog_29_method_2_code (14 : Nat) (Option.some Jvm.ClassFile.FieldType.boolean), Jvm.Cond.code ({ cls := "com/example/skywright/skywright/search/Kept", name := "size", desc := "()I" } : Jvm.MethodName) prog_29_method_3_code (1 : Nat) (Option.some Jvm.ClassFile.FieldType.int), Jvm.Cond.code ({ cls := "com/example/skywright/skywright/search/Kept", name := "takeUnextended", desc := "(I)Z" } : Jvm.MethodName) prog_29_method_5_code (3 : Nat) (Option.some Jvm.ClassFile.FieldType.boolean), Jvm.Cond.code ({ cls := "com/example/skywright/skywright/search/Kept", name := "label", desc := "(I)I" } : Jvm.MethodName) prog_29_method_4_code (2 : Nat) (Option.some Jvm.ClassFile.FieldType.int)]
set_option maxRecDepth 65536 in
theorem codes_eq : words1.filter isCode = codes1 := rfl
theorem w_codes : ∀ c ∈ words1.filter isCode, c.before args0 about1 = true := by
  rw [codes_eq]
  intro c hc
  simp only [codes1, List.mem_cons, List.not_mem_nil, or_false] at hc
  rcases hc with rfl | rfl | rfl | rfl | rfl | rfl | rfl
  · exact w_c0
  · exact w_c1
  · exact w_c2
  · exact w_c3
  · exact w_c4
  · exact w_c5
  · exact w_c6
set_option maxRecDepth 65536 in
theorem w_t1 : (words1.take 24).all (fun c => isCode c || c.before args0 about1) = true := by decide +kernel
set_option maxRecDepth 65536 in
theorem w_t2 : ((words1.drop 24).take 24).all (fun c => isCode c || c.before args0 about1) = true := by decide +kernel
set_option maxRecDepth 65536 in
theorem w_t3 : ((words1.drop 24).drop 24).all (fun c => isCode c || c.before args0 about1) = true := by decide +kernel
theorem w_tables : (allAtoms (Jvm.Cond.code x code maxLocals ret :: tables_1)).before args0 about1 = true := by
  rw [allAtoms_all]
  show words1.all (fun c => c.before args0 about1) = true
  refine all_split ?_ w_codes
  rw [← List.take_append_drop 24 words1, List.all_append, w_t1, ← List.take_append_drop 24 (words1.drop 24), List.all_append, w_t2, w_t3]
  rfl
set_option maxRecDepth 65536 in
theorem w_case : (Jvm.Cond.and given_1 narrow_1).before args0 about1 = true := by decide +kernel
theorem w_applies : (headSpec (Jvm.Cond.code x code maxLocals ret :: tables_1) room_1).applies x e0.platform about1 = true :=
  (Spec.applies_iff w_frames).mpr ⟨w_running, w_runnable, w_alone, w_named, w_hears, w_ripe, w_room, w_tables⟩
theorem atStart : AtStart classFile x code maxLocals ret World_1 tables_1 room_1 Calls_1 rest_1 Pre_1 launch0 p0 e0 about1 theMethod args0 below0 :=
  ⟨lists_1, trivial, launch0.admits_env _ _ _, launch0.least_env, fairChoices_fair.cas, fairChoices_fair.clock, w_frames, w_args, w_heap, w_applies, trivial, trivial, w_case⟩
end start1
theorem witness_1 : WitnessClaimed_1 := ⟨start1.p0, start1.e0, start1.about1, start1.theMethod, start1.args0, start1.below0, start1.atStart⟩
end Jvm.Pilot.@@N@@
