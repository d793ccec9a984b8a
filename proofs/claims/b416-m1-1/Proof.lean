import JvmDerived
import JvmDerived.Pilot.@@N@@Statement
import JvmDerived.Pilot.@@N@@Code
set_option linter.unusedVariables false
set_option linter.unusedSimpArgs false
namespace Jvm.Pilot.@@N@@
open Jvm Jvm.ClassFile Sem Op Lib Jvm.Free Jvm.Stand Jvm.LawKit Jvm.RoadKit Bundle Jvm.Pilot.@@N@@.Jvm.D
section OwnKit
variable {p : Program} {l : Launch} {e : Env} {R : Room} {s : State} {m : MethodId} {args : Array Value} {below : List Frame} {meth : Method} {c : Code} {T : State} {locs : List Loc} {cells slots : Nat} {P : State → Outcome → Prop} {pc : Nat} {Ls : Array Slot} {st : List Value} {Z : State} {a0 : Array Value} {h : Heap} {own : String} {index : Nat}
/-- what is still owed from a state on -/
def Go (p : Program) (e : Env) (below : List Frame) (P : State → Outcome → Prop) (S : State) : Prop := ∃ s₂ o, Steps p.tables e below S s₂ ∧ s₂.status = .running ∧ Ended s₂ below o ∧ P s₂ o
theorem Go.by {S S' : State} (st : ∀ t, Steps p.tables e below S' t → Steps p.tables e below S t) (k : Go p e below P S') : Go p e below P S := by
  obtain ⟨a, b, h1, h2⟩ := k
  exact ⟨a, b, st _ h1, h2⟩
def Ret (s : State) (Q : Option Value → Heap → List Loc → Prop) (C N : Nat) (s₂ : State) (o : Outcome) : Prop := ∃ v L, o = .returned v ∧ Q v s₂.heap L ∧ FrameEnd s o s₂ L C N

theorem g_iloadN (X : Stand p l e R s m args below meth c T locs cells slots) (hx : p.tables.exec = Jvm.exec) {k : Fin 4} {v : Int32} (hd : decode c.code pc = .ok (.iload_n k, 1)) (hl : Ls[k.val]? = some (.val (.int v))) (q : Go p e below P (T.setTop (mkF m (pc + 1) Ls (.int v :: st)))) : Go p e below P (T.setTop (mkF m pc Ls st)) := q.by fun t r => XS.iloadN X.here hx rfl hd hl r
theorem g_iload (X : Stand p l e R s m args below meth c T locs cells slots) (hx : p.tables.exec = Jvm.exec) {k : Nat} {v : Int32} (hd : decode c.code pc = .ok (.iload k, 2)) (hl : Ls[k]? = some (.val (.int v))) (q : Go p e below P (T.setTop (mkF m (pc + 2) Ls (.int v :: st)))) : Go p e below P (T.setTop (mkF m pc Ls st)) := q.by fun t r => XS.iload X.here hx rfl hd hl r
theorem g_lloadN (X : Stand p l e R s m args below meth c T locs cells slots) (hx : p.tables.exec = Jvm.exec) {k : Fin 4} {v : Int64} (hd : decode c.code pc = .ok (.lload_n k, 1)) (hl : Ls[k.val]? = some (.val (.long v))) (q : Go p e below P (T.setTop (mkF m (pc + 1) Ls (.long v :: st)))) : Go p e below P (T.setTop (mkF m pc Ls st)) := q.by fun t r => XS.lloadN X.here hx rfl hd hl r
theorem g_lload (X : Stand p l e R s m args below meth c T locs cells slots) (hx : p.tables.exec = Jvm.exec) {k : Nat} {v : Int64} (hd : decode c.code pc = .ok (.lload k, 2)) (hl : Ls[k]? = some (.val (.long v))) (q : Go p e below P (T.setTop (mkF m (pc + 2) Ls (.long v :: st)))) : Go p e below P (T.setTop (mkF m pc Ls st)) := q.by fun t r => XS.lload X.here hx rfl hd hl r
theorem g_dloadN (X : Stand p l e R s m args below meth c T locs cells slots) (hx : p.tables.exec = Jvm.exec) {k : Fin 4} {v : UInt64} (hd : decode c.code pc = .ok (.dload_n k, 1)) (hl : Ls[k.val]? = some (.val (.double v))) (q : Go p e below P (T.setTop (mkF m (pc + 1) Ls (.double v :: st)))) : Go p e below P (T.setTop (mkF m pc Ls st)) := q.by fun t r => XS.dloadN X.here hx rfl hd hl r
theorem g_dload (X : Stand p l e R s m args below meth c T locs cells slots) (hx : p.tables.exec = Jvm.exec) {k : Nat} {v : UInt64} (hd : decode c.code pc = .ok (.dload k, 2)) (hl : Ls[k]? = some (.val (.double v))) (q : Go p e below P (T.setTop (mkF m (pc + 2) Ls (.double v :: st)))) : Go p e below P (T.setTop (mkF m pc Ls st)) := q.by fun t r => XS.dload X.here hx rfl hd hl r
theorem g_floadN (X : Stand p l e R s m args below meth c T locs cells slots) (hx : p.tables.exec = Jvm.exec) {k : Fin 4} {v : UInt32} (hd : decode c.code pc = .ok (.fload_n k, 1)) (hl : Ls[k.val]? = some (.val (.float v))) (q : Go p e below P (T.setTop (mkF m (pc + 1) Ls (.float v :: st)))) : Go p e below P (T.setTop (mkF m pc Ls st)) := q.by fun t r => XS.floadN X.here hx rfl hd hl r
theorem g_fload (X : Stand p l e R s m args below meth c T locs cells slots) (hx : p.tables.exec = Jvm.exec) {k : Nat} {v : UInt32} (hd : decode c.code pc = .ok (.fload k, 2)) (hl : Ls[k]? = some (.val (.float v))) (q : Go p e below P (T.setTop (mkF m (pc + 2) Ls (.float v :: st)))) : Go p e below P (T.setTop (mkF m pc Ls st)) := q.by fun t r => XS.fload X.here hx rfl hd hl r
theorem g_aloadN (X : Stand p l e R s m args below meth c T locs cells slots) (hx : p.tables.exec = Jvm.exec) {k : Fin 4} {v : Value} (hd : decode c.code pc = .ok (.aload_n k, 1)) (hl : Ls[k.val]? = some (.val v)) (hv : v.isRef = true) (q : Go p e below P (T.setTop (mkF m (pc + 1) Ls (v :: st)))) : Go p e below P (T.setTop (mkF m pc Ls st)) := q.by fun t r => XS.aloadN X.here hx rfl hd hl hv r
theorem g_aload (X : Stand p l e R s m args below meth c T locs cells slots) (hx : p.tables.exec = Jvm.exec) {k : Nat} {v : Value} (hd : decode c.code pc = .ok (.aload k, 2)) (hl : Ls[k]? = some (.val v)) (hv : v.isRef = true) (q : Go p e below P (T.setTop (mkF m (pc + 2) Ls (v :: st)))) : Go p e below P (T.setTop (mkF m pc Ls st)) := q.by fun t r => XS.aload X.here hx rfl hd hl hv r
theorem g_istoreN (X : Stand p l e R s m args below meth c T locs cells slots) (hx : p.tables.exec = Jvm.exec) {k : Fin 4} {v : Int32} {L' : Array Slot} (hd : decode c.code pc = .ok (.istore_n k, 1)) (hl : storeLocals Ls k.val (.int v) = some L') (q : Go p e below P (T.setTop (mkF m (pc + 1) L' st))) : Go p e below P (T.setTop (mkF m pc Ls (.int v :: st))) := q.by fun t r => XS.istoreN X.here hx rfl hd rfl hl r
theorem g_istore (X : Stand p l e R s m args below meth c T locs cells slots) (hx : p.tables.exec = Jvm.exec) {k : Nat} {v : Int32} {L' : Array Slot} (hd : decode c.code pc = .ok (.istore k, 2)) (hl : storeLocals Ls k (.int v) = some L') (q : Go p e below P (T.setTop (mkF m (pc + 2) L' st))) : Go p e below P (T.setTop (mkF m pc Ls (.int v :: st))) := q.by fun t r => XS.istore X.here hx rfl hd rfl hl r
theorem g_lstoreN (X : Stand p l e R s m args below meth c T locs cells slots) (hx : p.tables.exec = Jvm.exec) {k : Fin 4} {v : Int64} {L' : Array Slot} (hd : decode c.code pc = .ok (.lstore_n k, 1)) (hl : storeLocals Ls k.val (.long v) = some L') (q : Go p e below P (T.setTop (mkF m (pc + 1) L' st))) : Go p e below P (T.setTop (mkF m pc Ls (.long v :: st))) := q.by fun t r => XS.lstoreN X.here hx rfl hd rfl hl r
theorem g_lstore (X : Stand p l e R s m args below meth c T locs cells slots) (hx : p.tables.exec = Jvm.exec) {k : Nat} {v : Int64} {L' : Array Slot} (hd : decode c.code pc = .ok (.lstore k, 2)) (hl : storeLocals Ls k (.long v) = some L') (q : Go p e below P (T.setTop (mkF m (pc + 2) L' st))) : Go p e below P (T.setTop (mkF m pc Ls (.long v :: st))) := q.by fun t r => XS.lstore X.here hx rfl hd rfl hl r
theorem g_dstoreN (X : Stand p l e R s m args below meth c T locs cells slots) (hx : p.tables.exec = Jvm.exec) {k : Fin 4} {v : UInt64} {L' : Array Slot} (hd : decode c.code pc = .ok (.dstore_n k, 1)) (hl : storeLocals Ls k.val (.double v) = some L') (q : Go p e below P (T.setTop (mkF m (pc + 1) L' st))) : Go p e below P (T.setTop (mkF m pc Ls (.double v :: st))) := q.by fun t r => XS.dstoreN X.here hx rfl hd rfl hl r
theorem g_dstore (X : Stand p l e R s m args below meth c T locs cells slots) (hx : p.tables.exec = Jvm.exec) {k : Nat} {v : UInt64} {L' : Array Slot} (hd : decode c.code pc = .ok (.dstore k, 2)) (hl : storeLocals Ls k (.double v) = some L') (q : Go p e below P (T.setTop (mkF m (pc + 2) L' st))) : Go p e below P (T.setTop (mkF m pc Ls (.double v :: st))) := q.by fun t r => XS.dstore X.here hx rfl hd rfl hl r
theorem g_fstoreN (X : Stand p l e R s m args below meth c T locs cells slots) (hx : p.tables.exec = Jvm.exec) {k : Fin 4} {v : UInt32} {L' : Array Slot} (hd : decode c.code pc = .ok (.fstore_n k, 1)) (hl : storeLocals Ls k.val (.float v) = some L') (q : Go p e below P (T.setTop (mkF m (pc + 1) L' st))) : Go p e below P (T.setTop (mkF m pc Ls (.float v :: st))) := q.by fun t r => XS.fstoreN X.here hx rfl hd rfl hl r
theorem g_fstore (X : Stand p l e R s m args below meth c T locs cells slots) (hx : p.tables.exec = Jvm.exec) {k : Nat} {v : UInt32} {L' : Array Slot} (hd : decode c.code pc = .ok (.fstore k, 2)) (hl : storeLocals Ls k (.float v) = some L') (q : Go p e below P (T.setTop (mkF m (pc + 2) L' st))) : Go p e below P (T.setTop (mkF m pc Ls (.float v :: st))) := q.by fun t r => XS.fstore X.here hx rfl hd rfl hl r
theorem g_astoreN (X : Stand p l e R s m args below meth c T locs cells slots) (hx : p.tables.exec = Jvm.exec) {k : Fin 4} {v : Value} {L' : Array Slot} (hd : decode c.code pc = .ok (.astore_n k, 1)) (hv : v.isRef = true) (hl : storeLocals Ls k.val v = some L') (q : Go p e below P (T.setTop (mkF m (pc + 1) L' st))) : Go p e below P (T.setTop (mkF m pc Ls (v :: st))) := q.by fun t r => XS.astoreN X.here hx rfl hd rfl hv hl r
theorem g_astore (X : Stand p l e R s m args below meth c T locs cells slots) (hx : p.tables.exec = Jvm.exec) {k : Nat} {v : Value} {L' : Array Slot} (hd : decode c.code pc = .ok (.astore k, 2)) (hv : v.isRef = true) (hl : storeLocals Ls k v = some L') (q : Go p e below P (T.setTop (mkF m (pc + 2) L' st))) : Go p e below P (T.setTop (mkF m pc Ls (v :: st))) := q.by fun t r => XS.astore X.here hx rfl hd rfl hv hl r
theorem g_iconst (X : Stand p l e R s m args below meth c T locs cells slots) (hx : p.tables.exec = Jvm.exec) {i : Int} {v : Int32} (hd : decode c.code pc = .ok (.iconst i, 1)) (hv : Int32.ofInt i = v) (q : Go p e below P (T.setTop (mkF m (pc + 1) Ls (.int v :: st)))) : Go p e below P (T.setTop (mkF m pc Ls st)) := q.by fun t r => XS.iconst X.here hx rfl hd (hv ▸ r)
theorem g_bipush (X : Stand p l e R s m args below meth c T locs cells slots) (hx : p.tables.exec = Jvm.exec) {i : Int} {v : Int32} (hd : decode c.code pc = .ok (.bipush i, 2)) (hv : (Int8.ofInt i).toInt32 = v) (q : Go p e below P (T.setTop (mkF m (pc + 2) Ls (.int v :: st)))) : Go p e below P (T.setTop (mkF m pc Ls st)) := q.by fun t r => XS.bipush X.here hx rfl hd (hv ▸ r)
theorem g_sipush (X : Stand p l e R s m args below meth c T locs cells slots) (hx : p.tables.exec = Jvm.exec) {i : Int} {v : Int32} (hd : decode c.code pc = .ok (.sipush i, 3)) (hv : (Int16.ofInt i).toInt32 = v) (q : Go p e below P (T.setTop (mkF m (pc + 3) Ls (.int v :: st)))) : Go p e below P (T.setTop (mkF m pc Ls st)) := q.by fun t r => XS.sipush X.here hx rfl hd (hv ▸ r)
theorem g_lconst0 (X : Stand p l e R s m args below meth c T locs cells slots) (hx : p.tables.exec = Jvm.exec)  (hd : decode c.code pc = .ok (.lconst 0, 1))  (q : Go p e below P (T.setTop (mkF m (pc + 1) Ls (.long 0 :: st)))) : Go p e below P (T.setTop (mkF m pc Ls st)) := q.by fun t r => XS.lconst X.here hx rfl hd r
theorem g_lconst1 (X : Stand p l e R s m args below meth c T locs cells slots) (hx : p.tables.exec = Jvm.exec)  (hd : decode c.code pc = .ok (.lconst 1, 1))  (q : Go p e below P (T.setTop (mkF m (pc + 1) Ls (.long 1 :: st)))) : Go p e below P (T.setTop (mkF m pc Ls st)) := q.by fun t r => XS.lconst X.here hx rfl hd r
theorem g_aconst_null (X : Stand p l e R s m args below meth c T locs cells slots) (hx : p.tables.exec = Jvm.exec)  (hd : decode c.code pc = .ok (.aconst_null, 1))  (q : Go p e below P (T.setTop (mkF m (pc + 1) Ls (.null :: st)))) : Go p e below P (T.setTop (mkF m pc Ls st)) := q.by fun t r => XS.aconstNull X.here hx rfl hd r
theorem g_dconst0 (X : Stand p l e R s m args below meth c T locs cells slots) (hx : p.tables.exec = Jvm.exec)  (hd : decode c.code pc = .ok (.dconst 0, 1))  (q : Go p e below P (T.setTop (mkF m (pc + 1) Ls (.double 0 :: st)))) : Go p e below P (T.setTop (mkF m pc Ls st)) := q.by fun t r => XS.dconst0 X.here hx rfl hd rfl r
theorem g_dconst1 (X : Stand p l e R s m args below meth c T locs cells slots) (hx : p.tables.exec = Jvm.exec)  (hd : decode c.code pc = .ok (.dconst 1, 1))  (q : Go p e below P (T.setTop (mkF m (pc + 1) Ls (.double 4607182418800017408 :: st)))) : Go p e below P (T.setTop (mkF m pc Ls st)) := q.by fun t r => XS.dconst1 X.here hx rfl hd rfl r
theorem g_iadd (X : Stand p l e R s m args below meth c T locs cells slots) (hx : p.tables.exec = Jvm.exec) {x y v : Int32} (hd : decode c.code pc = .ok (.iadd, 1)) (hv : x + y = v) (q : Go p e below P (T.setTop (mkF m (pc + 1) Ls (.int v :: st)))) : Go p e below P (T.setTop (mkF m pc Ls (.int y :: .int x :: st))) := q.by fun t r => XS.iadd X.here hx rfl hd rfl (hv ▸ r)
theorem g_isub (X : Stand p l e R s m args below meth c T locs cells slots) (hx : p.tables.exec = Jvm.exec) {x y v : Int32} (hd : decode c.code pc = .ok (.isub, 1)) (hv : x - y = v) (q : Go p e below P (T.setTop (mkF m (pc + 1) Ls (.int v :: st)))) : Go p e below P (T.setTop (mkF m pc Ls (.int y :: .int x :: st))) := q.by fun t r => XS.isub X.here hx rfl hd rfl (hv ▸ r)
theorem g_imul (X : Stand p l e R s m args below meth c T locs cells slots) (hx : p.tables.exec = Jvm.exec) {x y v : Int32} (hd : decode c.code pc = .ok (.imul, 1)) (hv : x * y = v) (q : Go p e below P (T.setTop (mkF m (pc + 1) Ls (.int v :: st)))) : Go p e below P (T.setTop (mkF m pc Ls (.int y :: .int x :: st))) := q.by fun t r => XS.imul X.here hx rfl hd rfl (hv ▸ r)
theorem g_iand (X : Stand p l e R s m args below meth c T locs cells slots) (hx : p.tables.exec = Jvm.exec) {x y v : Int32} (hd : decode c.code pc = .ok (.iand, 1)) (hv : x &&& y = v) (q : Go p e below P (T.setTop (mkF m (pc + 1) Ls (.int v :: st)))) : Go p e below P (T.setTop (mkF m pc Ls (.int y :: .int x :: st))) := q.by fun t r => XS.iand X.here hx rfl hd rfl (hv ▸ r)
theorem g_ior (X : Stand p l e R s m args below meth c T locs cells slots) (hx : p.tables.exec = Jvm.exec) {x y v : Int32} (hd : decode c.code pc = .ok (.ior, 1)) (hv : x ||| y = v) (q : Go p e below P (T.setTop (mkF m (pc + 1) Ls (.int v :: st)))) : Go p e below P (T.setTop (mkF m pc Ls (.int y :: .int x :: st))) := q.by fun t r => XS.ior X.here hx rfl hd rfl (hv ▸ r)
theorem g_ixor (X : Stand p l e R s m args below meth c T locs cells slots) (hx : p.tables.exec = Jvm.exec) {x y v : Int32} (hd : decode c.code pc = .ok (.ixor, 1)) (hv : x ^^^ y = v) (q : Go p e below P (T.setTop (mkF m (pc + 1) Ls (.int v :: st)))) : Go p e below P (T.setTop (mkF m pc Ls (.int y :: .int x :: st))) := q.by fun t r => XS.ixor X.here hx rfl hd rfl (hv ▸ r)
theorem g_ladd (X : Stand p l e R s m args below meth c T locs cells slots) (hx : p.tables.exec = Jvm.exec) {x y v : Int64} (hd : decode c.code pc = .ok (.ladd, 1)) (hv : x + y = v) (q : Go p e below P (T.setTop (mkF m (pc + 1) Ls (.long v :: st)))) : Go p e below P (T.setTop (mkF m pc Ls (.long y :: .long x :: st))) := q.by fun t r => XS.ladd X.here hx rfl hd rfl (hv ▸ r)
theorem g_lsub (X : Stand p l e R s m args below meth c T locs cells slots) (hx : p.tables.exec = Jvm.exec) {x y v : Int64} (hd : decode c.code pc = .ok (.lsub, 1)) (hv : x - y = v) (q : Go p e below P (T.setTop (mkF m (pc + 1) Ls (.long v :: st)))) : Go p e below P (T.setTop (mkF m pc Ls (.long y :: .long x :: st))) := q.by fun t r => XS.lsub X.here hx rfl hd rfl (hv ▸ r)
theorem g_lmul (X : Stand p l e R s m args below meth c T locs cells slots) (hx : p.tables.exec = Jvm.exec) {x y v : Int64} (hd : decode c.code pc = .ok (.lmul, 1)) (hv : x * y = v) (q : Go p e below P (T.setTop (mkF m (pc + 1) Ls (.long v :: st)))) : Go p e below P (T.setTop (mkF m pc Ls (.long y :: .long x :: st))) := q.by fun t r => XS.lmul X.here hx rfl hd rfl (hv ▸ r)
theorem g_land (X : Stand p l e R s m args below meth c T locs cells slots) (hx : p.tables.exec = Jvm.exec) {x y v : Int64} (hd : decode c.code pc = .ok (.land, 1)) (hv : x &&& y = v) (q : Go p e below P (T.setTop (mkF m (pc + 1) Ls (.long v :: st)))) : Go p e below P (T.setTop (mkF m pc Ls (.long y :: .long x :: st))) := q.by fun t r => XS.land X.here hx rfl hd rfl (hv ▸ r)
theorem g_lor (X : Stand p l e R s m args below meth c T locs cells slots) (hx : p.tables.exec = Jvm.exec) {x y v : Int64} (hd : decode c.code pc = .ok (.lor, 1)) (hv : x ||| y = v) (q : Go p e below P (T.setTop (mkF m (pc + 1) Ls (.long v :: st)))) : Go p e below P (T.setTop (mkF m pc Ls (.long y :: .long x :: st))) := q.by fun t r => XS.lor X.here hx rfl hd rfl (hv ▸ r)
theorem g_ishl (X : Stand p l e R s m args below meth c T locs cells slots) (hx : p.tables.exec = Jvm.exec) {x y v : Int32} (hd : decode c.code pc = .ok (.ishl, 1)) (hv : x <<< (y &&& 31) = v) (q : Go p e below P (T.setTop (mkF m (pc + 1) Ls (.int v :: st)))) : Go p e below P (T.setTop (mkF m pc Ls (.int y :: .int x :: st))) := q.by fun t r => XS.ishl X.here hx rfl hd rfl (hv ▸ r)
theorem g_ishr (X : Stand p l e R s m args below meth c T locs cells slots) (hx : p.tables.exec = Jvm.exec) {x y v : Int32} (hd : decode c.code pc = .ok (.ishr, 1)) (hv : x >>> (y &&& 31) = v) (q : Go p e below P (T.setTop (mkF m (pc + 1) Ls (.int v :: st)))) : Go p e below P (T.setTop (mkF m pc Ls (.int y :: .int x :: st))) := q.by fun t r => XS.ishr X.here hx rfl hd rfl (hv ▸ r)
theorem g_iushr (X : Stand p l e R s m args below meth c T locs cells slots) (hx : p.tables.exec = Jvm.exec) {x y v : Int32} (hd : decode c.code pc = .ok (.iushr, 1)) (hv : (x.toUInt32 >>> (y &&& 31).toUInt32).toInt32 = v) (q : Go p e below P (T.setTop (mkF m (pc + 1) Ls (.int v :: st)))) : Go p e below P (T.setTop (mkF m pc Ls (.int y :: .int x :: st))) := q.by fun t r => XS.iushr X.here hx rfl hd rfl (hv ▸ r)
theorem g_idiv (X : Stand p l e R s m args below meth c T locs cells slots) (hx : p.tables.exec = Jvm.exec) {x y v : Int32} (hd : decode c.code pc = .ok (.idiv, 1)) (hy : y ≠ 0) (hv : x / y = v) (q : Go p e below P (T.setTop (mkF m (pc + 1) Ls (.int v :: st)))) : Go p e below P (T.setTop (mkF m pc Ls (.int y :: .int x :: st))) := q.by fun t r => XS.idiv X.here hx rfl hd rfl hy (hv ▸ r)
theorem g_irem (X : Stand p l e R s m args below meth c T locs cells slots) (hx : p.tables.exec = Jvm.exec) {x y v : Int32} (hd : decode c.code pc = .ok (.irem, 1)) (hy : y ≠ 0) (hv : x % y = v) (q : Go p e below P (T.setTop (mkF m (pc + 1) Ls (.int v :: st)))) : Go p e below P (T.setTop (mkF m pc Ls (.int y :: .int x :: st))) := q.by fun t r => XS.irem X.here hx rfl hd rfl hy (irem_eq_mod x y ▸ hv ▸ r)
theorem g_ldiv (X : Stand p l e R s m args below meth c T locs cells slots) (hx : p.tables.exec = Jvm.exec) {x y v : Int64} (hd : decode c.code pc = .ok (.ldiv, 1)) (hy : y ≠ 0) (hv : x / y = v) (q : Go p e below P (T.setTop (mkF m (pc + 1) Ls (.long v :: st)))) : Go p e below P (T.setTop (mkF m pc Ls (.long y :: .long x :: st))) := q.by fun t r => XS.ldiv X.here hx rfl hd rfl hy (hv ▸ r)
theorem g_lshl (X : Stand p l e R s m args below meth c T locs cells slots) (hx : p.tables.exec = Jvm.exec) {x v : Int64} {y : Int32} (hd : decode c.code pc = .ok (.lshl, 1)) (hv : x <<< (y &&& 0x3f).toInt64 = v) (q : Go p e below P (T.setTop (mkF m (pc + 1) Ls (.long v :: st)))) : Go p e below P (T.setTop (mkF m pc Ls (.int y :: .long x :: st))) := q.by fun t r => XS.lshl X.here hx rfl hd rfl (hv ▸ r)
theorem g_lshr (X : Stand p l e R s m args below meth c T locs cells slots) (hx : p.tables.exec = Jvm.exec) {x v : Int64} {y : Int32} (hd : decode c.code pc = .ok (.lshr, 1)) (hv : x >>> (y &&& 0x3f).toInt64 = v) (q : Go p e below P (T.setTop (mkF m (pc + 1) Ls (.long v :: st)))) : Go p e below P (T.setTop (mkF m pc Ls (.int y :: .long x :: st))) := q.by fun t r => XS.lshr X.here hx rfl hd rfl (hv ▸ r)
theorem g_lushr (X : Stand p l e R s m args below meth c T locs cells slots) (hx : p.tables.exec = Jvm.exec) {x v : Int64} {y : Int32} (hd : decode c.code pc = .ok (.lushr, 1)) (hv : (x.toUInt64 >>> (y &&& 0x3f).toInt64.toUInt64).toInt64 = v) (q : Go p e below P (T.setTop (mkF m (pc + 1) Ls (.long v :: st)))) : Go p e below P (T.setTop (mkF m pc Ls (.int y :: .long x :: st))) := q.by fun t r => XS.lushr X.here hx rfl hd rfl (hv ▸ r)
theorem g_lcmp (X : Stand p l e R s m args below meth c T locs cells slots) (hx : p.tables.exec = Jvm.exec) {x y : Int64} (hd : decode c.code pc = .ok (.lcmp, 1))  (q : Go p e below P (T.setTop (mkF m (pc + 1) Ls (.int (lcmpW x y) :: st)))) : Go p e below P (T.setTop (mkF m pc Ls (.long y :: .long x :: st))) := q.by fun t r => XS.lcmp X.here hx rfl hd rfl r
theorem g_ineg (X : Stand p l e R s m args below meth c T locs cells slots) (hx : p.tables.exec = Jvm.exec) {x : Int32} {v : Int32} (hd : decode c.code pc = .ok (.ineg, 1)) (hv : -x = v) (q : Go p e below P (T.setTop (mkF m (pc + 1) Ls (.int v :: st)))) : Go p e below P (T.setTop (mkF m pc Ls (.int x :: st))) := q.by fun t r => XS.ineg X.here hx rfl hd rfl (hv ▸ r)
theorem g_lneg (X : Stand p l e R s m args below meth c T locs cells slots) (hx : p.tables.exec = Jvm.exec) {x : Int64} {v : Int64} (hd : decode c.code pc = .ok (.lneg, 1)) (hv : -x = v) (q : Go p e below P (T.setTop (mkF m (pc + 1) Ls (.long v :: st)))) : Go p e below P (T.setTop (mkF m pc Ls (.long x :: st))) := q.by fun t r => XS.lneg X.here hx rfl hd rfl (hv ▸ r)
theorem g_i2l (X : Stand p l e R s m args below meth c T locs cells slots) (hx : p.tables.exec = Jvm.exec) {x : Int32} {v : Int64} (hd : decode c.code pc = .ok (.i2l, 1)) (hv : x.toInt64 = v) (q : Go p e below P (T.setTop (mkF m (pc + 1) Ls (.long v :: st)))) : Go p e below P (T.setTop (mkF m pc Ls (.int x :: st))) := q.by fun t r => XS.i2l X.here hx rfl hd rfl (hv ▸ r)
theorem g_l2i (X : Stand p l e R s m args below meth c T locs cells slots) (hx : p.tables.exec = Jvm.exec) {x : Int64} {v : Int32} (hd : decode c.code pc = .ok (.l2i, 1)) (hv : x.toInt32 = v) (q : Go p e below P (T.setTop (mkF m (pc + 1) Ls (.int v :: st)))) : Go p e below P (T.setTop (mkF m pc Ls (.long x :: st))) := q.by fun t r => XS.l2i X.here hx rfl hd rfl (hv ▸ r)
theorem g_i2b (X : Stand p l e R s m args below meth c T locs cells slots) (hx : p.tables.exec = Jvm.exec) {x : Int32} {v : Int32} (hd : decode c.code pc = .ok (.i2b, 1)) (hv : x.toInt8.toInt32 = v) (q : Go p e below P (T.setTop (mkF m (pc + 1) Ls (.int v :: st)))) : Go p e below P (T.setTop (mkF m pc Ls (.int x :: st))) := q.by fun t r => XS.i2b X.here hx rfl hd rfl (hv ▸ r)
theorem g_i2c (X : Stand p l e R s m args below meth c T locs cells slots) (hx : p.tables.exec = Jvm.exec) {x : Int32} {v : Int32} (hd : decode c.code pc = .ok (.i2c, 1)) (hv : x.toUInt32.toUInt16.toUInt32.toInt32 = v) (q : Go p e below P (T.setTop (mkF m (pc + 1) Ls (.int v :: st)))) : Go p e below P (T.setTop (mkF m pc Ls (.int x :: st))) := q.by fun t r => XS.i2c X.here hx rfl hd rfl (hv ▸ r)
theorem g_i2s (X : Stand p l e R s m args below meth c T locs cells slots) (hx : p.tables.exec = Jvm.exec) {x : Int32} {v : Int32} (hd : decode c.code pc = .ok (.i2s, 1)) (hv : x.toInt16.toInt32 = v) (q : Go p e below P (T.setTop (mkF m (pc + 1) Ls (.int v :: st)))) : Go p e below P (T.setTop (mkF m pc Ls (.int x :: st))) := q.by fun t r => XS.i2s X.here hx rfl hd rfl (hv ▸ r)
theorem g_i2d (X : Stand p l e R s m args below meth c T locs cells slots) (hx : p.tables.exec = Jvm.exec) {x : Int32} {v : UInt64} (hd : decode c.code pc = .ok (.i2d, 1)) (hv : FP.i2d x = v) (q : Go p e below P (T.setTop (mkF m (pc + 1) Ls (.double v :: st)))) : Go p e below P (T.setTop (mkF m pc Ls (.int x :: st))) := q.by fun t r => XS.i2dS X.here hx rfl hd rfl hv r
theorem g_l2d (X : Stand p l e R s m args below meth c T locs cells slots) (hx : p.tables.exec = Jvm.exec) {x : Int64} {v : UInt64} (hd : decode c.code pc = .ok (.l2d, 1)) (hv : FP.l2d x = v) (q : Go p e below P (T.setTop (mkF m (pc + 1) Ls (.double v :: st)))) : Go p e below P (T.setTop (mkF m pc Ls (.long x :: st))) := q.by fun t r => XS.l2dS X.here hx rfl hd rfl hv r
theorem g_d2i (X : Stand p l e R s m args below meth c T locs cells slots) (hx : p.tables.exec = Jvm.exec) {x : UInt64} {v : Int32} (hd : decode c.code pc = .ok (.d2i, 1)) (hv : FP.d2i x = v) (q : Go p e below P (T.setTop (mkF m (pc + 1) Ls (.int v :: st)))) : Go p e below P (T.setTop (mkF m pc Ls (.double x :: st))) := q.by fun t r => XS.d2iS X.here hx rfl hd rfl hv r
theorem g_d2l (X : Stand p l e R s m args below meth c T locs cells slots) (hx : p.tables.exec = Jvm.exec) {x : UInt64} {v : Int64} (hd : decode c.code pc = .ok (.d2l, 1)) (hv : FP.d2l x = v) (q : Go p e below P (T.setTop (mkF m (pc + 1) Ls (.long v :: st)))) : Go p e below P (T.setTop (mkF m pc Ls (.double x :: st))) := q.by fun t r => XS.d2lS X.here hx rfl hd rfl hv r
theorem g_dneg (X : Stand p l e R s m args below meth c T locs cells slots) (hx : p.tables.exec = Jvm.exec) {x : UInt64} {v : UInt64} (hd : decode c.code pc = .ok (.dneg, 1)) (hv : FP.dneg x = v) (q : Go p e below P (T.setTop (mkF m (pc + 1) Ls (.double v :: st)))) : Go p e below P (T.setTop (mkF m pc Ls (.double x :: st))) := q.by fun t r => XS.dnegS X.here hx rfl hd rfl hv r
theorem g_i2f (X : Stand p l e R s m args below meth c T locs cells slots) (hx : p.tables.exec = Jvm.exec) {x : Int32} {v : UInt32} (hd : decode c.code pc = .ok (.i2f, 1)) (hv : FP.i2f x = v) (q : Go p e below P (T.setTop (mkF m (pc + 1) Ls (.float v :: st)))) : Go p e below P (T.setTop (mkF m pc Ls (.int x :: st))) := q.by fun t r => XS.i2fS X.here hx rfl hd rfl hv r
theorem g_l2f (X : Stand p l e R s m args below meth c T locs cells slots) (hx : p.tables.exec = Jvm.exec) {x : Int64} {v : UInt32} (hd : decode c.code pc = .ok (.l2f, 1)) (hv : FP.l2f x = v) (q : Go p e below P (T.setTop (mkF m (pc + 1) Ls (.float v :: st)))) : Go p e below P (T.setTop (mkF m pc Ls (.long x :: st))) := q.by fun t r => XS.l2fS X.here hx rfl hd rfl hv r
theorem g_fneg (X : Stand p l e R s m args below meth c T locs cells slots) (hx : p.tables.exec = Jvm.exec) {x : UInt32} {v : UInt32} (hd : decode c.code pc = .ok (.fneg, 1)) (hv : FP.fneg x = v) (q : Go p e below P (T.setTop (mkF m (pc + 1) Ls (.float v :: st)))) : Go p e below P (T.setTop (mkF m pc Ls (.float x :: st))) := q.by fun t r => XS.fnegS X.here hx rfl hd rfl hv r
theorem g_dadd (X : Stand p l e R s m args below meth c T locs cells slots) (hx : p.tables.exec = Jvm.exec) {x y v : UInt64} (hd : decode c.code pc = .ok (.dadd, 1)) (hn : Jvm.Free.Fl.NoNaN64 (FP.dadd x y)) (hv : FP.dadd x y = v) (q : Go p e below P (T.setTop (mkF m (pc + 1) Ls (.double v :: st)))) : Go p e below P (T.setTop (mkF m pc Ls (.double y :: .double x :: st))) := q.by fun t r => XS.daddS X.here hx rfl hd rfl hn hv r
theorem g_dsub (X : Stand p l e R s m args below meth c T locs cells slots) (hx : p.tables.exec = Jvm.exec) {x y v : UInt64} (hd : decode c.code pc = .ok (.dsub, 1)) (hn : Jvm.Free.Fl.NoNaN64 (FP.dsub x y)) (hv : FP.dsub x y = v) (q : Go p e below P (T.setTop (mkF m (pc + 1) Ls (.double v :: st)))) : Go p e below P (T.setTop (mkF m pc Ls (.double y :: .double x :: st))) := q.by fun t r => XS.dsubS X.here hx rfl hd rfl hn hv r
theorem g_dmul (X : Stand p l e R s m args below meth c T locs cells slots) (hx : p.tables.exec = Jvm.exec) {x y v : UInt64} (hd : decode c.code pc = .ok (.dmul, 1)) (hn : Jvm.Free.Fl.NoNaN64 (FP.dmul x y)) (hv : FP.dmul x y = v) (q : Go p e below P (T.setTop (mkF m (pc + 1) Ls (.double v :: st)))) : Go p e below P (T.setTop (mkF m pc Ls (.double y :: .double x :: st))) := q.by fun t r => XS.dmulS X.here hx rfl hd rfl hn hv r
theorem g_ddiv (X : Stand p l e R s m args below meth c T locs cells slots) (hx : p.tables.exec = Jvm.exec) {x y v : UInt64} (hd : decode c.code pc = .ok (.ddiv, 1)) (hn : Jvm.Free.Fl.NoNaN64 (FP.ddiv x y)) (hv : FP.ddiv x y = v) (q : Go p e below P (T.setTop (mkF m (pc + 1) Ls (.double v :: st)))) : Go p e below P (T.setTop (mkF m pc Ls (.double y :: .double x :: st))) := q.by fun t r => XS.ddivS X.here hx rfl hd rfl hn hv r
theorem g_dcmp (X : Stand p l e R s m args below meth c T locs cells slots) (hx : p.tables.exec = Jvm.exec) {o : CmpOp} {x y : UInt64} (hd : decode c.code pc = .ok (.dcmp o, 1))  (q : Go p e below P (T.setTop (mkF m (pc + 1) Ls (.int (cmpValue (FP.dcmp x y) o) :: st)))) : Go p e below P (T.setTop (mkF m pc Ls (.double y :: .double x :: st))) := q.by fun t r => XS.dcmpS X.here hx rfl hd rfl rfl r
theorem g_fcmp (X : Stand p l e R s m args below meth c T locs cells slots) (hx : p.tables.exec = Jvm.exec) {o : CmpOp} {x y : UInt32} (hd : decode c.code pc = .ok (.fcmp o, 1))  (q : Go p e below P (T.setTop (mkF m (pc + 1) Ls (.int (cmpValue (FP.fcmp x y) o) :: st)))) : Go p e below P (T.setTop (mkF m pc Ls (.float y :: .float x :: st))) := q.by fun t r => XS.fcmpS X.here hx rfl hd rfl rfl r
theorem g_dup (X : Stand p l e R s m args below meth c T locs cells slots) (hx : p.tables.exec = Jvm.exec) {x : Value} (hd : decode c.code pc = .ok (.dup, 1)) (hc : x.category = 1) (q : Go p e below P (T.setTop (mkF m (pc + 1) Ls (x :: x :: st)))) : Go p e below P (T.setTop (mkF m pc Ls (x :: st))) := q.by fun t r => XS.dup X.here hx rfl hd rfl hc r
theorem g_pop (X : Stand p l e R s m args below meth c T locs cells slots) (hx : p.tables.exec = Jvm.exec) {x : Value} (hd : decode c.code pc = .ok (.pop, 1)) (hc : x.category = 1) (q : Go p e below P (T.setTop (mkF m (pc + 1) Ls st))) : Go p e below P (T.setTop (mkF m pc Ls (x :: st))) := q.by fun t r => XS.pop X.here hx rfl hd rfl hc r
theorem g_dup2 (X : Stand p l e R s m args below meth c T locs cells slots) (hx : p.tables.exec = Jvm.exec) {x y : Value} (hd : decode c.code pc = .ok (.dup2, 1)) (hc : x.category = 1) (hc' : y.category = 1) (q : Go p e below P (T.setTop (mkF m (pc + 1) Ls (x :: y :: x :: y :: st)))) : Go p e below P (T.setTop (mkF m pc Ls (x :: y :: st))) := q.by fun t r => XT.dup2 X.here hx rfl hd rfl hc hc' r
theorem g_iinc (X : Stand p l e R s m args below meth c T locs cells slots) (hx : p.tables.exec = Jvm.exec) {k : Nat} {d : Int} {x : Int32} {L' : Array Slot} (hd : decode c.code pc = .ok (.iinc k d, 3)) (hl : Ls[k]? = some (.val (.int x))) (hs : storeLocals Ls k (.int (x + Int32.ofInt d)) = some L') (q : Go p e below P (T.setTop (mkF m (pc + 3) L' st))) : Go p e below P (T.setTop (mkF m pc Ls st)) := q.by fun t r => XS.iinc X.here hx rfl hd hl hs r
theorem g_goto (X : Stand p l e R s m args below meth c T locs cells slots) (hx : p.tables.exec = Jvm.exec)  {o : Int} {pc' : Nat} (hd : decode c.code pc = .ok (.goto o, 3))  (ho : 0 ≤ (pc : Int) + o) (hp : ((pc : Int) + o).toNat = pc') (q : Go p e below P (T.setTop (mkF m pc' Ls st))) : Go p e below P (T.setTop (mkF m pc Ls st)) := q.by fun t r => XS.goto X.here hx rfl rfl hd ho hp r
theorem g_ifYes (X : Stand p l e R s m args below meth c T locs cells slots) (hx : p.tables.exec = Jvm.exec) {cd : ClassFile.Cond} {x : Int32} {o : Int} {pc' : Nat} (hd : decode c.code pc = .ok (.ifCond cd o, 3)) (hc : if_icmp.holds cd x 0 = true) (ho : 0 ≤ (pc : Int) + o) (hp : ((pc : Int) + o).toNat = pc') (q : Go p e below P (T.setTop (mkF m pc' Ls st))) : Go p e below P (T.setTop (mkF m pc Ls (.int x :: st))) := q.by fun t r => XS.ifYes X.here hx rfl rfl hd rfl ((if0 _ _).trans hc) ho hp r
theorem g_icmpYes (X : Stand p l e R s m args below meth c T locs cells slots) (hx : p.tables.exec = Jvm.exec) {cd : ClassFile.Cond} {x y : Int32} {o : Int} {pc' : Nat} (hd : decode c.code pc = .ok (.if_icmp cd o, 3)) (hc : if_icmp.holds cd x y = true) (ho : 0 ≤ (pc : Int) + o) (hp : ((pc : Int) + o).toNat = pc') (q : Go p e below P (T.setTop (mkF m pc' Ls st))) : Go p e below P (T.setTop (mkF m pc Ls (.int y :: .int x :: st))) := q.by fun t r => XS.icmpYes X.here hx rfl rfl hd rfl hc ho hp r
theorem g_ifNo (X : Stand p l e R s m args below meth c T locs cells slots) (hx : p.tables.exec = Jvm.exec) {cd : ClassFile.Cond} {o : Int} {x : Int32} (hd : decode c.code pc = .ok (.ifCond cd o, 3)) (hc : if_icmp.holds cd x 0 = false) (q : Go p e below P (T.setTop (mkF m (pc + 3) Ls st))) : Go p e below P (T.setTop (mkF m pc Ls (.int x :: st))) := q.by fun t r => XS.ifNo X.here hx rfl hd rfl ((if0 _ _).trans hc) r
theorem g_icmpNo (X : Stand p l e R s m args below meth c T locs cells slots) (hx : p.tables.exec = Jvm.exec) {cd : ClassFile.Cond} {o : Int} {x y : Int32} (hd : decode c.code pc = .ok (.if_icmp cd o, 3)) (hc : if_icmp.holds cd x y = false) (q : Go p e below P (T.setTop (mkF m (pc + 3) Ls st))) : Go p e below P (T.setTop (mkF m pc Ls (.int y :: .int x :: st))) := q.by fun t r => XS.icmpNo X.here hx rfl hd rfl hc r
theorem g_ifnonnullYes (X : Stand p l e R s m args below meth c T locs cells slots) (hx : p.tables.exec = Jvm.exec) {b : Addr} {o : Int} {pc' : Nat} (hd : decode c.code pc = .ok (.ifnonnull o, 3))  (ho : 0 ≤ (pc : Int) + o) (hp : ((pc : Int) + o).toNat = pc') (q : Go p e below P (T.setTop (mkF m pc' Ls st))) : Go p e below P (T.setTop (mkF m pc Ls (.ref b :: st))) := q.by fun t r => XS.ifnonnullYes X.here hx rfl rfl hd rfl ho hp r
theorem g_ifnonnullNo (X : Stand p l e R s m args below meth c T locs cells slots) (hx : p.tables.exec = Jvm.exec) {o : Int} (hd : decode c.code pc = .ok (.ifnonnull o, 3))  (q : Go p e below P (T.setTop (mkF m (pc + 3) Ls st))) : Go p e below P (T.setTop (mkF m pc Ls (.null :: st))) := q.by fun t r => XS.ifnonnullNo X.here hx rfl hd rfl r
theorem g_ifnullYes (X : Stand p l e R s m args below meth c T locs cells slots) (hx : p.tables.exec = Jvm.exec)  {o : Int} {pc' : Nat} (hd : decode c.code pc = .ok (.ifnull o, 3))  (ho : 0 ≤ (pc : Int) + o) (hp : ((pc : Int) + o).toNat = pc') (q : Go p e below P (T.setTop (mkF m pc' Ls st))) : Go p e below P (T.setTop (mkF m pc Ls (.null :: st))) := q.by fun t r => XS.ifnullYes X.here hx rfl rfl hd rfl ho hp r
theorem g_ifnullNo (X : Stand p l e R s m args below meth c T locs cells slots) (hx : p.tables.exec = Jvm.exec) {o : Int} {b : Addr} (hd : decode c.code pc = .ok (.ifnull o, 3))  (q : Go p e below P (T.setTop (mkF m (pc + 3) Ls st))) : Go p e below P (T.setTop (mkF m pc Ls (.ref b :: st))) := q.by fun t r => XS.ifnullNo X.here hx rfl hd rfl r
theorem g_drem (X : Stand p l e R s m args below meth c T locs cells slots) (hx : p.tables.exec = Jvm.exec) {x y v : UInt64} (hd : decode c.code pc = .ok (.drem, 1)) (hn : Jvm.Free.Fl.NoNaN64 (FP.drem x y)) (hv : FP.drem x y = v) (q : Go p e below P (T.setTop (mkF m (pc + 1) Ls (.double v :: st)))) : Go p e below P (T.setTop (mkF m pc Ls (.double y :: .double x :: st))) := q.by fun t r => by
  subst hv
  have ht := X.here
  show Steps p.tables e below (T.setTop { method := m, pc := pc, locals := Ls, stack := .double y :: .double x :: st, locked := none }) t
  jvm_step ht [ht.top, hx, hd, Op.drem.at_number ht.top hn]
  exact r
theorem g_dup_x2 (X : Stand p l e R s m args below meth c T locs cells slots) (hx : p.tables.exec = Jvm.exec) {x y z : Value} (hd : decode c.code pc = .ok (.dup_x2, 1)) (h1 : x.category = 1) (h2 : y.category = 1) (h3 : z.category = 1) (q : Go p e below P (T.setTop (mkF m (pc + 1) Ls (x :: y :: z :: x :: st)))) : Go p e below P (T.setTop (mkF m pc Ls (x :: y :: z :: st))) := q.by fun t r => by
  have ht := X.here
  show Steps p.tables e below (T.setTop { method := m, pc := pc, locals := Ls, stack := x :: y :: z :: st, locked := none }) t
  jvm_step ht [ht.top, hx, hd, h1, h2, h3]
  exact r
theorem g_ldcI (X : Stand p l e R s m args below meth c T locs cells slots) (hx : p.tables.exec = Jvm.exec) (hZ : Z.Warmed39 s.vm) (hown : s.vm.findClass own = some m.cls) {v : Int32} (w : (Cond.constant own index v).before a0 Z = true) (hd : decode c.code pc = .ok (.ldc index, 2)) (q : Go p e below P (T.setTop (mkF m (pc + 2) Ls (.int v :: st)))) : Go p e below P (T.setTop (mkF m pc Ls st)) := q.by fun t r => X.ldcI hx hown (mvT hZ w) rfl hd r
theorem g_ldc2J (X : Stand p l e R s m args below meth c T locs cells slots) (hx : p.tables.exec = Jvm.exec) (hZ : Z.Warmed39 s.vm) (hown : s.vm.findClass own = some m.cls) {v : Int64} (w : (Cond.constantLong own index v).before a0 Z = true) (hd : decode c.code pc = .ok (.ldc2_w index, 3)) (q : Go p e below P (T.setTop (mkF m (pc + 3) Ls (.long v :: st)))) : Go p e below P (T.setTop (mkF m pc Ls st)) := q.by fun t r => X.ldc2J hx hown (mvT hZ w) rfl hd r
theorem g_ldc2D (X : Stand p l e R s m args below meth c T locs cells slots) (hx : p.tables.exec = Jvm.exec) (hZ : Z.Warmed39 s.vm) (hown : s.vm.findClass own = some m.cls) {v : UInt64} (w : (Cond.constantDouble own index v).before a0 Z = true) (hd : decode c.code pc = .ok (.ldc2_w index, 3)) (q : Go p e below P (T.setTop (mkF m (pc + 3) Ls (.double v :: st)))) : Go p e below P (T.setTop (mkF m pc Ls st)) := q.by fun t r => X.ldc2DoubleC hx hown (mvT hZ w) (g := mkF m pc Ls st) rfl hd t r
theorem g_ldcF (X : Stand p l e R s m args below meth c T locs cells slots) (hx : p.tables.exec = Jvm.exec) (hZ : Z.Warmed39 s.vm) (hown : s.vm.findClass own = some m.cls) {v : UInt32} (w : (Cond.constantFloat own index v).before a0 Z = true) (hd : decode c.code pc = .ok (.ldc index, 2)) (q : Go p e below P (T.setTop (mkF m (pc + 2) Ls (.float v :: st)))) : Go p e below P (T.setTop (mkF m pc Ls st)) := q.by fun t r => X.ldcFloatC hx hown (mvT hZ w) (g := mkF m pc Ls st) rfl hd t r
theorem Ret.end {Q : Option Value → Heap → List Loc → Prop} {C N : Nat} {g : JFrame} (X : Stand p l e R s m args below meth c T locs cells slots) (hx : p.tables.exec = Jvm.exec) (hlk : meth.locks = false) {v : Option Value} (hv : meth.sig.returnType = none → v = none) (stp : ∀ fs, (∀ (f : JFrame) (acts : List Action), f.method = m → f.locked = none → f.entered = [] → (doReturn e (T.setTop f) acts v).1 = T.setFrames fs) → Steps p.tables e below (T.setTop g) (T.setFrames fs)) (hC : cells ≤ C) (hN : slots ≤ N) (hq : Q v T.heap locs) : Go p e below (Ret s Q C N) (T.setTop g) := by
  obtain ⟨fs, hr, hrun, hended, hW, hsame⟩ := X.leave hv hlk
  exact ⟨_, _, stp fs hr, hrun, hended, _, _, rfl, hq, ⟨_, rfl⟩, hW, hsame.mono hC hN⟩
theorem g_ireturn {Q : Option Value → Heap → List Loc → Prop} {C N : Nat} (X : Stand p l e R s m args below meth c T locs cells slots) (hx : p.tables.exec = Jvm.exec) (hlk : meth.locks = false) {w : Int32} {t : FieldType} (hret : meth.sig.returnType = some t) (hn : narrow t (.int w) = .int w) (hti : t = .int ∨ t = .boolean ∨ t = .byte ∨ t = .char ∨ t = .short) (hd : decode c.code pc = .ok (.ireturn, 1)) (hC : cells ≤ C) (hN : slots ≤ N) (hq : Q (some (.int w)) T.heap locs) : Go p e below (Ret s Q C N) (T.setTop (mkF m pc Ls [.int w])) :=
  Ret.end X hx hlk (fun h => by rw [hret] at h; cases h) (fun fs hr => X.ireturnOut hx hret hn hti hd hr) hC hN hq
theorem g_lreturn {Q : Option Value → Heap → List Loc → Prop} {C N : Nat} (X : Stand p l e R s m args below meth c T locs cells slots) (hx : p.tables.exec = Jvm.exec) (hlk : meth.locks = false) {w : Int64} (hret : meth.sig.returnType = some .long) (hd : decode c.code pc = .ok (.lreturn, 1)) (hC : cells ≤ C) (hN : slots ≤ N) (hq : Q (some (.long w)) T.heap locs) : Go p e below (Ret s Q C N) (T.setTop (mkF m pc Ls [.long w])) :=
  Ret.end X hx hlk (fun h => by rw [hret] at h; cases h) (fun fs hr => X.lreturnOut hx hret hd hr) hC hN hq
theorem g_return {Q : Option Value → Heap → List Loc → Prop} {C N : Nat} (X : Stand p l e R s m args below meth c T locs cells slots) (hx : p.tables.exec = Jvm.exec) (hlk : meth.locks = false) (hret : meth.sig.returnType = none) (hd : decode c.code pc = .ok (.return_, 1)) (hC : cells ≤ C) (hN : slots ≤ N) (hq : Q none T.heap locs) : Go p e below (Ret s Q C N) (T.setTop (mkF m pc Ls [])) :=
  Ret.end X hx hlk (fun _ => rfl) (fun fs hr => X.returnOut hx hret hd hr) hC hN hq
theorem g_areturn {Q : Option Value → Heap → List Loc → Prop} {C N : Nat} (X : Stand p l e R s m args below meth c T locs cells slots) (hx : p.tables.exec = Jvm.exec) (hlk : meth.locks = false) {w : Value} {t : FieldType} (hret : meth.sig.returnType = some t) (ht : t.isReference = true) (hw : w.isRef = true) (hd : decode c.code pc = .ok (.areturn, 1)) (hC : cells ≤ C) (hN : slots ≤ N) (hq : Q (some w) T.heap locs) : Go p e below (Ret s Q C N) (T.setTop (mkF m pc Ls [w])) :=
  Ret.end X hx hlk (fun h => by rw [hret] at h; cases h) (fun fs hr => X.areturnOut hx hw hret ht hd hr) hC hN hq
theorem g_dreturn {Q : Option Value → Heap → List Loc → Prop} {C N : Nat} (X : Stand p l e R s m args below meth c T locs cells slots) (hx : p.tables.exec = Jvm.exec) (hlk : meth.locks = false) {w : UInt64} (hret : meth.sig.returnType = some .double) (hd : decode c.code pc = .ok (.dreturn, 1)) (hC : cells ≤ C) (hN : slots ≤ N) (hq : Q (some (.double w)) T.heap locs) : Go p e below (Ret s Q C N) (T.setTop (mkF m pc Ls [.double w])) :=
  Ret.end X hx hlk (fun h => by rw [hret] at h; cases h) (fun fs hr => by
    have hm' : T.vm.method? m = some meth := X.method'
    show Steps p.tables e below (T.setTop { method := m, pc := pc, locals := Ls, stack := [.double w], locked := none }) _
    jvm_step X.here [X.here.top, hx, hd, hm', hret]
    first | (intro acts; rw [hr _ acts rfl rfl rfl]) | rw [hr _ _ rfl rfl rfl]
    exact Steps.refl _) hC hN hq
theorem g_freturn {Q : Option Value → Heap → List Loc → Prop} {C N : Nat} (X : Stand p l e R s m args below meth c T locs cells slots) (hx : p.tables.exec = Jvm.exec) (hlk : meth.locks = false) {w : UInt32} (hret : meth.sig.returnType = some .float) (hd : decode c.code pc = .ok (.freturn, 1)) (hC : cells ≤ C) (hN : slots ≤ N) (hq : Q (some (.float w)) T.heap locs) : Go p e below (Ret s Q C N) (T.setTop (mkF m pc Ls [.float w])) :=
  Ret.end X hx hlk (fun h => by rw [hret] at h; cases h) (fun fs hr => retF X hx hret hd hr) hC hN hq
theorem g_callS (X : Stand p l e R s m args below meth c T locs cells slots) (hx : p.tables.exec = Jvm.exec) (hZ : Z.Warmed39 s.vm) (hown : s.vm.findClass own = some m.cls) {y : MethodName} {bytes : ByteArray} {maxL : Nat} {ret : Option FieldType} (w1 : (Cond.methodLink own index y).before a0 Z = true) (w2 : (Cond.static y).before a0 Z = true) (w3 : (Cond.initialized y.cls).before a0 Z = true) (w4 : (Cond.code y bytes maxL ret).before a0 Z = true) (hy : y.cls ≠ "java/lang/invoke/MethodHandle" ∧ y.cls ≠ "java/lang/invoke/VarHandle") {rm : Room} {as' : Array Value} {Q : Option Value → Heap → List Loc → Prop} (hM : MetFree l y (head1 [Cond.code y bytes maxL ret] rm) (fun a U => a = as' ∧ Z.Warmed39 U.vm ∧ U.heap = h) (fun _ _ _ _ _ => True) (fun _ U o U' => ∃ v L, o = .returned v ∧ Q v U'.heap L ∧ FrameEnd U o U' L rm.cells rm.slots)) (eT : T.heap = h) {W : Nat} (hf : rm.frames + 1 ≤ R.frames) (hlo : W + (maxL + 11) + rm.locals ≤ R.locals) (hsize : Ls.size = c.maxLocals) (argsL rest : List Value) (hlen : ∀ sig, parseMethodDescriptor y.desc = some sig → argsL.length = sig.parameters.length) (hst : st = argsL.reverse ++ rest) (has : argsL.toArray = as') (hW : (rest.map fun v => v.category).sum ≤ W) (hd : decode c.code pc = .ok (.invokestatic index, 3)) (hc : cells + rm.cells ≤ R.cells) (hs : slots + rm.slots ≤ R.slots) (k : ∀ (v : Option Value) (T' : State) (L : List Loc), Stand p l e R s m args below meth c T' (locs ++ L) (cells + rm.cells) (slots + rm.slots) → Q v T'.heap L → Go p e below P (T'.setTop (mkF m (pc + 3) Ls (v.toList ++ rest)))) : Go p e below P (T.setTop (mkF m pc Ls st)) := by
  obtain ⟨v, vm1, ⟨T', L', k', n'⟩, -, X', ⟨L, hQ, l1, y1, z1⟩, stp⟩ := Jvm.LawKit.callS X hx hown (mvT hZ w1) (mvT hZ w2) (mvT hZ w3) (mvT hZ w4) hy (backOf (W := W) hM hZ w4 w3 hf hlo) (g := mkF m pc Ls st) rfl hsize hlen hst (by show 2 * 0 + _ ≤ _; omega) hd (fun _ _ => ⟨has, eT, hc, hs⟩)
  dsimp only [Pt.U, Pt.locs, Pt.cells, Pt.slots] at X' l1 y1 z1 stp hQ
  subst l1 y1 z1
  exact (k v T' L X' hQ).by stp
theorem g_init (X : Stand p l e R s m args below meth c T locs cells slots) (hx : p.tables.exec = Jvm.exec) (hZ : Z.Warmed39 s.vm) (hown : s.vm.findClass own = some m.cls) {y : MethodName} {bytes : ByteArray} {maxL : Nat} (hy1 : y.name = "<init>") (w1 : (Cond.methodLink own index y).before a0 Z = true) (w2 : (Cond.instanceMethod y).before a0 Z = true) (w3 : (Cond.initialized y.cls).before a0 Z = true) (w4 : (Cond.code y bytes maxL none).before a0 Z = true) (hy : y.cls ≠ "java/lang/invoke/MethodHandle" ∧ y.cls ≠ "java/lang/invoke/VarHandle") {rm : Room} {as' : Array Value} {Q : Option Value → Heap → List Loc → Prop} (hM : MetFree l y (head1 [Cond.code y bytes maxL none] rm) (fun a U => a = as' ∧ Z.Warmed39 U.vm ∧ U.heap = h) (fun _ _ _ _ _ => True) (fun _ U o U' => ∃ v L, o = .returned v ∧ Q v U'.heap L ∧ FrameEnd U o U' L rm.cells rm.slots)) (eT : T.heap = h) {W : Nat} (hf : rm.frames + 1 ≤ R.frames) (hlo : W + (maxL + 11) + rm.locals ≤ R.locals) (hsize : Ls.size = c.maxLocals) (a : Addr) (argsL rest : List Value) (hlen : ∀ sig, parseMethodDescriptor y.desc = some sig → argsL.length = sig.parameters.length) (hst : st = argsL.reverse ++ .ref a :: rest) (has : (.ref a :: argsL).toArray = as') (hW : (rest.map fun v => v.category).sum ≤ W) (hd : decode c.code pc = .ok (.invokespecial index, 3)) (hc : cells + rm.cells ≤ R.cells) (hs : slots + rm.slots ≤ R.slots) (k : ∀ (v : Option Value) (T' : State) (L : List Loc), Stand p l e R s m args below meth c T' (locs ++ L) (cells + rm.cells) (slots + rm.slots) → Q v T'.heap L → Go p e below P (T'.setTop (mkF m (pc + 3) Ls (v.toList ++ rest)))) : Go p e below P (T.setTop (mkF m pc Ls st)) := by
  obtain ⟨v, vm1, ⟨T', L', k', n'⟩, -, X', ⟨L, hQ, l1, y1, z1⟩, stp⟩ := X.specialBack hx hy1 hown (mvT hZ w1) (mvT hZ w2) (mvT hZ w4) hy (backOf (W := W) hM hZ w4 w3 hf hlo) (g := mkF m pc Ls st) rfl hsize (Steps.refl _) hlen hst (by show 2 * 0 + _ ≤ _; omega) hd (fun _ _ => ⟨has, eT, hc, hs⟩)
  dsimp only [Pt.U, Pt.locs, Pt.cells, Pt.slots] at X' l1 y1 z1 stp hQ
  subst l1 y1 z1
  exact (k v T' L X' hQ).by fun t r => stp.trans r
theorem g_callV (X : Stand p l e R s m args below meth c T locs cells slots) (hx : p.tables.exec = Jvm.exec) (hZ : Z.Warmed39 s.vm) (hown : s.vm.findClass own = some m.cls) {y : MethodName} {bytes : ByteArray} {maxL : Nat} {ret : Option FieldType} {C : String} (w1 : (Cond.methodLink own index y).before a0 Z = true) (w2 : (Cond.declares y).before a0 Z = true) (w5 : (Cond.selects C y y).before a0 Z = true) (w6 : (Cond.instanceMethod y).before a0 Z = true) (w3 : (Cond.initialized y.cls).before a0 Z = true) (w4 : (Cond.code y bytes maxL ret).before a0 Z = true) (hy : y.cls ≠ "java/lang/invoke/MethodHandle" ∧ y.cls ≠ "java/lang/invoke/VarHandle") {rm : Room} {as' : Array Value} {Q : Option Value → Heap → List Loc → Prop} (hM : MetFree l y (head1 [Cond.code y bytes maxL ret] rm) (fun a U => a = as' ∧ Z.Warmed39 U.vm ∧ U.heap = h) (fun _ _ _ _ _ => True) (fun _ U o U' => ∃ v L, o = .returned v ∧ Q v U'.heap L ∧ FrameEnd U o U' L rm.cells rm.slots)) (eT : T.heap = h) {W : Nat} (hf : rm.frames + 1 ≤ R.frames) (hlo : W + (maxL + 11) + rm.locals ≤ R.locals) (hsize : Ls.size = c.maxLocals) (a : Addr) (E : Exa Z h a C) (argsL rest : List Value) (hlen : ∀ sig, parseMethodDescriptor y.desc = some sig → argsL.length = sig.parameters.length) (hst : st = argsL.reverse ++ .ref a :: rest) (has : (.ref a :: argsL).toArray = as') (hW : (rest.map fun v => v.category).sum ≤ W) (hd : decode c.code pc = .ok (.invokevirtual index, 3)) (hc : cells + rm.cells ≤ R.cells) (hs : slots + rm.slots ≤ R.slots) (k : ∀ (v : Option Value) (T' : State) (L : List Loc), Stand p l e R s m args below meth c T' (locs ++ L) (cells + rm.cells) (slots + rm.slots) → Q v T'.heap L → Go p e below P (T'.setTop (mkF m (pc + 3) Ls (v.toList ++ rest)))) : Go p e below P (T.setTop (mkF m pc Ls st)) := by
  obtain ⟨cq, kq, qa, qb, qc⟩ := isOf hZ eT E
  obtain ⟨v, vm1, ⟨T', L', k', n'⟩, -, X', ⟨L, hQ, l1, y1, z1⟩, stp⟩ := X.virtualBack hx (y := y) (z := y) hown (mvT hZ w1) (mvT hZ w2) (notFace_of_selects (args := #[]) (mvT hZ w5)) (mvT hZ w5) (mvT hZ w6) hy (backOf (W := W) hM hZ w4 w3 hf hlo) qa qc (g := mkF m pc Ls st) rfl hsize (Steps.refl _) hlen hst (by show 2 * 0 + _ ≤ _; omega) hd (fun _ _ => ⟨has, eT, hc, hs⟩)
  dsimp only [Pt.U, Pt.locs, Pt.cells, Pt.slots] at X' l1 y1 z1 stp hQ
  subst l1 y1 z1
  exact (k v T' L X' hQ).by fun t r => stp.trans r
theorem g_absD (X : Stand p l e R s m args below meth c T locs cells slots) (hx : p.tables.exec = Jvm.exec) (hZ : Z.Warmed39 s.vm) (hown : s.vm.findClass own = some m.cls) (w1 : (Cond.methodLink own index Jvm.Free.Fl.Abs.absDN).before a0 Z = true) (w2 : (Cond.static Jvm.Free.Fl.Abs.absDN).before a0 Z = true) (w3 : (Cond.initialized "java/lang/Math").before a0 Z = true) (w4 : (Cond.code Jvm.Free.Fl.Abs.absDN Jvm.Free.Fl.Abs.absDCode 2 (some .double)).before a0 Z = true) (eT : T.heap = h) (hsize : Ls.size = c.maxLocals) {a : UInt64} (hn : Jvm.Free.Fl.NoNaN64 a) (hfr : 1 ≤ R.frames) {W : Nat} (hW : (st.map fun v => v.category).sum ≤ W) (hlo : W + 13 ≤ R.locals) (hc : cells ≤ R.cells) (hs : slots ≤ R.slots) (hd : decode c.code pc = .ok (.invokestatic index, 3))
    (k : ∀ T', Stand p l e R s m args below meth c T' locs cells slots → T'.heap = h → Go p e below P (T'.setTop (mkF m (pc + 3) Ls (.double (a &&& 0x7fffffffffffffff) :: st)))) : Go p e below P (T.setTop (mkF m pc Ls (.double a :: st))) := by
  obtain ⟨T', X', e', stp⟩ := natS X hx hZ hown w1 w2 w3 w4 (by decide) eT (W := W) (F := fun a' => a' = #[.double a] ∧ Jvm.Free.Fl.NoNaN64 a) (val := .double (a &&& 0x7fffffffffffffff)) (val' := .double (a &&& 0x7fffffffffffffff)) (fun q => Jvm.Free.Fl.Abs.absD_pays a q hfr hlo) (g := mkF m pc Ls (.double a :: st)) rfl hsize (argsL := [.double a]) (rest := st) (lenOf (ps := [.double]) (r := some .double) (by decide +kernel) rfl) rfl (by show 2 * 0 + _ ≤ _; omega) hd hc hs ⟨rfl, hn⟩ rfl
  exact (k T' X' e').by stp
theorem g_objInit (X : Stand p l e R s m args below meth c T locs cells slots) (hx : p.tables.exec = Jvm.exec) (hZ : Z.Warmed39 s.vm) (hown : s.vm.findClass own = some m.cls) (w1 : (Cond.methodLink own index Lib.objectInit).before a0 Z = true) (w2 : (Cond.instanceMethod Lib.objectInit).before a0 Z = true) (w3 : (Cond.code Lib.objectInit ⟨#[0xb1]⟩ 1 none).before a0 Z = true) (eT : T.heap = h) (hsize : Ls.size = c.maxLocals) {a : Addr} (hd : decode c.code pc = .ok (.invokespecial index, 3)) (hf : 1 ≤ R.frames) {W : Nat} (hW : (st.map fun v => v.category).sum ≤ W) (hlo : W + 12 ≤ R.locals)
    (k : ∀ T', Stand p l e R s m args below meth c T' locs cells slots → T'.heap = h → Go p e below P (T'.setTop (mkF m (pc + 3) Ls st))) : Go p e below P (T.setTop (mkF m pc Ls (.ref a :: st))) := by
  obtain ⟨T', X', e', stp⟩ := initO X hx hZ hown w1 w2 w3 eT (g := mkF m pc Ls (.ref a :: st)) rfl hsize rfl hd hf (W := W) (by show 2 * 0 + _ ≤ _; omega) hlo
  exact (k T' X' e').by stp
theorem g_new (X : Stand p l e R s m args below meth c T locs cells slots) (hx : p.tables.exec = Jvm.exec) (hZ : Z.Warmed39 s.vm) (hown : s.vm.findClass own = some m.cls) {C : String} {n : Nat} (w : (Cond.classLink own index C).before a0 Z = true) (wi : (Cond.instantiable C n).before a0 Z = true) (wz : (Cond.initialized C).before a0 Z = true) (eT : T.heap = h) (hd : decode c.code pc = .ok (.new index, 3)) (hc : cells + 1 ≤ R.cells) (hl : slots + n ≤ R.slots)
    (k : ∀ T' h' a, a = h.size → Stand p l e R s m args below meth c T' locs (cells + 1) (slots + n) → T'.heap = h' → Ext h h' → Exa Z h' a C → (∀ {O nm d : String} {ty : FieldType}, Laid Z a0 C O nm d → parseFieldDescriptor d = some ty → Fld Z h' a O nm d (defaultValue ty)) → Go p e below P (T'.setTop (mkF m (pc + 3) Ls (.ref a :: st)))) : Go p e below P (T.setTop (mkF m pc Ls st)) := by
  obtain ⟨T', h', X', e', E, A, D, -, stp⟩ := newO X hx hZ hown w wi wz eT (g := mkF m pc Ls st) rfl hd hc hl
  exact (k T' h' _ rfl X' e' E A D).by stp
theorem g_getF (X : Stand p l e R s m args below meth c T locs cells slots) (hx : p.tables.exec = Jvm.exec) (hZ : Z.Warmed39 s.vm) (hown : s.vm.findClass own = some m.cls) {O n d : String} (w : (Cond.fieldLink own index O n d).before a0 Z = true) (eT : T.heap = h) {a : Addr} {v : Value} (F : Fld Z h a O n d v) (hd : decode c.code pc = .ok (.getfield index, 3))
    (k : ∀ T', Stand p l e R s m args below meth c T' locs cells slots → T'.heap = h → Go p e below P (T'.setTop (mkF m (pc + 3) Ls (v :: st)))) : Go p e below P (T.setTop (mkF m pc Ls (.ref a :: st))) := by
  obtain ⟨T', X', e', stp⟩ := getF X hx hZ hown (host := "") (Or.inl w) Via.refl eT F (g := mkF m pc Ls (.ref a :: st)) rfl rfl hd
  exact (k T' X' e').by stp
theorem g_getS (X : Stand p l e R s m args below meth c T locs cells slots) (hx : p.tables.exec = Jvm.exec) (hZ : Z.Warmed39 s.vm) (hown : s.vm.findClass own = some m.cls) {O n d : String} (w : (Cond.fieldLink own index O n d).before a0 Z = true) (eT : T.heap = h) {v : Value} (F : Sta Z h O n d v) (hd : decode c.code pc = .ok (.getstatic index, 3))
    (k : ∀ T', Stand p l e R s m args below meth c T' locs cells slots → T'.heap = h → Go p e below P (T'.setTop (mkF m (pc + 3) Ls (v :: st)))) : Go p e below P (T.setTop (mkF m pc Ls st)) := by
  obtain ⟨T', X', e', stp⟩ := getS X hx hZ hown (host := "") w Via.refl eT F (g := mkF m pc Ls st) rfl hd
  exact (k T' X' e').by stp
theorem g_putF (X : Stand p l e R s m args below meth c T locs cells slots) (hx : p.tables.exec = Jvm.exec) (hZ : Z.Warmed39 s.vm) (hown : s.vm.findClass own = some m.cls) {O n d C : String} {kk : Nat} {ty : FieldType} (w : (Cond.fieldLink own index O n d).before a0 Z = true) (eT : T.heap = h) {a : Addr} {v old : Value} (F : Fld Z h a O n d old) (E : Exa Z h a C) (L : (Cond.lays C O n d).before a0 Z = true ∨ ((Cond.laysFinal C O n d).before a0 Z = true ∧ own = O ∧ meth.name = "<init>")) (wi : (Cond.instantiable C kk).before a0 Z = true) (hty : parseFieldDescriptor d = some ty) (hn : narrow ty v = v) (hf : fits ty v = true) (hd : decode c.code pc = .ok (.putfield index, 3))
    (k : ∀ T' h', Stand p l e R s m args below meth c T' (locs ++ [⟨a, Jvm.RoadKit.slotOf Z O n d⟩]) cells slots → T'.heap = h' → Wr h h' a (Jvm.RoadKit.slotOf Z O n d) v → Go p e below P (T'.setTop (mkF m (pc + 3) Ls st))) : Go p e below P (T.setTop (mkF m pc Ls (v :: .ref a :: st))) := by
  obtain ⟨T', h', X', e', W, stp⟩ := putF X hx hZ hown (host := "") (Or.inl w) Via.refl eT F E L wi hty hn hf (g := mkF m pc Ls (v :: .ref a :: st)) rfl rfl hd
  exact (k T' h' X' e' W).by stp
theorem g_newP (X : Stand p l e R s m args below meth c T locs cells slots) (hx : p.tables.exec = Jvm.exec) (hZ : Z.Warmed39 s.vm) {aty : ArrayType} {ty : FieldType} (hty : newarray.typeOf aty = ty) (w : (Cond.arrayClass ty).before a0 Z = true) (eT : T.heap = h) (hd : decode c.code pc = .ok (.newarray aty, 2)) {n : Int32} (hn : ¬ n < 0) {cap : Nat} (hcap : n.toNatClampNeg ≤ cap) (hb : cap * 8 ≤ 536870912) (hc : cells + 1 ≤ R.cells) (hl : slots + cap ≤ R.slots)
    (k : ∀ T' h' a cA, a = h.size → Stand p l e R s m args below meth c T' locs (cells + 1) (slots + cap) → T'.heap = h' → Ext h h' → Arr Z h' a (newA cA ty n) ty → Go p e below P (T'.setTop (mkF m (pc + 2) Ls (.ref a :: st)))) : Go p e below P (T.setTop (mkF m pc Ls (.int n :: st))) := by
  subst hty
  obtain ⟨T', h', cA, X', e', E, A, stp⟩ := newP X hx hZ w eT (g := mkF m pc Ls (.int n :: st)) rfl hd rfl hn hcap hb hc hl
  exact (k T' h' _ cA rfl X' e' E A).by stp
theorem fld_any {C O O' n n' d d' : String} {v : Value} {a : Addr} {kk : Nat} (E : Exa Z h a C) (F : Fld Z h a O n d v) (wi : (Cond.instantiable C kk).before a0 Z = true) (L : Laid Z a0 C O' n' d') : ∃ w, Fld Z h a O' n' d' w := by
  obtain ⟨cell, k, h1, h2, h3, h4, h5⟩ := E
  obtain ⟨cell', cf, k', i, f, g1, g2, g3, g4, g5, g6, g7⟩ := F
  cases h1.symm.trans g1
  obtain ⟨c1, k1, cf1, kf1, i1, f1, l1, l2, l3, l4, l5, l6, -⟩ := L.spec
  obtain ⟨c2, k2, j1, j2, j3, -⟩ := Cond.instantiable_spec wi
  cases h2.symm.trans l1
  cases h3.symm.trans l2
  cases l1.symm.trans j1
  cases h3.symm.trans j2
  have hsz := h5 j3
  obtain ⟨hlt, -⟩ := Array.getElem?_eq_some_iff.mp l6
  exact ⟨_, cell, cf1, kf1, i1, f1, g1, l3, l4, g4, g5, l5, Array.getElem?_eq_getElem (by rw [hsz]; exact hlt)⟩
/-- an array by a function of the place -/
def Av (Z : State) (h : Heap) (a : Addr) (ty : FieldType) (n : Nat) (f : Nat → Value) : Prop := ∃ cl : Cell, Arr Z h a cl ty ∧ cl.slots.size = n ∧ ∀ i, i < n → cl.slots[i]? = some (f i)
theorem Av.lt {a : Addr} {ty : FieldType} {n : Nat} {f : Nat → Value} (F : Av Z h a ty n f) : a < h.size := by obtain ⟨cl, A, -⟩ := F; exact A.lt
theorem Av.ext {h' : Heap} {a : Addr} {ty : FieldType} {n : Nat} {f : Nat → Value} (F : Av Z h a ty n f) (E : Ext h h') : Av Z h' a ty n f := by obtain ⟨cl, A, B⟩ := F; exact ⟨cl, A.ext E, B⟩
theorem Av.other {h' : Heap} {a b : Addr} {sl : Nat} {v : Value} {ty : FieldType} {n : Nat} {f : Nat → Value} (F : Av Z h b ty n f) (W : Wr h h' a sl v) (q : b ≠ a) : Av Z h' b ty n f := by obtain ⟨cl, A, B⟩ := F; exact ⟨cl, A.other W q, B⟩
theorem Av.keep {h' : Heap} {a : Addr} {ws : List Addr} {ty : FieldType} {n : Nat} {f : Nat → Value} (F : Av Z h a ty n f) (K : Keep h h' ws) (q : a ∉ ws) : Av Z h' a ty n f := by obtain ⟨cl, A, B⟩ := F; exact ⟨cl, ⟨K.2.1 a cl A.1 q, A.2⟩, B⟩
theorem Av.new {a : Addr} {cA : ClassId} {ty : FieldType} {n : Int32} (A : Arr Z h a (newA cA ty n) ty) : Av Z h a ty n.toNatClampNeg (fun _ => defaultValue ty) := ⟨_, A, sz_new _ _ _, fun i hi => by simp [newA, hi]⟩
theorem Av.newK {a : Addr} {cA : ClassId} {ty : FieldType} {n : Int32} {k : Nat} (A : Arr Z h a (newA cA ty n) ty) (hk : n.toNatClampNeg = k) : Av Z h a ty k (fun _ => defaultValue ty) := hk ▸ Av.new A
theorem Av.congr {a : Addr} {ty : FieldType} {n : Nat} {f f' : Nat → Value} (F : Av Z h a ty n f) (q : ∀ i, i < n → f i = f' i) : Av Z h a ty n f' := by obtain ⟨cl, A, B, C⟩ := F; exact ⟨cl, A, B, fun i hi => by rw [C i hi, q i hi]⟩
theorem Av.same {h' : Heap} {a : Addr} {i : Nat} {v : Value} {ty : FieldType} {n : Nat} {f : Nat → Value} (F : Av Z h a ty n f) (W : Wr h h' a i v) : Av Z h' a ty n (fun j => if j = i then v else f j) := by
  obtain ⟨cl, A, B, C⟩ := F
  refine ⟨_, A.same W, by rw [sz_set]; exact B, fun j hj => ?_⟩
  obtain ⟨cb, hb1, -, -, -, -, hb2, hb3⟩ := wr_at W A.1
  have e1 := (A.same W).1
  have e2 : cb = cl.setSlot i v := Option.some.inj (hb1.symm.trans e1)
  by_cases q : j = i
  · subst q; rw [← e2, (hb3 rfl).2.1]; simp
  · rw [← e2, hb2 j q, C j hj]; simp [q]
theorem out_idx {j : Int32} {n : Nat} (h0 : 0 ≤ j.toInt) (h1 : j.toInt < n) : ¬ (j < 0 ∨ n ≤ j.toNatClampNeg) := by
  have e : (j.toNatClampNeg : Int) = j.toInt := by rw [Int32.toNatClampNeg]; omega
  intro q
  rcases q with q | q
  · have := Int32.lt_iff_toInt_lt.mp q; simp at this; omega
  · omega
theorem g_iaload (X : Stand p l e R s m args below meth c T locs cells slots) (hx : p.tables.exec = Jvm.exec) (hZ : Z.Warmed39 s.vm) (eT : T.heap = h) {a : Addr} {n : Nat} {f : Nat → Value} (F : Av Z h a .int n f) {j : Int32} {i : Nat} {v : Value} (hj0 : 0 ≤ j.toInt) (hj1 : j.toInt < n) (hi : j.toNatClampNeg = i) (hv : f i = v) (hd : decode c.code pc = .ok (.iaload, 1)) (q : Go p e below P (T.setTop (mkF m (pc + 1) Ls (v :: st)))) : Go p e below P (T.setTop (mkF m pc Ls (.int j :: .ref a :: st))) := by
  obtain ⟨cl, A, B, C⟩ := F
  have hin := out_idx hj0 hj1
  subst hi hv
  exact q.by fun t r => X.iaload hx (by rw [eT]; exact A.1) (State.isArrayOf_alike hZ.alike A.2.1) A.2.2 (by rw [B]; exact hin) (C _ (by omega)) (g := mkF m pc Ls (.int j :: .ref a :: st)) rfl rfl hd t r
theorem g_laload (X : Stand p l e R s m args below meth c T locs cells slots) (hx : p.tables.exec = Jvm.exec) (hZ : Z.Warmed39 s.vm) (eT : T.heap = h) {a : Addr} {n : Nat} {f : Nat → Value} (F : Av Z h a .long n f) {j : Int32} {i : Nat} {v : Value} (hj0 : 0 ≤ j.toInt) (hj1 : j.toInt < n) (hi : j.toNatClampNeg = i) (hv : f i = v) (hd : decode c.code pc = .ok (.laload, 1)) (q : Go p e below P (T.setTop (mkF m (pc + 1) Ls (v :: st)))) : Go p e below P (T.setTop (mkF m pc Ls (.int j :: .ref a :: st))) := by
  obtain ⟨cl, A, B, C⟩ := F
  have hin := out_idx hj0 hj1
  subst hi hv
  exact q.by fun t r => X.laload hx (by rw [eT]; exact A.1) (State.isArrayOf_alike hZ.alike A.2.1) A.2.2 (by rw [B]; exact hin) (C _ (by omega)) (g := mkF m pc Ls (.int j :: .ref a :: st)) rfl rfl hd t r
theorem g_daload (X : Stand p l e R s m args below meth c T locs cells slots) (hx : p.tables.exec = Jvm.exec) (hZ : Z.Warmed39 s.vm) (eT : T.heap = h) {a : Addr} {n : Nat} {f : Nat → Value} (F : Av Z h a .double n f) {j : Int32} {i : Nat} {v : Value} (hj0 : 0 ≤ j.toInt) (hj1 : j.toInt < n) (hi : j.toNatClampNeg = i) (hv : f i = v) (hd : decode c.code pc = .ok (.daload, 1)) (q : Go p e below P (T.setTop (mkF m (pc + 1) Ls (v :: st)))) : Go p e below P (T.setTop (mkF m pc Ls (.int j :: .ref a :: st))) := by
  obtain ⟨cl, A, B, C⟩ := F
  have hin := out_idx hj0 hj1
  subst hi hv
  exact q.by fun t r => X.daload hx (by rw [eT]; exact A.1) (State.isArrayOf_alike hZ.alike A.2.1) A.2.2 (by rw [B]; exact hin) (C _ (by omega)) (g := mkF m pc Ls (.int j :: .ref a :: st)) rfl rfl hd t r
theorem g_caload (X : Stand p l e R s m args below meth c T locs cells slots) (hx : p.tables.exec = Jvm.exec) (hZ : Z.Warmed39 s.vm) (eT : T.heap = h) {a : Addr} {n : Nat} {f : Nat → Value} (F : Av Z h a .char n f) {j : Int32} {i : Nat} {v : Value} (hj0 : 0 ≤ j.toInt) (hj1 : j.toInt < n) (hi : j.toNatClampNeg = i) (hv : f i = v) (hd : decode c.code pc = .ok (.caload, 1)) (q : Go p e below P (T.setTop (mkF m (pc + 1) Ls (v :: st)))) : Go p e below P (T.setTop (mkF m pc Ls (.int j :: .ref a :: st))) := by
  obtain ⟨cl, A, B, C⟩ := F
  have hin := out_idx hj0 hj1
  subst hi hv
  exact q.by fun t r => X.caload hx (by rw [eT]; exact A.1) (State.isArrayOf_alike hZ.alike A.2.1) A.2.2 (by rw [B]; exact hin) (C _ (by omega)) (g := mkF m pc Ls (.int j :: .ref a :: st)) rfl rfl hd t r
theorem g_baloadB (X : Stand p l e R s m args below meth c T locs cells slots) (hx : p.tables.exec = Jvm.exec) (hZ : Z.Warmed39 s.vm) (eT : T.heap = h) {a : Addr} {n : Nat} {f : Nat → Value} (F : Av Z h a .byte n f) {j : Int32} {i : Nat} {v : Value} (hj0 : 0 ≤ j.toInt) (hj1 : j.toInt < n) (hi : j.toNatClampNeg = i) (hv : f i = v) (hd : decode c.code pc = .ok (.baload, 1)) (q : Go p e below P (T.setTop (mkF m (pc + 1) Ls (v :: st)))) : Go p e below P (T.setTop (mkF m pc Ls (.int j :: .ref a :: st))) := by
  obtain ⟨cl, A, B, C⟩ := F
  have hin := out_idx hj0 hj1
  subst hi hv
  exact q.by fun t r => X.baloadBytes hx (by rw [eT]; exact A.1) (State.isArrayOf_alike hZ.alike A.2.1) A.2.2 (by rw [B]; exact hin) (C _ (by omega)) (g := mkF m pc Ls (.int j :: .ref a :: st)) rfl rfl hd t r
theorem g_baloadZ (X : Stand p l e R s m args below meth c T locs cells slots) (hx : p.tables.exec = Jvm.exec) (hZ : Z.Warmed39 s.vm) (eT : T.heap = h) {a : Addr} {n : Nat} {f : Nat → Value} (F : Av Z h a .boolean n f) {j : Int32} {i : Nat} {v : Value} (hj0 : 0 ≤ j.toInt) (hj1 : j.toInt < n) (hi : j.toNatClampNeg = i) (hv : f i = v) (hd : decode c.code pc = .ok (.baload, 1)) (q : Go p e below P (T.setTop (mkF m (pc + 1) Ls (v :: st)))) : Go p e below P (T.setTop (mkF m pc Ls (.int j :: .ref a :: st))) := by
  obtain ⟨cl, A, B, C⟩ := F
  have hin := out_idx hj0 hj1
  subst hi hv
  exact q.by fun t r => X.baloadBooleans hx (by rw [eT]; exact A.1) (State.isArrayOf_alike hZ.alike A.2.1) A.2.2 (by rw [B]; exact hin) (C _ (by omega)) (g := mkF m pc Ls (.int j :: .ref a :: st)) rfl rfl hd t r
theorem g_iastore (X : Stand p l e R s m args below meth c T locs cells slots) (hx : p.tables.exec = Jvm.exec) (hZ : Z.Warmed39 s.vm) (eT : T.heap = h) {a : Addr} {n : Nat} {f : Nat → Value} (F : Av Z h a .int n f) {j : Int32} {i : Nat} {x : Int32} (hj0 : 0 ≤ j.toInt) (hj1 : j.toInt < n) (hi : j.toNatClampNeg = i) (hd : decode c.code pc = .ok (.iastore, 1))
    (k : ∀ T' h', Stand p l e R s m args below meth c T' (locs ++ [⟨a, i⟩]) cells slots → T'.heap = h' → Wr h h' a i (.int x) → Go p e below P (T'.setTop (mkF m (pc + 1) Ls st))) : Go p e below P (T.setTop (mkF m pc Ls (.int x :: .int j :: .ref a :: st))) := by
  obtain ⟨cl, A, B, C⟩ := F
  have hin := out_idx hj0 hj1
  subst hi
  obtain ⟨T', h', X', e', W, stp⟩ := stI X hx hZ eT A (x := x) (by rw [B]; exact hin) (g := mkF m pc Ls (.int x :: .int j :: .ref a :: st)) rfl rfl hd
  exact (k T' h' X' e' W).by stp
theorem g_lastore (X : Stand p l e R s m args below meth c T locs cells slots) (hx : p.tables.exec = Jvm.exec) (hZ : Z.Warmed39 s.vm) (eT : T.heap = h) {a : Addr} {n : Nat} {f : Nat → Value} (F : Av Z h a .long n f) {j : Int32} {i : Nat} {x : Int64} (hj0 : 0 ≤ j.toInt) (hj1 : j.toInt < n) (hi : j.toNatClampNeg = i) (hd : decode c.code pc = .ok (.lastore, 1))
    (k : ∀ T' h', Stand p l e R s m args below meth c T' (locs ++ [⟨a, i⟩]) cells slots → T'.heap = h' → Wr h h' a i (.long x) → Go p e below P (T'.setTop (mkF m (pc + 1) Ls st))) : Go p e below P (T.setTop (mkF m pc Ls (.long x :: .int j :: .ref a :: st))) := by
  obtain ⟨cl, A, B, C⟩ := F
  have hin := out_idx hj0 hj1
  subst hi
  obtain ⟨T', h', X', e', W, stp⟩ := stJ X hx hZ eT A (x := x) (by rw [B]; exact hin) (g := mkF m pc Ls (.long x :: .int j :: .ref a :: st)) rfl rfl hd
  exact (k T' h' X' e' W).by stp
theorem g_dastore (X : Stand p l e R s m args below meth c T locs cells slots) (hx : p.tables.exec = Jvm.exec) (hZ : Z.Warmed39 s.vm) (eT : T.heap = h) {a : Addr} {n : Nat} {f : Nat → Value} (F : Av Z h a .double n f) {j : Int32} {i : Nat} {x : UInt64} (hj0 : 0 ≤ j.toInt) (hj1 : j.toInt < n) (hi : j.toNatClampNeg = i) (hd : decode c.code pc = .ok (.dastore, 1))
    (k : ∀ T' h', Stand p l e R s m args below meth c T' (locs ++ [⟨a, i⟩]) cells slots → T'.heap = h' → Wr h h' a i (.double x) → Go p e below P (T'.setTop (mkF m (pc + 1) Ls st))) : Go p e below P (T.setTop (mkF m pc Ls (.double x :: .int j :: .ref a :: st))) := by
  obtain ⟨cl, A, B, C⟩ := F
  have hin := out_idx hj0 hj1
  subst hi
  obtain ⟨T', h', X', e', W, stp⟩ := stD X hx hZ eT A (x := x) (by rw [B]; exact hin) (g := mkF m pc Ls (.double x :: .int j :: .ref a :: st)) rfl rfl hd
  exact (k T' h' X' e' W).by stp
theorem g_castore (X : Stand p l e R s m args below meth c T locs cells slots) (hx : p.tables.exec = Jvm.exec) (hZ : Z.Warmed39 s.vm) (eT : T.heap = h) {a : Addr} {n : Nat} {f : Nat → Value} (F : Av Z h a .char n f) {j : Int32} {i : Nat} {x : Int32} (hj0 : 0 ≤ j.toInt) (hj1 : j.toInt < n) (hi : j.toNatClampNeg = i) (hd : decode c.code pc = .ok (.castore, 1))
    (k : ∀ T' h', Stand p l e R s m args below meth c T' (locs ++ [⟨a, i⟩]) cells slots → T'.heap = h' → Wr h h' a i (.int (nar .char x)) → Go p e below P (T'.setTop (mkF m (pc + 1) Ls st))) : Go p e below P (T.setTop (mkF m pc Ls (.int x :: .int j :: .ref a :: st))) := by
  obtain ⟨cl, A, B, C⟩ := F
  have hin := out_idx hj0 hj1
  subst hi
  obtain ⟨T', h', X', e', W, stp⟩ := stC X hx hZ eT A (x := x) (by rw [B]; exact hin) (g := mkF m pc Ls (.int x :: .int j :: .ref a :: st)) rfl rfl hd
  exact (k T' h' X' e' W).by stp
theorem g_bastoreB (X : Stand p l e R s m args below meth c T locs cells slots) (hx : p.tables.exec = Jvm.exec) (hZ : Z.Warmed39 s.vm) (eT : T.heap = h) {a : Addr} {n : Nat} {f : Nat → Value} (F : Av Z h a .byte n f) {j : Int32} {i : Nat} {x : Int32} (hj0 : 0 ≤ j.toInt) (hj1 : j.toInt < n) (hi : j.toNatClampNeg = i) (hd : decode c.code pc = .ok (.bastore, 1))
    (k : ∀ T' h', Stand p l e R s m args below meth c T' (locs ++ [⟨a, i⟩]) cells slots → T'.heap = h' → Wr h h' a i (.int (nar .byte x)) → Go p e below P (T'.setTop (mkF m (pc + 1) Ls st))) : Go p e below P (T.setTop (mkF m pc Ls (.int x :: .int j :: .ref a :: st))) := by
  obtain ⟨cl, A, B, C⟩ := F
  have hin := out_idx hj0 hj1
  subst hi
  obtain ⟨T', h', X', e', W, stp⟩ := stB X hx hZ eT A (x := x) (by rw [B]; exact hin) (g := mkF m pc Ls (.int x :: .int j :: .ref a :: st)) rfl rfl hd
  exact (k T' h' X' e' W).by stp
theorem g_bastoreZ (X : Stand p l e R s m args below meth c T locs cells slots) (hx : p.tables.exec = Jvm.exec) (hZ : Z.Warmed39 s.vm) (eT : T.heap = h) {a : Addr} {n : Nat} {f : Nat → Value} (F : Av Z h a .boolean n f) {j : Int32} {i : Nat} {x : Int32} (hj0 : 0 ≤ j.toInt) (hj1 : j.toInt < n) (hi : j.toNatClampNeg = i) (hd : decode c.code pc = .ok (.bastore, 1))
    (k : ∀ T' h', Stand p l e R s m args below meth c T' (locs ++ [⟨a, i⟩]) cells slots → T'.heap = h' → Wr h h' a i (.int (nar .boolean x)) → Go p e below P (T'.setTop (mkF m (pc + 1) Ls st))) : Go p e below P (T.setTop (mkF m pc Ls (.int x :: .int j :: .ref a :: st))) := by
  obtain ⟨cl, A, B, C⟩ := F
  have hin := out_idx hj0 hj1
  subst hi
  obtain ⟨T', h', X', e', W, stp⟩ := stZ X hx hZ eT A (x := x) (by rw [B]; exact hin) (g := mkF m pc Ls (.int x :: .int j :: .ref a :: st)) rfl rfl hd
  exact (k T' h' X' e' W).by stp
theorem g_arraylength (X : Stand p l e R s m args below meth c T locs cells slots) (hx : p.tables.exec = Jvm.exec) (hZ : Z.Warmed39 s.vm) (eT : T.heap = h) {a : Addr} {ty : FieldType} {n : Nat} {f : Nat → Value} (F : Av Z h a ty n f) {v : Int32} (hv : n.toInt32 = v) (hd : decode c.code pc = .ok (.arraylength, 1)) (q : Go p e below P (T.setTop (mkF m (pc + 1) Ls (.int v :: st)))) : Go p e below P (T.setTop (mkF m pc Ls (.ref a :: st))) := by
  obtain ⟨cl, A, B, C⟩ := F
  subst hv B
  exact q.by fun t r => X.arraylength hx (by rw [eT]; exact A.1) (State.isArrayOf_alike hZ.alike A.2.1) (g := mkF m pc Ls (.ref a :: st)) rfl rfl hd t r
theorem g_newRA (X : Stand p l e R s m args below meth c T locs cells slots) (hx : p.tables.exec = Jvm.exec) (hZ : Z.Warmed39 s.vm) (hown : s.vm.findClass own = some m.cls) {C : String} {ty : FieldType} (hC : (FieldType.array ty).toString = C) (w1 : (Cond.classLink own index C).before a0 Z = true) (w2 : (Cond.arrayOver (.array ty)).before a0 Z = true) (eT : T.heap = h) (hd : decode c.code pc = .ok (.anewarray index, 3)) {n : Int32} (hn : ¬ n < 0) {cap : Nat} (hcap : n.toNatClampNeg ≤ cap) (hb : cap * 8 ≤ 536870912) (hc : cells + 1 ≤ R.cells) (hl : slots + cap ≤ R.slots) {ad : String} (had : "[" ++ C = ad)
    (k : ∀ T' h' a cA, a = h.size → Stand p l e R s m args below meth c T' locs (cells + 1) (slots + cap) → T'.heap = h' → Ext h h' → Arr Z h' a (newA cA (.array ty) n) (.array ty) → Exa Z h' a ad → OvrA Z cA ty C → Go p e below P (T'.setTop (mkF m (pc + 3) Ls (.ref a :: st)))) : Go p e below P (T.setTop (mkF m pc Ls (.int n :: st))) := by
  obtain ⟨T', h', cA, X', e', E, A, EX, O, stp⟩ := newRA X hx hZ hown hC w1 w2 eT (g := mkF m pc Ls (.int n :: st)) rfl hd rfl hn hcap hb hc hl had
  exact (k T' h' _ cA rfl X' e' E A EX O).by stp
theorem g_newPE (X : Stand p l e R s m args below meth c T locs cells slots) (hx : p.tables.exec = Jvm.exec) (hZ : Z.Warmed39 s.vm) {aty : ArrayType} {ty : FieldType} (hty : newarray.typeOf aty = ty) (w : (Cond.arrayClass ty).before a0 Z = true) (eT : T.heap = h) (hd : decode c.code pc = .ok (.newarray aty, 2)) {n : Int32} (hn : ¬ n < 0) {cap : Nat} (hcap : n.toNatClampNeg ≤ cap) (hb : cap * 8 ≤ 536870912) (hc : cells + 1 ≤ R.cells) (hl : slots + cap ≤ R.slots) {ad : String} (had : "[" ++ ty.toString = ad)
    (k : ∀ T' h' a cA, a = h.size → Stand p l e R s m args below meth c T' locs (cells + 1) (slots + cap) → T'.heap = h' → Ext h h' → Arr Z h' a (newA cA ty n) ty → Exa Z h' a ad → Go p e below P (T'.setTop (mkF m (pc + 2) Ls (.ref a :: st)))) : Go p e below P (T.setTop (mkF m pc Ls (.int n :: st))) := by
  subst hty
  obtain ⟨T', h', cA, X', e', E, A, EX, stp⟩ := newPE X hx hZ w eT (g := mkF m pc Ls (.int n :: st)) rfl hd rfl hn hcap hb hc hl had
  exact (k T' h' _ cA rfl X' e' E A EX).by stp
theorem g_aaload (X : Stand p l e R s m args below meth c T locs cells slots) (hx : p.tables.exec = Jvm.exec) (hZ : Z.Warmed39 s.vm) (eT : T.heap = h) {a : Addr} {ty : FieldType} {n : Nat} {f : Nat → Value} (F : Av Z h a ty n f) (hty : ty.isReference = true) {j : Int32} {i : Nat} {v : Value} (hj0 : 0 ≤ j.toInt) (hj1 : j.toInt < n) (hi : j.toNatClampNeg = i) (hv : f i = v) (hd : decode c.code pc = .ok (.aaload, 1)) (q : Go p e below P (T.setTop (mkF m (pc + 1) Ls (v :: st)))) : Go p e below P (T.setTop (mkF m pc Ls (.int j :: .ref a :: st))) := by
  obtain ⟨cl, A, B, C⟩ := F
  have hin := out_idx hj0 hj1
  subst hi hv
  exact q.by fun t r => X.aaload hx (by rw [eT]; exact A.1) (State.isArrayOf_alike hZ.alike A.2.1) hty A.2.2 (by rw [B]; exact hin) (C _ (by omega)) (g := mkF m pc Ls (.int j :: .ref a :: st)) rfl rfl hd t r
theorem g_aastore (X : Stand p l e R s m args below meth c T locs cells slots) (hx : p.tables.exec = Jvm.exec) (hZ : Z.Warmed39 s.vm) (eT : T.heap = h) {a : Addr} {ty : FieldType} {n : Nat} {f : Nat → Value} (F : Av Z h a ty n f) (hty : ty.isReference = true) {v : Value} (S : Sto Z h a v) {j : Int32} {i : Nat} (hj0 : 0 ≤ j.toInt) (hj1 : j.toInt < n) (hi : j.toNatClampNeg = i) (hd : decode c.code pc = .ok (.aastore, 1))
    (k : ∀ T' h', Stand p l e R s m args below meth c T' (locs ++ [⟨a, i⟩]) cells slots → T'.heap = h' → Wr h h' a i v → Go p e below P (T'.setTop (mkF m (pc + 1) Ls st))) : Go p e below P (T.setTop (mkF m pc Ls (v :: .int j :: .ref a :: st))) := by
  obtain ⟨cl, A, B, C⟩ := F
  have hin := out_idx hj0 hj1
  subst hi
  obtain ⟨T', h', X', e', W, stp⟩ := stR X hx hZ eT A (by rw [B]; exact hin) hty S (g := mkF m pc Ls (v :: .int j :: .ref a :: st)) rfl rfl hd
  exact (k T' h' X' e' W).by stp
theorem Av.some {h' : Heap} {a b : Addr} {sl : Nat} {v : Value} {ty : FieldType} {n : Nat} {f : Nat → Value} (F : Av Z h b ty n f) (W : Wr h h' a sl v) : ∃ g, Av Z h' b ty n g := by
  by_cases q : b = a
  · subst q; exact ⟨_, F.same W⟩
  · exact ⟨_, F.other W q⟩
theorem g_dup_x1 (X : Stand p l e R s m args below meth c T locs cells slots) (hx : p.tables.exec = Jvm.exec) {x y : Value} (hd : decode c.code pc = .ok (.dup_x1, 1)) (hc : x.category = 1) (hc2 : y.category = 1) (q : Go p e below P (T.setTop (mkF m (pc + 1) Ls (x :: y :: x :: st)))) : Go p e below P (T.setTop (mkF m pc Ls (x :: y :: st))) := q.by fun t r => XS.dupX1 X.here hx rfl hd rfl hc hc2 r
theorem g_acmp (X : Stand p l e R s m args below meth c T locs cells slots) (hx : p.tables.exec = Jvm.exec) {cd : ACond} {o : Int} {x y : Value} {same : Bool} {pc' : Nat} (hd : decode c.code pc = .ok (.if_acmp cd o, 3)) (h1 : x.isRef = true) (h2 : y.isRef = true) (hq : decide (x = y) = same) (ho : 0 ≤ (pc : Int) + o) (hp : pc' = if acV cd same = true then ((pc : Int) + o).toNat else pc + 3) (q : Go p e below P (T.setTop (mkF m pc' Ls st))) : Go p e below P (T.setTop (mkF m pc Ls (y :: x :: st))) := q.by fun t r => Jvm.RoadKit.acmp X hx rfl h1 h2 rfl hd rfl hq ho hp r
theorem g_instY (X : Stand p l e R s m args below meth c T locs cells slots) (hx : p.tables.exec = Jvm.exec) (hZ : Z.Warmed39 s.vm) (hown : s.vm.findClass own = some m.cls) {K : String} (w : (Cond.classLink own index K).before a0 Z = true) (eT : T.heap = h) {a : Addr} (F : Ins Z h a K true) (hd : decode c.code pc = .ok (.instanceof index, 3))
    (k : ∀ T', Stand p l e R s m args below meth c T' locs cells slots → T'.heap = h → Go p e below P (T'.setTop (mkF m (pc + 3) Ls (.int 1 :: st)))) : Go p e below P (T.setTop (mkF m pc Ls (.ref a :: st))) := by
  obtain ⟨T', X', e', stp⟩ := instY X hx hZ hown w eT F (g := mkF m pc Ls (.ref a :: st)) rfl rfl hd
  exact (k T' X' e').by stp
theorem g_callI (X : Stand p l e R s m args below meth c T locs cells slots) (hx : p.tables.exec = Jvm.exec) (hZ : Z.Warmed39 s.vm) (hown : s.vm.findClass own = some m.cls) {xi y : MethodName} {bytes : ByteArray} {maxL cnt : Nat} {ret : Option FieldType} {C : String} (w1 : (Cond.methodLink own index xi).before a0 Z = true) (w2 : (Cond.declares xi).before a0 Z = true) (w7 : (Cond.interfaceMethod xi.cls xi.cls xi.name xi.desc).before a0 Z = true) (w5 : (Cond.selects C xi y).before a0 Z = true) (w6 : (Cond.instanceMethod y).before a0 Z = true) (w8 : (Cond.publicMethod y).before a0 Z = true) (w9 : (Cond.unhidden C xi.name xi.desc).before a0 Z = true) (wc : (Cond.castable C xi.cls).before a0 Z = true) (w3 : (Cond.initialized y.cls).before a0 Z = true) (w4 : (Cond.code y bytes maxL ret).before a0 Z = true) (hy : xi.cls ≠ "java/lang/invoke/MethodHandle" ∧ xi.cls ≠ "java/lang/invoke/VarHandle") {rm : Room} {as' : Array Value} {Q : Option Value → Heap → List Loc → Prop} (hM : MetFree l y (head1 [Cond.code y bytes maxL ret] rm) (fun a U => a = as' ∧ Z.Warmed39 U.vm ∧ U.heap = h) (fun _ _ _ _ _ => True) (fun _ U o U' => ∃ v L, o = .returned v ∧ Q v U'.heap L ∧ FrameEnd U o U' L rm.cells rm.slots)) (eT : T.heap = h) {W : Nat} (hf : rm.frames + 1 ≤ R.frames) (hlo : W + (maxL + 11) + rm.locals ≤ R.locals) (hsize : Ls.size = c.maxLocals) (a : Addr) (E : Exa Z h a C) (argsL rest : List Value) (hlen : ∀ sig, parseMethodDescriptor xi.desc = some sig → argsL.length = sig.parameters.length) (hst : st = argsL.reverse ++ .ref a :: rest) (has : (.ref a :: argsL).toArray = as') (hW : (rest.map fun v => v.category).sum ≤ W) (hd : decode c.code pc = .ok (.invokeinterface index cnt, 5)) (hc : cells + rm.cells ≤ R.cells) (hs : slots + rm.slots ≤ R.slots) (k : ∀ (v : Option Value) (T' : State) (L : List Loc), Stand p l e R s m args below meth c T' (locs ++ L) (cells + rm.cells) (slots + rm.slots) → Q v T'.heap L → Go p e below P (T'.setTop (mkF m (pc + 5) Ls (v.toList ++ rest)))) : Go p e below P (T.setTop (mkF m pc Ls st)) := by
  obtain ⟨cq, kq, qa, qb, qc⟩ := isOf hZ eT E
  obtain ⟨v, vm1, ⟨T', L', k', n'⟩, -, X', ⟨L, hQ, l1, y1, z1⟩, stp⟩ := X.interfaceBack hx (xi := xi) (y := y) hown (mvT hZ w1) (mvT hZ w2) (mvT hZ w7 (by simp [Cond.onTables, Cond.keepsFace, Cond.keeps, Cond.faceAtom, hy.1, hy.2])) (mvT hZ w5) (mvT hZ w6) (mvT hZ w8) (mvT hZ w9) (mvT hZ wc) hy (backOf (W := W) hM hZ w4 w3 hf hlo) qa qb qc (g := mkF m pc Ls st) rfl hsize (Steps.refl _) hlen hst (by show 2 * 0 + _ ≤ _; omega) hd (fun _ _ => ⟨has, eT, hc, hs⟩)
  dsimp only [Pt.U, Pt.locs, Pt.cells, Pt.slots] at X' l1 y1 z1 stp hQ
  subst l1 y1 z1
  exact (k v T' L X' hQ).by fun t r => stp.trans r
def RetW (s : State) (Q : Option Value → Heap → List Loc → Prop) (C N : Nat) (s₂ : State) (o : Outcome) : Prop := ∃ v L, o = .returned v ∧ Q v s₂.heap L ∧ ReturnedEndW s o s₂ L C N
theorem gW_ireturn {Q : Option Value → Heap → List Loc → Prop} {C N : Nat} {vm0 : Vm} (X : Stand p l e R (s.setVm vm0) m args below meth c T locs cells slots) (hx : p.tables.exec = Jvm.exec) {k0 : Nat} (hS : s.Since vm0 k0) (eT : T.heap = h) (hk : k0 ≤ h.size) (hlk : meth.locks = false) {w : Int32} {t : FieldType} (hret : meth.sig.returnType = some t) (hn : narrow t (.int w) = .int w) (hti : t = .int ∨ t = .boolean ∨ t = .byte ∨ t = .char ∨ t = .short) (hd : decode c.code pc = .ok (.ireturn, 1)) (hC : cells ≤ C) (hN : slots ≤ N) (hq : Q (some (.int w)) T.heap locs) : Go p e below (RetW s Q C N) (T.setTop (mkF m pc Ls [.int w])) := by
  obtain ⟨fs, hr, hrun, hended, h1, h2, h3, h4⟩ := X.leaveW hS (by rw [eT]; exact hk) (v := some (.int w)) (fun q => by rw [hret] at q; cases q) hlk
  exact ⟨_, _, X.ireturnOut hx hret hn hti hd hr, hrun, hended, _, _, rfl, hq, h1, h2, h3, h4.mono hC hN⟩
theorem g_ldcS {vm0 : Vm} (X : Stand p l e R (s.setVm vm0) m args below meth c T locs cells slots) (hx : p.tables.exec = Jvm.exec) (hZ : Z.Warmed39 (s.setVm vm0).vm) (hown : (s.setVm vm0).vm.findClass own = some m.cls) {text : String} (w : (Cond.stringLink own index text).before a0 Z = true) (wS : ∀ a ∈ Bundle.stringAtoms, a.before a0 Z = true) (eT : T.heap = h) {k0 : Nat} (hS : s.Since vm0 k0) (hk : k0 ≤ h.size) (hd : decode c.code pc = .ok (.ldc index, 2)) {n : Nat} (hn : 4 * text.toList.length ≤ n) (hbig : n ≤ 536870912) (hc : cells + 2 ≤ R.cells) (hl : slots + (n + 4) ≤ R.slots)
    (k : ∀ (a : Addr) (T' : State) (h' : Heap) (k1 : Nat), Stand p l e R (s.setVm T'.vm) m args below meth c T' locs (cells + 2) (slots + (n + 4)) → T'.heap = h' → Ext h h' → s.Since T'.vm k1 → k1 ≤ h'.size → Z.Warmed39 (s.setVm T'.vm).vm → (s.setVm T'.vm).vm.findClass own = some m.cls → Go p e below P (T'.setTop (mkF m (pc + 2) Ls (.ref a :: st)))) : Go p e below P (T.setTop (mkF m pc Ls st)) := by
  obtain ⟨a, T', h', k1, X', e', E, S', hk', hZ', hown', stp⟩ := ldcS X hx hZ hown w wS eT hS hk (g := mkF m pc Ls st) rfl hd hn hbig hc hl
  exact (k a T' h' k1 X' e' E S' hk' hZ' hown').by stp
theorem Exa.ns {a : Addr} {C : String} (E : Exa Z h a C) : ∀ cell : Cell, h[a]? = some cell → cell.vm.isStatics = false := fun cell q => by
  obtain ⟨c1, k, e1, -, -, e4, -⟩ := E; cases e1.symm.trans q; exact e4
theorem Av.ns {a : Addr} {ty : FieldType} {n : Nat} {f : Nat → Value} (F : Av Z h a ty n f) : ∀ cell : Cell, h[a]? = Option.some cell → cell.vm.isStatics = false := by
  obtain ⟨cl, A, -⟩ := F; exact A.nostat
theorem Sta.keepN {h' : Heap} {C n d : String} {v : Value} {ws : List Addr} (F : Sta Z h C n d v) (K : Keep h h' ws) (q : ∀ a ∈ ws, ∀ cell : Cell, h[a]? = some cell → cell.vm.isStatics = false) : Sta Z h' C n d v := by
  obtain ⟨cf, i, k, f, st, cell, h1, h2, h3, h4, h5, h6, h7⟩ := F
  refine ⟨cf, i, k, f, st, cell, h1, h2, h3, h4, K.2.1 st cell h5 (fun m => ?_), h6, h7⟩
  rw [q st m cell h5] at h6; cases h6
theorem ns0 : ∀ a ∈ ([] : List Addr), ∀ cell : Cell, h[a]? = some cell → cell.vm.isStatics = false := fun a m => by cases m
theorem nsS {b : Addr} {ws : List Addr} (q : ∀ cell : Cell, h[b]? = some cell → cell.vm.isStatics = false) (r : ∀ a ∈ ws, ∀ cell : Cell, h[a]? = some cell → cell.vm.isStatics = false) : ∀ a ∈ b :: ws, ∀ cell : Cell, h[a]? = some cell → cell.vm.isStatics = false := fun a m => by
  rcases List.mem_cons.mp m with rfl | m
  · exact q
  · exact r a m
theorem g_castY (X : Stand p l e R s m args below meth c T locs cells slots) (hx : p.tables.exec = Jvm.exec) (hZ : Z.Warmed39 s.vm) (hown : s.vm.findClass own = some m.cls) {K : String} (w : (Cond.classLink own index K).before a0 Z = true) (eT : T.heap = h) {a : Addr} (F : Ins Z h a K true) (hd : decode c.code pc = .ok (.checkcast index, 3))
    (k : ∀ T', Stand p l e R s m args below meth c T' locs cells slots → T'.heap = h → Go p e below P (T'.setTop (mkF m (pc + 3) Ls (.ref a :: st)))) : Go p e below P (T.setTop (mkF m pc Ls (.ref a :: st))) := by
  obtain ⟨T', X', e', stp⟩ := castY X hx hZ hown w eT F (g := mkF m pc Ls (.ref a :: st)) rfl rfl hd
  exact (k T' X' e').by stp
theorem gW_areturn {Q : Option Value → Heap → List Loc → Prop} {C N : Nat} {vm0 : Vm} (X : Stand p l e R (s.setVm vm0) m args below meth c T locs cells slots) (hx : p.tables.exec = Jvm.exec) {k0 : Nat} (hS : s.Since vm0 k0) (eT : T.heap = h) (hk : k0 ≤ h.size) (hlk : meth.locks = false) {w : Value} {t : FieldType} (hret : meth.sig.returnType = some t) (ht : t.isReference = true) (hw : w.isRef = true) (hd : decode c.code pc = .ok (.areturn, 1)) (hC : cells ≤ C) (hN : slots ≤ N) (hq : Q (some w) T.heap locs) : Go p e below (RetW s Q C N) (T.setTop (mkF m pc Ls [w])) := by
  obtain ⟨fs, hr, hrun, hended, h1, h2, h3, h4⟩ := X.leaveW hS (by rw [eT]; exact hk) (v := some w) (fun q => by rw [hret] at q; cases q) hlk
  exact ⟨_, _, X.areturnOut hx hw hret ht hd hr, hrun, hended, _, _, rfl, hq, h1, h2, h3, h4.mono hC hN⟩
theorem gW_return {Q : Option Value → Heap → List Loc → Prop} {C N : Nat} {vm0 : Vm} (X : Stand p l e R (s.setVm vm0) m args below meth c T locs cells slots) (hx : p.tables.exec = Jvm.exec) {k0 : Nat} (hS : s.Since vm0 k0) (eT : T.heap = h) (hk : k0 ≤ h.size) (hlk : meth.locks = false) (hret : meth.sig.returnType = none) (hd : decode c.code pc = .ok (.return_, 1)) (hC : cells ≤ C) (hN : slots ≤ N) (hq : Q none T.heap locs) : Go p e below (RetW s Q C N) (T.setTop (mkF m pc Ls [])) := by
  obtain ⟨fs, hr, hrun, hended, h1, h2, h3, h4⟩ := X.leaveW hS (by rw [eT]; exact hk) (v := none) (fun _ => rfl) hlk
  exact ⟨_, _, X.returnOut hx hret hd hr, hrun, hended, _, _, rfl, hq, h1, h2, h3, h4.mono hC hN⟩
theorem g_callSW {vm0 : Vm} (X : Stand p l e R (s.setVm vm0) m args below meth c T locs cells slots) (hx : p.tables.exec = Jvm.exec) (hZ : Z.Warmed39 (s.setVm vm0).vm) (hown : (s.setVm vm0).vm.findClass own = some m.cls) {y : MethodName} {bytes : ByteArray} {maxL : Nat} {ret : Option FieldType} (w1 : (Cond.methodLink own index y).before a0 Z = true) (w2 : (Cond.static y).before a0 Z = true) (w3 : (Cond.initialized y.cls).before a0 Z = true) (w4 : (Cond.code y bytes maxL ret).before a0 Z = true) (hy : y.cls ≠ "java/lang/invoke/MethodHandle" ∧ y.cls ≠ "java/lang/invoke/VarHandle") {rm : Room} {as' : Array Value} {Q : Option Value → Heap → List Loc → Prop} (hM : MetFree l y (head1 [Cond.code y bytes maxL ret] rm) (fun a U => a = as' ∧ Z.Warmed39 U.vm ∧ U.heap = h) (fun _ _ _ _ _ => True) (fun _ U o U' => ∃ v L, o = .returned v ∧ Q v U'.heap L ∧ ReturnedEndW U o U' L rm.cells rm.slots)) (eT : T.heap = h) {k0 : Nat} (hS : s.Since vm0 k0) (hk : k0 ≤ h.size) {W : Nat} (hf : rm.frames + 1 ≤ R.frames) (hlo : W + (maxL + 11) + rm.locals ≤ R.locals) (hsize : Ls.size = c.maxLocals) (argsL rest : List Value) (hlen : ∀ sig, parseMethodDescriptor y.desc = some sig → argsL.length = sig.parameters.length) (hst : st = argsL.reverse ++ rest) (has : argsL.toArray = as') (hW : (rest.map fun v => v.category).sum ≤ W) (hd : decode c.code pc = .ok (.invokestatic index, 3)) (hc : cells + rm.cells ≤ R.cells) (hs : slots + rm.slots ≤ R.slots) (k : ∀ (v : Option Value) (T' : State) (L : List Loc), Stand p l e R (s.setVm T'.vm) m args below meth c T' (locs ++ L) (cells + rm.cells) (slots + rm.slots) → Q v T'.heap L → s.Since T'.vm T'.heap.size → Z.Warmed39 (s.setVm T'.vm).vm → (s.setVm T'.vm).vm.findClass own = some m.cls → h.size ≤ T'.heap.size → Go p e below P (T'.setTop (mkF m (pc + 3) Ls (v.toList ++ rest)))) : Go p e below P (T.setTop (mkF m pc Ls st)) := by
  obtain ⟨v, vm1, ⟨T', L', k', n'⟩, -, X', S', gr, ⟨L, hQ, l1, y1, z1⟩, stp⟩ := callSS X hx hown (mvT hZ w1) (mvT hZ w2) (mvT hZ w3) (mvT hZ w4) hy (backOfS (W := W) hM hZ w4 w3 hf hlo) (g := mkF m pc Ls st) rfl hsize hlen hst (by show 2 * 0 + _ ≤ _; omega) hd (fun _ _ => ⟨has, eT, hc, hs⟩)
  dsimp only [Pt.U, Pt.locs, Pt.cells, Pt.slots] at X' l1 y1 z1 stp hQ S' gr
  subst l1 y1 z1
  obtain ⟨X2, S2, hZ2, hown2⟩ := rebS (n1 := T.heap.size) hS (by rw [eT]; exact hk) X' S' gr hZ hown
  exact (k v T' L X2 hQ S2 hZ2 hown2 (by rw [← eT]; exact gr)).by fun t r => stp.trans r
theorem g_initW {vm0 : Vm} (X : Stand p l e R (s.setVm vm0) m args below meth c T locs cells slots) (hx : p.tables.exec = Jvm.exec) (hZ : Z.Warmed39 (s.setVm vm0).vm) (hown : (s.setVm vm0).vm.findClass own = some m.cls) {y : MethodName} {bytes : ByteArray} {maxL : Nat} (hy1 : y.name = "<init>") (w1 : (Cond.methodLink own index y).before a0 Z = true) (w2 : (Cond.instanceMethod y).before a0 Z = true) (w3 : (Cond.initialized y.cls).before a0 Z = true) (w4 : (Cond.code y bytes maxL none).before a0 Z = true) (hy : y.cls ≠ "java/lang/invoke/MethodHandle" ∧ y.cls ≠ "java/lang/invoke/VarHandle") {rm : Room} {as' : Array Value} {Q : Option Value → Heap → List Loc → Prop} (hM : MetFree l y (head1 [Cond.code y bytes maxL none] rm) (fun a U => a = as' ∧ Z.Warmed39 U.vm ∧ U.heap = h) (fun _ _ _ _ _ => True) (fun _ U o U' => ∃ v L, o = .returned v ∧ Q v U'.heap L ∧ ReturnedEndW U o U' L rm.cells rm.slots)) (eT : T.heap = h) {k0 : Nat} (hS : s.Since vm0 k0) (hk : k0 ≤ h.size) {W : Nat} (hf : rm.frames + 1 ≤ R.frames) (hlo : W + (maxL + 11) + rm.locals ≤ R.locals) (hsize : Ls.size = c.maxLocals) (a : Addr) (argsL rest : List Value) (hlen : ∀ sig, parseMethodDescriptor y.desc = some sig → argsL.length = sig.parameters.length) (hst : st = argsL.reverse ++ .ref a :: rest) (has : (.ref a :: argsL).toArray = as') (hW : (rest.map fun v => v.category).sum ≤ W) (hd : decode c.code pc = .ok (.invokespecial index, 3)) (hc : cells + rm.cells ≤ R.cells) (hs : slots + rm.slots ≤ R.slots) (k : ∀ (v : Option Value) (T' : State) (L : List Loc), Stand p l e R (s.setVm T'.vm) m args below meth c T' (locs ++ L) (cells + rm.cells) (slots + rm.slots) → Q v T'.heap L → s.Since T'.vm T'.heap.size → Z.Warmed39 (s.setVm T'.vm).vm → (s.setVm T'.vm).vm.findClass own = some m.cls → h.size ≤ T'.heap.size → Go p e below P (T'.setTop (mkF m (pc + 3) Ls (v.toList ++ rest)))) : Go p e below P (T.setTop (mkF m pc Ls st)) := by
  obtain ⟨v, vm1, ⟨T', L', k', n'⟩, -, X', S', gr, ⟨L, hQ, l1, y1, z1⟩, stp⟩ := X.specialBackS hx hy1 hown (mvT hZ w1) (mvT hZ w2) (mvT hZ w4) hy (backOfS (W := W) hM hZ w4 w3 hf hlo) (g := mkF m pc Ls st) rfl hsize (Steps.refl _) hlen hst (by show 2 * 0 + _ ≤ _; omega) hd (fun _ _ => ⟨has, eT, hc, hs⟩)
  dsimp only [Pt.U, Pt.locs, Pt.cells, Pt.slots] at X' l1 y1 z1 stp hQ S' gr
  subst l1 y1 z1
  obtain ⟨X2, S2, hZ2, hown2⟩ := rebS (n1 := T.heap.size) hS (by rw [eT]; exact hk) X' S' gr hZ hown
  exact (k v T' L X2 hQ S2 hZ2 hown2 (by rw [← eT]; exact gr)).by fun t r => stp.trans r
theorem cv_g_lt (r : Option Ordering) : cmpValue r .g < 0 ↔ r = some .lt := by rcases r with _ | (_ | _ | _) <;> decide
theorem cv_g_gt (r : Option Ordering) : 0 < cmpValue r .g ↔ (r = some .gt ∨ r = none) := by rcases r with _ | (_ | _ | _) <;> decide
theorem cv_l_lt (r : Option Ordering) : cmpValue r .l < 0 ↔ (r = some .lt ∨ r = none) := by rcases r with _ | (_ | _ | _) <;> decide
theorem cv_l_gt (r : Option Ordering) : 0 < cmpValue r .l ↔ r = some .gt := by rcases r with _ | (_ | _ | _) <;> decide
theorem cv_g_eq (r : Option Ordering) : cmpValue r .g = 0 ↔ r = some .eq := by rcases r with _ | (_ | _ | _) <;> decide
theorem cv_l_eq (r : Option Ordering) : cmpValue r .l = 0 ↔ r = some .eq := by rcases r with _ | (_ | _ | _) <;> decide
end OwnKit

def own_lo (c : Int32) : Int32 := nar .byte ((c >>> ((0 : Int32) &&& 31)).toInt8.toInt32)
def own_hi (c : Int32) : Int32 := nar .byte ((c >>> ((8 : Int32) &&& 31)).toInt8.toInt32)
def own_b (c : Int32) : Int32 := nar .byte (c.toInt8.toInt32)
def own_pc (F : Nat → Int32) (k : Nat) (c : Int32) (i : Nat) : Int32 := if i = 2 * k + 1 then own_hi c else if i = 2 * k then own_lo c else F i
def own_16 (u : Nat → Int32) (i : Nat) : Int32 := if i % 2 = 1 then own_hi (u (i / 2)) else own_lo (u (i / 2))
def own_g (a b : Int32) : Int32 := (((a &&& 255) <<< ((0 : Int32) &&& 31)) ||| ((b &&& 255) <<< ((8 : Int32) &&& 31))).toUInt32.toUInt16.toUInt32.toInt32
theorem own_narB (x : Int32) : (nar .byte x.toInt8.toInt32).toInt % 256 = x.toInt % 256 := by
  have a := c_i2b x
  have b := c_i2b x.toInt8.toInt32
  show (x.toInt8.toInt32.toInt8.toInt32).toInt % 256 = _
  omega
theorem own_gc {c : Int32} (h : 0 ≤ c.toInt ∧ c.toInt ≤ 65535) : own_g (own_lo c) (own_hi c) = c := by
  have p0 : ((2 ^ 0 : Nat) : Int) = 1 := rfl
  have p8 : ((2 ^ 8 : Nat) : Int) = 256 := rfl
  have l1 := own_narB (c >>> ((0 : Int32) &&& 31))
  have l2 := own_narB (c >>> ((8 : Int32) &&& 31))
  have s0 := c_ishr c 0 0 (by decide)
  have s8 := c_ishr c 8 8 (by decide)
  have m1 := c_mask (own_lo c) 255 8 (by decide) (by decide)
  have m2 := c_mask (own_hi c) 255 8 (by decide) (by decide)
  have t1 := c_ishl (own_lo c &&& 255) 0 0 (by decide)
  have t2 := c_ishl (own_hi c &&& 255) 8 8 (by decide)
  have r1 := rng32 ((own_lo c &&& 255) <<< ((0 : Int32) &&& 31))
  have r2 := rng32 ((own_hi c &&& 255) <<< ((8 : Int32) &&& 31))
  have e1 : (own_lo c).toInt % 256 = c.toInt % 256 := by
    show (nar .byte (c >>> ((0 : Int32) &&& 31)).toInt8.toInt32).toInt % 256 = _
    rw [p0] at s0
    omega
  have e2 : (own_hi c).toInt % 256 = c.toInt / 256 := by
    show (nar .byte (c >>> ((8 : Int32) &&& 31)).toInt8.toInt32).toInt % 256 = _
    rw [p8] at s8
    omega
  rw [p8] at m1 m2 t2
  rw [p0] at t1
  have o := c_or' ((own_lo c &&& 255) <<< ((0 : Int32) &&& 31)) ((own_hi c &&& 255) <<< ((8 : Int32) &&& 31)) 8 (by decide) 256 (by decide) (by omega) (by omega) (by omega)
  have r3 := rng32 (((own_lo c &&& 255) <<< ((0 : Int32) &&& 31)) ||| ((own_hi c &&& 255) <<< ((8 : Int32) &&& 31)))
  have i := c_i2c (((own_lo c &&& 255) <<< ((0 : Int32) &&& 31)) ||| ((own_hi c &&& 255) <<< ((8 : Int32) &&& 31)))
  apply Int32.toInt_inj.mp
  unfold own_g
  omega
theorem own_narC (x : Int32) : narrow .char (.int (x.toUInt32.toUInt16.toUInt32.toInt32)) = .int (x.toUInt32.toUInt16.toUInt32.toInt32) := by
  have a := c_i2c x
  have b := c_i2c (x.toUInt32.toUInt16.toUInt32.toInt32)
  show Value.int ((x.toUInt32.toUInt16.toUInt32.toInt32).toUInt32.toUInt16.toUInt32.toInt32) = _
  congr 1
  apply Int32.toInt_inj.mp
  omega
def own_chr (u : Nat → Int32) : Prop := ∀ i, 0 ≤ (u i).toInt ∧ (u i).toInt ≤ 65535
def own_SV (Z : State) (h : Heap) (n0 : Nat) (x b : Addr) (n : Nat) (u : Nat → Int32) : Prop := Exa Z h x "java/lang/String" ∧ Fld Z h x "java/lang/String" "value" "[B" (.ref b) ∧
  ((Fld Z h x "java/lang/String" "coder" "B" (.int 0) ∧ (∀ i, i < n → ¬ (255 : Int32) < u i) ∧ Av Z h b .byte n (fun i => .int (own_b (u i)))) ∨ (Fld Z h x "java/lang/String" "coder" "B" (.int 1) ∧ (∃ k, k < n ∧ (255 : Int32) < u k) ∧ Av Z h b .byte (2 * n) (fun i => .int (own_16 u i)))) ∧ x ≠ b ∧ n0 ≤ b

/-- a String at x, made since heap size m0: its array, its coder, its bytes -/
def own_Sx (Z : State) (h : Heap) (n0 m0 : Nat) (x : Addr) : Prop := ∃ (vv : Addr) (cd : Int32) (n : Nat) (F : Nat → Int32), Exa Z h x "java/lang/String" ∧ Fld Z h x "java/lang/String" "value" "[B" (.ref vv) ∧ Fld Z h x "java/lang/String" "coder" "B" (.int cd) ∧ Av Z h vv .byte n (fun i => .int (F i)) ∧ (1 ≤ n ∧ n ≤ 6)
def own_3 (a b c : Int32) (i : Nat) : Int32 := if i = 0 then a else if i = 1 then b else c
theorem own_narCr (x : Int32) : 0 ≤ (nar .char x).toInt ∧ (nar .char x).toInt ≤ 65535 := by
  have a := c_i2c x
  show 0 ≤ (x.toUInt32.toUInt16.toUInt32.toInt32).toInt ∧ _
  exact ⟨a.2.1, by show (x.toUInt32.toUInt16.toUInt32.toInt32).toInt ≤ 65535; omega⟩
theorem own_3c (a b c : Int32) : own_chr (own_3 (nar .char a) (nar .char b) (nar .char c)) := by
  intro i
  unfold own_3
  split
  · exact own_narCr a
  · split
    · exact own_narCr b
    · exact own_narCr c
def own_ae (n1 n2 : Nat) (F G : Nat → Int32) : Int32 := if n1 = n2 ∧ ∀ i, i < n1 → F i = G i then 1 else 0
def own_se (x y : Addr) (c1 c2 : Int32) (n1 n2 : Nat) (F G : Nat → Int32) : Int32 := if x = y then 1 else if c1 = c2 then own_ae n1 n2 F G else 0
theorem own_ae01 (n1 n2 : Nat) (F G : Nat → Int32) : own_ae n1 n2 F G = 0 ∨ own_ae n1 n2 F G = 1 := by unfold own_ae; split <;> simp
theorem own_se01 (x y : Addr) (c1 c2 : Int32) (n1 n2 : Nat) (F G : Nat → Int32) : own_se x y c1 c2 n1 n2 F G = 0 ∨ own_se x y c1 c2 n1 n2 F G = 1 := by
  unfold own_se; split
  · exact Or.inr rfl
  · split
    · exact own_ae01 _ _ _ _
    · exact Or.inl rfl
theorem own_tn {n : Nat} (h : n ≤ 6) : (Nat.toInt32 n).toInt = n := by
  have : n = 0 ∨ n = 1 ∨ n = 2 ∨ n = 3 ∨ n = 4 ∨ n = 5 ∨ n = 6 := by omega
  rcases this with rfl | rfl | rfl | rfl | rfl | rfl | rfl <;> rfl
theorem dci3_0 : decode jdk_52_method_21_code 0 = .ok (.iconst 0, 1) := by decide +kernel
theorem dci3_1 : decode jdk_52_method_21_code 1 = .ok (.istore 5, 2) := by decide +kernel
theorem dci3_3 : decode jdk_52_method_21_code 3 = .ok (.iload 5, 2) := by decide +kernel
theorem dci3_5 : decode jdk_52_method_21_code 5 = .ok (.iload 4, 2) := by decide +kernel
theorem dci3_7 : decode jdk_52_method_21_code 7 = .ok (.if_icmp .ge 37, 3) := by decide +kernel
theorem dci3_10 : decode jdk_52_method_21_code 10 = .ok (.aload_n 0, 1) := by decide +kernel
theorem dci3_11 : decode jdk_52_method_21_code 11 = .ok (.iload_n 1, 1) := by decide +kernel
theorem dci3_12 : decode jdk_52_method_21_code 12 = .ok (.caload, 1) := by decide +kernel
theorem dci3_13 : decode jdk_52_method_21_code 13 = .ok (.istore 6, 2) := by decide +kernel
theorem dci3_15 : decode jdk_52_method_21_code 15 = .ok (.iload 6, 2) := by decide +kernel
theorem dci3_17 : decode jdk_52_method_21_code 17 = .ok (.sipush 255, 3) := by decide +kernel
theorem dci3_20 : decode jdk_52_method_21_code 20 = .ok (.if_icmp .le 6, 3) := by decide +kernel
theorem dci3_23 : decode jdk_52_method_21_code 23 = .ok (.iload 5, 2) := by decide +kernel
theorem dci3_25 : decode jdk_52_method_21_code 25 = .ok (.ireturn, 1) := by decide +kernel
theorem dci3_26 : decode jdk_52_method_21_code 26 = .ok (.aload_n 2, 1) := by decide +kernel
theorem dci3_27 : decode jdk_52_method_21_code 27 = .ok (.iload_n 3, 1) := by decide +kernel
theorem dci3_28 : decode jdk_52_method_21_code 28 = .ok (.iload 6, 2) := by decide +kernel
theorem dci3_30 : decode jdk_52_method_21_code 30 = .ok (.i2b, 1) := by decide +kernel
theorem dci3_31 : decode jdk_52_method_21_code 31 = .ok (.bastore, 1) := by decide +kernel
theorem dci3_32 : decode jdk_52_method_21_code 32 = .ok (.iinc 1 1, 3) := by decide +kernel
theorem dci3_35 : decode jdk_52_method_21_code 35 = .ok (.iinc 3 1, 3) := by decide +kernel
theorem dci3_38 : decode jdk_52_method_21_code 38 = .ok (.iinc 5 1, 3) := by decide +kernel
theorem dci3_41 : decode jdk_52_method_21_code 41 = .ok (.goto (-38), 3) := by decide +kernel
theorem dci3_44 : decode jdk_52_method_21_code 44 = .ok (.iload 4, 2) := by decide +kernel
theorem dci3_46 : decode jdk_52_method_21_code 46 = .ok (.ireturn, 1) := by decide +kernel
theorem pnci3 : plainName "java/lang/StringUTF16" = true := by first | (simp [plainName, overriddenIn]; done) | decide +kernel
theorem efci3 (m : MethodId) (z0 : Addr) (z1 : Int32) (z2 : Addr) (z3 : Int32) (z4 : Int32) : entryFrame m #[(.ref z0), (.int z1), (.ref z2), (.int z3), (.int z4)] 7 = mkF m 0 #[.val (.ref z0), .val (.int z1), .val (.ref z2), .val (.int z3), .val (.int z4), .unset, .unset] [] := by first | (simp [entryFrame, mkF, argsToLocals, Value.category]; done) | rfl
def Qci3 (Z : State) (q1 : Addr) (q2 : Addr) (u : Nat → Int32) (F : Nat → Int32) (h0 : Heap) (n0 : Nat) (v : Option Value) (h : Heap) (L : List Loc) : Prop := (v = some (.int 3) ∧ Fr n0 L ∧ Keep h0 h [q2] ∧ (∀ i, i < 3 → ¬ (255 : Int32) < u i) ∧ Av Z h q2 .byte 3 (fun i => .int (own_b (u i)))) ∨ (v = some (.int 0) ∧ Fr n0 L ∧ Keep h0 h [q2] ∧ (255 : Int32) < u 0) ∨ (v = some (.int 1) ∧ Fr n0 L ∧ Keep h0 h [q2] ∧ (255 : Int32) < u 1) ∨ (v = some (.int 2) ∧ Fr n0 L ∧ Keep h0 h [q2] ∧ (255 : Int32) < u 2)
set_option maxRecDepth 65536 in
set_option maxHeartbeats 40000000 in
theorem rmci3 (l : Launch) (Z : State) (a0 : Array Value) (hw : ∀ d ∈ tables_1, d.before a0 Z = true) (ws : List Jvm.Cond) (q1 : Addr) (q2 : Addr) (u : Nat → Int32) (F : Nat → Int32) (h0 : Heap) (n0 : Nat) (Z0 : n0 ≤ h0.size) (A1 : Av Z h0 q1 .char 3 (fun i => .int (u i))) (A2 : Av Z h0 q2 .byte 3 (fun i => .int (F i))) (ne_q1_q2 : q1 ≠ q2) (g2 : n0 ≤ q2) :
    MetFree l (⟨"java/lang/StringUTF16", "compress", "([CI[BII)I"⟩ : MethodName) (head1 (Jvm.Cond.code (⟨"java/lang/StringUTF16", "compress", "([CI[BII)I"⟩ : MethodName) jdk_52_method_21_code 7 (Option.some Jvm.ClassFile.FieldType.int) :: ws) ({ frames := 0, cells := 0, slots := 0, locals := 0 } : Room)) (fun a U => a = #[(.ref q1), (.int (0 : Int32)), (.ref q2), (.int (0 : Int32)), (.int (3 : Int32))] ∧ Z.Warmed39 U.vm ∧ U.heap = h0) (fun _ _ _ _ _ => True) (fun _ U o U' => ∃ v L, o = .returned v ∧ Qci3 Z q1 q2 u F h0 n0 v U'.heap L ∧ FrameEnd U o U' L ({ frames := 0, cells := 0, slots := 0, locals := 0 } : Room).cells ({ frames := 0, cells := 0, slots := 0, locals := 0 } : Room).slots) := by
  refine MetFree.of_bodySF (plainFor_of_name pnci3) hisR ?_
  intro p e s m args below meth c s₁ Bd hml0 hP hK
  obtain ⟨rfl, hZ, hh⟩ := hP
  have hx := Bd.exec
  have hby := Bd.bytes
  have hml : c.maxLocals = 7 := hml0
  have hown : s.vm.findClass "java/lang/StringUTF16" = some m.cls := findClass_of_methodNamed Bd.named
  have hnm := (name_of_methodNamed Bd.named Bd.method).1
  have X0 : Stand p l e ({ frames := 0, cells := 0, slots := 0, locals := 0 } : Room) s m #[(.ref q1), (.int (0 : Int32)), (.ref q2), (.int (0 : Int32)), (.int (3 : Int32))] below meth c s₁ [] 0 0 := Stand.of_body Bd
  have e0 : s₁.heap = h0 := by rw [← hh, Bd.state]; rfl
  have N0 := Fr.nil n0
  show Go p e below (Ret s (Qci3 Z q1 q2 u F h0 n0) ({ frames := 0, cells := 0, slots := 0, locals := 0 } : Room).cells ({ frames := 0, cells := 0, slots := 0, locals := 0 } : Room).slots) (s₁.setTop (entryFrame m #[(.ref q1), (.int (0 : Int32)), (.ref q2), (.int (0 : Int32)), (.int (3 : Int32))] 7))
  rw [efci3 m q1 (0 : Int32) q2 (0 : Int32) (3 : Int32)]
  have K0 : Keep h0 h0 [q2] := Keep.refl _ _
  refine g_iconst X0 hx (hb hby dci3_0) (v := (0 : Int32)) (by decide) ?_
  refine g_istore X0 hx (hb hby dci3_1) (L' := #[.val (.ref q1), .val (.int (0 : Int32)), .val (.ref q2), .val (.int (0 : Int32)), .val (.int (3 : Int32)), .val (.int (0 : Int32)), .unset]) rfl ?_
  refine g_iload X0 hx (hb hby dci3_3) rfl ?_
  refine g_iload X0 hx (hb hby dci3_5) rfl ?_
  have hc7_1 : (0 : Int32) < (3 : Int32) := (by decide)
  refine g_icmpNo X0 hx (hb hby dci3_7) (tlt hc7_1).2.1 ?_
  refine g_aloadN X0 hx (hb hby dci3_10) rfl rfl ?_
  refine g_iloadN X0 hx (hb hby dci3_11) rfl ?_
  refine g_caload X0 hx hZ e0 A1 (by decide) (by decide) (i := 0) (by decide) rfl (hb hby dci3_12) ?_
  refine g_istore X0 hx (hb hby dci3_13) (L' := #[.val (.ref q1), .val (.int (0 : Int32)), .val (.ref q2), .val (.int (0 : Int32)), .val (.int (3 : Int32)), .val (.int (0 : Int32)), .val (.int (u 0))]) rfl ?_
  refine g_iload X0 hx (hb hby dci3_15) rfl ?_
  refine g_sipush X0 hx (hb hby dci3_17) (v := (255 : Int32)) (by decide) ?_
  by_cases hc20_2 : (255 : Int32) < (u 0)
  ·
    refine g_icmpNo X0 hx (hb hby dci3_20) (tlt hc20_2).2.2.2 ?_
    refine g_iload X0 hx (hb hby dci3_23) rfl ?_
    refine g_ireturn X0 hx Bd.notSynchronized Bd.returns rfl (by simp) (hb hby dci3_25) (by decide) (by decide) ?_
    rw [e0]
    exact Or.inr (Or.inl (⟨rfl, N0, K0, hc20_2⟩))
  ·
    refine g_icmpYes X0 hx (hb hby dci3_20) (flt hc20_2).2.2.2 (by decide) (pc' := 26) (by decide) ?_
    refine g_aloadN X0 hx (hb hby dci3_26) rfl rfl ?_
    refine g_iloadN X0 hx (hb hby dci3_27) rfl ?_
    refine g_iload X0 hx (hb hby dci3_28) rfl ?_
    obtain ⟨i3, hi3⟩ : ∃ v : Int32, (u 0).toInt8.toInt32 = v := ⟨_, rfl⟩
    refine g_i2b X0 hx (hb hby dci3_30) hi3 ?_
    refine g_bastoreB X0 hx hZ e0 A2 (i := 0) (by decide) (by decide) (by decide) (hb hby dci3_31) ?_
    intro T4 h7 X5 e6 W8
    have F9 := A1.other W8 ne_q1_q2
    have F10 := A2.same W8
    have Z11 : n0 ≤ h7.size := by rw [W8.size]; exact Z0
    have K12 := Keep.wr K0 W8 (Or.inl (List.mem_singleton.mpr rfl))
    have N13 := Fr.snoc X5 N0 g2
    refine g_iinc X5 hx (hb hby dci3_32) rfl (L' := #[.val (.ref q1), .val (.int (1 : Int32)), .val (.ref q2), .val (.int (0 : Int32)), .val (.int (3 : Int32)), .val (.int (0 : Int32)), .val (.int (u 0))]) rfl ?_
    refine g_iinc X5 hx (hb hby dci3_35) rfl (L' := #[.val (.ref q1), .val (.int (1 : Int32)), .val (.ref q2), .val (.int (1 : Int32)), .val (.int (3 : Int32)), .val (.int (0 : Int32)), .val (.int (u 0))]) rfl ?_
    refine g_iinc X5 hx (hb hby dci3_38) rfl (L' := #[.val (.ref q1), .val (.int (1 : Int32)), .val (.ref q2), .val (.int (1 : Int32)), .val (.int (3 : Int32)), .val (.int (1 : Int32)), .val (.int (u 0))]) rfl ?_
    refine g_goto X5 hx (hb hby dci3_41) (by decide) (pc' := 3) (by decide) ?_
    refine g_iload X5 hx (hb hby dci3_3) rfl ?_
    refine g_iload X5 hx (hb hby dci3_5) rfl ?_
    have hc7_14 : (1 : Int32) < (3 : Int32) := (by decide)
    refine g_icmpNo X5 hx (hb hby dci3_7) (tlt hc7_14).2.1 ?_
    refine g_aloadN X5 hx (hb hby dci3_10) rfl rfl ?_
    refine g_iloadN X5 hx (hb hby dci3_11) rfl ?_
    refine g_caload X5 hx hZ e6 F9 (by decide) (by decide) (i := 1) (by decide) rfl (hb hby dci3_12) ?_
    refine g_istore X5 hx (hb hby dci3_13) (L' := #[.val (.ref q1), .val (.int (1 : Int32)), .val (.ref q2), .val (.int (1 : Int32)), .val (.int (3 : Int32)), .val (.int (1 : Int32)), .val (.int (u 1))]) rfl ?_
    refine g_iload X5 hx (hb hby dci3_15) rfl ?_
    refine g_sipush X5 hx (hb hby dci3_17) (v := (255 : Int32)) (by decide) ?_
    by_cases hc20_15 : (255 : Int32) < (u 1)
    ·
      refine g_icmpNo X5 hx (hb hby dci3_20) (tlt hc20_15).2.2.2 ?_
      refine g_iload X5 hx (hb hby dci3_23) rfl ?_
      refine g_ireturn X5 hx Bd.notSynchronized Bd.returns rfl (by simp) (hb hby dci3_25) (by decide) (by decide) ?_
      rw [e6]
      exact Or.inr (Or.inr (Or.inl (⟨rfl, N13, K12, hc20_15⟩)))
    ·
      refine g_icmpYes X5 hx (hb hby dci3_20) (flt hc20_15).2.2.2 (by decide) (pc' := 26) (by decide) ?_
      refine g_aloadN X5 hx (hb hby dci3_26) rfl rfl ?_
      refine g_iloadN X5 hx (hb hby dci3_27) rfl ?_
      refine g_iload X5 hx (hb hby dci3_28) rfl ?_
      obtain ⟨i16, hi16⟩ : ∃ v : Int32, (u 1).toInt8.toInt32 = v := ⟨_, rfl⟩
      refine g_i2b X5 hx (hb hby dci3_30) hi16 ?_
      refine g_bastoreB X5 hx hZ e6 F10 (i := 1) (by decide) (by decide) (by decide) (hb hby dci3_31) ?_
      intro T17 h20 X18 e19 W21
      have F22 := F9.other W21 ne_q1_q2
      have F23 := F10.same W21
      have Z24 : n0 ≤ h20.size := by rw [W21.size]; exact Z11
      have K25 := Keep.wr K12 W21 (Or.inl (List.mem_singleton.mpr rfl))
      have N26 := Fr.snoc X18 N13 g2
      refine g_iinc X18 hx (hb hby dci3_32) rfl (L' := #[.val (.ref q1), .val (.int (2 : Int32)), .val (.ref q2), .val (.int (1 : Int32)), .val (.int (3 : Int32)), .val (.int (1 : Int32)), .val (.int (u 1))]) rfl ?_
      refine g_iinc X18 hx (hb hby dci3_35) rfl (L' := #[.val (.ref q1), .val (.int (2 : Int32)), .val (.ref q2), .val (.int (2 : Int32)), .val (.int (3 : Int32)), .val (.int (1 : Int32)), .val (.int (u 1))]) rfl ?_
      refine g_iinc X18 hx (hb hby dci3_38) rfl (L' := #[.val (.ref q1), .val (.int (2 : Int32)), .val (.ref q2), .val (.int (2 : Int32)), .val (.int (3 : Int32)), .val (.int (2 : Int32)), .val (.int (u 1))]) rfl ?_
      refine g_goto X18 hx (hb hby dci3_41) (by decide) (pc' := 3) (by decide) ?_
      refine g_iload X18 hx (hb hby dci3_3) rfl ?_
      refine g_iload X18 hx (hb hby dci3_5) rfl ?_
      have hc7_27 : (2 : Int32) < (3 : Int32) := (by decide)
      refine g_icmpNo X18 hx (hb hby dci3_7) (tlt hc7_27).2.1 ?_
      refine g_aloadN X18 hx (hb hby dci3_10) rfl rfl ?_
      refine g_iloadN X18 hx (hb hby dci3_11) rfl ?_
      refine g_caload X18 hx hZ e19 F22 (by decide) (by decide) (i := 2) (by decide) rfl (hb hby dci3_12) ?_
      refine g_istore X18 hx (hb hby dci3_13) (L' := #[.val (.ref q1), .val (.int (2 : Int32)), .val (.ref q2), .val (.int (2 : Int32)), .val (.int (3 : Int32)), .val (.int (2 : Int32)), .val (.int (u 2))]) rfl ?_
      refine g_iload X18 hx (hb hby dci3_15) rfl ?_
      refine g_sipush X18 hx (hb hby dci3_17) (v := (255 : Int32)) (by decide) ?_
      by_cases hc20_28 : (255 : Int32) < (u 2)
      ·
        refine g_icmpNo X18 hx (hb hby dci3_20) (tlt hc20_28).2.2.2 ?_
        refine g_iload X18 hx (hb hby dci3_23) rfl ?_
        refine g_ireturn X18 hx Bd.notSynchronized Bd.returns rfl (by simp) (hb hby dci3_25) (by decide) (by decide) ?_
        rw [e19]
        exact Or.inr (Or.inr (Or.inr (⟨rfl, N26, K25, hc20_28⟩)))
      ·
        refine g_icmpYes X18 hx (hb hby dci3_20) (flt hc20_28).2.2.2 (by decide) (pc' := 26) (by decide) ?_
        refine g_aloadN X18 hx (hb hby dci3_26) rfl rfl ?_
        refine g_iloadN X18 hx (hb hby dci3_27) rfl ?_
        refine g_iload X18 hx (hb hby dci3_28) rfl ?_
        obtain ⟨i29, hi29⟩ : ∃ v : Int32, (u 2).toInt8.toInt32 = v := ⟨_, rfl⟩
        refine g_i2b X18 hx (hb hby dci3_30) hi29 ?_
        refine g_bastoreB X18 hx hZ e19 F23 (i := 2) (by decide) (by decide) (by decide) (hb hby dci3_31) ?_
        intro T30 h33 X31 e32 W34
        have F35 := F22.other W34 ne_q1_q2
        have F36 := F23.same W34
        have Z37 : n0 ≤ h33.size := by rw [W34.size]; exact Z24
        have K38 := Keep.wr K25 W34 (Or.inl (List.mem_singleton.mpr rfl))
        have N39 := Fr.snoc X31 N26 g2
        refine g_iinc X31 hx (hb hby dci3_32) rfl (L' := #[.val (.ref q1), .val (.int (3 : Int32)), .val (.ref q2), .val (.int (2 : Int32)), .val (.int (3 : Int32)), .val (.int (2 : Int32)), .val (.int (u 2))]) rfl ?_
        refine g_iinc X31 hx (hb hby dci3_35) rfl (L' := #[.val (.ref q1), .val (.int (3 : Int32)), .val (.ref q2), .val (.int (3 : Int32)), .val (.int (3 : Int32)), .val (.int (2 : Int32)), .val (.int (u 2))]) rfl ?_
        refine g_iinc X31 hx (hb hby dci3_38) rfl (L' := #[.val (.ref q1), .val (.int (3 : Int32)), .val (.ref q2), .val (.int (3 : Int32)), .val (.int (3 : Int32)), .val (.int (3 : Int32)), .val (.int (u 2))]) rfl ?_
        refine g_goto X31 hx (hb hby dci3_41) (by decide) (pc' := 3) (by decide) ?_
        refine g_iload X31 hx (hb hby dci3_3) rfl ?_
        refine g_iload X31 hx (hb hby dci3_5) rfl ?_
        have hc7_40 : ¬ ((3 : Int32) < (3 : Int32)) := (by decide)
        refine g_icmpYes X31 hx (hb hby dci3_7) (flt hc7_40).2.1 (by decide) (pc' := 44) (by decide) ?_
        refine g_iload X31 hx (hb hby dci3_44) rfl ?_
        refine g_ireturn X31 hx Bd.notSynchronized Bd.returns rfl (by simp) (hb hby dci3_46) (by decide) (by decide) ?_
        rw [e32]
        subst hi3 hi16 hi29
        exact Or.inl (⟨rfl, N39, K38, (by
          intro i hi
          have : i = 0 ∨ i = 1 ∨ i = 2 := by omega
          rcases this with rfl | rfl | rfl
          · exact hc20_2
          · exact hc20_15
          · exact hc20_28), (F36.congr (by
          intro i hi
          have : i = 0 ∨ i = 1 ∨ i = 2 := by omega
          rcases this with rfl | rfl | rfl <;> rfl))⟩)
theorem dnl3_0 : decode jdk_52_method_3_code 0 = .ok (.iload_n 0, 1) := by decide +kernel
theorem dnl3_1 : decode jdk_52_method_3_code 1 = .ok (.ifCond .ge 11, 3) := by decide +kernel
theorem dnl3_12 : decode jdk_52_method_3_code 12 = .ok (.iload_n 0, 1) := by decide +kernel
theorem dnl3_13 : decode jdk_52_method_3_code 13 = .ok (.ldc 20, 2) := by decide +kernel
theorem dnl3_15 : decode jdk_52_method_3_code 15 = .ok (.if_icmp .lt 40, 3) := by decide +kernel
theorem dnl3_55 : decode jdk_52_method_3_code 55 = .ok (.iload_n 0, 1) := by decide +kernel
theorem dnl3_56 : decode jdk_52_method_3_code 56 = .ok (.iconst 1, 1) := by decide +kernel
theorem dnl3_57 : decode jdk_52_method_3_code 57 = .ok (.ishl, 1) := by decide +kernel
theorem dnl3_58 : decode jdk_52_method_3_code 58 = .ok (.ireturn, 1) := by decide +kernel
theorem pnnl3 : plainName "java/lang/StringUTF16" = true := by first | (simp [plainName, overriddenIn]; done) | decide +kernel
theorem efnl3 (m : MethodId) (z0 : Int32) : entryFrame m #[(.int z0)] 1 = mkF m 0 #[.val (.int z0)] [] := by first | (simp [entryFrame, mkF, argsToLocals, Value.category]; done) | rfl
def Qnl3 (Z : State)  (h0 : Heap) (n0 : Nat) (v : Option Value) (h : Heap) (L : List Loc) : Prop := v = some (.int 6) ∧ Fr n0 L ∧ h = h0
set_option maxRecDepth 65536 in
set_option maxHeartbeats 40000000 in
theorem rmnl3 (l : Launch) (Z : State) (a0 : Array Value) (hw : ∀ d ∈ tables_1, d.before a0 Z = true) (ws : List Jvm.Cond)  (h0 : Heap) (n0 : Nat) (Z0 : n0 ≤ h0.size)  :
    MetFree l (⟨"java/lang/StringUTF16", "newBytesLength", "(I)I"⟩ : MethodName) (head1 (Jvm.Cond.code (⟨"java/lang/StringUTF16", "newBytesLength", "(I)I"⟩ : MethodName) jdk_52_method_3_code 1 (Option.some Jvm.ClassFile.FieldType.int) :: ws) ({ frames := 0, cells := 0, slots := 0, locals := 0 } : Room)) (fun a U => a = #[(.int (3 : Int32))] ∧ Z.Warmed39 U.vm ∧ U.heap = h0) (fun _ _ _ _ _ => True) (fun _ U o U' => ∃ v L, o = .returned v ∧ Qnl3 Z  h0 n0 v U'.heap L ∧ FrameEnd U o U' L ({ frames := 0, cells := 0, slots := 0, locals := 0 } : Room).cells ({ frames := 0, cells := 0, slots := 0, locals := 0 } : Room).slots) := by
  refine MetFree.of_bodySF (plainFor_of_name pnnl3) hisR ?_
  intro p e s m args below meth c s₁ Bd hml0 hP hK
  obtain ⟨rfl, hZ, hh⟩ := hP
  have hx := Bd.exec
  have hby := Bd.bytes
  have hml : c.maxLocals = 1 := hml0
  have hown : s.vm.findClass "java/lang/StringUTF16" = some m.cls := findClass_of_methodNamed Bd.named
  have hnm := (name_of_methodNamed Bd.named Bd.method).1
  have X0 : Stand p l e ({ frames := 0, cells := 0, slots := 0, locals := 0 } : Room) s m #[(.int (3 : Int32))] below meth c s₁ [] 0 0 := Stand.of_body Bd
  have e0 : s₁.heap = h0 := by rw [← hh, Bd.state]; rfl
  have N0 := Fr.nil n0
  show Go p e below (Ret s (Qnl3 Z  h0 n0) ({ frames := 0, cells := 0, slots := 0, locals := 0 } : Room).cells ({ frames := 0, cells := 0, slots := 0, locals := 0 } : Room).slots) (s₁.setTop (entryFrame m #[(.int (3 : Int32))] 1))
  rw [efnl3 m (3 : Int32)]
  refine g_iloadN X0 hx (hb hby dnl3_0) rfl ?_
  have hc1_1 : ¬ ((3 : Int32) < (0 : Int32)) := (by decide)
  refine g_ifYes X0 hx (hb hby dnl3_1) (flt hc1_1).2.1 (by decide) (pc' := 12) (by decide) ?_
  refine g_iloadN X0 hx (hb hby dnl3_12) rfl ?_
  refine g_ldcI X0 hx hZ hown (hw _ (List.mem_of_getElem? (i := 108) rfl)) (hb hby dnl3_13) ?_
  have hc15_2 : (3 : Int32) < (1073741823 : Int32) := (by decide)
  refine g_icmpYes X0 hx (hb hby dnl3_15) (tlt hc15_2).1 (by decide) (pc' := 55) (by decide) ?_
  refine g_iloadN X0 hx (hb hby dnl3_55) rfl ?_
  refine g_iconst X0 hx (hb hby dnl3_56) (v := (1 : Int32)) (by decide) ?_
  refine g_ishl X0 hx (hb hby dnl3_57) (show (3 : Int32) <<< ((1 : Int32) &&& 31) = (6 : Int32) from by decide) ?_
  refine g_ireturn X0 hx Bd.notSynchronized Bd.returns rfl (by simp) (hb hby dnl3_58) (by decide) (by decide) ?_
  exact ⟨rfl, N0, e0⟩
theorem dnf3_0 : decode jdk_52_method_2_code 0 = .ok (.iload_n 0, 1) := by decide +kernel
theorem dnf3_1 : decode jdk_52_method_2_code 1 = .ok (.invokestatic 11, 3) := by decide +kernel
theorem dnf3_4 : decode jdk_52_method_2_code 4 = .ok (.newarray .byte, 2) := by decide +kernel
theorem dnf3_6 : decode jdk_52_method_2_code 6 = .ok (.areturn, 1) := by decide +kernel
theorem pnnf3 : plainName "java/lang/StringUTF16" = true := by first | (simp [plainName, overriddenIn]; done) | decide +kernel
theorem pdnf3_0 : parseMethodDescriptor "(I)I" = some ⟨[.int], some .int⟩ := by decide +kernel
theorem efnf3 (m : MethodId) (z0 : Int32) : entryFrame m #[(.int z0)] 1 = mkF m 0 #[.val (.int z0)] [] := by first | (simp [entryFrame, mkF, argsToLocals, Value.category]; done) | rfl
def Qnf3 (Z : State)  (h0 : Heap) (n0 : Nat) (v : Option Value) (h : Heap) (L : List Loc) : Prop := ∃ b : Addr, v = some (.ref b) ∧ Fr n0 L ∧ Keep h0 h [] ∧ h0.size ≤ b ∧ n0 ≤ b ∧ Av Z h b .byte 6 (fun _ => .int 0)
set_option maxRecDepth 65536 in
set_option maxHeartbeats 40000000 in
theorem rmnf3 (l : Launch) (Z : State) (a0 : Array Value) (hw : ∀ d ∈ tables_1, d.before a0 Z = true) (ws : List Jvm.Cond)  (h0 : Heap) (n0 : Nat) (Z0 : n0 ≤ h0.size)  :
    MetFree l (⟨"java/lang/StringUTF16", "newBytesFor", "(I)[B"⟩ : MethodName) (head1 (Jvm.Cond.code (⟨"java/lang/StringUTF16", "newBytesFor", "(I)[B"⟩ : MethodName) jdk_52_method_2_code 1 (Option.some (Jvm.ClassFile.FieldType.array Jvm.ClassFile.FieldType.byte)) :: ws) ({ frames := 1, cells := 1, slots := 6, locals := 16 } : Room)) (fun a U => a = #[(.int (3 : Int32))] ∧ Z.Warmed39 U.vm ∧ U.heap = h0) (fun _ _ _ _ _ => True) (fun _ U o U' => ∃ v L, o = .returned v ∧ Qnf3 Z  h0 n0 v U'.heap L ∧ FrameEnd U o U' L ({ frames := 1, cells := 1, slots := 6, locals := 16 } : Room).cells ({ frames := 1, cells := 1, slots := 6, locals := 16 } : Room).slots) := by
  refine MetFree.of_bodySF (plainFor_of_name pnnf3) hisR ?_
  intro p e s m args below meth c s₁ Bd hml0 hP hK
  obtain ⟨rfl, hZ, hh⟩ := hP
  have hx := Bd.exec
  have hby := Bd.bytes
  have hml : c.maxLocals = 1 := hml0
  have hown : s.vm.findClass "java/lang/StringUTF16" = some m.cls := findClass_of_methodNamed Bd.named
  have hnm := (name_of_methodNamed Bd.named Bd.method).1
  have X0 : Stand p l e ({ frames := 1, cells := 1, slots := 6, locals := 16 } : Room) s m #[(.int (3 : Int32))] below meth c s₁ [] 0 0 := Stand.of_body Bd
  have e0 : s₁.heap = h0 := by rw [← hh, Bd.state]; rfl
  have N0 := Fr.nil n0
  show Go p e below (Ret s (Qnf3 Z  h0 n0) ({ frames := 1, cells := 1, slots := 6, locals := 16 } : Room).cells ({ frames := 1, cells := 1, slots := 6, locals := 16 } : Room).slots) (s₁.setTop (entryFrame m #[(.int (3 : Int32))] 1))
  rw [efnf3 m (3 : Int32)]
  have K0 : Keep h0 h0 [] := Keep.refl _ _
  refine g_iloadN X0 hx (hb hby dnf3_0) rfl ?_
  refine g_callS X0 hx hZ hown (hw _ (List.mem_of_getElem? (i := 105) rfl)) (hw _ (List.mem_of_getElem? (i := 106) rfl)) (hw _ (List.mem_of_getElem? (i := 91) rfl)) (hw _ (List.mem_of_getElem? (i := 107) rfl)) (by decide) (rmnl3 l Z a0 hw [] h0 n0 Z0) e0 (W := 0) (by decide) (by decide) (by rw [hml]; rfl) [(.int (3 : Int32))] [] (lenOf pdnf3_0 rfl) rfl rfl (Nat.le_of_eq rfl) (hb hby dnf3_1) (by decide) (by decide) ?_
  intro v5 T1 L4 X2 hQ3
  obtain ⟨rfl, N6, e7⟩ := hQ3
  have N8 := Fr.app N0 N6
  show Go p e below (Ret s (Qnf3 Z  h0 n0) ({ frames := 1, cells := 1, slots := 6, locals := 16 } : Room).cells ({ frames := 1, cells := 1, slots := 6, locals := 16 } : Room).slots) (T1.setTop (mkF m 4 #[.val (.int (3 : Int32))] [(.int (6 : Int32))]))
  refine g_newP X2 hx hZ (ty := .byte) rfl (hw _ (List.mem_of_getElem? (i := 18) rfl)) e7 (hb hby dnf3_4) (by decide) (cap := 6) (by decide) (by decide) (by decide) (by decide) ?_
  intro T9 h12 b cA16 gb X10 e11 E13 F14 
  have ge_b : n0 ≤ b := by rw [gb]; exact Z0
  have gek_b : h0.size ≤ b := by rw [gb]; exact K0.1
  have Z18 : n0 ≤ h12.size := Nat.le_trans Z0 E13.1
  have K19 := Keep.ext K0 E13
  have F17 : Av Z h12 b .byte 6 (fun _ => .int 0) := Av.newK F14 (by decide)
  refine g_areturn X10 hx Bd.notSynchronized Bd.returns rfl rfl (hb hby dnf3_6) (by decide) (by decide) ?_
  rw [e11]
  exact ⟨b, rfl, N8, K19, gek_b, ge_b, F17⟩
theorem dpc0_6_0 : decode jdk_52_method_4_code 0 = .ok (.getstatic 44, 3) := by decide +kernel
theorem dpc0_6_3 : decode jdk_52_method_4_code 3 = .ok (.ifCond .ne 25, 3) := by decide +kernel
theorem dpc0_6_28 : decode jdk_52_method_4_code 28 = .ok (.iload_n 1, 1) := by decide +kernel
theorem dpc0_6_29 : decode jdk_52_method_4_code 29 = .ok (.iconst 1, 1) := by decide +kernel
theorem dpc0_6_30 : decode jdk_52_method_4_code 30 = .ok (.ishl, 1) := by decide +kernel
theorem dpc0_6_31 : decode jdk_52_method_4_code 31 = .ok (.istore_n 1, 1) := by decide +kernel
theorem dpc0_6_32 : decode jdk_52_method_4_code 32 = .ok (.aload_n 0, 1) := by decide +kernel
theorem dpc0_6_33 : decode jdk_52_method_4_code 33 = .ok (.iload_n 1, 1) := by decide +kernel
theorem dpc0_6_34 : decode jdk_52_method_4_code 34 = .ok (.iinc 1 1, 3) := by decide +kernel
theorem dpc0_6_37 : decode jdk_52_method_4_code 37 = .ok (.iload_n 2, 1) := by decide +kernel
theorem dpc0_6_38 : decode jdk_52_method_4_code 38 = .ok (.getstatic 59, 3) := by decide +kernel
theorem dpc0_6_41 : decode jdk_52_method_4_code 41 = .ok (.ishr, 1) := by decide +kernel
theorem dpc0_6_42 : decode jdk_52_method_4_code 42 = .ok (.i2b, 1) := by decide +kernel
theorem dpc0_6_43 : decode jdk_52_method_4_code 43 = .ok (.bastore, 1) := by decide +kernel
theorem dpc0_6_44 : decode jdk_52_method_4_code 44 = .ok (.aload_n 0, 1) := by decide +kernel
theorem dpc0_6_45 : decode jdk_52_method_4_code 45 = .ok (.iload_n 1, 1) := by decide +kernel
theorem dpc0_6_46 : decode jdk_52_method_4_code 46 = .ok (.iload_n 2, 1) := by decide +kernel
theorem dpc0_6_47 : decode jdk_52_method_4_code 47 = .ok (.getstatic 63, 3) := by decide +kernel
theorem dpc0_6_50 : decode jdk_52_method_4_code 50 = .ok (.ishr, 1) := by decide +kernel
theorem dpc0_6_51 : decode jdk_52_method_4_code 51 = .ok (.i2b, 1) := by decide +kernel
theorem dpc0_6_52 : decode jdk_52_method_4_code 52 = .ok (.bastore, 1) := by decide +kernel
theorem dpc0_6_53 : decode jdk_52_method_4_code 53 = .ok (.return_, 1) := by decide +kernel
theorem pnpc0_6 : plainName "java/lang/StringUTF16" = true := by first | (simp [plainName, overriddenIn]; done) | decide +kernel
theorem efpc0_6 (m : MethodId) (z0 : Addr) (z1 : Int32) (z2 : Int32) : entryFrame m #[(.ref z0), (.int z1), (.int z2)] 3 = mkF m 0 #[.val (.ref z0), .val (.int z1), .val (.int z2)] [] := by first | (simp [entryFrame, mkF, argsToLocals, Value.category]; done) | rfl
def Qpc0_6 (Z : State) (q1 : Addr) (q3 : Int32) (F : Nat → Int32) (h0 : Heap) (n0 : Nat) (v : Option Value) (h : Heap) (L : List Loc) : Prop := v = none ∧ Fr n0 L ∧ Keep h0 h [q1] ∧ Av Z h q1 .byte 6 (fun i => .int (own_pc F 0 q3 i))
set_option maxRecDepth 65536 in
set_option maxHeartbeats 40000000 in
theorem rmpc0_6 (l : Launch) (Z : State) (a0 : Array Value) (hw : ∀ d ∈ tables_1, d.before a0 Z = true) (ws : List Jvm.Cond) (q1 : Addr) (q3 : Int32) (F : Nat → Int32) (h0 : Heap) (n0 : Nat) (Z0 : n0 ≤ h0.size) (SAD : Sta Z h0 "java/lang/StringUTF16" "$assertionsDisabled" "Z" (.int (1 : Int32))) (SHI : Sta Z h0 "java/lang/StringUTF16" "HI_BYTE_SHIFT" "I" (.int (0 : Int32))) (SLO : Sta Z h0 "java/lang/StringUTF16" "LO_BYTE_SHIFT" "I" (.int (8 : Int32))) (A0 : Av Z h0 q1 .byte 6 (fun i => .int (F i))) (g1 : n0 ≤ q1) :
    MetFree l (⟨"java/lang/StringUTF16", "putChar", "([BII)V"⟩ : MethodName) (head1 (Jvm.Cond.code (⟨"java/lang/StringUTF16", "putChar", "([BII)V"⟩ : MethodName) jdk_52_method_4_code 3 (Option.none : Option Jvm.ClassFile.FieldType) :: ws) ({ frames := 0, cells := 0, slots := 0, locals := 0 } : Room)) (fun a U => a = #[(.ref q1), (.int (0 : Int32)), (.int q3)] ∧ Z.Warmed39 U.vm ∧ U.heap = h0) (fun _ _ _ _ _ => True) (fun _ U o U' => ∃ v L, o = .returned v ∧ Qpc0_6 Z q1 q3 F h0 n0 v U'.heap L ∧ FrameEnd U o U' L ({ frames := 0, cells := 0, slots := 0, locals := 0 } : Room).cells ({ frames := 0, cells := 0, slots := 0, locals := 0 } : Room).slots) := by
  refine MetFree.of_bodySF (plainFor_of_name pnpc0_6) hisR ?_
  intro p e s m args below meth c s₁ Bd hml0 hP hK
  obtain ⟨rfl, hZ, hh⟩ := hP
  have hx := Bd.exec
  have hby := Bd.bytes
  have hml : c.maxLocals = 3 := hml0
  have hown : s.vm.findClass "java/lang/StringUTF16" = some m.cls := findClass_of_methodNamed Bd.named
  have hnm := (name_of_methodNamed Bd.named Bd.method).1
  have X0 : Stand p l e ({ frames := 0, cells := 0, slots := 0, locals := 0 } : Room) s m #[(.ref q1), (.int (0 : Int32)), (.int q3)] below meth c s₁ [] 0 0 := Stand.of_body Bd
  have e0 : s₁.heap = h0 := by rw [← hh, Bd.state]; rfl
  have N0 := Fr.nil n0
  show Go p e below (Ret s (Qpc0_6 Z q1 q3 F h0 n0) ({ frames := 0, cells := 0, slots := 0, locals := 0 } : Room).cells ({ frames := 0, cells := 0, slots := 0, locals := 0 } : Room).slots) (s₁.setTop (entryFrame m #[(.ref q1), (.int (0 : Int32)), (.int q3)] 3))
  rw [efpc0_6 m q1 (0 : Int32) q3]
  have K0 : Keep h0 h0 [q1] := Keep.refl _ _
  refine g_getS X0 hx hZ hown (hw _ (List.mem_of_getElem? (i := 112) rfl)) e0 SAD (hb hby dpc0_6_0) ?_
  intro T1 X2 e3
  have hc3_4 : ¬ ((1 : Int32) = (0 : Int32)) := (by decide)
  refine g_ifYes X2 hx (hb hby dpc0_6_3) (feq hc3_4).2 (by decide) (pc' := 28) (by decide) ?_
  refine g_iloadN X2 hx (hb hby dpc0_6_28) rfl ?_
  refine g_iconst X2 hx (hb hby dpc0_6_29) (v := (1 : Int32)) (by decide) ?_
  refine g_ishl X2 hx (hb hby dpc0_6_30) (show (0 : Int32) <<< ((1 : Int32) &&& 31) = (0 : Int32) from by decide) ?_
  refine g_istoreN X2 hx (hb hby dpc0_6_31) (L' := #[.val (.ref q1), .val (.int (0 : Int32)), .val (.int q3)]) rfl ?_
  refine g_aloadN X2 hx (hb hby dpc0_6_32) rfl rfl ?_
  refine g_iloadN X2 hx (hb hby dpc0_6_33) rfl ?_
  refine g_iinc X2 hx (hb hby dpc0_6_34) rfl (L' := #[.val (.ref q1), .val (.int (1 : Int32)), .val (.int q3)]) rfl ?_
  refine g_iloadN X2 hx (hb hby dpc0_6_37) rfl ?_
  refine g_getS X2 hx hZ hown (hw _ (List.mem_of_getElem? (i := 113) rfl)) e3 SHI (hb hby dpc0_6_38) ?_
  intro T5 X6 e7
  obtain ⟨i8, hi8⟩ : ∃ v : Int32, q3 >>> ((0 : Int32) &&& 31) = v := ⟨_, rfl⟩
  refine g_ishr X6 hx (hb hby dpc0_6_41) hi8 ?_
  obtain ⟨i9, hi9⟩ : ∃ v : Int32, i8.toInt8.toInt32 = v := ⟨_, rfl⟩
  refine g_i2b X6 hx (hb hby dpc0_6_42) hi9 ?_
  refine g_bastoreB X6 hx hZ e7 A0 (i := 0) (by decide) (by decide) (by decide) (hb hby dpc0_6_43) ?_
  intro T10 h13 X11 e12 W14
  have F15 := SAD.wr W14
  have F16 := SHI.wr W14
  have F17 := SLO.wr W14
  have F18 := A0.same W14
  have Z19 : n0 ≤ h13.size := by rw [W14.size]; exact Z0
  have K20 := Keep.wr K0 W14 (Or.inl (List.mem_singleton.mpr rfl))
  have N21 := Fr.snoc X11 N0 g1
  refine g_aloadN X11 hx (hb hby dpc0_6_44) rfl rfl ?_
  refine g_iloadN X11 hx (hb hby dpc0_6_45) rfl ?_
  refine g_iloadN X11 hx (hb hby dpc0_6_46) rfl ?_
  refine g_getS X11 hx hZ hown (hw _ (List.mem_of_getElem? (i := 114) rfl)) e12 F17 (hb hby dpc0_6_47) ?_
  intro T22 X23 e24
  obtain ⟨i25, hi25⟩ : ∃ v : Int32, q3 >>> ((8 : Int32) &&& 31) = v := ⟨_, rfl⟩
  refine g_ishr X23 hx (hb hby dpc0_6_50) hi25 ?_
  obtain ⟨i26, hi26⟩ : ∃ v : Int32, i25.toInt8.toInt32 = v := ⟨_, rfl⟩
  refine g_i2b X23 hx (hb hby dpc0_6_51) hi26 ?_
  refine g_bastoreB X23 hx hZ e24 F18 (i := 1) (by decide) (by decide) (by decide) (hb hby dpc0_6_52) ?_
  intro T27 h30 X28 e29 W31
  have F32 := F15.wr W31
  have F33 := F16.wr W31
  have F34 := F17.wr W31
  have F35 := F18.same W31
  have Z36 : n0 ≤ h30.size := by rw [W31.size]; exact Z19
  have K37 := Keep.wr K20 W31 (Or.inl (List.mem_singleton.mpr rfl))
  have N38 := Fr.snoc X28 N21 g1
  refine g_return X28 hx Bd.notSynchronized Bd.returns (hb hby dpc0_6_53) (by decide) (by decide) ?_
  subst hi8 hi9 hi25 hi26
  rw [e29]
  exact ⟨rfl, N38, K37, F35.congr (fun j _ => by
    unfold own_pc
    by_cases z1 : j = 1
    · rw [if_pos z1, if_pos z1]; rfl
    · rw [if_neg z1, if_neg z1]
      by_cases z2 : j = 0
      · rw [if_pos z2, if_pos z2]; rfl
      · rw [if_neg z2, if_neg z2])⟩
theorem dpc1_6_0 : decode jdk_52_method_4_code 0 = .ok (.getstatic 44, 3) := by decide +kernel
theorem dpc1_6_3 : decode jdk_52_method_4_code 3 = .ok (.ifCond .ne 25, 3) := by decide +kernel
theorem dpc1_6_28 : decode jdk_52_method_4_code 28 = .ok (.iload_n 1, 1) := by decide +kernel
theorem dpc1_6_29 : decode jdk_52_method_4_code 29 = .ok (.iconst 1, 1) := by decide +kernel
theorem dpc1_6_30 : decode jdk_52_method_4_code 30 = .ok (.ishl, 1) := by decide +kernel
theorem dpc1_6_31 : decode jdk_52_method_4_code 31 = .ok (.istore_n 1, 1) := by decide +kernel
theorem dpc1_6_32 : decode jdk_52_method_4_code 32 = .ok (.aload_n 0, 1) := by decide +kernel
theorem dpc1_6_33 : decode jdk_52_method_4_code 33 = .ok (.iload_n 1, 1) := by decide +kernel
theorem dpc1_6_34 : decode jdk_52_method_4_code 34 = .ok (.iinc 1 1, 3) := by decide +kernel
theorem dpc1_6_37 : decode jdk_52_method_4_code 37 = .ok (.iload_n 2, 1) := by decide +kernel
theorem dpc1_6_38 : decode jdk_52_method_4_code 38 = .ok (.getstatic 59, 3) := by decide +kernel
theorem dpc1_6_41 : decode jdk_52_method_4_code 41 = .ok (.ishr, 1) := by decide +kernel
theorem dpc1_6_42 : decode jdk_52_method_4_code 42 = .ok (.i2b, 1) := by decide +kernel
theorem dpc1_6_43 : decode jdk_52_method_4_code 43 = .ok (.bastore, 1) := by decide +kernel
theorem dpc1_6_44 : decode jdk_52_method_4_code 44 = .ok (.aload_n 0, 1) := by decide +kernel
theorem dpc1_6_45 : decode jdk_52_method_4_code 45 = .ok (.iload_n 1, 1) := by decide +kernel
theorem dpc1_6_46 : decode jdk_52_method_4_code 46 = .ok (.iload_n 2, 1) := by decide +kernel
theorem dpc1_6_47 : decode jdk_52_method_4_code 47 = .ok (.getstatic 63, 3) := by decide +kernel
theorem dpc1_6_50 : decode jdk_52_method_4_code 50 = .ok (.ishr, 1) := by decide +kernel
theorem dpc1_6_51 : decode jdk_52_method_4_code 51 = .ok (.i2b, 1) := by decide +kernel
theorem dpc1_6_52 : decode jdk_52_method_4_code 52 = .ok (.bastore, 1) := by decide +kernel
theorem dpc1_6_53 : decode jdk_52_method_4_code 53 = .ok (.return_, 1) := by decide +kernel
theorem pnpc1_6 : plainName "java/lang/StringUTF16" = true := by first | (simp [plainName, overriddenIn]; done) | decide +kernel
theorem efpc1_6 (m : MethodId) (z0 : Addr) (z1 : Int32) (z2 : Int32) : entryFrame m #[(.ref z0), (.int z1), (.int z2)] 3 = mkF m 0 #[.val (.ref z0), .val (.int z1), .val (.int z2)] [] := by first | (simp [entryFrame, mkF, argsToLocals, Value.category]; done) | rfl
def Qpc1_6 (Z : State) (q1 : Addr) (q3 : Int32) (F : Nat → Int32) (h0 : Heap) (n0 : Nat) (v : Option Value) (h : Heap) (L : List Loc) : Prop := v = none ∧ Fr n0 L ∧ Keep h0 h [q1] ∧ Av Z h q1 .byte 6 (fun i => .int (own_pc F 1 q3 i))
set_option maxRecDepth 65536 in
set_option maxHeartbeats 40000000 in
theorem rmpc1_6 (l : Launch) (Z : State) (a0 : Array Value) (hw : ∀ d ∈ tables_1, d.before a0 Z = true) (ws : List Jvm.Cond) (q1 : Addr) (q3 : Int32) (F : Nat → Int32) (h0 : Heap) (n0 : Nat) (Z0 : n0 ≤ h0.size) (SAD : Sta Z h0 "java/lang/StringUTF16" "$assertionsDisabled" "Z" (.int (1 : Int32))) (SHI : Sta Z h0 "java/lang/StringUTF16" "HI_BYTE_SHIFT" "I" (.int (0 : Int32))) (SLO : Sta Z h0 "java/lang/StringUTF16" "LO_BYTE_SHIFT" "I" (.int (8 : Int32))) (A0 : Av Z h0 q1 .byte 6 (fun i => .int (F i))) (g1 : n0 ≤ q1) :
    MetFree l (⟨"java/lang/StringUTF16", "putChar", "([BII)V"⟩ : MethodName) (head1 (Jvm.Cond.code (⟨"java/lang/StringUTF16", "putChar", "([BII)V"⟩ : MethodName) jdk_52_method_4_code 3 (Option.none : Option Jvm.ClassFile.FieldType) :: ws) ({ frames := 0, cells := 0, slots := 0, locals := 0 } : Room)) (fun a U => a = #[(.ref q1), (.int (1 : Int32)), (.int q3)] ∧ Z.Warmed39 U.vm ∧ U.heap = h0) (fun _ _ _ _ _ => True) (fun _ U o U' => ∃ v L, o = .returned v ∧ Qpc1_6 Z q1 q3 F h0 n0 v U'.heap L ∧ FrameEnd U o U' L ({ frames := 0, cells := 0, slots := 0, locals := 0 } : Room).cells ({ frames := 0, cells := 0, slots := 0, locals := 0 } : Room).slots) := by
  refine MetFree.of_bodySF (plainFor_of_name pnpc1_6) hisR ?_
  intro p e s m args below meth c s₁ Bd hml0 hP hK
  obtain ⟨rfl, hZ, hh⟩ := hP
  have hx := Bd.exec
  have hby := Bd.bytes
  have hml : c.maxLocals = 3 := hml0
  have hown : s.vm.findClass "java/lang/StringUTF16" = some m.cls := findClass_of_methodNamed Bd.named
  have hnm := (name_of_methodNamed Bd.named Bd.method).1
  have X0 : Stand p l e ({ frames := 0, cells := 0, slots := 0, locals := 0 } : Room) s m #[(.ref q1), (.int (1 : Int32)), (.int q3)] below meth c s₁ [] 0 0 := Stand.of_body Bd
  have e0 : s₁.heap = h0 := by rw [← hh, Bd.state]; rfl
  have N0 := Fr.nil n0
  show Go p e below (Ret s (Qpc1_6 Z q1 q3 F h0 n0) ({ frames := 0, cells := 0, slots := 0, locals := 0 } : Room).cells ({ frames := 0, cells := 0, slots := 0, locals := 0 } : Room).slots) (s₁.setTop (entryFrame m #[(.ref q1), (.int (1 : Int32)), (.int q3)] 3))
  rw [efpc1_6 m q1 (1 : Int32) q3]
  have K0 : Keep h0 h0 [q1] := Keep.refl _ _
  refine g_getS X0 hx hZ hown (hw _ (List.mem_of_getElem? (i := 112) rfl)) e0 SAD (hb hby dpc1_6_0) ?_
  intro T1 X2 e3
  have hc3_4 : ¬ ((1 : Int32) = (0 : Int32)) := (by decide)
  refine g_ifYes X2 hx (hb hby dpc1_6_3) (feq hc3_4).2 (by decide) (pc' := 28) (by decide) ?_
  refine g_iloadN X2 hx (hb hby dpc1_6_28) rfl ?_
  refine g_iconst X2 hx (hb hby dpc1_6_29) (v := (1 : Int32)) (by decide) ?_
  refine g_ishl X2 hx (hb hby dpc1_6_30) (show (1 : Int32) <<< ((1 : Int32) &&& 31) = (2 : Int32) from by decide) ?_
  refine g_istoreN X2 hx (hb hby dpc1_6_31) (L' := #[.val (.ref q1), .val (.int (2 : Int32)), .val (.int q3)]) rfl ?_
  refine g_aloadN X2 hx (hb hby dpc1_6_32) rfl rfl ?_
  refine g_iloadN X2 hx (hb hby dpc1_6_33) rfl ?_
  refine g_iinc X2 hx (hb hby dpc1_6_34) rfl (L' := #[.val (.ref q1), .val (.int (3 : Int32)), .val (.int q3)]) rfl ?_
  refine g_iloadN X2 hx (hb hby dpc1_6_37) rfl ?_
  refine g_getS X2 hx hZ hown (hw _ (List.mem_of_getElem? (i := 113) rfl)) e3 SHI (hb hby dpc1_6_38) ?_
  intro T5 X6 e7
  obtain ⟨i8, hi8⟩ : ∃ v : Int32, q3 >>> ((0 : Int32) &&& 31) = v := ⟨_, rfl⟩
  refine g_ishr X6 hx (hb hby dpc1_6_41) hi8 ?_
  obtain ⟨i9, hi9⟩ : ∃ v : Int32, i8.toInt8.toInt32 = v := ⟨_, rfl⟩
  refine g_i2b X6 hx (hb hby dpc1_6_42) hi9 ?_
  refine g_bastoreB X6 hx hZ e7 A0 (i := 2) (by decide) (by decide) (by decide) (hb hby dpc1_6_43) ?_
  intro T10 h13 X11 e12 W14
  have F15 := SAD.wr W14
  have F16 := SHI.wr W14
  have F17 := SLO.wr W14
  have F18 := A0.same W14
  have Z19 : n0 ≤ h13.size := by rw [W14.size]; exact Z0
  have K20 := Keep.wr K0 W14 (Or.inl (List.mem_singleton.mpr rfl))
  have N21 := Fr.snoc X11 N0 g1
  refine g_aloadN X11 hx (hb hby dpc1_6_44) rfl rfl ?_
  refine g_iloadN X11 hx (hb hby dpc1_6_45) rfl ?_
  refine g_iloadN X11 hx (hb hby dpc1_6_46) rfl ?_
  refine g_getS X11 hx hZ hown (hw _ (List.mem_of_getElem? (i := 114) rfl)) e12 F17 (hb hby dpc1_6_47) ?_
  intro T22 X23 e24
  obtain ⟨i25, hi25⟩ : ∃ v : Int32, q3 >>> ((8 : Int32) &&& 31) = v := ⟨_, rfl⟩
  refine g_ishr X23 hx (hb hby dpc1_6_50) hi25 ?_
  obtain ⟨i26, hi26⟩ : ∃ v : Int32, i25.toInt8.toInt32 = v := ⟨_, rfl⟩
  refine g_i2b X23 hx (hb hby dpc1_6_51) hi26 ?_
  refine g_bastoreB X23 hx hZ e24 F18 (i := 3) (by decide) (by decide) (by decide) (hb hby dpc1_6_52) ?_
  intro T27 h30 X28 e29 W31
  have F32 := F15.wr W31
  have F33 := F16.wr W31
  have F34 := F17.wr W31
  have F35 := F18.same W31
  have Z36 : n0 ≤ h30.size := by rw [W31.size]; exact Z19
  have K37 := Keep.wr K20 W31 (Or.inl (List.mem_singleton.mpr rfl))
  have N38 := Fr.snoc X28 N21 g1
  refine g_return X28 hx Bd.notSynchronized Bd.returns (hb hby dpc1_6_53) (by decide) (by decide) ?_
  subst hi8 hi9 hi25 hi26
  rw [e29]
  exact ⟨rfl, N38, K37, F35.congr (fun j _ => by
    unfold own_pc
    by_cases z1 : j = 3
    · rw [if_pos z1, if_pos z1]; rfl
    · rw [if_neg z1, if_neg z1]
      by_cases z2 : j = 2
      · rw [if_pos z2, if_pos z2]; rfl
      · rw [if_neg z2, if_neg z2])⟩
theorem dpc2_6_0 : decode jdk_52_method_4_code 0 = .ok (.getstatic 44, 3) := by decide +kernel
theorem dpc2_6_3 : decode jdk_52_method_4_code 3 = .ok (.ifCond .ne 25, 3) := by decide +kernel
theorem dpc2_6_28 : decode jdk_52_method_4_code 28 = .ok (.iload_n 1, 1) := by decide +kernel
theorem dpc2_6_29 : decode jdk_52_method_4_code 29 = .ok (.iconst 1, 1) := by decide +kernel
theorem dpc2_6_30 : decode jdk_52_method_4_code 30 = .ok (.ishl, 1) := by decide +kernel
theorem dpc2_6_31 : decode jdk_52_method_4_code 31 = .ok (.istore_n 1, 1) := by decide +kernel
theorem dpc2_6_32 : decode jdk_52_method_4_code 32 = .ok (.aload_n 0, 1) := by decide +kernel
theorem dpc2_6_33 : decode jdk_52_method_4_code 33 = .ok (.iload_n 1, 1) := by decide +kernel
theorem dpc2_6_34 : decode jdk_52_method_4_code 34 = .ok (.iinc 1 1, 3) := by decide +kernel
theorem dpc2_6_37 : decode jdk_52_method_4_code 37 = .ok (.iload_n 2, 1) := by decide +kernel
theorem dpc2_6_38 : decode jdk_52_method_4_code 38 = .ok (.getstatic 59, 3) := by decide +kernel
theorem dpc2_6_41 : decode jdk_52_method_4_code 41 = .ok (.ishr, 1) := by decide +kernel
theorem dpc2_6_42 : decode jdk_52_method_4_code 42 = .ok (.i2b, 1) := by decide +kernel
theorem dpc2_6_43 : decode jdk_52_method_4_code 43 = .ok (.bastore, 1) := by decide +kernel
theorem dpc2_6_44 : decode jdk_52_method_4_code 44 = .ok (.aload_n 0, 1) := by decide +kernel
theorem dpc2_6_45 : decode jdk_52_method_4_code 45 = .ok (.iload_n 1, 1) := by decide +kernel
theorem dpc2_6_46 : decode jdk_52_method_4_code 46 = .ok (.iload_n 2, 1) := by decide +kernel
theorem dpc2_6_47 : decode jdk_52_method_4_code 47 = .ok (.getstatic 63, 3) := by decide +kernel
theorem dpc2_6_50 : decode jdk_52_method_4_code 50 = .ok (.ishr, 1) := by decide +kernel
theorem dpc2_6_51 : decode jdk_52_method_4_code 51 = .ok (.i2b, 1) := by decide +kernel
theorem dpc2_6_52 : decode jdk_52_method_4_code 52 = .ok (.bastore, 1) := by decide +kernel
theorem dpc2_6_53 : decode jdk_52_method_4_code 53 = .ok (.return_, 1) := by decide +kernel
theorem pnpc2_6 : plainName "java/lang/StringUTF16" = true := by first | (simp [plainName, overriddenIn]; done) | decide +kernel
theorem efpc2_6 (m : MethodId) (z0 : Addr) (z1 : Int32) (z2 : Int32) : entryFrame m #[(.ref z0), (.int z1), (.int z2)] 3 = mkF m 0 #[.val (.ref z0), .val (.int z1), .val (.int z2)] [] := by first | (simp [entryFrame, mkF, argsToLocals, Value.category]; done) | rfl
def Qpc2_6 (Z : State) (q1 : Addr) (q3 : Int32) (F : Nat → Int32) (h0 : Heap) (n0 : Nat) (v : Option Value) (h : Heap) (L : List Loc) : Prop := v = none ∧ Fr n0 L ∧ Keep h0 h [q1] ∧ Av Z h q1 .byte 6 (fun i => .int (own_pc F 2 q3 i))
set_option maxRecDepth 65536 in
set_option maxHeartbeats 40000000 in
theorem rmpc2_6 (l : Launch) (Z : State) (a0 : Array Value) (hw : ∀ d ∈ tables_1, d.before a0 Z = true) (ws : List Jvm.Cond) (q1 : Addr) (q3 : Int32) (F : Nat → Int32) (h0 : Heap) (n0 : Nat) (Z0 : n0 ≤ h0.size) (SAD : Sta Z h0 "java/lang/StringUTF16" "$assertionsDisabled" "Z" (.int (1 : Int32))) (SHI : Sta Z h0 "java/lang/StringUTF16" "HI_BYTE_SHIFT" "I" (.int (0 : Int32))) (SLO : Sta Z h0 "java/lang/StringUTF16" "LO_BYTE_SHIFT" "I" (.int (8 : Int32))) (A0 : Av Z h0 q1 .byte 6 (fun i => .int (F i))) (g1 : n0 ≤ q1) :
    MetFree l (⟨"java/lang/StringUTF16", "putChar", "([BII)V"⟩ : MethodName) (head1 (Jvm.Cond.code (⟨"java/lang/StringUTF16", "putChar", "([BII)V"⟩ : MethodName) jdk_52_method_4_code 3 (Option.none : Option Jvm.ClassFile.FieldType) :: ws) ({ frames := 0, cells := 0, slots := 0, locals := 0 } : Room)) (fun a U => a = #[(.ref q1), (.int (2 : Int32)), (.int q3)] ∧ Z.Warmed39 U.vm ∧ U.heap = h0) (fun _ _ _ _ _ => True) (fun _ U o U' => ∃ v L, o = .returned v ∧ Qpc2_6 Z q1 q3 F h0 n0 v U'.heap L ∧ FrameEnd U o U' L ({ frames := 0, cells := 0, slots := 0, locals := 0 } : Room).cells ({ frames := 0, cells := 0, slots := 0, locals := 0 } : Room).slots) := by
  refine MetFree.of_bodySF (plainFor_of_name pnpc2_6) hisR ?_
  intro p e s m args below meth c s₁ Bd hml0 hP hK
  obtain ⟨rfl, hZ, hh⟩ := hP
  have hx := Bd.exec
  have hby := Bd.bytes
  have hml : c.maxLocals = 3 := hml0
  have hown : s.vm.findClass "java/lang/StringUTF16" = some m.cls := findClass_of_methodNamed Bd.named
  have hnm := (name_of_methodNamed Bd.named Bd.method).1
  have X0 : Stand p l e ({ frames := 0, cells := 0, slots := 0, locals := 0 } : Room) s m #[(.ref q1), (.int (2 : Int32)), (.int q3)] below meth c s₁ [] 0 0 := Stand.of_body Bd
  have e0 : s₁.heap = h0 := by rw [← hh, Bd.state]; rfl
  have N0 := Fr.nil n0
  show Go p e below (Ret s (Qpc2_6 Z q1 q3 F h0 n0) ({ frames := 0, cells := 0, slots := 0, locals := 0 } : Room).cells ({ frames := 0, cells := 0, slots := 0, locals := 0 } : Room).slots) (s₁.setTop (entryFrame m #[(.ref q1), (.int (2 : Int32)), (.int q3)] 3))
  rw [efpc2_6 m q1 (2 : Int32) q3]
  have K0 : Keep h0 h0 [q1] := Keep.refl _ _
  refine g_getS X0 hx hZ hown (hw _ (List.mem_of_getElem? (i := 112) rfl)) e0 SAD (hb hby dpc2_6_0) ?_
  intro T1 X2 e3
  have hc3_4 : ¬ ((1 : Int32) = (0 : Int32)) := (by decide)
  refine g_ifYes X2 hx (hb hby dpc2_6_3) (feq hc3_4).2 (by decide) (pc' := 28) (by decide) ?_
  refine g_iloadN X2 hx (hb hby dpc2_6_28) rfl ?_
  refine g_iconst X2 hx (hb hby dpc2_6_29) (v := (1 : Int32)) (by decide) ?_
  refine g_ishl X2 hx (hb hby dpc2_6_30) (show (2 : Int32) <<< ((1 : Int32) &&& 31) = (4 : Int32) from by decide) ?_
  refine g_istoreN X2 hx (hb hby dpc2_6_31) (L' := #[.val (.ref q1), .val (.int (4 : Int32)), .val (.int q3)]) rfl ?_
  refine g_aloadN X2 hx (hb hby dpc2_6_32) rfl rfl ?_
  refine g_iloadN X2 hx (hb hby dpc2_6_33) rfl ?_
  refine g_iinc X2 hx (hb hby dpc2_6_34) rfl (L' := #[.val (.ref q1), .val (.int (5 : Int32)), .val (.int q3)]) rfl ?_
  refine g_iloadN X2 hx (hb hby dpc2_6_37) rfl ?_
  refine g_getS X2 hx hZ hown (hw _ (List.mem_of_getElem? (i := 113) rfl)) e3 SHI (hb hby dpc2_6_38) ?_
  intro T5 X6 e7
  obtain ⟨i8, hi8⟩ : ∃ v : Int32, q3 >>> ((0 : Int32) &&& 31) = v := ⟨_, rfl⟩
  refine g_ishr X6 hx (hb hby dpc2_6_41) hi8 ?_
  obtain ⟨i9, hi9⟩ : ∃ v : Int32, i8.toInt8.toInt32 = v := ⟨_, rfl⟩
  refine g_i2b X6 hx (hb hby dpc2_6_42) hi9 ?_
  refine g_bastoreB X6 hx hZ e7 A0 (i := 4) (by decide) (by decide) (by decide) (hb hby dpc2_6_43) ?_
  intro T10 h13 X11 e12 W14
  have F15 := SAD.wr W14
  have F16 := SHI.wr W14
  have F17 := SLO.wr W14
  have F18 := A0.same W14
  have Z19 : n0 ≤ h13.size := by rw [W14.size]; exact Z0
  have K20 := Keep.wr K0 W14 (Or.inl (List.mem_singleton.mpr rfl))
  have N21 := Fr.snoc X11 N0 g1
  refine g_aloadN X11 hx (hb hby dpc2_6_44) rfl rfl ?_
  refine g_iloadN X11 hx (hb hby dpc2_6_45) rfl ?_
  refine g_iloadN X11 hx (hb hby dpc2_6_46) rfl ?_
  refine g_getS X11 hx hZ hown (hw _ (List.mem_of_getElem? (i := 114) rfl)) e12 F17 (hb hby dpc2_6_47) ?_
  intro T22 X23 e24
  obtain ⟨i25, hi25⟩ : ∃ v : Int32, q3 >>> ((8 : Int32) &&& 31) = v := ⟨_, rfl⟩
  refine g_ishr X23 hx (hb hby dpc2_6_50) hi25 ?_
  obtain ⟨i26, hi26⟩ : ∃ v : Int32, i25.toInt8.toInt32 = v := ⟨_, rfl⟩
  refine g_i2b X23 hx (hb hby dpc2_6_51) hi26 ?_
  refine g_bastoreB X23 hx hZ e24 F18 (i := 5) (by decide) (by decide) (by decide) (hb hby dpc2_6_52) ?_
  intro T27 h30 X28 e29 W31
  have F32 := F15.wr W31
  have F33 := F16.wr W31
  have F34 := F17.wr W31
  have F35 := F18.same W31
  have Z36 : n0 ≤ h30.size := by rw [W31.size]; exact Z19
  have K37 := Keep.wr K20 W31 (Or.inl (List.mem_singleton.mpr rfl))
  have N38 := Fr.snoc X28 N21 g1
  refine g_return X28 hx Bd.notSynchronized Bd.returns (hb hby dpc2_6_53) (by decide) (by decide) ?_
  subst hi8 hi9 hi25 hi26
  rw [e29]
  exact ⟨rfl, N38, K37, F35.congr (fun j _ => by
    unfold own_pc
    by_cases z1 : j = 5
    · rw [if_pos z1, if_pos z1]; rfl
    · rw [if_neg z1, if_neg z1]
      by_cases z2 : j = 4
      · rw [if_pos z2, if_pos z2]; rfl
      · rw [if_neg z2, if_neg z2])⟩
theorem dtb3_0 : decode jdk_52_method_14_code 0 = .ok (.iload_n 2, 1) := by decide +kernel
theorem dtb3_1 : decode jdk_52_method_14_code 1 = .ok (.invokestatic 107, 3) := by decide +kernel
theorem dtb3_4 : decode jdk_52_method_14_code 4 = .ok (.astore_n 3, 1) := by decide +kernel
theorem dtb3_5 : decode jdk_52_method_14_code 5 = .ok (.iconst 0, 1) := by decide +kernel
theorem dtb3_6 : decode jdk_52_method_14_code 6 = .ok (.istore 4, 2) := by decide +kernel
theorem dtb3_8 : decode jdk_52_method_14_code 8 = .ok (.iload 4, 2) := by decide +kernel
theorem dtb3_10 : decode jdk_52_method_14_code 10 = .ok (.iload_n 2, 1) := by decide +kernel
theorem dtb3_11 : decode jdk_52_method_14_code 11 = .ok (.if_icmp .ge 21, 3) := by decide +kernel
theorem dtb3_14 : decode jdk_52_method_14_code 14 = .ok (.aload_n 3, 1) := by decide +kernel
theorem dtb3_15 : decode jdk_52_method_14_code 15 = .ok (.iload 4, 2) := by decide +kernel
theorem dtb3_17 : decode jdk_52_method_14_code 17 = .ok (.aload_n 0, 1) := by decide +kernel
theorem dtb3_18 : decode jdk_52_method_14_code 18 = .ok (.iload_n 1, 1) := by decide +kernel
theorem dtb3_19 : decode jdk_52_method_14_code 19 = .ok (.caload, 1) := by decide +kernel
theorem dtb3_20 : decode jdk_52_method_14_code 20 = .ok (.invokestatic 111, 3) := by decide +kernel
theorem dtb3_23 : decode jdk_52_method_14_code 23 = .ok (.iinc 1 1, 3) := by decide +kernel
theorem dtb3_26 : decode jdk_52_method_14_code 26 = .ok (.iinc 4 1, 3) := by decide +kernel
theorem dtb3_29 : decode jdk_52_method_14_code 29 = .ok (.goto (-21), 3) := by decide +kernel
theorem dtb3_32 : decode jdk_52_method_14_code 32 = .ok (.aload_n 3, 1) := by decide +kernel
theorem dtb3_33 : decode jdk_52_method_14_code 33 = .ok (.areturn, 1) := by decide +kernel
theorem pntb3 : plainName "java/lang/StringUTF16" = true := by first | (simp [plainName, overriddenIn]; done) | decide +kernel
theorem pdtb3_0 : parseMethodDescriptor "(I)[B" = some ⟨[.int], some (.array .byte)⟩ := by decide +kernel
theorem pdtb3_1 : parseMethodDescriptor "([BII)V" = some ⟨[(.array .byte), .int, .int], none⟩ := by decide +kernel
theorem eftb3 (m : MethodId) (z0 : Addr) (z1 : Int32) (z2 : Int32) : entryFrame m #[(.ref z0), (.int z1), (.int z2)] 5 = mkF m 0 #[.val (.ref z0), .val (.int z1), .val (.int z2), .unset, .unset] [] := by first | (simp [entryFrame, mkF, argsToLocals, Value.category]; done) | rfl
def Qtb3 (Z : State) (q1 : Addr) (u : Nat → Int32) (h0 : Heap) (n0 : Nat) (v : Option Value) (h : Heap) (L : List Loc) : Prop := ∃ b : Addr, v = some (.ref b) ∧ Fr n0 L ∧ Keep h0 h [] ∧ h0.size ≤ b ∧ n0 ≤ b ∧ Av Z h b .byte 6 (fun i => .int (own_16 u i))
set_option maxRecDepth 65536 in
set_option maxHeartbeats 40000000 in
theorem rmtb3 (l : Launch) (Z : State) (a0 : Array Value) (hw : ∀ d ∈ tables_1, d.before a0 Z = true) (ws : List Jvm.Cond) (q1 : Addr) (u : Nat → Int32) (h0 : Heap) (n0 : Nat) (Z0 : n0 ≤ h0.size) (SAD : Sta Z h0 "java/lang/StringUTF16" "$assertionsDisabled" "Z" (.int (1 : Int32))) (SHI : Sta Z h0 "java/lang/StringUTF16" "HI_BYTE_SHIFT" "I" (.int (0 : Int32))) (SLO : Sta Z h0 "java/lang/StringUTF16" "LO_BYTE_SHIFT" "I" (.int (8 : Int32))) (A0 : Av Z h0 q1 .char 3 (fun i => .int (u i))) :
    MetFree l (⟨"java/lang/StringUTF16", "toBytes", "([CII)[B"⟩ : MethodName) (head1 (Jvm.Cond.code (⟨"java/lang/StringUTF16", "toBytes", "([CII)[B"⟩ : MethodName) jdk_52_method_14_code 5 (Option.some (Jvm.ClassFile.FieldType.array Jvm.ClassFile.FieldType.byte)) :: ws) ({ frames := 2, cells := 1, slots := 6, locals := 40 } : Room)) (fun a U => a = #[(.ref q1), (.int (0 : Int32)), (.int (3 : Int32))] ∧ Z.Warmed39 U.vm ∧ U.heap = h0) (fun _ _ _ _ _ => True) (fun _ U o U' => ∃ v L, o = .returned v ∧ Qtb3 Z q1 u h0 n0 v U'.heap L ∧ FrameEnd U o U' L ({ frames := 2, cells := 1, slots := 6, locals := 40 } : Room).cells ({ frames := 2, cells := 1, slots := 6, locals := 40 } : Room).slots) := by
  refine MetFree.of_bodySF (plainFor_of_name pntb3) hisR ?_
  intro p e s m args below meth c s₁ Bd hml0 hP hK
  obtain ⟨rfl, hZ, hh⟩ := hP
  have hx := Bd.exec
  have hby := Bd.bytes
  have hml : c.maxLocals = 5 := hml0
  have hown : s.vm.findClass "java/lang/StringUTF16" = some m.cls := findClass_of_methodNamed Bd.named
  have hnm := (name_of_methodNamed Bd.named Bd.method).1
  have X0 : Stand p l e ({ frames := 2, cells := 1, slots := 6, locals := 40 } : Room) s m #[(.ref q1), (.int (0 : Int32)), (.int (3 : Int32))] below meth c s₁ [] 0 0 := Stand.of_body Bd
  have e0 : s₁.heap = h0 := by rw [← hh, Bd.state]; rfl
  have N0 := Fr.nil n0
  show Go p e below (Ret s (Qtb3 Z q1 u h0 n0) ({ frames := 2, cells := 1, slots := 6, locals := 40 } : Room).cells ({ frames := 2, cells := 1, slots := 6, locals := 40 } : Room).slots) (s₁.setTop (entryFrame m #[(.ref q1), (.int (0 : Int32)), (.int (3 : Int32))] 5))
  rw [eftb3 m q1 (0 : Int32) (3 : Int32)]
  have K0 : Keep h0 h0 [] := Keep.refl _ _
  refine g_iloadN X0 hx (hb hby dtb3_0) rfl ?_
  refine g_callS X0 hx hZ hown (hw _ (List.mem_of_getElem? (i := 102) rfl)) (hw _ (List.mem_of_getElem? (i := 103) rfl)) (hw _ (List.mem_of_getElem? (i := 91) rfl)) (hw _ (List.mem_of_getElem? (i := 104) rfl)) (by decide) (rmnf3 l Z a0 hw [] h0 n0 Z0) e0 (W := 0) (by decide) (by decide) (by rw [hml]; rfl) [(.int (3 : Int32))] [] (lenOf pdtb3_0 rfl) rfl rfl (Nat.le_of_eq rfl) (hb hby dtb3_1) (by decide) (by decide) ?_
  intro v5 T1 L4 X2 hQ3
  obtain ⟨b, rfl, N6, K7, g8, g9, A_b⟩ := hQ3
  have N10 := Fr.app N0 N6
  have ne_q1_b : q1 ≠ b := fun q => absurd A0.lt (by rw [q]; exact Nat.not_lt.mpr g8)
  have F11 := Sta.keepN SAD K7 ns0
  have F12 := Sta.keepN SHI K7 ns0
  have F13 := Sta.keepN SLO K7 ns0
  have F14 := A0.keep K7 nin0
  have Z15 : n0 ≤ T1.heap.size := Nat.le_trans Z0 K7.1
  have K16 := Keep.trans K0 K7 all0
  have gek_b : h0.size ≤ b := Nat.le_trans K0.1 g8
  show Go p e below (Ret s (Qtb3 Z q1 u h0 n0) ({ frames := 2, cells := 1, slots := 6, locals := 40 } : Room).cells ({ frames := 2, cells := 1, slots := 6, locals := 40 } : Room).slots) (T1.setTop (mkF m 4 #[.val (.ref q1), .val (.int (0 : Int32)), .val (.int (3 : Int32)), .unset, .unset] [(.ref b)]))
  refine g_astoreN X2 hx (hb hby dtb3_4) rfl (L' := #[.val (.ref q1), .val (.int (0 : Int32)), .val (.int (3 : Int32)), .val (.ref b), .unset]) rfl ?_
  refine g_iconst X2 hx (hb hby dtb3_5) (v := (0 : Int32)) (by decide) ?_
  refine g_istore X2 hx (hb hby dtb3_6) (L' := #[.val (.ref q1), .val (.int (0 : Int32)), .val (.int (3 : Int32)), .val (.ref b), .val (.int (0 : Int32))]) rfl ?_
  refine g_iload X2 hx (hb hby dtb3_8) rfl ?_
  refine g_iloadN X2 hx (hb hby dtb3_10) rfl ?_
  have hc11_18 : (0 : Int32) < (3 : Int32) := (by decide)
  refine g_icmpNo X2 hx (hb hby dtb3_11) (tlt hc11_18).2.1 ?_
  refine g_aloadN X2 hx (hb hby dtb3_14) rfl rfl ?_
  refine g_iload X2 hx (hb hby dtb3_15) rfl ?_
  refine g_aloadN X2 hx (hb hby dtb3_17) rfl rfl ?_
  refine g_iloadN X2 hx (hb hby dtb3_18) rfl ?_
  refine g_caload X2 hx hZ rfl F14 (by decide) (by decide) (i := 0) (by decide) rfl (hb hby dtb3_19) ?_
  refine g_callS X2 hx hZ hown (hw _ (List.mem_of_getElem? (i := 109) rfl)) (hw _ (List.mem_of_getElem? (i := 110) rfl)) (hw _ (List.mem_of_getElem? (i := 91) rfl)) (hw _ (List.mem_of_getElem? (i := 111) rfl)) (by decide) (rmpc0_6 l Z a0 hw [] b (u 0) (fun _ => 0) T1.heap n0 Z15 F11 F12 F13 A_b g9) rfl (W := 0) (by decide) (by decide) (by rw [hml]; rfl) [(.ref b), (.int (0 : Int32)), (.int (u 0))] [] (lenOf pdtb3_1 rfl) rfl rfl (Nat.le_of_eq rfl) (hb hby dtb3_20) (by decide) (by decide) ?_
  intro v23 T19 L22 X20 hQ21
  obtain ⟨rfl, N24, K25, F26⟩ := hQ21
  have N27 := Fr.app N10 N24
  have F28 := Sta.keepN F11 K25 (nsS (Av.ns A_b) ns0)
  have F29 := Sta.keepN F12 K25 (nsS (Av.ns A_b) ns0)
  have F30 := Sta.keepN F13 K25 (nsS (Av.ns A_b) ns0)
  have F31 := F14.keep K25 (ninS ne_q1_b nin0)
  have Z33 : n0 ≤ T19.heap.size := Nat.le_trans Z15 K25.1
  have K34 := Keep.trans K16 K25 (allS (Or.inr gek_b) all0)
  show Go p e below (Ret s (Qtb3 Z q1 u h0 n0) ({ frames := 2, cells := 1, slots := 6, locals := 40 } : Room).cells ({ frames := 2, cells := 1, slots := 6, locals := 40 } : Room).slots) (T19.setTop (mkF m 23 #[.val (.ref q1), .val (.int (0 : Int32)), .val (.int (3 : Int32)), .val (.ref b), .val (.int (0 : Int32))] []))
  refine g_iinc X20 hx (hb hby dtb3_23) rfl (L' := #[.val (.ref q1), .val (.int (1 : Int32)), .val (.int (3 : Int32)), .val (.ref b), .val (.int (0 : Int32))]) rfl ?_
  refine g_iinc X20 hx (hb hby dtb3_26) rfl (L' := #[.val (.ref q1), .val (.int (1 : Int32)), .val (.int (3 : Int32)), .val (.ref b), .val (.int (1 : Int32))]) rfl ?_
  refine g_goto X20 hx (hb hby dtb3_29) (by decide) (pc' := 8) (by decide) ?_
  refine g_iload X20 hx (hb hby dtb3_8) rfl ?_
  refine g_iloadN X20 hx (hb hby dtb3_10) rfl ?_
  have hc11_36 : (1 : Int32) < (3 : Int32) := (by decide)
  refine g_icmpNo X20 hx (hb hby dtb3_11) (tlt hc11_36).2.1 ?_
  refine g_aloadN X20 hx (hb hby dtb3_14) rfl rfl ?_
  refine g_iload X20 hx (hb hby dtb3_15) rfl ?_
  refine g_aloadN X20 hx (hb hby dtb3_17) rfl rfl ?_
  refine g_iloadN X20 hx (hb hby dtb3_18) rfl ?_
  refine g_caload X20 hx hZ rfl F31 (by decide) (by decide) (i := 1) (by decide) rfl (hb hby dtb3_19) ?_
  refine g_callS X20 hx hZ hown (hw _ (List.mem_of_getElem? (i := 109) rfl)) (hw _ (List.mem_of_getElem? (i := 110) rfl)) (hw _ (List.mem_of_getElem? (i := 91) rfl)) (hw _ (List.mem_of_getElem? (i := 111) rfl)) (by decide) (rmpc1_6 l Z a0 hw [] b (u 1) (own_pc (fun _ => 0) 0 (u 0)) T19.heap n0 Z33 F28 F29 F30 F26 g9) rfl (W := 0) (by decide) (by decide) (by rw [hml]; rfl) [(.ref b), (.int (1 : Int32)), (.int (u 1))] [] (lenOf pdtb3_1 rfl) rfl rfl (Nat.le_of_eq rfl) (hb hby dtb3_20) (by decide) (by decide) ?_
  intro v41 T37 L40 X38 hQ39
  obtain ⟨rfl, N42, K43, F44⟩ := hQ39
  have N45 := Fr.app N27 N42
  have F46 := Sta.keepN F28 K43 (nsS (Av.ns F26) ns0)
  have F47 := Sta.keepN F29 K43 (nsS (Av.ns F26) ns0)
  have F48 := Sta.keepN F30 K43 (nsS (Av.ns F26) ns0)
  have F49 := F31.keep K43 (ninS ne_q1_b nin0)
  have Z51 : n0 ≤ T37.heap.size := Nat.le_trans Z33 K43.1
  have K52 := Keep.trans K34 K43 (allS (Or.inr gek_b) all0)
  show Go p e below (Ret s (Qtb3 Z q1 u h0 n0) ({ frames := 2, cells := 1, slots := 6, locals := 40 } : Room).cells ({ frames := 2, cells := 1, slots := 6, locals := 40 } : Room).slots) (T37.setTop (mkF m 23 #[.val (.ref q1), .val (.int (1 : Int32)), .val (.int (3 : Int32)), .val (.ref b), .val (.int (1 : Int32))] []))
  refine g_iinc X38 hx (hb hby dtb3_23) rfl (L' := #[.val (.ref q1), .val (.int (2 : Int32)), .val (.int (3 : Int32)), .val (.ref b), .val (.int (1 : Int32))]) rfl ?_
  refine g_iinc X38 hx (hb hby dtb3_26) rfl (L' := #[.val (.ref q1), .val (.int (2 : Int32)), .val (.int (3 : Int32)), .val (.ref b), .val (.int (2 : Int32))]) rfl ?_
  refine g_goto X38 hx (hb hby dtb3_29) (by decide) (pc' := 8) (by decide) ?_
  refine g_iload X38 hx (hb hby dtb3_8) rfl ?_
  refine g_iloadN X38 hx (hb hby dtb3_10) rfl ?_
  have hc11_54 : (2 : Int32) < (3 : Int32) := (by decide)
  refine g_icmpNo X38 hx (hb hby dtb3_11) (tlt hc11_54).2.1 ?_
  refine g_aloadN X38 hx (hb hby dtb3_14) rfl rfl ?_
  refine g_iload X38 hx (hb hby dtb3_15) rfl ?_
  refine g_aloadN X38 hx (hb hby dtb3_17) rfl rfl ?_
  refine g_iloadN X38 hx (hb hby dtb3_18) rfl ?_
  refine g_caload X38 hx hZ rfl F49 (by decide) (by decide) (i := 2) (by decide) rfl (hb hby dtb3_19) ?_
  refine g_callS X38 hx hZ hown (hw _ (List.mem_of_getElem? (i := 109) rfl)) (hw _ (List.mem_of_getElem? (i := 110) rfl)) (hw _ (List.mem_of_getElem? (i := 91) rfl)) (hw _ (List.mem_of_getElem? (i := 111) rfl)) (by decide) (rmpc2_6 l Z a0 hw [] b (u 2) (own_pc (own_pc (fun _ => 0) 0 (u 0)) 1 (u 1)) T37.heap n0 Z51 F46 F47 F48 F44 g9) rfl (W := 0) (by decide) (by decide) (by rw [hml]; rfl) [(.ref b), (.int (2 : Int32)), (.int (u 2))] [] (lenOf pdtb3_1 rfl) rfl rfl (Nat.le_of_eq rfl) (hb hby dtb3_20) (by decide) (by decide) ?_
  intro v59 T55 L58 X56 hQ57
  obtain ⟨rfl, N60, K61, F62⟩ := hQ57
  have N63 := Fr.app N45 N60
  have F64 := Sta.keepN F46 K61 (nsS (Av.ns F44) ns0)
  have F65 := Sta.keepN F47 K61 (nsS (Av.ns F44) ns0)
  have F66 := Sta.keepN F48 K61 (nsS (Av.ns F44) ns0)
  have F67 := F49.keep K61 (ninS ne_q1_b nin0)
  have Z69 : n0 ≤ T55.heap.size := Nat.le_trans Z51 K61.1
  have K70 := Keep.trans K52 K61 (allS (Or.inr gek_b) all0)
  show Go p e below (Ret s (Qtb3 Z q1 u h0 n0) ({ frames := 2, cells := 1, slots := 6, locals := 40 } : Room).cells ({ frames := 2, cells := 1, slots := 6, locals := 40 } : Room).slots) (T55.setTop (mkF m 23 #[.val (.ref q1), .val (.int (2 : Int32)), .val (.int (3 : Int32)), .val (.ref b), .val (.int (2 : Int32))] []))
  refine g_iinc X56 hx (hb hby dtb3_23) rfl (L' := #[.val (.ref q1), .val (.int (3 : Int32)), .val (.int (3 : Int32)), .val (.ref b), .val (.int (2 : Int32))]) rfl ?_
  refine g_iinc X56 hx (hb hby dtb3_26) rfl (L' := #[.val (.ref q1), .val (.int (3 : Int32)), .val (.int (3 : Int32)), .val (.ref b), .val (.int (3 : Int32))]) rfl ?_
  refine g_goto X56 hx (hb hby dtb3_29) (by decide) (pc' := 8) (by decide) ?_
  refine g_iload X56 hx (hb hby dtb3_8) rfl ?_
  refine g_iloadN X56 hx (hb hby dtb3_10) rfl ?_
  have hc11_72 : ¬ ((3 : Int32) < (3 : Int32)) := (by decide)
  refine g_icmpYes X56 hx (hb hby dtb3_11) (flt hc11_72).2.1 (by decide) (pc' := 32) (by decide) ?_
  refine g_aloadN X56 hx (hb hby dtb3_32) rfl rfl ?_
  refine g_areturn X56 hx Bd.notSynchronized Bd.returns rfl rfl (hb hby dtb3_33) (by decide) (by decide) ?_
  exact ⟨b, rfl, N63, K70, gek_b, g9, (F62.congr (by
    intro i hi
    have : i = 0 ∨ i = 1 ∨ i = 2 ∨ i = 3 ∨ i = 4 ∨ i = 5 := by omega
    rcases this with rfl | rfl | rfl | rfl | rfl | rfl <;> simp [own_pc, own_16]))⟩
theorem dgc0_6_0 : decode jdk_52_method_5_code 0 = .ok (.getstatic 44, 3) := by decide +kernel
theorem dgc0_6_3 : decode jdk_52_method_5_code 3 = .ok (.ifCond .ne 25, 3) := by decide +kernel
theorem dgc0_6_28 : decode jdk_52_method_5_code 28 = .ok (.iload_n 1, 1) := by decide +kernel
theorem dgc0_6_29 : decode jdk_52_method_5_code 29 = .ok (.iconst 1, 1) := by decide +kernel
theorem dgc0_6_30 : decode jdk_52_method_5_code 30 = .ok (.ishl, 1) := by decide +kernel
theorem dgc0_6_31 : decode jdk_52_method_5_code 31 = .ok (.istore_n 1, 1) := by decide +kernel
theorem dgc0_6_32 : decode jdk_52_method_5_code 32 = .ok (.aload_n 0, 1) := by decide +kernel
theorem dgc0_6_33 : decode jdk_52_method_5_code 33 = .ok (.iload_n 1, 1) := by decide +kernel
theorem dgc0_6_34 : decode jdk_52_method_5_code 34 = .ok (.iinc 1 1, 3) := by decide +kernel
theorem dgc0_6_37 : decode jdk_52_method_5_code 37 = .ok (.baload, 1) := by decide +kernel
theorem dgc0_6_38 : decode jdk_52_method_5_code 38 = .ok (.sipush 255, 3) := by decide +kernel
theorem dgc0_6_41 : decode jdk_52_method_5_code 41 = .ok (.iand, 1) := by decide +kernel
theorem dgc0_6_42 : decode jdk_52_method_5_code 42 = .ok (.getstatic 59, 3) := by decide +kernel
theorem dgc0_6_45 : decode jdk_52_method_5_code 45 = .ok (.ishl, 1) := by decide +kernel
theorem dgc0_6_46 : decode jdk_52_method_5_code 46 = .ok (.aload_n 0, 1) := by decide +kernel
theorem dgc0_6_47 : decode jdk_52_method_5_code 47 = .ok (.iload_n 1, 1) := by decide +kernel
theorem dgc0_6_48 : decode jdk_52_method_5_code 48 = .ok (.baload, 1) := by decide +kernel
theorem dgc0_6_49 : decode jdk_52_method_5_code 49 = .ok (.sipush 255, 3) := by decide +kernel
theorem dgc0_6_52 : decode jdk_52_method_5_code 52 = .ok (.iand, 1) := by decide +kernel
theorem dgc0_6_53 : decode jdk_52_method_5_code 53 = .ok (.getstatic 63, 3) := by decide +kernel
theorem dgc0_6_56 : decode jdk_52_method_5_code 56 = .ok (.ishl, 1) := by decide +kernel
theorem dgc0_6_57 : decode jdk_52_method_5_code 57 = .ok (.ior, 1) := by decide +kernel
theorem dgc0_6_58 : decode jdk_52_method_5_code 58 = .ok (.i2c, 1) := by decide +kernel
theorem dgc0_6_59 : decode jdk_52_method_5_code 59 = .ok (.ireturn, 1) := by decide +kernel
theorem pngc0_6 : plainName "java/lang/StringUTF16" = true := by first | (simp [plainName, overriddenIn]; done) | decide +kernel
theorem efgc0_6 (m : MethodId) (z0 : Addr) (z1 : Int32) : entryFrame m #[(.ref z0), (.int z1)] 2 = mkF m 0 #[.val (.ref z0), .val (.int z1)] [] := by first | (simp [entryFrame, mkF, argsToLocals, Value.category]; done) | rfl
def Qgc0_6 (Z : State) (q1 : Addr) (F : Nat → Int32) (h0 : Heap) (n0 : Nat) (v : Option Value) (h : Heap) (L : List Loc) : Prop := v = some (.int (own_g (F 0) (F 1))) ∧ Fr n0 L ∧ h = h0
set_option maxRecDepth 65536 in
set_option maxHeartbeats 40000000 in
theorem rmgc0_6 (l : Launch) (Z : State) (a0 : Array Value) (hw : ∀ d ∈ tables_1, d.before a0 Z = true) (ws : List Jvm.Cond) (q1 : Addr) (F : Nat → Int32) (h0 : Heap) (n0 : Nat) (Z0 : n0 ≤ h0.size) (SAD : Sta Z h0 "java/lang/StringUTF16" "$assertionsDisabled" "Z" (.int (1 : Int32))) (SHI : Sta Z h0 "java/lang/StringUTF16" "HI_BYTE_SHIFT" "I" (.int (0 : Int32))) (SLO : Sta Z h0 "java/lang/StringUTF16" "LO_BYTE_SHIFT" "I" (.int (8 : Int32))) (A0 : Av Z h0 q1 .byte 6 (fun i => .int (F i))) :
    MetFree l (⟨"java/lang/StringUTF16", "getChar", "([BI)C"⟩ : MethodName) (head1 (Jvm.Cond.code (⟨"java/lang/StringUTF16", "getChar", "([BI)C"⟩ : MethodName) jdk_52_method_5_code 2 (Option.some Jvm.ClassFile.FieldType.char) :: ws) ({ frames := 0, cells := 0, slots := 0, locals := 0 } : Room)) (fun a U => a = #[(.ref q1), (.int (0 : Int32))] ∧ Z.Warmed39 U.vm ∧ U.heap = h0) (fun _ _ _ _ _ => True) (fun _ U o U' => ∃ v L, o = .returned v ∧ Qgc0_6 Z q1 F h0 n0 v U'.heap L ∧ FrameEnd U o U' L ({ frames := 0, cells := 0, slots := 0, locals := 0 } : Room).cells ({ frames := 0, cells := 0, slots := 0, locals := 0 } : Room).slots) := by
  refine MetFree.of_bodySF (plainFor_of_name pngc0_6) hisR ?_
  intro p e s m args below meth c s₁ Bd hml0 hP hK
  obtain ⟨rfl, hZ, hh⟩ := hP
  have hx := Bd.exec
  have hby := Bd.bytes
  have hml : c.maxLocals = 2 := hml0
  have hown : s.vm.findClass "java/lang/StringUTF16" = some m.cls := findClass_of_methodNamed Bd.named
  have hnm := (name_of_methodNamed Bd.named Bd.method).1
  have X0 : Stand p l e ({ frames := 0, cells := 0, slots := 0, locals := 0 } : Room) s m #[(.ref q1), (.int (0 : Int32))] below meth c s₁ [] 0 0 := Stand.of_body Bd
  have e0 : s₁.heap = h0 := by rw [← hh, Bd.state]; rfl
  have N0 := Fr.nil n0
  show Go p e below (Ret s (Qgc0_6 Z q1 F h0 n0) ({ frames := 0, cells := 0, slots := 0, locals := 0 } : Room).cells ({ frames := 0, cells := 0, slots := 0, locals := 0 } : Room).slots) (s₁.setTop (entryFrame m #[(.ref q1), (.int (0 : Int32))] 2))
  rw [efgc0_6 m q1 (0 : Int32)]
  refine g_getS X0 hx hZ hown (hw _ (List.mem_of_getElem? (i := 112) rfl)) e0 SAD (hb hby dgc0_6_0) ?_
  intro T1 X2 e3
  have hc3_4 : ¬ ((1 : Int32) = (0 : Int32)) := (by decide)
  refine g_ifYes X2 hx (hb hby dgc0_6_3) (feq hc3_4).2 (by decide) (pc' := 28) (by decide) ?_
  refine g_iloadN X2 hx (hb hby dgc0_6_28) rfl ?_
  refine g_iconst X2 hx (hb hby dgc0_6_29) (v := (1 : Int32)) (by decide) ?_
  refine g_ishl X2 hx (hb hby dgc0_6_30) (show (0 : Int32) <<< ((1 : Int32) &&& 31) = (0 : Int32) from by decide) ?_
  refine g_istoreN X2 hx (hb hby dgc0_6_31) (L' := #[.val (.ref q1), .val (.int (0 : Int32))]) rfl ?_
  refine g_aloadN X2 hx (hb hby dgc0_6_32) rfl rfl ?_
  refine g_iloadN X2 hx (hb hby dgc0_6_33) rfl ?_
  refine g_iinc X2 hx (hb hby dgc0_6_34) rfl (L' := #[.val (.ref q1), .val (.int (1 : Int32))]) rfl ?_
  refine g_baloadB X2 hx hZ e3 A0 (by decide) (by decide) (i := 0) (by decide) rfl (hb hby dgc0_6_37) ?_
  refine g_sipush X2 hx (hb hby dgc0_6_38) (v := (255 : Int32)) (by decide) ?_
  obtain ⟨i5, hi5⟩ : ∃ v : Int32, (F 0) &&& (255 : Int32) = v := ⟨_, rfl⟩
  refine g_iand X2 hx (hb hby dgc0_6_41) hi5 ?_
  refine g_getS X2 hx hZ hown (hw _ (List.mem_of_getElem? (i := 113) rfl)) e3 SHI (hb hby dgc0_6_42) ?_
  intro T6 X7 e8
  obtain ⟨i9, hi9⟩ : ∃ v : Int32, i5 <<< ((0 : Int32) &&& 31) = v := ⟨_, rfl⟩
  refine g_ishl X7 hx (hb hby dgc0_6_45) hi9 ?_
  refine g_aloadN X7 hx (hb hby dgc0_6_46) rfl rfl ?_
  refine g_iloadN X7 hx (hb hby dgc0_6_47) rfl ?_
  refine g_baloadB X7 hx hZ e8 A0 (by decide) (by decide) (i := 1) (by decide) rfl (hb hby dgc0_6_48) ?_
  refine g_sipush X7 hx (hb hby dgc0_6_49) (v := (255 : Int32)) (by decide) ?_
  obtain ⟨i10, hi10⟩ : ∃ v : Int32, (F 1) &&& (255 : Int32) = v := ⟨_, rfl⟩
  refine g_iand X7 hx (hb hby dgc0_6_52) hi10 ?_
  refine g_getS X7 hx hZ hown (hw _ (List.mem_of_getElem? (i := 114) rfl)) e8 SLO (hb hby dgc0_6_53) ?_
  intro T11 X12 e13
  obtain ⟨i14, hi14⟩ : ∃ v : Int32, i10 <<< ((8 : Int32) &&& 31) = v := ⟨_, rfl⟩
  refine g_ishl X12 hx (hb hby dgc0_6_56) hi14 ?_
  obtain ⟨i15, hi15⟩ : ∃ v : Int32, i9 ||| i14 = v := ⟨_, rfl⟩
  refine g_ior X12 hx (hb hby dgc0_6_57) hi15 ?_
  obtain ⟨i16, hi16⟩ : ∃ v : Int32, i15.toUInt32.toUInt16.toUInt32.toInt32 = v := ⟨_, rfl⟩
  refine g_i2c X12 hx (hb hby dgc0_6_58) hi16 ?_
  refine g_ireturn X12 hx Bd.notSynchronized Bd.returns (by subst hi5 hi9 hi10 hi14 hi15 hi16; exact own_narC _) (by simp) (hb hby dgc0_6_59) (by decide) (by decide) ?_
  subst hi5 hi9 hi10 hi14 hi15 hi16
  exact ⟨rfl, N0, e13⟩
theorem dgc1_6_0 : decode jdk_52_method_5_code 0 = .ok (.getstatic 44, 3) := by decide +kernel
theorem dgc1_6_3 : decode jdk_52_method_5_code 3 = .ok (.ifCond .ne 25, 3) := by decide +kernel
theorem dgc1_6_28 : decode jdk_52_method_5_code 28 = .ok (.iload_n 1, 1) := by decide +kernel
theorem dgc1_6_29 : decode jdk_52_method_5_code 29 = .ok (.iconst 1, 1) := by decide +kernel
theorem dgc1_6_30 : decode jdk_52_method_5_code 30 = .ok (.ishl, 1) := by decide +kernel
theorem dgc1_6_31 : decode jdk_52_method_5_code 31 = .ok (.istore_n 1, 1) := by decide +kernel
theorem dgc1_6_32 : decode jdk_52_method_5_code 32 = .ok (.aload_n 0, 1) := by decide +kernel
theorem dgc1_6_33 : decode jdk_52_method_5_code 33 = .ok (.iload_n 1, 1) := by decide +kernel
theorem dgc1_6_34 : decode jdk_52_method_5_code 34 = .ok (.iinc 1 1, 3) := by decide +kernel
theorem dgc1_6_37 : decode jdk_52_method_5_code 37 = .ok (.baload, 1) := by decide +kernel
theorem dgc1_6_38 : decode jdk_52_method_5_code 38 = .ok (.sipush 255, 3) := by decide +kernel
theorem dgc1_6_41 : decode jdk_52_method_5_code 41 = .ok (.iand, 1) := by decide +kernel
theorem dgc1_6_42 : decode jdk_52_method_5_code 42 = .ok (.getstatic 59, 3) := by decide +kernel
theorem dgc1_6_45 : decode jdk_52_method_5_code 45 = .ok (.ishl, 1) := by decide +kernel
theorem dgc1_6_46 : decode jdk_52_method_5_code 46 = .ok (.aload_n 0, 1) := by decide +kernel
theorem dgc1_6_47 : decode jdk_52_method_5_code 47 = .ok (.iload_n 1, 1) := by decide +kernel
theorem dgc1_6_48 : decode jdk_52_method_5_code 48 = .ok (.baload, 1) := by decide +kernel
theorem dgc1_6_49 : decode jdk_52_method_5_code 49 = .ok (.sipush 255, 3) := by decide +kernel
theorem dgc1_6_52 : decode jdk_52_method_5_code 52 = .ok (.iand, 1) := by decide +kernel
theorem dgc1_6_53 : decode jdk_52_method_5_code 53 = .ok (.getstatic 63, 3) := by decide +kernel
theorem dgc1_6_56 : decode jdk_52_method_5_code 56 = .ok (.ishl, 1) := by decide +kernel
theorem dgc1_6_57 : decode jdk_52_method_5_code 57 = .ok (.ior, 1) := by decide +kernel
theorem dgc1_6_58 : decode jdk_52_method_5_code 58 = .ok (.i2c, 1) := by decide +kernel
theorem dgc1_6_59 : decode jdk_52_method_5_code 59 = .ok (.ireturn, 1) := by decide +kernel
theorem pngc1_6 : plainName "java/lang/StringUTF16" = true := by first | (simp [plainName, overriddenIn]; done) | decide +kernel
theorem efgc1_6 (m : MethodId) (z0 : Addr) (z1 : Int32) : entryFrame m #[(.ref z0), (.int z1)] 2 = mkF m 0 #[.val (.ref z0), .val (.int z1)] [] := by first | (simp [entryFrame, mkF, argsToLocals, Value.category]; done) | rfl
def Qgc1_6 (Z : State) (q1 : Addr) (F : Nat → Int32) (h0 : Heap) (n0 : Nat) (v : Option Value) (h : Heap) (L : List Loc) : Prop := v = some (.int (own_g (F 2) (F 3))) ∧ Fr n0 L ∧ h = h0
set_option maxRecDepth 65536 in
set_option maxHeartbeats 40000000 in
theorem rmgc1_6 (l : Launch) (Z : State) (a0 : Array Value) (hw : ∀ d ∈ tables_1, d.before a0 Z = true) (ws : List Jvm.Cond) (q1 : Addr) (F : Nat → Int32) (h0 : Heap) (n0 : Nat) (Z0 : n0 ≤ h0.size) (SAD : Sta Z h0 "java/lang/StringUTF16" "$assertionsDisabled" "Z" (.int (1 : Int32))) (SHI : Sta Z h0 "java/lang/StringUTF16" "HI_BYTE_SHIFT" "I" (.int (0 : Int32))) (SLO : Sta Z h0 "java/lang/StringUTF16" "LO_BYTE_SHIFT" "I" (.int (8 : Int32))) (A0 : Av Z h0 q1 .byte 6 (fun i => .int (F i))) :
    MetFree l (⟨"java/lang/StringUTF16", "getChar", "([BI)C"⟩ : MethodName) (head1 (Jvm.Cond.code (⟨"java/lang/StringUTF16", "getChar", "([BI)C"⟩ : MethodName) jdk_52_method_5_code 2 (Option.some Jvm.ClassFile.FieldType.char) :: ws) ({ frames := 0, cells := 0, slots := 0, locals := 0 } : Room)) (fun a U => a = #[(.ref q1), (.int (1 : Int32))] ∧ Z.Warmed39 U.vm ∧ U.heap = h0) (fun _ _ _ _ _ => True) (fun _ U o U' => ∃ v L, o = .returned v ∧ Qgc1_6 Z q1 F h0 n0 v U'.heap L ∧ FrameEnd U o U' L ({ frames := 0, cells := 0, slots := 0, locals := 0 } : Room).cells ({ frames := 0, cells := 0, slots := 0, locals := 0 } : Room).slots) := by
  refine MetFree.of_bodySF (plainFor_of_name pngc1_6) hisR ?_
  intro p e s m args below meth c s₁ Bd hml0 hP hK
  obtain ⟨rfl, hZ, hh⟩ := hP
  have hx := Bd.exec
  have hby := Bd.bytes
  have hml : c.maxLocals = 2 := hml0
  have hown : s.vm.findClass "java/lang/StringUTF16" = some m.cls := findClass_of_methodNamed Bd.named
  have hnm := (name_of_methodNamed Bd.named Bd.method).1
  have X0 : Stand p l e ({ frames := 0, cells := 0, slots := 0, locals := 0 } : Room) s m #[(.ref q1), (.int (1 : Int32))] below meth c s₁ [] 0 0 := Stand.of_body Bd
  have e0 : s₁.heap = h0 := by rw [← hh, Bd.state]; rfl
  have N0 := Fr.nil n0
  show Go p e below (Ret s (Qgc1_6 Z q1 F h0 n0) ({ frames := 0, cells := 0, slots := 0, locals := 0 } : Room).cells ({ frames := 0, cells := 0, slots := 0, locals := 0 } : Room).slots) (s₁.setTop (entryFrame m #[(.ref q1), (.int (1 : Int32))] 2))
  rw [efgc1_6 m q1 (1 : Int32)]
  refine g_getS X0 hx hZ hown (hw _ (List.mem_of_getElem? (i := 112) rfl)) e0 SAD (hb hby dgc1_6_0) ?_
  intro T1 X2 e3
  have hc3_4 : ¬ ((1 : Int32) = (0 : Int32)) := (by decide)
  refine g_ifYes X2 hx (hb hby dgc1_6_3) (feq hc3_4).2 (by decide) (pc' := 28) (by decide) ?_
  refine g_iloadN X2 hx (hb hby dgc1_6_28) rfl ?_
  refine g_iconst X2 hx (hb hby dgc1_6_29) (v := (1 : Int32)) (by decide) ?_
  refine g_ishl X2 hx (hb hby dgc1_6_30) (show (1 : Int32) <<< ((1 : Int32) &&& 31) = (2 : Int32) from by decide) ?_
  refine g_istoreN X2 hx (hb hby dgc1_6_31) (L' := #[.val (.ref q1), .val (.int (2 : Int32))]) rfl ?_
  refine g_aloadN X2 hx (hb hby dgc1_6_32) rfl rfl ?_
  refine g_iloadN X2 hx (hb hby dgc1_6_33) rfl ?_
  refine g_iinc X2 hx (hb hby dgc1_6_34) rfl (L' := #[.val (.ref q1), .val (.int (3 : Int32))]) rfl ?_
  refine g_baloadB X2 hx hZ e3 A0 (by decide) (by decide) (i := 2) (by decide) rfl (hb hby dgc1_6_37) ?_
  refine g_sipush X2 hx (hb hby dgc1_6_38) (v := (255 : Int32)) (by decide) ?_
  obtain ⟨i5, hi5⟩ : ∃ v : Int32, (F 2) &&& (255 : Int32) = v := ⟨_, rfl⟩
  refine g_iand X2 hx (hb hby dgc1_6_41) hi5 ?_
  refine g_getS X2 hx hZ hown (hw _ (List.mem_of_getElem? (i := 113) rfl)) e3 SHI (hb hby dgc1_6_42) ?_
  intro T6 X7 e8
  obtain ⟨i9, hi9⟩ : ∃ v : Int32, i5 <<< ((0 : Int32) &&& 31) = v := ⟨_, rfl⟩
  refine g_ishl X7 hx (hb hby dgc1_6_45) hi9 ?_
  refine g_aloadN X7 hx (hb hby dgc1_6_46) rfl rfl ?_
  refine g_iloadN X7 hx (hb hby dgc1_6_47) rfl ?_
  refine g_baloadB X7 hx hZ e8 A0 (by decide) (by decide) (i := 3) (by decide) rfl (hb hby dgc1_6_48) ?_
  refine g_sipush X7 hx (hb hby dgc1_6_49) (v := (255 : Int32)) (by decide) ?_
  obtain ⟨i10, hi10⟩ : ∃ v : Int32, (F 3) &&& (255 : Int32) = v := ⟨_, rfl⟩
  refine g_iand X7 hx (hb hby dgc1_6_52) hi10 ?_
  refine g_getS X7 hx hZ hown (hw _ (List.mem_of_getElem? (i := 114) rfl)) e8 SLO (hb hby dgc1_6_53) ?_
  intro T11 X12 e13
  obtain ⟨i14, hi14⟩ : ∃ v : Int32, i10 <<< ((8 : Int32) &&& 31) = v := ⟨_, rfl⟩
  refine g_ishl X12 hx (hb hby dgc1_6_56) hi14 ?_
  obtain ⟨i15, hi15⟩ : ∃ v : Int32, i9 ||| i14 = v := ⟨_, rfl⟩
  refine g_ior X12 hx (hb hby dgc1_6_57) hi15 ?_
  obtain ⟨i16, hi16⟩ : ∃ v : Int32, i15.toUInt32.toUInt16.toUInt32.toInt32 = v := ⟨_, rfl⟩
  refine g_i2c X12 hx (hb hby dgc1_6_58) hi16 ?_
  refine g_ireturn X12 hx Bd.notSynchronized Bd.returns (by subst hi5 hi9 hi10 hi14 hi15 hi16; exact own_narC _) (by simp) (hb hby dgc1_6_59) (by decide) (by decide) ?_
  subst hi5 hi9 hi10 hi14 hi15 hi16
  exact ⟨rfl, N0, e13⟩
theorem dgc2_6_0 : decode jdk_52_method_5_code 0 = .ok (.getstatic 44, 3) := by decide +kernel
theorem dgc2_6_3 : decode jdk_52_method_5_code 3 = .ok (.ifCond .ne 25, 3) := by decide +kernel
theorem dgc2_6_28 : decode jdk_52_method_5_code 28 = .ok (.iload_n 1, 1) := by decide +kernel
theorem dgc2_6_29 : decode jdk_52_method_5_code 29 = .ok (.iconst 1, 1) := by decide +kernel
theorem dgc2_6_30 : decode jdk_52_method_5_code 30 = .ok (.ishl, 1) := by decide +kernel
theorem dgc2_6_31 : decode jdk_52_method_5_code 31 = .ok (.istore_n 1, 1) := by decide +kernel
theorem dgc2_6_32 : decode jdk_52_method_5_code 32 = .ok (.aload_n 0, 1) := by decide +kernel
theorem dgc2_6_33 : decode jdk_52_method_5_code 33 = .ok (.iload_n 1, 1) := by decide +kernel
theorem dgc2_6_34 : decode jdk_52_method_5_code 34 = .ok (.iinc 1 1, 3) := by decide +kernel
theorem dgc2_6_37 : decode jdk_52_method_5_code 37 = .ok (.baload, 1) := by decide +kernel
theorem dgc2_6_38 : decode jdk_52_method_5_code 38 = .ok (.sipush 255, 3) := by decide +kernel
theorem dgc2_6_41 : decode jdk_52_method_5_code 41 = .ok (.iand, 1) := by decide +kernel
theorem dgc2_6_42 : decode jdk_52_method_5_code 42 = .ok (.getstatic 59, 3) := by decide +kernel
theorem dgc2_6_45 : decode jdk_52_method_5_code 45 = .ok (.ishl, 1) := by decide +kernel
theorem dgc2_6_46 : decode jdk_52_method_5_code 46 = .ok (.aload_n 0, 1) := by decide +kernel
theorem dgc2_6_47 : decode jdk_52_method_5_code 47 = .ok (.iload_n 1, 1) := by decide +kernel
theorem dgc2_6_48 : decode jdk_52_method_5_code 48 = .ok (.baload, 1) := by decide +kernel
theorem dgc2_6_49 : decode jdk_52_method_5_code 49 = .ok (.sipush 255, 3) := by decide +kernel
theorem dgc2_6_52 : decode jdk_52_method_5_code 52 = .ok (.iand, 1) := by decide +kernel
theorem dgc2_6_53 : decode jdk_52_method_5_code 53 = .ok (.getstatic 63, 3) := by decide +kernel
theorem dgc2_6_56 : decode jdk_52_method_5_code 56 = .ok (.ishl, 1) := by decide +kernel
theorem dgc2_6_57 : decode jdk_52_method_5_code 57 = .ok (.ior, 1) := by decide +kernel
theorem dgc2_6_58 : decode jdk_52_method_5_code 58 = .ok (.i2c, 1) := by decide +kernel
theorem dgc2_6_59 : decode jdk_52_method_5_code 59 = .ok (.ireturn, 1) := by decide +kernel
theorem pngc2_6 : plainName "java/lang/StringUTF16" = true := by first | (simp [plainName, overriddenIn]; done) | decide +kernel
theorem efgc2_6 (m : MethodId) (z0 : Addr) (z1 : Int32) : entryFrame m #[(.ref z0), (.int z1)] 2 = mkF m 0 #[.val (.ref z0), .val (.int z1)] [] := by first | (simp [entryFrame, mkF, argsToLocals, Value.category]; done) | rfl
def Qgc2_6 (Z : State) (q1 : Addr) (F : Nat → Int32) (h0 : Heap) (n0 : Nat) (v : Option Value) (h : Heap) (L : List Loc) : Prop := v = some (.int (own_g (F 4) (F 5))) ∧ Fr n0 L ∧ h = h0
set_option maxRecDepth 65536 in
set_option maxHeartbeats 40000000 in
theorem rmgc2_6 (l : Launch) (Z : State) (a0 : Array Value) (hw : ∀ d ∈ tables_1, d.before a0 Z = true) (ws : List Jvm.Cond) (q1 : Addr) (F : Nat → Int32) (h0 : Heap) (n0 : Nat) (Z0 : n0 ≤ h0.size) (SAD : Sta Z h0 "java/lang/StringUTF16" "$assertionsDisabled" "Z" (.int (1 : Int32))) (SHI : Sta Z h0 "java/lang/StringUTF16" "HI_BYTE_SHIFT" "I" (.int (0 : Int32))) (SLO : Sta Z h0 "java/lang/StringUTF16" "LO_BYTE_SHIFT" "I" (.int (8 : Int32))) (A0 : Av Z h0 q1 .byte 6 (fun i => .int (F i))) :
    MetFree l (⟨"java/lang/StringUTF16", "getChar", "([BI)C"⟩ : MethodName) (head1 (Jvm.Cond.code (⟨"java/lang/StringUTF16", "getChar", "([BI)C"⟩ : MethodName) jdk_52_method_5_code 2 (Option.some Jvm.ClassFile.FieldType.char) :: ws) ({ frames := 0, cells := 0, slots := 0, locals := 0 } : Room)) (fun a U => a = #[(.ref q1), (.int (2 : Int32))] ∧ Z.Warmed39 U.vm ∧ U.heap = h0) (fun _ _ _ _ _ => True) (fun _ U o U' => ∃ v L, o = .returned v ∧ Qgc2_6 Z q1 F h0 n0 v U'.heap L ∧ FrameEnd U o U' L ({ frames := 0, cells := 0, slots := 0, locals := 0 } : Room).cells ({ frames := 0, cells := 0, slots := 0, locals := 0 } : Room).slots) := by
  refine MetFree.of_bodySF (plainFor_of_name pngc2_6) hisR ?_
  intro p e s m args below meth c s₁ Bd hml0 hP hK
  obtain ⟨rfl, hZ, hh⟩ := hP
  have hx := Bd.exec
  have hby := Bd.bytes
  have hml : c.maxLocals = 2 := hml0
  have hown : s.vm.findClass "java/lang/StringUTF16" = some m.cls := findClass_of_methodNamed Bd.named
  have hnm := (name_of_methodNamed Bd.named Bd.method).1
  have X0 : Stand p l e ({ frames := 0, cells := 0, slots := 0, locals := 0 } : Room) s m #[(.ref q1), (.int (2 : Int32))] below meth c s₁ [] 0 0 := Stand.of_body Bd
  have e0 : s₁.heap = h0 := by rw [← hh, Bd.state]; rfl
  have N0 := Fr.nil n0
  show Go p e below (Ret s (Qgc2_6 Z q1 F h0 n0) ({ frames := 0, cells := 0, slots := 0, locals := 0 } : Room).cells ({ frames := 0, cells := 0, slots := 0, locals := 0 } : Room).slots) (s₁.setTop (entryFrame m #[(.ref q1), (.int (2 : Int32))] 2))
  rw [efgc2_6 m q1 (2 : Int32)]
  refine g_getS X0 hx hZ hown (hw _ (List.mem_of_getElem? (i := 112) rfl)) e0 SAD (hb hby dgc2_6_0) ?_
  intro T1 X2 e3
  have hc3_4 : ¬ ((1 : Int32) = (0 : Int32)) := (by decide)
  refine g_ifYes X2 hx (hb hby dgc2_6_3) (feq hc3_4).2 (by decide) (pc' := 28) (by decide) ?_
  refine g_iloadN X2 hx (hb hby dgc2_6_28) rfl ?_
  refine g_iconst X2 hx (hb hby dgc2_6_29) (v := (1 : Int32)) (by decide) ?_
  refine g_ishl X2 hx (hb hby dgc2_6_30) (show (2 : Int32) <<< ((1 : Int32) &&& 31) = (4 : Int32) from by decide) ?_
  refine g_istoreN X2 hx (hb hby dgc2_6_31) (L' := #[.val (.ref q1), .val (.int (4 : Int32))]) rfl ?_
  refine g_aloadN X2 hx (hb hby dgc2_6_32) rfl rfl ?_
  refine g_iloadN X2 hx (hb hby dgc2_6_33) rfl ?_
  refine g_iinc X2 hx (hb hby dgc2_6_34) rfl (L' := #[.val (.ref q1), .val (.int (5 : Int32))]) rfl ?_
  refine g_baloadB X2 hx hZ e3 A0 (by decide) (by decide) (i := 4) (by decide) rfl (hb hby dgc2_6_37) ?_
  refine g_sipush X2 hx (hb hby dgc2_6_38) (v := (255 : Int32)) (by decide) ?_
  obtain ⟨i5, hi5⟩ : ∃ v : Int32, (F 4) &&& (255 : Int32) = v := ⟨_, rfl⟩
  refine g_iand X2 hx (hb hby dgc2_6_41) hi5 ?_
  refine g_getS X2 hx hZ hown (hw _ (List.mem_of_getElem? (i := 113) rfl)) e3 SHI (hb hby dgc2_6_42) ?_
  intro T6 X7 e8
  obtain ⟨i9, hi9⟩ : ∃ v : Int32, i5 <<< ((0 : Int32) &&& 31) = v := ⟨_, rfl⟩
  refine g_ishl X7 hx (hb hby dgc2_6_45) hi9 ?_
  refine g_aloadN X7 hx (hb hby dgc2_6_46) rfl rfl ?_
  refine g_iloadN X7 hx (hb hby dgc2_6_47) rfl ?_
  refine g_baloadB X7 hx hZ e8 A0 (by decide) (by decide) (i := 5) (by decide) rfl (hb hby dgc2_6_48) ?_
  refine g_sipush X7 hx (hb hby dgc2_6_49) (v := (255 : Int32)) (by decide) ?_
  obtain ⟨i10, hi10⟩ : ∃ v : Int32, (F 5) &&& (255 : Int32) = v := ⟨_, rfl⟩
  refine g_iand X7 hx (hb hby dgc2_6_52) hi10 ?_
  refine g_getS X7 hx hZ hown (hw _ (List.mem_of_getElem? (i := 114) rfl)) e8 SLO (hb hby dgc2_6_53) ?_
  intro T11 X12 e13
  obtain ⟨i14, hi14⟩ : ∃ v : Int32, i10 <<< ((8 : Int32) &&& 31) = v := ⟨_, rfl⟩
  refine g_ishl X12 hx (hb hby dgc2_6_56) hi14 ?_
  obtain ⟨i15, hi15⟩ : ∃ v : Int32, i9 ||| i14 = v := ⟨_, rfl⟩
  refine g_ior X12 hx (hb hby dgc2_6_57) hi15 ?_
  obtain ⟨i16, hi16⟩ : ∃ v : Int32, i15.toUInt32.toUInt16.toUInt32.toInt32 = v := ⟨_, rfl⟩
  refine g_i2c X12 hx (hb hby dgc2_6_58) hi16 ?_
  refine g_ireturn X12 hx Bd.notSynchronized Bd.returns (by subst hi5 hi9 hi10 hi14 hi15 hi16; exact own_narC _) (by simp) (hb hby dgc2_6_59) (by decide) (by decide) ?_
  subst hi5 hi9 hi10 hi14 hi15 hi16
  exact ⟨rfl, N0, e13⟩
theorem dco3_0 : decode jdk_52_method_16_code 0 = .ok (.iload_n 2, 1) := by decide +kernel
theorem dco3_1 : decode jdk_52_method_16_code 1 = .ok (.newarray .byte, 2) := by decide +kernel
theorem dco3_3 : decode jdk_52_method_16_code 3 = .ok (.astore_n 3, 1) := by decide +kernel
theorem dco3_4 : decode jdk_52_method_16_code 4 = .ok (.aload_n 0, 1) := by decide +kernel
theorem dco3_5 : decode jdk_52_method_16_code 5 = .ok (.iload_n 1, 1) := by decide +kernel
theorem dco3_6 : decode jdk_52_method_16_code 6 = .ok (.aload_n 3, 1) := by decide +kernel
theorem dco3_7 : decode jdk_52_method_16_code 7 = .ok (.iconst 0, 1) := by decide +kernel
theorem dco3_8 : decode jdk_52_method_16_code 8 = .ok (.iload_n 2, 1) := by decide +kernel
theorem dco3_9 : decode jdk_52_method_16_code 9 = .ok (.invokestatic 115, 3) := by decide +kernel
theorem dco3_12 : decode jdk_52_method_16_code 12 = .ok (.istore 4, 2) := by decide +kernel
theorem dco3_14 : decode jdk_52_method_16_code 14 = .ok (.iload 4, 2) := by decide +kernel
theorem dco3_16 : decode jdk_52_method_16_code 16 = .ok (.iload_n 2, 1) := by decide +kernel
theorem dco3_17 : decode jdk_52_method_16_code 17 = .ok (.if_icmp .eq 40, 3) := by decide +kernel
theorem dco3_20 : decode jdk_52_method_16_code 20 = .ok (.aload_n 0, 1) := by decide +kernel
theorem dco3_21 : decode jdk_52_method_16_code 21 = .ok (.iload_n 1, 1) := by decide +kernel
theorem dco3_22 : decode jdk_52_method_16_code 22 = .ok (.iload_n 2, 1) := by decide +kernel
theorem dco3_23 : decode jdk_52_method_16_code 23 = .ok (.invokestatic 119, 3) := by decide +kernel
theorem dco3_26 : decode jdk_52_method_16_code 26 = .ok (.astore 5, 2) := by decide +kernel
theorem dco3_28 : decode jdk_52_method_16_code 28 = .ok (.aload 5, 2) := by decide +kernel
theorem dco3_30 : decode jdk_52_method_16_code 30 = .ok (.iload 4, 2) := by decide +kernel
theorem dco3_32 : decode jdk_52_method_16_code 32 = .ok (.invokestatic 71, 3) := by decide +kernel
theorem dco3_35 : decode jdk_52_method_16_code 35 = .ok (.sipush 255, 3) := by decide +kernel
theorem dco3_38 : decode jdk_52_method_16_code 38 = .ok (.if_icmp .gt 16, 3) := by decide +kernel
theorem dco3_54 : decode jdk_52_method_16_code 54 = .ok (.aload 5, 2) := by decide +kernel
theorem dco3_56 : decode jdk_52_method_16_code 56 = .ok (.areturn, 1) := by decide +kernel
theorem dco3_57 : decode jdk_52_method_16_code 57 = .ok (.aload_n 3, 1) := by decide +kernel
theorem dco3_58 : decode jdk_52_method_16_code 58 = .ok (.areturn, 1) := by decide +kernel
theorem pnco3 : plainName "java/lang/StringUTF16" = true := by first | (simp [plainName, overriddenIn]; done) | decide +kernel
theorem pdco3_0 : parseMethodDescriptor "([CI[BII)I" = some ⟨[(.array .char), .int, (.array .byte), .int, .int], some .int⟩ := by decide +kernel
theorem pdco3_1 : parseMethodDescriptor "([CII)[B" = some ⟨[(.array .char), .int, .int], some (.array .byte)⟩ := by decide +kernel
theorem pdco3_2 : parseMethodDescriptor "([BI)C" = some ⟨[(.array .byte), .int], some .char⟩ := by decide +kernel
theorem efco3 (m : MethodId) (z0 : Addr) (z1 : Int32) (z2 : Int32) : entryFrame m #[(.ref z0), (.int z1), (.int z2)] 6 = mkF m 0 #[.val (.ref z0), .val (.int z1), .val (.int z2), .unset, .unset, .unset] [] := by first | (simp [entryFrame, mkF, argsToLocals, Value.category]; done) | rfl
def Qco3 (Z : State) (q1 : Addr) (u : Nat → Int32) (h0 : Heap) (n0 : Nat) (v : Option Value) (h : Heap) (L : List Loc) : Prop := ∃ b : Addr, v = some (.ref b) ∧ Fr n0 L ∧ Keep h0 h [] ∧ h0.size ≤ b ∧ n0 ≤ b ∧ (((∀ i, i < 3 → ¬ (255 : Int32) < u i) ∧ Av Z h b .byte 3 (fun i => .int (own_b (u i)))) ∨ ((∃ k, k < 3 ∧ (255 : Int32) < u k) ∧ Av Z h b .byte 6 (fun i => .int (own_16 u i))))
set_option maxRecDepth 65536 in
set_option maxHeartbeats 40000000 in
theorem rmco3 (l : Launch) (Z : State) (a0 : Array Value) (hw : ∀ d ∈ tables_1, d.before a0 Z = true) (ws : List Jvm.Cond) (q1 : Addr) (u : Nat → Int32) (h0 : Heap) (n0 : Nat) (Z0 : n0 ≤ h0.size) (SAD : Sta Z h0 "java/lang/StringUTF16" "$assertionsDisabled" "Z" (.int (1 : Int32))) (SHI : Sta Z h0 "java/lang/StringUTF16" "HI_BYTE_SHIFT" "I" (.int (0 : Int32))) (SLO : Sta Z h0 "java/lang/StringUTF16" "LO_BYTE_SHIFT" "I" (.int (8 : Int32))) (A0 : Av Z h0 q1 .char 3 (fun i => .int (u i))) (hu : own_chr u) :
    MetFree l (⟨"java/lang/StringUTF16", "compress", "([CII)[B"⟩ : MethodName) (head1 (Jvm.Cond.code (⟨"java/lang/StringUTF16", "compress", "([CII)[B"⟩ : MethodName) jdk_52_method_16_code 6 (Option.some (Jvm.ClassFile.FieldType.array Jvm.ClassFile.FieldType.byte)) :: ws) ({ frames := 3, cells := 2, slots := 9, locals := 64 } : Room)) (fun a U => a = #[(.ref q1), (.int (0 : Int32)), (.int (3 : Int32))] ∧ Z.Warmed39 U.vm ∧ U.heap = h0) (fun _ _ _ _ _ => True) (fun _ U o U' => ∃ v L, o = .returned v ∧ Qco3 Z q1 u h0 n0 v U'.heap L ∧ FrameEnd U o U' L ({ frames := 3, cells := 2, slots := 9, locals := 64 } : Room).cells ({ frames := 3, cells := 2, slots := 9, locals := 64 } : Room).slots) := by
  refine MetFree.of_bodySF (plainFor_of_name pnco3) hisR ?_
  intro p e s m args below meth c s₁ Bd hml0 hP hK
  obtain ⟨rfl, hZ, hh⟩ := hP
  have hx := Bd.exec
  have hby := Bd.bytes
  have hml : c.maxLocals = 6 := hml0
  have hown : s.vm.findClass "java/lang/StringUTF16" = some m.cls := findClass_of_methodNamed Bd.named
  have hnm := (name_of_methodNamed Bd.named Bd.method).1
  have X0 : Stand p l e ({ frames := 3, cells := 2, slots := 9, locals := 64 } : Room) s m #[(.ref q1), (.int (0 : Int32)), (.int (3 : Int32))] below meth c s₁ [] 0 0 := Stand.of_body Bd
  have e0 : s₁.heap = h0 := by rw [← hh, Bd.state]; rfl
  have N0 := Fr.nil n0
  show Go p e below (Ret s (Qco3 Z q1 u h0 n0) ({ frames := 3, cells := 2, slots := 9, locals := 64 } : Room).cells ({ frames := 3, cells := 2, slots := 9, locals := 64 } : Room).slots) (s₁.setTop (entryFrame m #[(.ref q1), (.int (0 : Int32)), (.int (3 : Int32))] 6))
  rw [efco3 m q1 (0 : Int32) (3 : Int32)]
  have K0 : Keep h0 h0 [] := Keep.refl _ _
  refine g_iloadN X0 hx (hb hby dco3_0) rfl ?_
  refine g_newP X0 hx hZ (ty := .byte) rfl (hw _ (List.mem_of_getElem? (i := 18) rfl)) e0 (hb hby dco3_1) (by decide) (cap := 3) (by decide) (by decide) (by decide) (by decide) ?_
  intro T1 h4 d cA8 gd X2 e3 E5 F6 
  have ne_q1_d : q1 ≠ d := fun q => absurd A0.lt (by rw [q, gd]; exact Nat.lt_irrefl _)
  have ge_d : n0 ≤ d := by rw [gd]; exact Z0
  have gek_d : h0.size ≤ d := by rw [gd]; exact K0.1
  have F10 := SAD.ext E5
  have F11 := SHI.ext E5
  have F12 := SLO.ext E5
  have F13 := A0.ext E5
  have Z14 : n0 ≤ h4.size := Nat.le_trans Z0 E5.1
  have K15 := Keep.ext K0 E5
  have F9 : Av Z h4 d .byte 3 (fun _ => .int 0) := Av.newK F6 (by decide)
  refine g_astoreN X2 hx (hb hby dco3_3) rfl (L' := #[.val (.ref q1), .val (.int (0 : Int32)), .val (.int (3 : Int32)), .val (.ref d), .unset, .unset]) rfl ?_
  refine g_aloadN X2 hx (hb hby dco3_4) rfl rfl ?_
  refine g_iloadN X2 hx (hb hby dco3_5) rfl ?_
  refine g_aloadN X2 hx (hb hby dco3_6) rfl rfl ?_
  refine g_iconst X2 hx (hb hby dco3_7) (v := (0 : Int32)) (by decide) ?_
  refine g_iloadN X2 hx (hb hby dco3_8) rfl ?_
  refine g_callS X2 hx hZ hown (hw _ (List.mem_of_getElem? (i := 93) rfl)) (hw _ (List.mem_of_getElem? (i := 94) rfl)) (hw _ (List.mem_of_getElem? (i := 91) rfl)) (hw _ (List.mem_of_getElem? (i := 95) rfl)) (by decide) (rmci3 l Z a0 hw [] q1 d u (fun _ => 0) h4 n0 Z14 F13 F9 ne_q1_d ge_d) e3 (W := 0) (by decide) (by decide) (by rw [hml]; rfl) [(.ref q1), (.int (0 : Int32)), (.ref d), (.int (0 : Int32)), (.int (3 : Int32))] [] (lenOf pdco3_0 rfl) rfl rfl (Nat.le_of_eq rfl) (hb hby dco3_9) (by decide) (by decide) ?_
  intro v21 T17 L20 X18 hQ19
  rcases hQ19 with ⟨rfl, N22, K23, hall, A_d⟩ | ⟨rfl, N22, K23, hbig⟩ | ⟨rfl, N22, K23, hbig⟩ | ⟨rfl, N22, K23, hbig⟩
  ·
    have N24 := Fr.app N0 N22
    have F25 := Sta.keepN F10 K23 (nsS (Av.ns F9) ns0)
    have F26 := Sta.keepN F11 K23 (nsS (Av.ns F9) ns0)
    have F27 := Sta.keepN F12 K23 (nsS (Av.ns F9) ns0)
    have F28 := F13.keep K23 (ninS ne_q1_d nin0)
    have Z30 : n0 ≤ T17.heap.size := Nat.le_trans Z14 K23.1
    have K31 := Keep.trans K15 K23 (allS (Or.inr gek_d) all0)
    show Go p e below (Ret s (Qco3 Z q1 u h0 n0) ({ frames := 3, cells := 2, slots := 9, locals := 64 } : Room).cells ({ frames := 3, cells := 2, slots := 9, locals := 64 } : Room).slots) (T17.setTop (mkF m 12 #[.val (.ref q1), .val (.int (0 : Int32)), .val (.int (3 : Int32)), .val (.ref d), .unset, .unset] [(.int (3 : Int32))]))
    refine g_istore X18 hx (hb hby dco3_12) (L' := #[.val (.ref q1), .val (.int (0 : Int32)), .val (.int (3 : Int32)), .val (.ref d), .val (.int (3 : Int32)), .unset]) rfl ?_
    refine g_iload X18 hx (hb hby dco3_14) rfl ?_
    refine g_iloadN X18 hx (hb hby dco3_16) rfl ?_
    have hc17_33 : (3 : Int32) = (3 : Int32) := (by decide)
    refine g_icmpYes X18 hx (hb hby dco3_17) (teq hc17_33).1 (by decide) (pc' := 57) (by decide) ?_
    refine g_aloadN X18 hx (hb hby dco3_57) rfl rfl ?_
    refine g_areturn X18 hx Bd.notSynchronized Bd.returns rfl rfl (hb hby dco3_58) (by decide) (by decide) ?_
    exact ⟨d, rfl, N24, K31, gek_d, ge_d, Or.inl ⟨hall, A_d⟩⟩
  ·
    have N34 := Fr.app N0 N22
    have F35 := Sta.keepN F10 K23 (nsS (Av.ns F9) ns0)
    have F36 := Sta.keepN F11 K23 (nsS (Av.ns F9) ns0)
    have F37 := Sta.keepN F12 K23 (nsS (Av.ns F9) ns0)
    have F38 := F13.keep K23 (ninS ne_q1_d nin0)
    have Z40 : n0 ≤ T17.heap.size := Nat.le_trans Z14 K23.1
    have K41 := Keep.trans K15 K23 (allS (Or.inr gek_d) all0)
    show Go p e below (Ret s (Qco3 Z q1 u h0 n0) ({ frames := 3, cells := 2, slots := 9, locals := 64 } : Room).cells ({ frames := 3, cells := 2, slots := 9, locals := 64 } : Room).slots) (T17.setTop (mkF m 12 #[.val (.ref q1), .val (.int (0 : Int32)), .val (.int (3 : Int32)), .val (.ref d), .unset, .unset] [(.int (0 : Int32))]))
    refine g_istore X18 hx (hb hby dco3_12) (L' := #[.val (.ref q1), .val (.int (0 : Int32)), .val (.int (3 : Int32)), .val (.ref d), .val (.int (0 : Int32)), .unset]) rfl ?_
    refine g_iload X18 hx (hb hby dco3_14) rfl ?_
    refine g_iloadN X18 hx (hb hby dco3_16) rfl ?_
    have hc17_42 : ¬ ((0 : Int32) = (3 : Int32)) := (by decide)
    refine g_icmpNo X18 hx (hb hby dco3_17) (feq hc17_42).1 ?_
    refine g_aloadN X18 hx (hb hby dco3_20) rfl rfl ?_
    refine g_iloadN X18 hx (hb hby dco3_21) rfl ?_
    refine g_iloadN X18 hx (hb hby dco3_22) rfl ?_
    refine g_callS X18 hx hZ hown (hw _ (List.mem_of_getElem? (i := 99) rfl)) (hw _ (List.mem_of_getElem? (i := 100) rfl)) (hw _ (List.mem_of_getElem? (i := 91) rfl)) (hw _ (List.mem_of_getElem? (i := 101) rfl)) (by decide) (rmtb3 l Z a0 hw [] q1 u T17.heap n0 Z40 F35 F36 F37 F38) rfl (W := 0) (by decide) (by decide) (by rw [hml]; rfl) [(.ref q1), (.int (0 : Int32)), (.int (3 : Int32))] [] (lenOf pdco3_1 rfl) rfl rfl (Nat.le_of_eq rfl) (hb hby dco3_23) (by decide) (by decide) ?_
    intro v47 T43 L46 X44 hQ45
    obtain ⟨b, rfl, N48, K49, g50, g51, A_b⟩ := hQ45
    have N52 := Fr.app N34 N48
    have ne_q1_b : q1 ≠ b := fun q => absurd F38.lt (by rw [q]; exact Nat.not_lt.mpr g50)
    have F53 := Sta.keepN F35 K49 ns0
    have F54 := Sta.keepN F36 K49 ns0
    have F55 := Sta.keepN F37 K49 ns0
    have F56 := F38.keep K49 nin0
    have Z57 : n0 ≤ T43.heap.size := Nat.le_trans Z40 K49.1
    have K58 := Keep.trans K41 K49 all0
    have gek_b : h0.size ≤ b := Nat.le_trans K41.1 g50
    show Go p e below (Ret s (Qco3 Z q1 u h0 n0) ({ frames := 3, cells := 2, slots := 9, locals := 64 } : Room).cells ({ frames := 3, cells := 2, slots := 9, locals := 64 } : Room).slots) (T43.setTop (mkF m 26 #[.val (.ref q1), .val (.int (0 : Int32)), .val (.int (3 : Int32)), .val (.ref d), .val (.int (0 : Int32)), .unset] [(.ref b)]))
    refine g_astore X44 hx (hb hby dco3_26) rfl (L' := #[.val (.ref q1), .val (.int (0 : Int32)), .val (.int (3 : Int32)), .val (.ref d), .val (.int (0 : Int32)), .val (.ref b)]) rfl ?_
    refine g_aload X44 hx (hb hby dco3_28) rfl rfl ?_
    refine g_iload X44 hx (hb hby dco3_30) rfl ?_
    refine g_callS X44 hx hZ hown (hw _ (List.mem_of_getElem? (i := 115) rfl)) (hw _ (List.mem_of_getElem? (i := 116) rfl)) (hw _ (List.mem_of_getElem? (i := 91) rfl)) (hw _ (List.mem_of_getElem? (i := 117) rfl)) (by decide) (rmgc0_6 l Z a0 hw [] b (own_16 u) T43.heap n0 Z57 F53 F54 F55 A_b) rfl (W := 0) (by decide) (by decide) (by rw [hml]; rfl) [(.ref b), (.int (0 : Int32))] [] (lenOf pdco3_2 rfl) rfl rfl (Nat.le_of_eq rfl) (hb hby dco3_32) (by decide) (by decide) ?_
    intro v64 T60 L63 X61 hQ62
    obtain ⟨rfl, N65, e66⟩ := hQ62
    have N67 := Fr.app N52 N65
    show Go p e below (Ret s (Qco3 Z q1 u h0 n0) ({ frames := 3, cells := 2, slots := 9, locals := 64 } : Room).cells ({ frames := 3, cells := 2, slots := 9, locals := 64 } : Room).slots) (T60.setTop (mkF m 35 #[.val (.ref q1), .val (.int (0 : Int32)), .val (.int (3 : Int32)), .val (.ref d), .val (.int (0 : Int32)), .val (.ref b)] [(.int (own_g (own_16 u 0) (own_16 u 1)))]))
    refine g_sipush X61 hx (hb hby dco3_35) (v := (255 : Int32)) (by decide) ?_
    have hc38_68 : (255 : Int32) < (own_g (own_16 u 0) (own_16 u 1)) := (by show _ < own_g (own_lo (u 0)) (own_hi (u 0)); rw [own_gc (hu 0)]; exact hbig)
    refine g_icmpYes X61 hx (hb hby dco3_38) (tlt hc38_68).2.2.1 (by decide) (pc' := 54) (by decide) ?_
    refine g_aload X61 hx (hb hby dco3_54) rfl rfl ?_
    refine g_areturn X61 hx Bd.notSynchronized Bd.returns rfl rfl (hb hby dco3_56) (by decide) (by decide) ?_
    rw [e66]
    exact ⟨b, rfl, N67, K58, gek_b, g51, Or.inr ⟨⟨0, by decide, hbig⟩, A_b⟩⟩
  ·
    have N69 := Fr.app N0 N22
    have F70 := Sta.keepN F10 K23 (nsS (Av.ns F9) ns0)
    have F71 := Sta.keepN F11 K23 (nsS (Av.ns F9) ns0)
    have F72 := Sta.keepN F12 K23 (nsS (Av.ns F9) ns0)
    have F73 := F13.keep K23 (ninS ne_q1_d nin0)
    have Z75 : n0 ≤ T17.heap.size := Nat.le_trans Z14 K23.1
    have K76 := Keep.trans K15 K23 (allS (Or.inr gek_d) all0)
    show Go p e below (Ret s (Qco3 Z q1 u h0 n0) ({ frames := 3, cells := 2, slots := 9, locals := 64 } : Room).cells ({ frames := 3, cells := 2, slots := 9, locals := 64 } : Room).slots) (T17.setTop (mkF m 12 #[.val (.ref q1), .val (.int (0 : Int32)), .val (.int (3 : Int32)), .val (.ref d), .unset, .unset] [(.int (1 : Int32))]))
    refine g_istore X18 hx (hb hby dco3_12) (L' := #[.val (.ref q1), .val (.int (0 : Int32)), .val (.int (3 : Int32)), .val (.ref d), .val (.int (1 : Int32)), .unset]) rfl ?_
    refine g_iload X18 hx (hb hby dco3_14) rfl ?_
    refine g_iloadN X18 hx (hb hby dco3_16) rfl ?_
    have hc17_77 : ¬ ((1 : Int32) = (3 : Int32)) := (by decide)
    refine g_icmpNo X18 hx (hb hby dco3_17) (feq hc17_77).1 ?_
    refine g_aloadN X18 hx (hb hby dco3_20) rfl rfl ?_
    refine g_iloadN X18 hx (hb hby dco3_21) rfl ?_
    refine g_iloadN X18 hx (hb hby dco3_22) rfl ?_
    refine g_callS X18 hx hZ hown (hw _ (List.mem_of_getElem? (i := 99) rfl)) (hw _ (List.mem_of_getElem? (i := 100) rfl)) (hw _ (List.mem_of_getElem? (i := 91) rfl)) (hw _ (List.mem_of_getElem? (i := 101) rfl)) (by decide) (rmtb3 l Z a0 hw [] q1 u T17.heap n0 Z75 F70 F71 F72 F73) rfl (W := 0) (by decide) (by decide) (by rw [hml]; rfl) [(.ref q1), (.int (0 : Int32)), (.int (3 : Int32))] [] (lenOf pdco3_1 rfl) rfl rfl (Nat.le_of_eq rfl) (hb hby dco3_23) (by decide) (by decide) ?_
    intro v82 T78 L81 X79 hQ80
    obtain ⟨b, rfl, N83, K84, g85, g86, A_b⟩ := hQ80
    have N87 := Fr.app N69 N83
    have ne_q1_b : q1 ≠ b := fun q => absurd F73.lt (by rw [q]; exact Nat.not_lt.mpr g85)
    have F88 := Sta.keepN F70 K84 ns0
    have F89 := Sta.keepN F71 K84 ns0
    have F90 := Sta.keepN F72 K84 ns0
    have F91 := F73.keep K84 nin0
    have Z92 : n0 ≤ T78.heap.size := Nat.le_trans Z75 K84.1
    have K93 := Keep.trans K76 K84 all0
    have gek_b : h0.size ≤ b := Nat.le_trans K76.1 g85
    show Go p e below (Ret s (Qco3 Z q1 u h0 n0) ({ frames := 3, cells := 2, slots := 9, locals := 64 } : Room).cells ({ frames := 3, cells := 2, slots := 9, locals := 64 } : Room).slots) (T78.setTop (mkF m 26 #[.val (.ref q1), .val (.int (0 : Int32)), .val (.int (3 : Int32)), .val (.ref d), .val (.int (1 : Int32)), .unset] [(.ref b)]))
    refine g_astore X79 hx (hb hby dco3_26) rfl (L' := #[.val (.ref q1), .val (.int (0 : Int32)), .val (.int (3 : Int32)), .val (.ref d), .val (.int (1 : Int32)), .val (.ref b)]) rfl ?_
    refine g_aload X79 hx (hb hby dco3_28) rfl rfl ?_
    refine g_iload X79 hx (hb hby dco3_30) rfl ?_
    refine g_callS X79 hx hZ hown (hw _ (List.mem_of_getElem? (i := 115) rfl)) (hw _ (List.mem_of_getElem? (i := 116) rfl)) (hw _ (List.mem_of_getElem? (i := 91) rfl)) (hw _ (List.mem_of_getElem? (i := 117) rfl)) (by decide) (rmgc1_6 l Z a0 hw [] b (own_16 u) T78.heap n0 Z92 F88 F89 F90 A_b) rfl (W := 0) (by decide) (by decide) (by rw [hml]; rfl) [(.ref b), (.int (1 : Int32))] [] (lenOf pdco3_2 rfl) rfl rfl (Nat.le_of_eq rfl) (hb hby dco3_32) (by decide) (by decide) ?_
    intro v99 T95 L98 X96 hQ97
    obtain ⟨rfl, N100, e101⟩ := hQ97
    have N102 := Fr.app N87 N100
    show Go p e below (Ret s (Qco3 Z q1 u h0 n0) ({ frames := 3, cells := 2, slots := 9, locals := 64 } : Room).cells ({ frames := 3, cells := 2, slots := 9, locals := 64 } : Room).slots) (T95.setTop (mkF m 35 #[.val (.ref q1), .val (.int (0 : Int32)), .val (.int (3 : Int32)), .val (.ref d), .val (.int (1 : Int32)), .val (.ref b)] [(.int (own_g (own_16 u 2) (own_16 u 3)))]))
    refine g_sipush X96 hx (hb hby dco3_35) (v := (255 : Int32)) (by decide) ?_
    have hc38_103 : (255 : Int32) < (own_g (own_16 u 2) (own_16 u 3)) := (by show _ < own_g (own_lo (u 1)) (own_hi (u 1)); rw [own_gc (hu 1)]; exact hbig)
    refine g_icmpYes X96 hx (hb hby dco3_38) (tlt hc38_103).2.2.1 (by decide) (pc' := 54) (by decide) ?_
    refine g_aload X96 hx (hb hby dco3_54) rfl rfl ?_
    refine g_areturn X96 hx Bd.notSynchronized Bd.returns rfl rfl (hb hby dco3_56) (by decide) (by decide) ?_
    rw [e101]
    exact ⟨b, rfl, N102, K93, gek_b, g86, Or.inr ⟨⟨1, by decide, hbig⟩, A_b⟩⟩
  ·
    have N104 := Fr.app N0 N22
    have F105 := Sta.keepN F10 K23 (nsS (Av.ns F9) ns0)
    have F106 := Sta.keepN F11 K23 (nsS (Av.ns F9) ns0)
    have F107 := Sta.keepN F12 K23 (nsS (Av.ns F9) ns0)
    have F108 := F13.keep K23 (ninS ne_q1_d nin0)
    have Z110 : n0 ≤ T17.heap.size := Nat.le_trans Z14 K23.1
    have K111 := Keep.trans K15 K23 (allS (Or.inr gek_d) all0)
    show Go p e below (Ret s (Qco3 Z q1 u h0 n0) ({ frames := 3, cells := 2, slots := 9, locals := 64 } : Room).cells ({ frames := 3, cells := 2, slots := 9, locals := 64 } : Room).slots) (T17.setTop (mkF m 12 #[.val (.ref q1), .val (.int (0 : Int32)), .val (.int (3 : Int32)), .val (.ref d), .unset, .unset] [(.int (2 : Int32))]))
    refine g_istore X18 hx (hb hby dco3_12) (L' := #[.val (.ref q1), .val (.int (0 : Int32)), .val (.int (3 : Int32)), .val (.ref d), .val (.int (2 : Int32)), .unset]) rfl ?_
    refine g_iload X18 hx (hb hby dco3_14) rfl ?_
    refine g_iloadN X18 hx (hb hby dco3_16) rfl ?_
    have hc17_112 : ¬ ((2 : Int32) = (3 : Int32)) := (by decide)
    refine g_icmpNo X18 hx (hb hby dco3_17) (feq hc17_112).1 ?_
    refine g_aloadN X18 hx (hb hby dco3_20) rfl rfl ?_
    refine g_iloadN X18 hx (hb hby dco3_21) rfl ?_
    refine g_iloadN X18 hx (hb hby dco3_22) rfl ?_
    refine g_callS X18 hx hZ hown (hw _ (List.mem_of_getElem? (i := 99) rfl)) (hw _ (List.mem_of_getElem? (i := 100) rfl)) (hw _ (List.mem_of_getElem? (i := 91) rfl)) (hw _ (List.mem_of_getElem? (i := 101) rfl)) (by decide) (rmtb3 l Z a0 hw [] q1 u T17.heap n0 Z110 F105 F106 F107 F108) rfl (W := 0) (by decide) (by decide) (by rw [hml]; rfl) [(.ref q1), (.int (0 : Int32)), (.int (3 : Int32))] [] (lenOf pdco3_1 rfl) rfl rfl (Nat.le_of_eq rfl) (hb hby dco3_23) (by decide) (by decide) ?_
    intro v117 T113 L116 X114 hQ115
    obtain ⟨b, rfl, N118, K119, g120, g121, A_b⟩ := hQ115
    have N122 := Fr.app N104 N118
    have ne_q1_b : q1 ≠ b := fun q => absurd F108.lt (by rw [q]; exact Nat.not_lt.mpr g120)
    have F123 := Sta.keepN F105 K119 ns0
    have F124 := Sta.keepN F106 K119 ns0
    have F125 := Sta.keepN F107 K119 ns0
    have F126 := F108.keep K119 nin0
    have Z127 : n0 ≤ T113.heap.size := Nat.le_trans Z110 K119.1
    have K128 := Keep.trans K111 K119 all0
    have gek_b : h0.size ≤ b := Nat.le_trans K111.1 g120
    show Go p e below (Ret s (Qco3 Z q1 u h0 n0) ({ frames := 3, cells := 2, slots := 9, locals := 64 } : Room).cells ({ frames := 3, cells := 2, slots := 9, locals := 64 } : Room).slots) (T113.setTop (mkF m 26 #[.val (.ref q1), .val (.int (0 : Int32)), .val (.int (3 : Int32)), .val (.ref d), .val (.int (2 : Int32)), .unset] [(.ref b)]))
    refine g_astore X114 hx (hb hby dco3_26) rfl (L' := #[.val (.ref q1), .val (.int (0 : Int32)), .val (.int (3 : Int32)), .val (.ref d), .val (.int (2 : Int32)), .val (.ref b)]) rfl ?_
    refine g_aload X114 hx (hb hby dco3_28) rfl rfl ?_
    refine g_iload X114 hx (hb hby dco3_30) rfl ?_
    refine g_callS X114 hx hZ hown (hw _ (List.mem_of_getElem? (i := 115) rfl)) (hw _ (List.mem_of_getElem? (i := 116) rfl)) (hw _ (List.mem_of_getElem? (i := 91) rfl)) (hw _ (List.mem_of_getElem? (i := 117) rfl)) (by decide) (rmgc2_6 l Z a0 hw [] b (own_16 u) T113.heap n0 Z127 F123 F124 F125 A_b) rfl (W := 0) (by decide) (by decide) (by rw [hml]; rfl) [(.ref b), (.int (2 : Int32))] [] (lenOf pdco3_2 rfl) rfl rfl (Nat.le_of_eq rfl) (hb hby dco3_32) (by decide) (by decide) ?_
    intro v134 T130 L133 X131 hQ132
    obtain ⟨rfl, N135, e136⟩ := hQ132
    have N137 := Fr.app N122 N135
    show Go p e below (Ret s (Qco3 Z q1 u h0 n0) ({ frames := 3, cells := 2, slots := 9, locals := 64 } : Room).cells ({ frames := 3, cells := 2, slots := 9, locals := 64 } : Room).slots) (T130.setTop (mkF m 35 #[.val (.ref q1), .val (.int (0 : Int32)), .val (.int (3 : Int32)), .val (.ref d), .val (.int (2 : Int32)), .val (.ref b)] [(.int (own_g (own_16 u 4) (own_16 u 5)))]))
    refine g_sipush X131 hx (hb hby dco3_35) (v := (255 : Int32)) (by decide) ?_
    have hc38_138 : (255 : Int32) < (own_g (own_16 u 4) (own_16 u 5)) := (by show _ < own_g (own_lo (u 2)) (own_hi (u 2)); rw [own_gc (hu 2)]; exact hbig)
    refine g_icmpYes X131 hx (hb hby dco3_38) (tlt hc38_138).2.2.1 (by decide) (pc' := 54) (by decide) ?_
    refine g_aload X131 hx (hb hby dco3_54) rfl rfl ?_
    refine g_areturn X131 hx Bd.notSynchronized Bd.returns rfl rfl (hb hby dco3_56) (by decide) (by decide) ?_
    rw [e136]
    exact ⟨b, rfl, N137, K128, gek_b, g121, Or.inr ⟨⟨2, by decide, hbig⟩, A_b⟩⟩
theorem dcd3_3_0 : decode jdk_52_method_15_code 0 = .ok (.iload_n 1, 1) := by decide +kernel
theorem dcd3_3_1 : decode jdk_52_method_15_code 1 = .ok (.aload_n 0, 1) := by decide +kernel
theorem dcd3_3_2 : decode jdk_52_method_15_code 2 = .ok (.arraylength, 1) := by decide +kernel
theorem dcd3_3_3 : decode jdk_52_method_15_code 3 = .ok (.isub, 1) := by decide +kernel
theorem dcd3_3_4 : decode jdk_52_method_15_code 4 = .ok (.bipush 31, 2) := by decide +kernel
theorem dcd3_3_6 : decode jdk_52_method_15_code 6 = .ok (.iushr, 1) := by decide +kernel
theorem dcd3_3_7 : decode jdk_52_method_15_code 7 = .ok (.i2b, 1) := by decide +kernel
theorem dcd3_3_8 : decode jdk_52_method_15_code 8 = .ok (.ireturn, 1) := by decide +kernel
theorem pncd3_3 : plainName "java/lang/StringUTF16" = true := by first | (simp [plainName, overriddenIn]; done) | decide +kernel
theorem efcd3_3 (m : MethodId) (z0 : Addr) (z1 : Int32) : entryFrame m #[(.ref z0), (.int z1)] 2 = mkF m 0 #[.val (.ref z0), .val (.int z1)] [] := by first | (simp [entryFrame, mkF, argsToLocals, Value.category]; done) | rfl
def Qcd3_3 (Z : State) (q1 : Addr) (F : Nat → Int32) (h0 : Heap) (n0 : Nat) (v : Option Value) (h : Heap) (L : List Loc) : Prop := v = some (.int 0) ∧ Fr n0 L ∧ h = h0
set_option maxRecDepth 65536 in
set_option maxHeartbeats 40000000 in
theorem rmcd3_3 (l : Launch) (Z : State) (a0 : Array Value) (hw : ∀ d ∈ tables_1, d.before a0 Z = true) (ws : List Jvm.Cond) (q1 : Addr) (F : Nat → Int32) (h0 : Heap) (n0 : Nat) (Z0 : n0 ≤ h0.size) (A0 : Av Z h0 q1 .byte 3 (fun i => .int (F i))) :
    MetFree l (⟨"java/lang/StringUTF16", "coderFromArrayLen", "([BI)B"⟩ : MethodName) (head1 (Jvm.Cond.code (⟨"java/lang/StringUTF16", "coderFromArrayLen", "([BI)B"⟩ : MethodName) jdk_52_method_15_code 2 (Option.some Jvm.ClassFile.FieldType.byte) :: ws) ({ frames := 0, cells := 0, slots := 0, locals := 0 } : Room)) (fun a U => a = #[(.ref q1), (.int (3 : Int32))] ∧ Z.Warmed39 U.vm ∧ U.heap = h0) (fun _ _ _ _ _ => True) (fun _ U o U' => ∃ v L, o = .returned v ∧ Qcd3_3 Z q1 F h0 n0 v U'.heap L ∧ FrameEnd U o U' L ({ frames := 0, cells := 0, slots := 0, locals := 0 } : Room).cells ({ frames := 0, cells := 0, slots := 0, locals := 0 } : Room).slots) := by
  refine MetFree.of_bodySF (plainFor_of_name pncd3_3) hisR ?_
  intro p e s m args below meth c s₁ Bd hml0 hP hK
  obtain ⟨rfl, hZ, hh⟩ := hP
  have hx := Bd.exec
  have hby := Bd.bytes
  have hml : c.maxLocals = 2 := hml0
  have hown : s.vm.findClass "java/lang/StringUTF16" = some m.cls := findClass_of_methodNamed Bd.named
  have hnm := (name_of_methodNamed Bd.named Bd.method).1
  have X0 : Stand p l e ({ frames := 0, cells := 0, slots := 0, locals := 0 } : Room) s m #[(.ref q1), (.int (3 : Int32))] below meth c s₁ [] 0 0 := Stand.of_body Bd
  have e0 : s₁.heap = h0 := by rw [← hh, Bd.state]; rfl
  have N0 := Fr.nil n0
  show Go p e below (Ret s (Qcd3_3 Z q1 F h0 n0) ({ frames := 0, cells := 0, slots := 0, locals := 0 } : Room).cells ({ frames := 0, cells := 0, slots := 0, locals := 0 } : Room).slots) (s₁.setTop (entryFrame m #[(.ref q1), (.int (3 : Int32))] 2))
  rw [efcd3_3 m q1 (3 : Int32)]
  refine g_iloadN X0 hx (hb hby dcd3_3_0) rfl ?_
  refine g_aloadN X0 hx (hb hby dcd3_3_1) rfl rfl ?_
  refine g_arraylength X0 hx hZ e0 A0 (show Nat.toInt32 3 = (3 : Int32) from by decide) (hb hby dcd3_3_2) ?_
  refine g_isub X0 hx (hb hby dcd3_3_3) (show (3 : Int32) - (3 : Int32) = (0 : Int32) from by decide) ?_
  refine g_bipush X0 hx (hb hby dcd3_3_4) (v := (31 : Int32)) (by decide) ?_
  refine g_iushr X0 hx (hb hby dcd3_3_6) (show ((0 : Int32).toUInt32 >>> ((31 : Int32) &&& 31).toUInt32).toInt32 = (0 : Int32) from by decide) ?_
  refine g_i2b X0 hx (hb hby dcd3_3_7) (show (0 : Int32).toInt8.toInt32 = (0 : Int32) from by decide) ?_
  refine g_ireturn X0 hx Bd.notSynchronized Bd.returns rfl (by simp) (hb hby dcd3_3_8) (by decide) (by decide) ?_
  exact ⟨rfl, N0, e0⟩
theorem dcd6_3_0 : decode jdk_52_method_15_code 0 = .ok (.iload_n 1, 1) := by decide +kernel
theorem dcd6_3_1 : decode jdk_52_method_15_code 1 = .ok (.aload_n 0, 1) := by decide +kernel
theorem dcd6_3_2 : decode jdk_52_method_15_code 2 = .ok (.arraylength, 1) := by decide +kernel
theorem dcd6_3_3 : decode jdk_52_method_15_code 3 = .ok (.isub, 1) := by decide +kernel
theorem dcd6_3_4 : decode jdk_52_method_15_code 4 = .ok (.bipush 31, 2) := by decide +kernel
theorem dcd6_3_6 : decode jdk_52_method_15_code 6 = .ok (.iushr, 1) := by decide +kernel
theorem dcd6_3_7 : decode jdk_52_method_15_code 7 = .ok (.i2b, 1) := by decide +kernel
theorem dcd6_3_8 : decode jdk_52_method_15_code 8 = .ok (.ireturn, 1) := by decide +kernel
theorem pncd6_3 : plainName "java/lang/StringUTF16" = true := by first | (simp [plainName, overriddenIn]; done) | decide +kernel
theorem efcd6_3 (m : MethodId) (z0 : Addr) (z1 : Int32) : entryFrame m #[(.ref z0), (.int z1)] 2 = mkF m 0 #[.val (.ref z0), .val (.int z1)] [] := by first | (simp [entryFrame, mkF, argsToLocals, Value.category]; done) | rfl
def Qcd6_3 (Z : State) (q1 : Addr) (F : Nat → Int32) (h0 : Heap) (n0 : Nat) (v : Option Value) (h : Heap) (L : List Loc) : Prop := v = some (.int 1) ∧ Fr n0 L ∧ h = h0
set_option maxRecDepth 65536 in
set_option maxHeartbeats 40000000 in
theorem rmcd6_3 (l : Launch) (Z : State) (a0 : Array Value) (hw : ∀ d ∈ tables_1, d.before a0 Z = true) (ws : List Jvm.Cond) (q1 : Addr) (F : Nat → Int32) (h0 : Heap) (n0 : Nat) (Z0 : n0 ≤ h0.size) (A0 : Av Z h0 q1 .byte 6 (fun i => .int (F i))) :
    MetFree l (⟨"java/lang/StringUTF16", "coderFromArrayLen", "([BI)B"⟩ : MethodName) (head1 (Jvm.Cond.code (⟨"java/lang/StringUTF16", "coderFromArrayLen", "([BI)B"⟩ : MethodName) jdk_52_method_15_code 2 (Option.some Jvm.ClassFile.FieldType.byte) :: ws) ({ frames := 0, cells := 0, slots := 0, locals := 0 } : Room)) (fun a U => a = #[(.ref q1), (.int (3 : Int32))] ∧ Z.Warmed39 U.vm ∧ U.heap = h0) (fun _ _ _ _ _ => True) (fun _ U o U' => ∃ v L, o = .returned v ∧ Qcd6_3 Z q1 F h0 n0 v U'.heap L ∧ FrameEnd U o U' L ({ frames := 0, cells := 0, slots := 0, locals := 0 } : Room).cells ({ frames := 0, cells := 0, slots := 0, locals := 0 } : Room).slots) := by
  refine MetFree.of_bodySF (plainFor_of_name pncd6_3) hisR ?_
  intro p e s m args below meth c s₁ Bd hml0 hP hK
  obtain ⟨rfl, hZ, hh⟩ := hP
  have hx := Bd.exec
  have hby := Bd.bytes
  have hml : c.maxLocals = 2 := hml0
  have hown : s.vm.findClass "java/lang/StringUTF16" = some m.cls := findClass_of_methodNamed Bd.named
  have hnm := (name_of_methodNamed Bd.named Bd.method).1
  have X0 : Stand p l e ({ frames := 0, cells := 0, slots := 0, locals := 0 } : Room) s m #[(.ref q1), (.int (3 : Int32))] below meth c s₁ [] 0 0 := Stand.of_body Bd
  have e0 : s₁.heap = h0 := by rw [← hh, Bd.state]; rfl
  have N0 := Fr.nil n0
  show Go p e below (Ret s (Qcd6_3 Z q1 F h0 n0) ({ frames := 0, cells := 0, slots := 0, locals := 0 } : Room).cells ({ frames := 0, cells := 0, slots := 0, locals := 0 } : Room).slots) (s₁.setTop (entryFrame m #[(.ref q1), (.int (3 : Int32))] 2))
  rw [efcd6_3 m q1 (3 : Int32)]
  refine g_iloadN X0 hx (hb hby dcd6_3_0) rfl ?_
  refine g_aloadN X0 hx (hb hby dcd6_3_1) rfl rfl ?_
  refine g_arraylength X0 hx hZ e0 A0 (show Nat.toInt32 6 = (6 : Int32) from by decide) (hb hby dcd6_3_2) ?_
  refine g_isub X0 hx (hb hby dcd6_3_3) (show (3 : Int32) - (6 : Int32) = (-3 : Int32) from by decide) ?_
  refine g_bipush X0 hx (hb hby dcd6_3_4) (v := (31 : Int32)) (by decide) ?_
  refine g_iushr X0 hx (hb hby dcd6_3_6) (show ((-3 : Int32).toUInt32 >>> ((31 : Int32) &&& 31).toUInt32).toInt32 = (1 : Int32) from by decide) ?_
  refine g_i2b X0 hx (hb hby dcd6_3_7) (show (1 : Int32).toInt8.toInt32 = (1 : Int32) from by decide) ?_
  refine g_ireturn X0 hx Bd.notSynchronized Bd.returns rfl (by simp) (hb hby dcd6_3_8) (by decide) (by decide) ?_
  exact ⟨rfl, N0, e0⟩
theorem di4_3_0 : decode jdk_42_method_149_code 0 = .ok (.aload_n 0, 1) := by decide +kernel
theorem di4_3_1 : decode jdk_42_method_149_code 1 = .ok (.invokespecial 1, 3) := by decide +kernel
theorem di4_3_4 : decode jdk_42_method_149_code 4 = .ok (.iload_n 3, 1) := by decide +kernel
theorem di4_3_5 : decode jdk_42_method_149_code 5 = .ok (.ifCond .ne 22, 3) := by decide +kernel
theorem di4_3_27 : decode jdk_42_method_149_code 27 = .ok (.getstatic 38, 3) := by decide +kernel
theorem di4_3_30 : decode jdk_42_method_149_code 30 = .ok (.ifCond .eq 28, 3) := by decide +kernel
theorem di4_3_33 : decode jdk_42_method_149_code 33 = .ok (.aload_n 1, 1) := by decide +kernel
theorem di4_3_34 : decode jdk_42_method_149_code 34 = .ok (.iload_n 2, 1) := by decide +kernel
theorem di4_3_35 : decode jdk_42_method_149_code 35 = .ok (.iload_n 3, 1) := by decide +kernel
theorem di4_3_36 : decode jdk_42_method_149_code 36 = .ok (.invokestatic 177, 3) := by decide +kernel
theorem di4_3_39 : decode jdk_42_method_149_code 39 = .ok (.astore 5, 2) := by decide +kernel
theorem di4_3_41 : decode jdk_42_method_149_code 41 = .ok (.aload_n 0, 1) := by decide +kernel
theorem di4_3_42 : decode jdk_42_method_149_code 42 = .ok (.aload 5, 2) := by decide +kernel
theorem di4_3_44 : decode jdk_42_method_149_code 44 = .ok (.iload_n 3, 1) := by decide +kernel
theorem di4_3_45 : decode jdk_42_method_149_code 45 = .ok (.invokestatic 47, 3) := by decide +kernel
theorem di4_3_48 : decode jdk_42_method_149_code 48 = .ok (.putfield 15, 3) := by decide +kernel
theorem di4_3_51 : decode jdk_42_method_149_code 51 = .ok (.aload_n 0, 1) := by decide +kernel
theorem di4_3_52 : decode jdk_42_method_149_code 52 = .ok (.aload 5, 2) := by decide +kernel
theorem di4_3_54 : decode jdk_42_method_149_code 54 = .ok (.putfield 9, 3) := by decide +kernel
theorem di4_3_57 : decode jdk_42_method_149_code 57 = .ok (.return_, 1) := by decide +kernel
theorem pni4_3 : plainName "java/lang/String" = true := by first | (simp [plainName, overriddenIn]; done) | decide +kernel
theorem pdi4_3_0 : parseMethodDescriptor "([CII)[B" = some ⟨[(.array .char), .int, .int], some (.array .byte)⟩ := by decide +kernel
theorem pdi4_3_1 : parseMethodDescriptor "([BI)B" = some ⟨[(.array .byte), .int], some .byte⟩ := by decide +kernel
theorem efi4_3 (m : MethodId) (z0 : Addr) (z1 : Addr) (z2 : Int32) (z3 : Int32) : entryFrame m #[(.ref z0), (.ref z1), (.int z2), (.int z3), .null] 6 = mkF m 0 #[.val (.ref z0), .val (.ref z1), .val (.int z2), .val (.int z3), .val .null, .unset] [] := by first | (simp [entryFrame, mkF, argsToLocals, Value.category]; done) | rfl
def Qi4_3 (Z : State) (q1 : Addr) (q2 : Addr) (u : Nat → Int32) (cs : Int32) (h0 : Heap) (n0 : Nat) (v : Option Value) (h : Heap) (L : List Loc) : Prop := v = none ∧ Fr n0 L ∧ Keep h0 h [q1] ∧ ∃ b : Addr, own_SV Z h n0 q1 b 3 u ∧ h0.size ≤ b
set_option maxRecDepth 65536 in
set_option maxHeartbeats 40000000 in
theorem rmi4_3 (l : Launch) (Z : State) (a0 : Array Value) (hw : ∀ d ∈ tables_1, d.before a0 Z = true) (ws : List Jvm.Cond) (q1 : Addr) (q2 : Addr) (u : Nat → Int32) (cs : Int32) (h0 : Heap) (n0 : Nat) (Z0 : n0 ≤ h0.size) (E0 : Exa Z h0 q1 "java/lang/String") (F0 : Fld Z h0 q1 "java/lang/String" "coder" "B" (.int 0)) (g1 : n0 ≤ q1) (SCS : Sta Z h0 "java/lang/String" "COMPACT_STRINGS" "Z" (.int cs)) (SAD : Sta Z h0 "java/lang/StringUTF16" "$assertionsDisabled" "Z" (.int (1 : Int32))) (SHI : Sta Z h0 "java/lang/StringUTF16" "HI_BYTE_SHIFT" "I" (.int (0 : Int32))) (SLO : Sta Z h0 "java/lang/StringUTF16" "LO_BYTE_SHIFT" "I" (.int (8 : Int32))) (hcs : ¬ cs = 0) (A0 : Av Z h0 q2 .char 3 (fun i => .int (u i))) (hu : own_chr u) (ne_q2_q1 : q2 ≠ q1) :
    MetFree l (⟨"java/lang/String", "<init>", "([CIILjava/lang/Void;)V"⟩ : MethodName) (head1 (Jvm.Cond.code (⟨"java/lang/String", "<init>", "([CIILjava/lang/Void;)V"⟩ : MethodName) jdk_42_method_149_code 6 (Option.none : Option Jvm.ClassFile.FieldType) :: ws) ({ frames := 4, cells := 2, slots := 9, locals := 90 } : Room)) (fun a U => a = #[(.ref q1), (.ref q2), (.int (0 : Int32)), (.int (3 : Int32)), .null] ∧ Z.Warmed39 U.vm ∧ U.heap = h0) (fun _ _ _ _ _ => True) (fun _ U o U' => ∃ v L, o = .returned v ∧ Qi4_3 Z q1 q2 u cs h0 n0 v U'.heap L ∧ FrameEnd U o U' L ({ frames := 4, cells := 2, slots := 9, locals := 90 } : Room).cells ({ frames := 4, cells := 2, slots := 9, locals := 90 } : Room).slots) := by
  refine MetFree.of_bodySF (plainFor_of_name pni4_3) hisR ?_
  intro p e s m args below meth c s₁ Bd hml0 hP hK
  obtain ⟨rfl, hZ, hh⟩ := hP
  have hx := Bd.exec
  have hby := Bd.bytes
  have hml : c.maxLocals = 6 := hml0
  have hown : s.vm.findClass "java/lang/String" = some m.cls := findClass_of_methodNamed Bd.named
  have hnm := (name_of_methodNamed Bd.named Bd.method).1
  have X0 : Stand p l e ({ frames := 4, cells := 2, slots := 9, locals := 90 } : Room) s m #[(.ref q1), (.ref q2), (.int (0 : Int32)), (.int (3 : Int32)), .null] below meth c s₁ [] 0 0 := Stand.of_body Bd
  have e0 : s₁.heap = h0 := by rw [← hh, Bd.state]; rfl
  have N0 := Fr.nil n0
  show Go p e below (Ret s (Qi4_3 Z q1 q2 u cs h0 n0) ({ frames := 4, cells := 2, slots := 9, locals := 90 } : Room).cells ({ frames := 4, cells := 2, slots := 9, locals := 90 } : Room).slots) (s₁.setTop (entryFrame m #[(.ref q1), (.ref q2), (.int (0 : Int32)), (.int (3 : Int32)), .null] 6))
  rw [efi4_3 m q1 q2 (0 : Int32) (3 : Int32)]
  have K0 : Keep h0 h0 [q1] := Keep.refl _ _
  refine g_aloadN X0 hx (hb hby di4_3_0) rfl rfl ?_
  refine g_objInit X0 hx hZ hown (hw _ (List.mem_of_getElem? (i := 23) rfl)) (hw _ (List.mem_of_getElem? (i := 24) rfl)) (hw _ (List.mem_of_getElem? (i := 25) rfl)) e0 (by rw [hml]; rfl) (hb hby di4_3_1) (by decide) (W := 0) (Nat.le_of_eq rfl) (by decide) ?_
  intro T1 X2 e3
  refine g_iloadN X2 hx (hb hby di4_3_4) rfl ?_
  have hc5_4 : ¬ ((3 : Int32) = (0 : Int32)) := (by decide)
  refine g_ifYes X2 hx (hb hby di4_3_5) (feq hc5_4).2 (by decide) (pc' := 27) (by decide) ?_
  refine g_getS X2 hx hZ hown (hw _ (List.mem_of_getElem? (i := 8) rfl)) e3 SCS (hb hby di4_3_27) ?_
  intro T5 X6 e7
  have hc30_8 : ¬ (cs = (0 : Int32)) := hcs
  refine g_ifNo X6 hx (hb hby di4_3_30) (feq hc30_8).1 ?_
  refine g_aloadN X6 hx (hb hby di4_3_33) rfl rfl ?_
  refine g_iloadN X6 hx (hb hby di4_3_34) rfl ?_
  refine g_iloadN X6 hx (hb hby di4_3_35) rfl ?_
  refine g_callS X6 hx hZ hown (hw _ (List.mem_of_getElem? (i := 89) rfl)) (hw _ (List.mem_of_getElem? (i := 90) rfl)) (hw _ (List.mem_of_getElem? (i := 91) rfl)) (hw _ (List.mem_of_getElem? (i := 92) rfl)) (by decide) (rmco3 l Z a0 hw [] q2 u h0 n0 Z0 SAD SHI SLO A0 hu) e7 (W := 0) (by decide) (by decide) (by rw [hml]; rfl) [(.ref q2), (.int (0 : Int32)), (.int (3 : Int32))] [] (lenOf pdi4_3_0 rfl) rfl rfl (Nat.le_of_eq rfl) (hb hby di4_3_36) (by decide) (by decide) ?_
  intro v13 T9 L12 X10 hQ11
  obtain ⟨b, rfl, N14, K15, g16, g17, A_b⟩ := hQ11
  have N18 := Fr.app N0 N14
  have ne_q1_b : q1 ≠ b := fun q => absurd E0.lt (by rw [q]; exact Nat.not_lt.mpr g16)
  have ne_q2_b : q2 ≠ b := fun q => absurd A0.lt (by rw [q]; exact Nat.not_lt.mpr g16)
  have F19 := E0.keep K15
  have F20 := F0.keep K15 nin0
  have F21 := Sta.keepN SCS K15 ns0
  have F22 := Sta.keepN SAD K15 ns0
  have F23 := Sta.keepN SHI K15 ns0
  have F24 := Sta.keepN SLO K15 ns0
  have F25 := A0.keep K15 nin0
  have Z26 : n0 ≤ T9.heap.size := Nat.le_trans Z0 K15.1
  have K27 := Keep.trans K0 K15 all0
  have gek_b : h0.size ≤ b := Nat.le_trans K0.1 g16
  show Go p e below (Ret s (Qi4_3 Z q1 q2 u cs h0 n0) ({ frames := 4, cells := 2, slots := 9, locals := 90 } : Room).cells ({ frames := 4, cells := 2, slots := 9, locals := 90 } : Room).slots) (T9.setTop (mkF m 39 #[.val (.ref q1), .val (.ref q2), .val (.int (0 : Int32)), .val (.int (3 : Int32)), .val .null, .unset] [(.ref b)]))
  rcases A_b with ⟨hall, A_b⟩ | ⟨hbig, A_b⟩
  ·
    refine g_astore X10 hx (hb hby di4_3_39) rfl (L' := #[.val (.ref q1), .val (.ref q2), .val (.int (0 : Int32)), .val (.int (3 : Int32)), .val .null, .val (.ref b)]) rfl ?_
    refine g_aloadN X10 hx (hb hby di4_3_41) rfl rfl ?_
    refine g_aload X10 hx (hb hby di4_3_42) rfl rfl ?_
    refine g_iloadN X10 hx (hb hby di4_3_44) rfl ?_
    refine g_callS X10 hx hZ hown (hw _ (List.mem_of_getElem? (i := 96) rfl)) (hw _ (List.mem_of_getElem? (i := 97) rfl)) (hw _ (List.mem_of_getElem? (i := 91) rfl)) (hw _ (List.mem_of_getElem? (i := 98) rfl)) (by decide) (rmcd3_3 l Z a0 hw [] b (fun i => own_b (u i)) T9.heap n0 Z26 A_b) rfl (W := 1) (by decide) (by decide) (by rw [hml]; rfl) [(.ref b), (.int (3 : Int32))] [(.ref q1)] (lenOf pdi4_3_1 rfl) rfl rfl (Nat.le_of_eq rfl) (hb hby di4_3_45) (by decide) (by decide) ?_
    intro v33 T29 L32 X30 hQ31
    obtain ⟨rfl, N34, e35⟩ := hQ31
    have N36 := Fr.app N18 N34
    show Go p e below (Ret s (Qi4_3 Z q1 q2 u cs h0 n0) ({ frames := 4, cells := 2, slots := 9, locals := 90 } : Room).cells ({ frames := 4, cells := 2, slots := 9, locals := 90 } : Room).slots) (T29.setTop (mkF m 48 #[.val (.ref q1), .val (.ref q2), .val (.int (0 : Int32)), .val (.int (3 : Int32)), .val .null, .val (.ref b)] [(.int (0 : Int32)), (.ref q1)]))
    refine g_putF X30 hx hZ hown (hw _ (List.mem_of_getElem? (i := 28) rfl)) e35 F20 F19 (Or.inr ⟨(hw _ (List.mem_of_getElem? (i := 29) rfl)), rfl, hnm⟩) (hw _ (List.mem_of_getElem? (i := 14) rfl)) (ty := .byte) (by decide) rfl rfl (hb hby di4_3_48) ?_
    intro T37 h40 X38 e39 W41
    have F43 := F19.wr W41
    have F44 := F21.wr W41
    have F45 := F22.wr W41
    have F46 := F23.wr W41
    have F47 := F24.wr W41
    have F48 := F25.other W41 ne_q2_q1
    have F49 := A_b.other W41 ne_q1_b.symm
    have F50 := F20.same W41
    have Z51 : n0 ≤ h40.size := by rw [W41.size]; exact Z26
    have K52 := Keep.wr K27 W41 (Or.inl (List.mem_singleton.mpr rfl))
    have N53 := Fr.snoc X38 N36 g1
    refine g_aloadN X38 hx (hb hby di4_3_51) rfl rfl ?_
    refine g_aload X38 hx (hb hby di4_3_52) rfl rfl ?_
    obtain ⟨o55, F54⟩ := fld_any F43 F50 (hw _ (List.mem_of_getElem? (i := 14) rfl)) (Or.inr (hw _ (List.mem_of_getElem? (i := 27) rfl)))
    refine g_putF X38 hx hZ hown (hw _ (List.mem_of_getElem? (i := 26) rfl)) e39 F54 F43 (Or.inr ⟨(hw _ (List.mem_of_getElem? (i := 27) rfl)), rfl, hnm⟩) (hw _ (List.mem_of_getElem? (i := 14) rfl)) (ty := (.array .byte)) (by decide) rfl rfl (hb hby di4_3_54) ?_
    intro T57 h60 X58 e59 W61
    have F63 := F43.wr W61
    have F64 := F44.wr W61
    have F65 := F45.wr W61
    have F66 := F46.wr W61
    have F67 := F47.wr W61
    have F68 := F48.other W61 ne_q2_q1
    have F69 := F49.other W61 ne_q1_b.symm
    have F70 := F50.other W61 (Or.inr (slot_ne (Or.inr (hw _ (List.mem_of_getElem? (i := 29) rfl))) (Or.inr (hw _ (List.mem_of_getElem? (i := 27) rfl))) (by decide) (t := .byte) (t' := (.array .byte)) (by decide) (by decide)))
    have F71 := F54.same W61
    have Z72 : n0 ≤ h60.size := by rw [W61.size]; exact Z51
    have K73 := Keep.wr K52 W61 (Or.inl (List.mem_singleton.mpr rfl))
    have N74 := Fr.snoc X58 N53 g1
    refine g_return X58 hx Bd.notSynchronized Bd.returns (hb hby di4_3_57) (by decide) (by decide) ?_
    rw [e59]
    exact ⟨rfl, N74, K73, b, ⟨F63, F71, Or.inl ⟨F70, hall, F69⟩, ne_q1_b, g17⟩, gek_b⟩
  ·
    refine g_astore X10 hx (hb hby di4_3_39) rfl (L' := #[.val (.ref q1), .val (.ref q2), .val (.int (0 : Int32)), .val (.int (3 : Int32)), .val .null, .val (.ref b)]) rfl ?_
    refine g_aloadN X10 hx (hb hby di4_3_41) rfl rfl ?_
    refine g_aload X10 hx (hb hby di4_3_42) rfl rfl ?_
    refine g_iloadN X10 hx (hb hby di4_3_44) rfl ?_
    refine g_callS X10 hx hZ hown (hw _ (List.mem_of_getElem? (i := 96) rfl)) (hw _ (List.mem_of_getElem? (i := 97) rfl)) (hw _ (List.mem_of_getElem? (i := 91) rfl)) (hw _ (List.mem_of_getElem? (i := 98) rfl)) (by decide) (rmcd6_3 l Z a0 hw [] b (own_16 u) T9.heap n0 Z26 A_b) rfl (W := 1) (by decide) (by decide) (by rw [hml]; rfl) [(.ref b), (.int (3 : Int32))] [(.ref q1)] (lenOf pdi4_3_1 rfl) rfl rfl (Nat.le_of_eq rfl) (hb hby di4_3_45) (by decide) (by decide) ?_
    intro v80 T76 L79 X77 hQ78
    obtain ⟨rfl, N81, e82⟩ := hQ78
    have N83 := Fr.app N18 N81
    show Go p e below (Ret s (Qi4_3 Z q1 q2 u cs h0 n0) ({ frames := 4, cells := 2, slots := 9, locals := 90 } : Room).cells ({ frames := 4, cells := 2, slots := 9, locals := 90 } : Room).slots) (T76.setTop (mkF m 48 #[.val (.ref q1), .val (.ref q2), .val (.int (0 : Int32)), .val (.int (3 : Int32)), .val .null, .val (.ref b)] [(.int (1 : Int32)), (.ref q1)]))
    refine g_putF X77 hx hZ hown (hw _ (List.mem_of_getElem? (i := 28) rfl)) e82 F20 F19 (Or.inr ⟨(hw _ (List.mem_of_getElem? (i := 29) rfl)), rfl, hnm⟩) (hw _ (List.mem_of_getElem? (i := 14) rfl)) (ty := .byte) (by decide) rfl rfl (hb hby di4_3_48) ?_
    intro T84 h87 X85 e86 W88
    have F90 := F19.wr W88
    have F91 := F21.wr W88
    have F92 := F22.wr W88
    have F93 := F23.wr W88
    have F94 := F24.wr W88
    have F95 := F25.other W88 ne_q2_q1
    have F96 := A_b.other W88 ne_q1_b.symm
    have F97 := F20.same W88
    have Z98 : n0 ≤ h87.size := by rw [W88.size]; exact Z26
    have K99 := Keep.wr K27 W88 (Or.inl (List.mem_singleton.mpr rfl))
    have N100 := Fr.snoc X85 N83 g1
    refine g_aloadN X85 hx (hb hby di4_3_51) rfl rfl ?_
    refine g_aload X85 hx (hb hby di4_3_52) rfl rfl ?_
    obtain ⟨o102, F101⟩ := fld_any F90 F97 (hw _ (List.mem_of_getElem? (i := 14) rfl)) (Or.inr (hw _ (List.mem_of_getElem? (i := 27) rfl)))
    refine g_putF X85 hx hZ hown (hw _ (List.mem_of_getElem? (i := 26) rfl)) e86 F101 F90 (Or.inr ⟨(hw _ (List.mem_of_getElem? (i := 27) rfl)), rfl, hnm⟩) (hw _ (List.mem_of_getElem? (i := 14) rfl)) (ty := (.array .byte)) (by decide) rfl rfl (hb hby di4_3_54) ?_
    intro T104 h107 X105 e106 W108
    have F110 := F90.wr W108
    have F111 := F91.wr W108
    have F112 := F92.wr W108
    have F113 := F93.wr W108
    have F114 := F94.wr W108
    have F115 := F95.other W108 ne_q2_q1
    have F116 := F96.other W108 ne_q1_b.symm
    have F117 := F97.other W108 (Or.inr (slot_ne (Or.inr (hw _ (List.mem_of_getElem? (i := 29) rfl))) (Or.inr (hw _ (List.mem_of_getElem? (i := 27) rfl))) (by decide) (t := .byte) (t' := (.array .byte)) (by decide) (by decide)))
    have F118 := F101.same W108
    have Z119 : n0 ≤ h107.size := by rw [W108.size]; exact Z98
    have K120 := Keep.wr K99 W108 (Or.inl (List.mem_singleton.mpr rfl))
    have N121 := Fr.snoc X105 N100 g1
    refine g_return X105 hx Bd.notSynchronized Bd.returns (hb hby di4_3_57) (by decide) (by decide) ?_
    rw [e106]
    exact ⟨rfl, N121, K120, b, ⟨F110, F118, Or.inr ⟨F117, hbig, F116⟩, ne_q1_b, g17⟩, gek_b⟩
theorem dic_3_0 : decode jdk_42_method_3_code 0 = .ok (.aload_n 0, 1) := by decide +kernel
theorem dic_3_1 : decode jdk_42_method_3_code 1 = .ok (.aload_n 1, 1) := by decide +kernel
theorem dic_3_2 : decode jdk_42_method_3_code 2 = .ok (.iconst 0, 1) := by decide +kernel
theorem dic_3_3 : decode jdk_42_method_3_code 3 = .ok (.aload_n 1, 1) := by decide +kernel
theorem dic_3_4 : decode jdk_42_method_3_code 4 = .ok (.arraylength, 1) := by decide +kernel
theorem dic_3_5 : decode jdk_42_method_3_code 5 = .ok (.aconst_null, 1) := by decide +kernel
theorem dic_3_6 : decode jdk_42_method_3_code 6 = .ok (.invokespecial 27, 3) := by decide +kernel
theorem dic_3_9 : decode jdk_42_method_3_code 9 = .ok (.return_, 1) := by decide +kernel
theorem pnic_3 : plainName "java/lang/String" = true := by first | (simp [plainName, overriddenIn]; done) | decide +kernel
theorem pdic_3_0 : parseMethodDescriptor "([CIILjava/lang/Void;)V" = some ⟨[(.array .char), .int, .int, (.object "java/lang/Void")], none⟩ := by decide +kernel
theorem efic_3 (m : MethodId) (z0 : Addr) (z1 : Addr) : entryFrame m #[(.ref z0), (.ref z1)] 2 = mkF m 0 #[.val (.ref z0), .val (.ref z1)] [] := by first | (simp [entryFrame, mkF, argsToLocals, Value.category]; done) | rfl
def Qic_3 (Z : State) (q1 : Addr) (q2 : Addr) (u : Nat → Int32) (cs : Int32) (h0 : Heap) (n0 : Nat) (v : Option Value) (h : Heap) (L : List Loc) : Prop := v = none ∧ Fr n0 L ∧ Keep h0 h [q1] ∧ ∃ b : Addr, own_SV Z h n0 q1 b 3 u ∧ h0.size ≤ b
set_option maxRecDepth 65536 in
set_option maxHeartbeats 40000000 in
theorem rmic_3 (l : Launch) (Z : State) (a0 : Array Value) (hw : ∀ d ∈ tables_1, d.before a0 Z = true) (ws : List Jvm.Cond) (q1 : Addr) (q2 : Addr) (u : Nat → Int32) (cs : Int32) (h0 : Heap) (n0 : Nat) (Z0 : n0 ≤ h0.size) (E0 : Exa Z h0 q1 "java/lang/String") (F0 : Fld Z h0 q1 "java/lang/String" "coder" "B" (.int 0)) (g1 : n0 ≤ q1) (SCS : Sta Z h0 "java/lang/String" "COMPACT_STRINGS" "Z" (.int cs)) (SAD : Sta Z h0 "java/lang/StringUTF16" "$assertionsDisabled" "Z" (.int (1 : Int32))) (SHI : Sta Z h0 "java/lang/StringUTF16" "HI_BYTE_SHIFT" "I" (.int (0 : Int32))) (SLO : Sta Z h0 "java/lang/StringUTF16" "LO_BYTE_SHIFT" "I" (.int (8 : Int32))) (hcs : ¬ cs = 0) (A0 : Av Z h0 q2 .char 3 (fun i => .int (u i))) (hu : own_chr u) (ne_q2_q1 : q2 ≠ q1) :
    MetFree l (⟨"java/lang/String", "<init>", "([C)V"⟩ : MethodName) (head1 (Jvm.Cond.code (⟨"java/lang/String", "<init>", "([C)V"⟩ : MethodName) jdk_42_method_3_code 2 (Option.none : Option Jvm.ClassFile.FieldType) :: ws) ({ frames := 5, cells := 2, slots := 9, locals := 110 } : Room)) (fun a U => a = #[(.ref q1), (.ref q2)] ∧ Z.Warmed39 U.vm ∧ U.heap = h0) (fun _ _ _ _ _ => True) (fun _ U o U' => ∃ v L, o = .returned v ∧ Qic_3 Z q1 q2 u cs h0 n0 v U'.heap L ∧ FrameEnd U o U' L ({ frames := 5, cells := 2, slots := 9, locals := 110 } : Room).cells ({ frames := 5, cells := 2, slots := 9, locals := 110 } : Room).slots) := by
  refine MetFree.of_bodySF (plainFor_of_name pnic_3) hisR ?_
  intro p e s m args below meth c s₁ Bd hml0 hP hK
  obtain ⟨rfl, hZ, hh⟩ := hP
  have hx := Bd.exec
  have hby := Bd.bytes
  have hml : c.maxLocals = 2 := hml0
  have hown : s.vm.findClass "java/lang/String" = some m.cls := findClass_of_methodNamed Bd.named
  have hnm := (name_of_methodNamed Bd.named Bd.method).1
  have X0 : Stand p l e ({ frames := 5, cells := 2, slots := 9, locals := 110 } : Room) s m #[(.ref q1), (.ref q2)] below meth c s₁ [] 0 0 := Stand.of_body Bd
  have e0 : s₁.heap = h0 := by rw [← hh, Bd.state]; rfl
  have N0 := Fr.nil n0
  show Go p e below (Ret s (Qic_3 Z q1 q2 u cs h0 n0) ({ frames := 5, cells := 2, slots := 9, locals := 110 } : Room).cells ({ frames := 5, cells := 2, slots := 9, locals := 110 } : Room).slots) (s₁.setTop (entryFrame m #[(.ref q1), (.ref q2)] 2))
  rw [efic_3 m q1 q2]
  refine g_aloadN X0 hx (hb hby dic_3_0) rfl rfl ?_
  refine g_aloadN X0 hx (hb hby dic_3_1) rfl rfl ?_
  refine g_iconst X0 hx (hb hby dic_3_2) (v := (0 : Int32)) (by decide) ?_
  refine g_aloadN X0 hx (hb hby dic_3_3) rfl rfl ?_
  refine g_arraylength X0 hx hZ e0 A0 (show Nat.toInt32 3 = (3 : Int32) from by decide) (hb hby dic_3_4) ?_
  refine g_aconst_null X0 hx (hb hby dic_3_5) ?_
  refine g_init X0 hx hZ hown rfl (hw _ (List.mem_of_getElem? (i := 86) rfl)) (hw _ (List.mem_of_getElem? (i := 87) rfl)) (hw _ (List.mem_of_getElem? (i := 6) rfl)) (hw _ (List.mem_of_getElem? (i := 88) rfl)) (by decide) (rmi4_3 l Z a0 hw [] q1 q2 u cs h0 n0 Z0 E0 F0 g1 SCS SAD SHI SLO hcs A0 hu ne_q2_q1) e0 (W := 0) (by decide) (by decide) (by rw [hml]; rfl) q1 [(.ref q2), (.int (0 : Int32)), (.int (3 : Int32)), .null] [] (lenOf pdic_3_0 rfl) rfl rfl (Nat.le_of_eq rfl) (hb hby dic_3_6) (by decide) (by decide) ?_
  intro v5 T1 L4 X2 hQ3
  obtain ⟨rfl, N9, K9, R9⟩ := hQ3
  have N8 := Fr.app N0 N9
  show Go p e below (Ret s (Qic_3 Z q1 q2 u cs h0 n0) ({ frames := 5, cells := 2, slots := 9, locals := 110 } : Room).cells ({ frames := 5, cells := 2, slots := 9, locals := 110 } : Room).slots) (T1.setTop (mkF m 9 #[.val (.ref q1), .val (.ref q2)] []))
  refine g_return X2 hx Bd.notSynchronized Bd.returns (hb hby dic_3_9) (by decide) (by decide) ?_
  exact ⟨rfl, N8, K9, R9⟩
theorem dce_0 : decode jdk_43_method_3_code 0 = .ok (.iload_n 0, 1) := by decide +kernel
theorem dce_1 : decode jdk_43_method_3_code 1 = .ok (.sipush 255, 3) := by decide +kernel
theorem dce_4 : decode jdk_43_method_3_code 4 = .ok (.if_icmp .gt 7, 3) := by decide +kernel
theorem dce_7 : decode jdk_43_method_3_code 7 = .ok (.iconst 1, 1) := by decide +kernel
theorem dce_8 : decode jdk_43_method_3_code 8 = .ok (.goto 4, 3) := by decide +kernel
theorem dce_11 : decode jdk_43_method_3_code 11 = .ok (.iconst 0, 1) := by decide +kernel
theorem dce_12 : decode jdk_43_method_3_code 12 = .ok (.ireturn, 1) := by decide +kernel
theorem pnce : plainName "java/lang/StringLatin1" = true := by first | (simp [plainName, overriddenIn]; done) | decide +kernel
theorem efce (m : MethodId) (z0 : Int32) : entryFrame m #[(.int z0)] 1 = mkF m 0 #[.val (.int z0)] [] := by first | (simp [entryFrame, mkF, argsToLocals, Value.category]; done) | rfl
def Qce (Z : State) (q1 : Int32) (h0 : Heap) (n0 : Nat) (v : Option Value) (h : Heap) (L : List Loc) : Prop := v = some (.int (if (255 : Int32) < q1 then 0 else 1)) ∧ Fr n0 L ∧ h = h0
set_option maxRecDepth 65536 in
set_option maxHeartbeats 40000000 in
theorem rmce (l : Launch) (Z : State) (a0 : Array Value) (hw : ∀ d ∈ tables_1, d.before a0 Z = true) (ws : List Jvm.Cond) (q1 : Int32) (h0 : Heap) (n0 : Nat) (Z0 : n0 ≤ h0.size)  :
    MetFree l (⟨"java/lang/StringLatin1", "canEncode", "(C)Z"⟩ : MethodName) (head1 (Jvm.Cond.code (⟨"java/lang/StringLatin1", "canEncode", "(C)Z"⟩ : MethodName) jdk_43_method_3_code 1 (Option.some Jvm.ClassFile.FieldType.boolean) :: ws) ({ frames := 0, cells := 0, slots := 0, locals := 0 } : Room)) (fun a U => a = #[(.int q1)] ∧ Z.Warmed39 U.vm ∧ U.heap = h0) (fun _ _ _ _ _ => True) (fun _ U o U' => ∃ v L, o = .returned v ∧ Qce Z q1 h0 n0 v U'.heap L ∧ FrameEnd U o U' L ({ frames := 0, cells := 0, slots := 0, locals := 0 } : Room).cells ({ frames := 0, cells := 0, slots := 0, locals := 0 } : Room).slots) := by
  refine MetFree.of_bodySF (plainFor_of_name pnce) hisR ?_
  intro p e s m args below meth c s₁ Bd hml0 hP hK
  obtain ⟨rfl, hZ, hh⟩ := hP
  have hx := Bd.exec
  have hby := Bd.bytes
  have hml : c.maxLocals = 1 := hml0
  have hown : s.vm.findClass "java/lang/StringLatin1" = some m.cls := findClass_of_methodNamed Bd.named
  have hnm := (name_of_methodNamed Bd.named Bd.method).1
  have X0 : Stand p l e ({ frames := 0, cells := 0, slots := 0, locals := 0 } : Room) s m #[(.int q1)] below meth c s₁ [] 0 0 := Stand.of_body Bd
  have e0 : s₁.heap = h0 := by rw [← hh, Bd.state]; rfl
  have N0 := Fr.nil n0
  show Go p e below (Ret s (Qce Z q1 h0 n0) ({ frames := 0, cells := 0, slots := 0, locals := 0 } : Room).cells ({ frames := 0, cells := 0, slots := 0, locals := 0 } : Room).slots) (s₁.setTop (entryFrame m #[(.int q1)] 1))
  rw [efce m q1]
  refine g_iloadN X0 hx (hb hby dce_0) rfl ?_
  refine g_sipush X0 hx (hb hby dce_1) (v := (255 : Int32)) (by decide) ?_
  by_cases hc4_1 : (255 : Int32) < q1
  ·
    refine g_icmpYes X0 hx (hb hby dce_4) (tlt hc4_1).2.2.1 (by decide) (pc' := 11) (by decide) ?_
    refine g_iconst X0 hx (hb hby dce_11) (v := (0 : Int32)) (by decide) ?_
    refine g_ireturn X0 hx Bd.notSynchronized Bd.returns rfl (by simp) (hb hby dce_12) (by decide) (by decide) ?_
    exact ⟨by rw [if_pos hc4_1], N0, e0⟩
  ·
    refine g_icmpNo X0 hx (hb hby dce_4) (flt hc4_1).2.2.1 ?_
    refine g_iconst X0 hx (hb hby dce_7) (v := (1 : Int32)) (by decide) ?_
    refine g_goto X0 hx (hb hby dce_8) (by decide) (pc' := 12) (by decide) ?_
    refine g_ireturn X0 hx Bd.notSynchronized Bd.returns rfl (by simp) (hb hby dce_12) (by decide) (by decide) ?_
    exact ⟨by rw [if_neg hc4_1], N0, e0⟩
theorem dlb_0 : decode jdk_43_method_46_code 0 = .ok (.iconst 1, 1) := by decide +kernel
theorem dlb_1 : decode jdk_43_method_46_code 1 = .ok (.newarray .byte, 2) := by decide +kernel
theorem dlb_3 : decode jdk_43_method_46_code 3 = .ok (.dup, 1) := by decide +kernel
theorem dlb_4 : decode jdk_43_method_46_code 4 = .ok (.iconst 0, 1) := by decide +kernel
theorem dlb_5 : decode jdk_43_method_46_code 5 = .ok (.iload_n 0, 1) := by decide +kernel
theorem dlb_6 : decode jdk_43_method_46_code 6 = .ok (.i2b, 1) := by decide +kernel
theorem dlb_7 : decode jdk_43_method_46_code 7 = .ok (.bastore, 1) := by decide +kernel
theorem dlb_8 : decode jdk_43_method_46_code 8 = .ok (.areturn, 1) := by decide +kernel
theorem pnlb : plainName "java/lang/StringLatin1" = true := by first | (simp [plainName, overriddenIn]; done) | decide +kernel
theorem eflb (m : MethodId) (z0 : Int32) : entryFrame m #[(.int z0)] 1 = mkF m 0 #[.val (.int z0)] [] := by first | (simp [entryFrame, mkF, argsToLocals, Value.category]; done) | rfl
def Qlb (Z : State) (q1 : Int32) (h0 : Heap) (n0 : Nat) (v : Option Value) (h : Heap) (L : List Loc) : Prop := ∃ b : Addr, v = some (.ref b) ∧ Fr n0 L ∧ Keep h0 h [] ∧ h0.size ≤ b ∧ n0 ≤ b ∧ ∃ F : Nat → Int32, Av Z h b .byte 1 (fun i => .int (F i))
set_option maxRecDepth 65536 in
set_option maxHeartbeats 40000000 in
theorem rmlb (l : Launch) (Z : State) (a0 : Array Value) (hw : ∀ d ∈ tables_1, d.before a0 Z = true) (ws : List Jvm.Cond) (q1 : Int32) (h0 : Heap) (n0 : Nat) (Z0 : n0 ≤ h0.size)  :
    MetFree l (⟨"java/lang/StringLatin1", "toBytes", "(C)[B"⟩ : MethodName) (head1 (Jvm.Cond.code (⟨"java/lang/StringLatin1", "toBytes", "(C)[B"⟩ : MethodName) jdk_43_method_46_code 1 (Option.some (Jvm.ClassFile.FieldType.array Jvm.ClassFile.FieldType.byte)) :: ws) ({ frames := 0, cells := 1, slots := 1, locals := 0 } : Room)) (fun a U => a = #[(.int q1)] ∧ Z.Warmed39 U.vm ∧ U.heap = h0) (fun _ _ _ _ _ => True) (fun _ U o U' => ∃ v L, o = .returned v ∧ Qlb Z q1 h0 n0 v U'.heap L ∧ FrameEnd U o U' L ({ frames := 0, cells := 1, slots := 1, locals := 0 } : Room).cells ({ frames := 0, cells := 1, slots := 1, locals := 0 } : Room).slots) := by
  refine MetFree.of_bodySF (plainFor_of_name pnlb) hisR ?_
  intro p e s m args below meth c s₁ Bd hml0 hP hK
  obtain ⟨rfl, hZ, hh⟩ := hP
  have hx := Bd.exec
  have hby := Bd.bytes
  have hml : c.maxLocals = 1 := hml0
  have hown : s.vm.findClass "java/lang/StringLatin1" = some m.cls := findClass_of_methodNamed Bd.named
  have hnm := (name_of_methodNamed Bd.named Bd.method).1
  have X0 : Stand p l e ({ frames := 0, cells := 1, slots := 1, locals := 0 } : Room) s m #[(.int q1)] below meth c s₁ [] 0 0 := Stand.of_body Bd
  have e0 : s₁.heap = h0 := by rw [← hh, Bd.state]; rfl
  have N0 := Fr.nil n0
  show Go p e below (Ret s (Qlb Z q1 h0 n0) ({ frames := 0, cells := 1, slots := 1, locals := 0 } : Room).cells ({ frames := 0, cells := 1, slots := 1, locals := 0 } : Room).slots) (s₁.setTop (entryFrame m #[(.int q1)] 1))
  rw [eflb m q1]
  have K0 : Keep h0 h0 [] := Keep.refl _ _
  refine g_iconst X0 hx (hb hby dlb_0) (v := (1 : Int32)) (by decide) ?_
  refine g_newP X0 hx hZ (ty := .byte) rfl (hw _ (List.mem_of_getElem? (i := 18) rfl)) e0 (hb hby dlb_1) (by decide) (cap := 1) (by decide) (by decide) (by decide) (by decide) ?_
  intro T1 h4 b cA8 gb X2 e3 E5 F6 
  have ge_b : n0 ≤ b := by rw [gb]; exact Z0
  have gek_b : h0.size ≤ b := by rw [gb]; exact K0.1
  have Z10 : n0 ≤ h4.size := Nat.le_trans Z0 E5.1
  have K11 := Keep.ext K0 E5
  have F9 : Av Z h4 b .byte 1 (fun _ => .int 0) := Av.newK F6 (by decide)
  refine g_dup X2 hx (hb hby dlb_3) rfl ?_
  refine g_iconst X2 hx (hb hby dlb_4) (v := (0 : Int32)) (by decide) ?_
  refine g_iloadN X2 hx (hb hby dlb_5) rfl ?_
  obtain ⟨i13, hi13⟩ : ∃ v : Int32, q1.toInt8.toInt32 = v := ⟨_, rfl⟩
  refine g_i2b X2 hx (hb hby dlb_6) hi13 ?_
  refine g_bastoreB X2 hx hZ e3 F9 (i := 0) (by decide) (by decide) (by decide) (hb hby dlb_7) ?_
  intro T14 h17 X15 e16 W18
  have F19 := F9.same W18
  have Z20 : n0 ≤ h17.size := by rw [W18.size]; exact Z10
  have K21 := Keep.wr K11 W18 (Or.inr gek_b)
  have N22 := Fr.snoc X15 N0 ge_b
  refine g_areturn X15 hx Bd.notSynchronized Bd.returns rfl rfl (hb hby dlb_8) (by decide) (by decide) ?_
  rw [e16]
  exact ⟨b, rfl, N22, K21, gek_b, ge_b, (fun _ => nar .byte i13), (F19.congr (by
    intro i hi
    have : i = 0 := by omega
    rcases this with rfl <;> rfl))⟩
theorem dpc0_2_0 : decode jdk_52_method_4_code 0 = .ok (.getstatic 44, 3) := by decide +kernel
theorem dpc0_2_3 : decode jdk_52_method_4_code 3 = .ok (.ifCond .ne 25, 3) := by decide +kernel
theorem dpc0_2_28 : decode jdk_52_method_4_code 28 = .ok (.iload_n 1, 1) := by decide +kernel
theorem dpc0_2_29 : decode jdk_52_method_4_code 29 = .ok (.iconst 1, 1) := by decide +kernel
theorem dpc0_2_30 : decode jdk_52_method_4_code 30 = .ok (.ishl, 1) := by decide +kernel
theorem dpc0_2_31 : decode jdk_52_method_4_code 31 = .ok (.istore_n 1, 1) := by decide +kernel
theorem dpc0_2_32 : decode jdk_52_method_4_code 32 = .ok (.aload_n 0, 1) := by decide +kernel
theorem dpc0_2_33 : decode jdk_52_method_4_code 33 = .ok (.iload_n 1, 1) := by decide +kernel
theorem dpc0_2_34 : decode jdk_52_method_4_code 34 = .ok (.iinc 1 1, 3) := by decide +kernel
theorem dpc0_2_37 : decode jdk_52_method_4_code 37 = .ok (.iload_n 2, 1) := by decide +kernel
theorem dpc0_2_38 : decode jdk_52_method_4_code 38 = .ok (.getstatic 59, 3) := by decide +kernel
theorem dpc0_2_41 : decode jdk_52_method_4_code 41 = .ok (.ishr, 1) := by decide +kernel
theorem dpc0_2_42 : decode jdk_52_method_4_code 42 = .ok (.i2b, 1) := by decide +kernel
theorem dpc0_2_43 : decode jdk_52_method_4_code 43 = .ok (.bastore, 1) := by decide +kernel
theorem dpc0_2_44 : decode jdk_52_method_4_code 44 = .ok (.aload_n 0, 1) := by decide +kernel
theorem dpc0_2_45 : decode jdk_52_method_4_code 45 = .ok (.iload_n 1, 1) := by decide +kernel
theorem dpc0_2_46 : decode jdk_52_method_4_code 46 = .ok (.iload_n 2, 1) := by decide +kernel
theorem dpc0_2_47 : decode jdk_52_method_4_code 47 = .ok (.getstatic 63, 3) := by decide +kernel
theorem dpc0_2_50 : decode jdk_52_method_4_code 50 = .ok (.ishr, 1) := by decide +kernel
theorem dpc0_2_51 : decode jdk_52_method_4_code 51 = .ok (.i2b, 1) := by decide +kernel
theorem dpc0_2_52 : decode jdk_52_method_4_code 52 = .ok (.bastore, 1) := by decide +kernel
theorem dpc0_2_53 : decode jdk_52_method_4_code 53 = .ok (.return_, 1) := by decide +kernel
theorem pnpc0_2 : plainName "java/lang/StringUTF16" = true := by first | (simp [plainName, overriddenIn]; done) | decide +kernel
theorem efpc0_2 (m : MethodId) (z0 : Addr) (z1 : Int32) (z2 : Int32) : entryFrame m #[(.ref z0), (.int z1), (.int z2)] 3 = mkF m 0 #[.val (.ref z0), .val (.int z1), .val (.int z2)] [] := by first | (simp [entryFrame, mkF, argsToLocals, Value.category]; done) | rfl
def Qpc0_2 (Z : State) (q1 : Addr) (q3 : Int32) (F : Nat → Int32) (h0 : Heap) (n0 : Nat) (v : Option Value) (h : Heap) (L : List Loc) : Prop := v = none ∧ Fr n0 L ∧ Keep h0 h [q1] ∧ Av Z h q1 .byte 2 (fun i => .int (own_pc F 0 q3 i))
set_option maxRecDepth 65536 in
set_option maxHeartbeats 40000000 in
theorem rmpc0_2 (l : Launch) (Z : State) (a0 : Array Value) (hw : ∀ d ∈ tables_1, d.before a0 Z = true) (ws : List Jvm.Cond) (q1 : Addr) (q3 : Int32) (F : Nat → Int32) (h0 : Heap) (n0 : Nat) (Z0 : n0 ≤ h0.size) (SAD : Sta Z h0 "java/lang/StringUTF16" "$assertionsDisabled" "Z" (.int (1 : Int32))) (SHI : Sta Z h0 "java/lang/StringUTF16" "HI_BYTE_SHIFT" "I" (.int (0 : Int32))) (SLO : Sta Z h0 "java/lang/StringUTF16" "LO_BYTE_SHIFT" "I" (.int (8 : Int32))) (A0 : Av Z h0 q1 .byte 2 (fun i => .int (F i))) (g1 : n0 ≤ q1) :
    MetFree l (⟨"java/lang/StringUTF16", "putChar", "([BII)V"⟩ : MethodName) (head1 (Jvm.Cond.code (⟨"java/lang/StringUTF16", "putChar", "([BII)V"⟩ : MethodName) jdk_52_method_4_code 3 (Option.none : Option Jvm.ClassFile.FieldType) :: ws) ({ frames := 0, cells := 0, slots := 0, locals := 0 } : Room)) (fun a U => a = #[(.ref q1), (.int (0 : Int32)), (.int q3)] ∧ Z.Warmed39 U.vm ∧ U.heap = h0) (fun _ _ _ _ _ => True) (fun _ U o U' => ∃ v L, o = .returned v ∧ Qpc0_2 Z q1 q3 F h0 n0 v U'.heap L ∧ FrameEnd U o U' L ({ frames := 0, cells := 0, slots := 0, locals := 0 } : Room).cells ({ frames := 0, cells := 0, slots := 0, locals := 0 } : Room).slots) := by
  refine MetFree.of_bodySF (plainFor_of_name pnpc0_2) hisR ?_
  intro p e s m args below meth c s₁ Bd hml0 hP hK
  obtain ⟨rfl, hZ, hh⟩ := hP
  have hx := Bd.exec
  have hby := Bd.bytes
  have hml : c.maxLocals = 3 := hml0
  have hown : s.vm.findClass "java/lang/StringUTF16" = some m.cls := findClass_of_methodNamed Bd.named
  have hnm := (name_of_methodNamed Bd.named Bd.method).1
  have X0 : Stand p l e ({ frames := 0, cells := 0, slots := 0, locals := 0 } : Room) s m #[(.ref q1), (.int (0 : Int32)), (.int q3)] below meth c s₁ [] 0 0 := Stand.of_body Bd
  have e0 : s₁.heap = h0 := by rw [← hh, Bd.state]; rfl
  have N0 := Fr.nil n0
  show Go p e below (Ret s (Qpc0_2 Z q1 q3 F h0 n0) ({ frames := 0, cells := 0, slots := 0, locals := 0 } : Room).cells ({ frames := 0, cells := 0, slots := 0, locals := 0 } : Room).slots) (s₁.setTop (entryFrame m #[(.ref q1), (.int (0 : Int32)), (.int q3)] 3))
  rw [efpc0_2 m q1 (0 : Int32) q3]
  have K0 : Keep h0 h0 [q1] := Keep.refl _ _
  refine g_getS X0 hx hZ hown (hw _ (List.mem_of_getElem? (i := 112) rfl)) e0 SAD (hb hby dpc0_2_0) ?_
  intro T1 X2 e3
  have hc3_4 : ¬ ((1 : Int32) = (0 : Int32)) := (by decide)
  refine g_ifYes X2 hx (hb hby dpc0_2_3) (feq hc3_4).2 (by decide) (pc' := 28) (by decide) ?_
  refine g_iloadN X2 hx (hb hby dpc0_2_28) rfl ?_
  refine g_iconst X2 hx (hb hby dpc0_2_29) (v := (1 : Int32)) (by decide) ?_
  refine g_ishl X2 hx (hb hby dpc0_2_30) (show (0 : Int32) <<< ((1 : Int32) &&& 31) = (0 : Int32) from by decide) ?_
  refine g_istoreN X2 hx (hb hby dpc0_2_31) (L' := #[.val (.ref q1), .val (.int (0 : Int32)), .val (.int q3)]) rfl ?_
  refine g_aloadN X2 hx (hb hby dpc0_2_32) rfl rfl ?_
  refine g_iloadN X2 hx (hb hby dpc0_2_33) rfl ?_
  refine g_iinc X2 hx (hb hby dpc0_2_34) rfl (L' := #[.val (.ref q1), .val (.int (1 : Int32)), .val (.int q3)]) rfl ?_
  refine g_iloadN X2 hx (hb hby dpc0_2_37) rfl ?_
  refine g_getS X2 hx hZ hown (hw _ (List.mem_of_getElem? (i := 113) rfl)) e3 SHI (hb hby dpc0_2_38) ?_
  intro T5 X6 e7
  obtain ⟨i8, hi8⟩ : ∃ v : Int32, q3 >>> ((0 : Int32) &&& 31) = v := ⟨_, rfl⟩
  refine g_ishr X6 hx (hb hby dpc0_2_41) hi8 ?_
  obtain ⟨i9, hi9⟩ : ∃ v : Int32, i8.toInt8.toInt32 = v := ⟨_, rfl⟩
  refine g_i2b X6 hx (hb hby dpc0_2_42) hi9 ?_
  refine g_bastoreB X6 hx hZ e7 A0 (i := 0) (by decide) (by decide) (by decide) (hb hby dpc0_2_43) ?_
  intro T10 h13 X11 e12 W14
  have F15 := SAD.wr W14
  have F16 := SHI.wr W14
  have F17 := SLO.wr W14
  have F18 := A0.same W14
  have Z19 : n0 ≤ h13.size := by rw [W14.size]; exact Z0
  have K20 := Keep.wr K0 W14 (Or.inl (List.mem_singleton.mpr rfl))
  have N21 := Fr.snoc X11 N0 g1
  refine g_aloadN X11 hx (hb hby dpc0_2_44) rfl rfl ?_
  refine g_iloadN X11 hx (hb hby dpc0_2_45) rfl ?_
  refine g_iloadN X11 hx (hb hby dpc0_2_46) rfl ?_
  refine g_getS X11 hx hZ hown (hw _ (List.mem_of_getElem? (i := 114) rfl)) e12 F17 (hb hby dpc0_2_47) ?_
  intro T22 X23 e24
  obtain ⟨i25, hi25⟩ : ∃ v : Int32, q3 >>> ((8 : Int32) &&& 31) = v := ⟨_, rfl⟩
  refine g_ishr X23 hx (hb hby dpc0_2_50) hi25 ?_
  obtain ⟨i26, hi26⟩ : ∃ v : Int32, i25.toInt8.toInt32 = v := ⟨_, rfl⟩
  refine g_i2b X23 hx (hb hby dpc0_2_51) hi26 ?_
  refine g_bastoreB X23 hx hZ e24 F18 (i := 1) (by decide) (by decide) (by decide) (hb hby dpc0_2_52) ?_
  intro T27 h30 X28 e29 W31
  have F32 := F15.wr W31
  have F33 := F16.wr W31
  have F34 := F17.wr W31
  have F35 := F18.same W31
  have Z36 : n0 ≤ h30.size := by rw [W31.size]; exact Z19
  have K37 := Keep.wr K20 W31 (Or.inl (List.mem_singleton.mpr rfl))
  have N38 := Fr.snoc X28 N21 g1
  refine g_return X28 hx Bd.notSynchronized Bd.returns (hb hby dpc0_2_53) (by decide) (by decide) ?_
  subst hi8 hi9 hi25 hi26
  rw [e29]
  exact ⟨rfl, N38, K37, F35.congr (fun j _ => by
    unfold own_pc
    by_cases z1 : j = 1
    · rw [if_pos z1, if_pos z1]; rfl
    · rw [if_neg z1, if_neg z1]
      by_cases z2 : j = 0
      · rw [if_pos z2, if_pos z2]; rfl
      · rw [if_neg z2, if_neg z2])⟩
theorem dub_0 : decode jdk_52_method_24_code 0 = .ok (.iconst 2, 1) := by decide +kernel
theorem dub_1 : decode jdk_52_method_24_code 1 = .ok (.newarray .byte, 2) := by decide +kernel
theorem dub_3 : decode jdk_52_method_24_code 3 = .ok (.astore_n 1, 1) := by decide +kernel
theorem dub_4 : decode jdk_52_method_24_code 4 = .ok (.aload_n 1, 1) := by decide +kernel
theorem dub_5 : decode jdk_52_method_24_code 5 = .ok (.iconst 0, 1) := by decide +kernel
theorem dub_6 : decode jdk_52_method_24_code 6 = .ok (.iload_n 0, 1) := by decide +kernel
theorem dub_7 : decode jdk_52_method_24_code 7 = .ok (.invokestatic 111, 3) := by decide +kernel
theorem dub_10 : decode jdk_52_method_24_code 10 = .ok (.aload_n 1, 1) := by decide +kernel
theorem dub_11 : decode jdk_52_method_24_code 11 = .ok (.areturn, 1) := by decide +kernel
theorem pnub : plainName "java/lang/StringUTF16" = true := by first | (simp [plainName, overriddenIn]; done) | decide +kernel
theorem pdub_0 : parseMethodDescriptor "([BII)V" = some ⟨[(.array .byte), .int, .int], none⟩ := by decide +kernel
theorem efub (m : MethodId) (z0 : Int32) : entryFrame m #[(.int z0)] 2 = mkF m 0 #[.val (.int z0), .unset] [] := by first | (simp [entryFrame, mkF, argsToLocals, Value.category]; done) | rfl
def Qub (Z : State) (q1 : Int32) (h0 : Heap) (n0 : Nat) (v : Option Value) (h : Heap) (L : List Loc) : Prop := ∃ b : Addr, v = some (.ref b) ∧ Fr n0 L ∧ Keep h0 h [] ∧ h0.size ≤ b ∧ n0 ≤ b ∧ ∃ F : Nat → Int32, Av Z h b .byte 2 (fun i => .int (F i))
set_option maxRecDepth 65536 in
set_option maxHeartbeats 40000000 in
theorem rmub (l : Launch) (Z : State) (a0 : Array Value) (hw : ∀ d ∈ tables_1, d.before a0 Z = true) (ws : List Jvm.Cond) (q1 : Int32) (h0 : Heap) (n0 : Nat) (Z0 : n0 ≤ h0.size) (SAD : Sta Z h0 "java/lang/StringUTF16" "$assertionsDisabled" "Z" (.int (1 : Int32))) (SHI : Sta Z h0 "java/lang/StringUTF16" "HI_BYTE_SHIFT" "I" (.int (0 : Int32))) (SLO : Sta Z h0 "java/lang/StringUTF16" "LO_BYTE_SHIFT" "I" (.int (8 : Int32))) :
    MetFree l (⟨"java/lang/StringUTF16", "toBytes", "(C)[B"⟩ : MethodName) (head1 (Jvm.Cond.code (⟨"java/lang/StringUTF16", "toBytes", "(C)[B"⟩ : MethodName) jdk_52_method_24_code 2 (Option.some (Jvm.ClassFile.FieldType.array Jvm.ClassFile.FieldType.byte)) :: ws) ({ frames := 1, cells := 1, slots := 2, locals := 16 } : Room)) (fun a U => a = #[(.int q1)] ∧ Z.Warmed39 U.vm ∧ U.heap = h0) (fun _ _ _ _ _ => True) (fun _ U o U' => ∃ v L, o = .returned v ∧ Qub Z q1 h0 n0 v U'.heap L ∧ FrameEnd U o U' L ({ frames := 1, cells := 1, slots := 2, locals := 16 } : Room).cells ({ frames := 1, cells := 1, slots := 2, locals := 16 } : Room).slots) := by
  refine MetFree.of_bodySF (plainFor_of_name pnub) hisR ?_
  intro p e s m args below meth c s₁ Bd hml0 hP hK
  obtain ⟨rfl, hZ, hh⟩ := hP
  have hx := Bd.exec
  have hby := Bd.bytes
  have hml : c.maxLocals = 2 := hml0
  have hown : s.vm.findClass "java/lang/StringUTF16" = some m.cls := findClass_of_methodNamed Bd.named
  have hnm := (name_of_methodNamed Bd.named Bd.method).1
  have X0 : Stand p l e ({ frames := 1, cells := 1, slots := 2, locals := 16 } : Room) s m #[(.int q1)] below meth c s₁ [] 0 0 := Stand.of_body Bd
  have e0 : s₁.heap = h0 := by rw [← hh, Bd.state]; rfl
  have N0 := Fr.nil n0
  show Go p e below (Ret s (Qub Z q1 h0 n0) ({ frames := 1, cells := 1, slots := 2, locals := 16 } : Room).cells ({ frames := 1, cells := 1, slots := 2, locals := 16 } : Room).slots) (s₁.setTop (entryFrame m #[(.int q1)] 2))
  rw [efub m q1]
  have K0 : Keep h0 h0 [] := Keep.refl _ _
  refine g_iconst X0 hx (hb hby dub_0) (v := (2 : Int32)) (by decide) ?_
  refine g_newP X0 hx hZ (ty := .byte) rfl (hw _ (List.mem_of_getElem? (i := 18) rfl)) e0 (hb hby dub_1) (by decide) (cap := 2) (by decide) (by decide) (by decide) (by decide) ?_
  intro T1 h4 b cA8 gb X2 e3 E5 F6 
  have ge_b : n0 ≤ b := by rw [gb]; exact Z0
  have gek_b : h0.size ≤ b := by rw [gb]; exact K0.1
  have F10 := SAD.ext E5
  have F11 := SHI.ext E5
  have F12 := SLO.ext E5
  have Z13 : n0 ≤ h4.size := Nat.le_trans Z0 E5.1
  have K14 := Keep.ext K0 E5
  have F9 : Av Z h4 b .byte 2 (fun _ => .int 0) := Av.newK F6 (by decide)
  refine g_astoreN X2 hx (hb hby dub_3) rfl (L' := #[.val (.int q1), .val (.ref b)]) rfl ?_
  refine g_aloadN X2 hx (hb hby dub_4) rfl rfl ?_
  refine g_iconst X2 hx (hb hby dub_5) (v := (0 : Int32)) (by decide) ?_
  refine g_iloadN X2 hx (hb hby dub_6) rfl ?_
  refine g_callS X2 hx hZ hown (hw _ (List.mem_of_getElem? (i := 109) rfl)) (hw _ (List.mem_of_getElem? (i := 110) rfl)) (hw _ (List.mem_of_getElem? (i := 91) rfl)) (hw _ (List.mem_of_getElem? (i := 111) rfl)) (by decide) (rmpc0_2 l Z a0 hw [] b q1 (fun _ => 0) h4 n0 Z13 F10 F11 F12 F9 ge_b) e3 (W := 0) (by decide) (by decide) (by rw [hml]; rfl) [(.ref b), (.int (0 : Int32)), (.int q1)] [] (lenOf pdub_0 rfl) rfl rfl (Nat.le_of_eq rfl) (hb hby dub_7) (by decide) (by decide) ?_
  intro v20 T16 L19 X17 hQ18
  obtain ⟨rfl, N21, K22, F23⟩ := hQ18
  have N24 := Fr.app N0 N21
  have F25 := Sta.keepN F10 K22 (nsS (Av.ns F9) ns0)
  have F26 := Sta.keepN F11 K22 (nsS (Av.ns F9) ns0)
  have F27 := Sta.keepN F12 K22 (nsS (Av.ns F9) ns0)
  have Z29 : n0 ≤ T16.heap.size := Nat.le_trans Z13 K22.1
  have K30 := Keep.trans K14 K22 (allS (Or.inr gek_b) all0)
  show Go p e below (Ret s (Qub Z q1 h0 n0) ({ frames := 1, cells := 1, slots := 2, locals := 16 } : Room).cells ({ frames := 1, cells := 1, slots := 2, locals := 16 } : Room).slots) (T16.setTop (mkF m 10 #[.val (.int q1), .val (.ref b)] []))
  refine g_aloadN X17 hx (hb hby dub_10) rfl rfl ?_
  refine g_areturn X17 hx Bd.notSynchronized Bd.returns rfl rfl (hb hby dub_11) (by decide) (by decide) ?_
  exact ⟨b, rfl, N24, K30, gek_b, ge_b, _, F23⟩
theorem dsb_0 : decode jdk_42_method_151_code 0 = .ok (.aload_n 0, 1) := by decide +kernel
theorem dsb_1 : decode jdk_42_method_151_code 1 = .ok (.invokespecial 1, 3) := by decide +kernel
theorem dsb_4 : decode jdk_42_method_151_code 4 = .ok (.aload_n 0, 1) := by decide +kernel
theorem dsb_5 : decode jdk_42_method_151_code 5 = .ok (.aload_n 1, 1) := by decide +kernel
theorem dsb_6 : decode jdk_42_method_151_code 6 = .ok (.putfield 9, 3) := by decide +kernel
theorem dsb_9 : decode jdk_42_method_151_code 9 = .ok (.aload_n 0, 1) := by decide +kernel
theorem dsb_10 : decode jdk_42_method_151_code 10 = .ok (.iload_n 2, 1) := by decide +kernel
theorem dsb_11 : decode jdk_42_method_151_code 11 = .ok (.putfield 15, 3) := by decide +kernel
theorem dsb_14 : decode jdk_42_method_151_code 14 = .ok (.return_, 1) := by decide +kernel
theorem pnsb : plainName "java/lang/String" = true := by first | (simp [plainName, overriddenIn]; done) | decide +kernel
theorem efsb (m : MethodId) (z0 : Addr) (z1 : Addr) (z2 : Int32) : entryFrame m #[(.ref z0), (.ref z1), (.int z2)] 3 = mkF m 0 #[.val (.ref z0), .val (.ref z1), .val (.int z2)] [] := by first | (simp [entryFrame, mkF, argsToLocals, Value.category]; done) | rfl
def Qsb (Z : State) (q1 : Addr) (q2 : Addr) (q3 : Int32) (h0 : Heap) (n0 : Nat) (v : Option Value) (h : Heap) (L : List Loc) : Prop := v = none ∧ Fr n0 L ∧ Keep h0 h [q1] ∧ Exa Z h q1 "java/lang/String" ∧ Fld Z h q1 "java/lang/String" "value" "[B" (.ref q2) ∧ Fld Z h q1 "java/lang/String" "coder" "B" (.int q3)
set_option maxRecDepth 65536 in
set_option maxHeartbeats 40000000 in
theorem rmsb (l : Launch) (Z : State) (a0 : Array Value) (hw : ∀ d ∈ tables_1, d.before a0 Z = true) (ws : List Jvm.Cond) (q1 : Addr) (q2 : Addr) (q3 : Int32) (h0 : Heap) (n0 : Nat) (Z0 : n0 ≤ h0.size) (E0 : Exa Z h0 q1 "java/lang/String") (F0 : Fld Z h0 q1 "java/lang/String" "coder" "B" (.int 0)) (g1 : n0 ≤ q1) (hq3 : q3 = 0 ∨ q3 = 1) :
    MetFree l (⟨"java/lang/String", "<init>", "([BB)V"⟩ : MethodName) (head1 (Jvm.Cond.code (⟨"java/lang/String", "<init>", "([BB)V"⟩ : MethodName) jdk_42_method_151_code 3 (Option.none : Option Jvm.ClassFile.FieldType) :: ws) ({ frames := 1, cells := 0, slots := 0, locals := 12 } : Room)) (fun a U => a = #[(.ref q1), (.ref q2), (.int q3)] ∧ Z.Warmed39 U.vm ∧ U.heap = h0) (fun _ _ _ _ _ => True) (fun _ U o U' => ∃ v L, o = .returned v ∧ Qsb Z q1 q2 q3 h0 n0 v U'.heap L ∧ FrameEnd U o U' L ({ frames := 1, cells := 0, slots := 0, locals := 12 } : Room).cells ({ frames := 1, cells := 0, slots := 0, locals := 12 } : Room).slots) := by
  refine MetFree.of_bodySF (plainFor_of_name pnsb) hisR ?_
  intro p e s m args below meth c s₁ Bd hml0 hP hK
  obtain ⟨rfl, hZ, hh⟩ := hP
  have hx := Bd.exec
  have hby := Bd.bytes
  have hml : c.maxLocals = 3 := hml0
  have hown : s.vm.findClass "java/lang/String" = some m.cls := findClass_of_methodNamed Bd.named
  have hnm := (name_of_methodNamed Bd.named Bd.method).1
  have X0 : Stand p l e ({ frames := 1, cells := 0, slots := 0, locals := 12 } : Room) s m #[(.ref q1), (.ref q2), (.int q3)] below meth c s₁ [] 0 0 := Stand.of_body Bd
  have e0 : s₁.heap = h0 := by rw [← hh, Bd.state]; rfl
  have N0 := Fr.nil n0
  show Go p e below (Ret s (Qsb Z q1 q2 q3 h0 n0) ({ frames := 1, cells := 0, slots := 0, locals := 12 } : Room).cells ({ frames := 1, cells := 0, slots := 0, locals := 12 } : Room).slots) (s₁.setTop (entryFrame m #[(.ref q1), (.ref q2), (.int q3)] 3))
  rw [efsb m q1 q2 q3]
  have K0 : Keep h0 h0 [q1] := Keep.refl _ _
  refine g_aloadN X0 hx (hb hby dsb_0) rfl rfl ?_
  refine g_objInit X0 hx hZ hown (hw _ (List.mem_of_getElem? (i := 23) rfl)) (hw _ (List.mem_of_getElem? (i := 24) rfl)) (hw _ (List.mem_of_getElem? (i := 25) rfl)) e0 (by rw [hml]; rfl) (hb hby dsb_1) (by decide) (W := 0) (Nat.le_of_eq rfl) (by decide) ?_
  intro T1 X2 e3
  refine g_aloadN X2 hx (hb hby dsb_4) rfl rfl ?_
  refine g_aloadN X2 hx (hb hby dsb_5) rfl rfl ?_
  obtain ⟨o5, F4⟩ := fld_any E0 F0 (hw _ (List.mem_of_getElem? (i := 14) rfl)) (Or.inr (hw _ (List.mem_of_getElem? (i := 27) rfl)))
  refine g_putF X2 hx hZ hown (hw _ (List.mem_of_getElem? (i := 26) rfl)) e3 F4 E0 (Or.inr ⟨(hw _ (List.mem_of_getElem? (i := 27) rfl)), rfl, hnm⟩) (hw _ (List.mem_of_getElem? (i := 14) rfl)) (ty := (.array .byte)) (by decide) rfl rfl (hb hby dsb_6) ?_
  intro T7 h10 X8 e9 W11
  have F13 := E0.wr W11
  have F14 := F0.other W11 (Or.inr (slot_ne (Or.inr (hw _ (List.mem_of_getElem? (i := 29) rfl))) (Or.inr (hw _ (List.mem_of_getElem? (i := 27) rfl))) (by decide) (t := .byte) (t' := (.array .byte)) (by decide) (by decide)))
  have F15 := F4.same W11
  have Z16 : n0 ≤ h10.size := by rw [W11.size]; exact Z0
  have K17 := Keep.wr K0 W11 (Or.inl (List.mem_singleton.mpr rfl))
  have N18 := Fr.snoc X8 N0 g1
  refine g_aloadN X8 hx (hb hby dsb_9) rfl rfl ?_
  refine g_iloadN X8 hx (hb hby dsb_10) rfl ?_
  refine g_putF X8 hx hZ hown (hw _ (List.mem_of_getElem? (i := 28) rfl)) e9 F14 F13 (Or.inr ⟨(hw _ (List.mem_of_getElem? (i := 29) rfl)), rfl, hnm⟩) (hw _ (List.mem_of_getElem? (i := 14) rfl)) (ty := .byte) (by decide) (by rcases hq3 with q | q <;> rw [q] <;> rfl) (by rcases hq3 with q | q <;> rw [q] <;> rfl) (hb hby dsb_11) ?_
  intro T19 h22 X20 e21 W23
  have F25 := F13.wr W23
  have F26 := F15.other W23 (Or.inr (slot_ne (Or.inr (hw _ (List.mem_of_getElem? (i := 27) rfl))) (Or.inr (hw _ (List.mem_of_getElem? (i := 29) rfl))) (by decide) (t := (.array .byte)) (t' := .byte) (by decide) (by decide)))
  have F27 := F14.same W23
  have Z28 : n0 ≤ h22.size := by rw [W23.size]; exact Z16
  have K29 := Keep.wr K17 W23 (Or.inl (List.mem_singleton.mpr rfl))
  have N30 := Fr.snoc X20 N18 g1
  refine g_return X20 hx Bd.notSynchronized Bd.returns (hb hby dsb_14) (by decide) (by decide) ?_
  rw [e21]
  exact ⟨rfl, N30, K29, F25, F26, F27⟩
theorem dvo_0 : decode jdk_42_method_139_code 0 = .ok (.getstatic 38, 3) := by decide +kernel
theorem dvo_3 : decode jdk_42_method_139_code 3 = .ok (.ifCond .eq 23, 3) := by decide +kernel
theorem dvo_6 : decode jdk_42_method_139_code 6 = .ok (.iload_n 0, 1) := by decide +kernel
theorem dvo_7 : decode jdk_42_method_139_code 7 = .ok (.invokestatic 1015, 3) := by decide +kernel
theorem dvo_10 : decode jdk_42_method_139_code 10 = .ok (.ifCond .eq 16, 3) := by decide +kernel
theorem dvo_13 : decode jdk_42_method_139_code 13 = .ok (.new 10, 3) := by decide +kernel
theorem dvo_16 : decode jdk_42_method_139_code 16 = .ok (.dup, 1) := by decide +kernel
theorem dvo_17 : decode jdk_42_method_139_code 17 = .ok (.iload_n 0, 1) := by decide +kernel
theorem dvo_18 : decode jdk_42_method_139_code 18 = .ok (.invokestatic 1018, 3) := by decide +kernel
theorem dvo_21 : decode jdk_42_method_139_code 21 = .ok (.iconst 0, 1) := by decide +kernel
theorem dvo_22 : decode jdk_42_method_139_code 22 = .ok (.invokespecial 209, 3) := by decide +kernel
theorem dvo_25 : decode jdk_42_method_139_code 25 = .ok (.areturn, 1) := by decide +kernel
theorem dvo_26 : decode jdk_42_method_139_code 26 = .ok (.new 10, 3) := by decide +kernel
theorem dvo_29 : decode jdk_42_method_139_code 29 = .ok (.dup, 1) := by decide +kernel
theorem dvo_30 : decode jdk_42_method_139_code 30 = .ok (.iload_n 0, 1) := by decide +kernel
theorem dvo_31 : decode jdk_42_method_139_code 31 = .ok (.invokestatic 1021, 3) := by decide +kernel
theorem dvo_34 : decode jdk_42_method_139_code 34 = .ok (.iconst 1, 1) := by decide +kernel
theorem dvo_35 : decode jdk_42_method_139_code 35 = .ok (.invokespecial 209, 3) := by decide +kernel
theorem dvo_38 : decode jdk_42_method_139_code 38 = .ok (.areturn, 1) := by decide +kernel
theorem pnvo : plainName "java/lang/String" = true := by first | (simp [plainName, overriddenIn]; done) | decide +kernel
theorem pdvo_0 : parseMethodDescriptor "(C)Z" = some ⟨[.char], some .boolean⟩ := by decide +kernel
theorem pdvo_1 : parseMethodDescriptor "(C)[B" = some ⟨[.char], some (.array .byte)⟩ := by decide +kernel
theorem pdvo_2 : parseMethodDescriptor "([BB)V" = some ⟨[(.array .byte), .byte], none⟩ := by decide +kernel
theorem efvo (m : MethodId) (z0 : Int32) : entryFrame m #[(.int z0)] 1 = mkF m 0 #[.val (.int z0)] [] := by first | (simp [entryFrame, mkF, argsToLocals, Value.category]; done) | rfl
def Qvo (Z : State) (q1 : Int32) (cs : Int32) (h0 : Heap) (n0 : Nat) (v : Option Value) (h : Heap) (L : List Loc) : Prop := ∃ x : Addr, v = some (.ref x) ∧ Fr n0 L ∧ Keep h0 h [] ∧ h0.size ≤ x ∧ n0 ≤ x ∧ own_Sx Z h n0 h0.size x
set_option maxRecDepth 65536 in
set_option maxHeartbeats 40000000 in
theorem rmvo (l : Launch) (Z : State) (a0 : Array Value) (hw : ∀ d ∈ tables_1, d.before a0 Z = true) (ws : List Jvm.Cond) (q1 : Int32) (cs : Int32) (h0 : Heap) (n0 : Nat) (Z0 : n0 ≤ h0.size) (SCS : Sta Z h0 "java/lang/String" "COMPACT_STRINGS" "Z" (.int cs)) (SAD : Sta Z h0 "java/lang/StringUTF16" "$assertionsDisabled" "Z" (.int (1 : Int32))) (SHI : Sta Z h0 "java/lang/StringUTF16" "HI_BYTE_SHIFT" "I" (.int (0 : Int32))) (SLO : Sta Z h0 "java/lang/StringUTF16" "LO_BYTE_SHIFT" "I" (.int (8 : Int32))) (hcs : ¬ cs = 0) :
    MetFree l (⟨"java/lang/String", "valueOf", "(C)Ljava/lang/String;"⟩ : MethodName) (head1 (Jvm.Cond.code (⟨"java/lang/String", "valueOf", "(C)Ljava/lang/String;"⟩ : MethodName) jdk_42_method_139_code 1 (Option.some (Jvm.ClassFile.FieldType.object "java/lang/String")) :: ws) ({ frames := 2, cells := 2, slots := 6, locals := 48 } : Room)) (fun a U => a = #[(.int q1)] ∧ Z.Warmed39 U.vm ∧ U.heap = h0) (fun _ _ _ _ _ => True) (fun _ U o U' => ∃ v L, o = .returned v ∧ Qvo Z q1 cs h0 n0 v U'.heap L ∧ FrameEnd U o U' L ({ frames := 2, cells := 2, slots := 6, locals := 48 } : Room).cells ({ frames := 2, cells := 2, slots := 6, locals := 48 } : Room).slots) := by
  refine MetFree.of_bodySF (plainFor_of_name pnvo) hisR ?_
  intro p e s m args below meth c s₁ Bd hml0 hP hK
  obtain ⟨rfl, hZ, hh⟩ := hP
  have hx := Bd.exec
  have hby := Bd.bytes
  have hml : c.maxLocals = 1 := hml0
  have hown : s.vm.findClass "java/lang/String" = some m.cls := findClass_of_methodNamed Bd.named
  have hnm := (name_of_methodNamed Bd.named Bd.method).1
  have X0 : Stand p l e ({ frames := 2, cells := 2, slots := 6, locals := 48 } : Room) s m #[(.int q1)] below meth c s₁ [] 0 0 := Stand.of_body Bd
  have e0 : s₁.heap = h0 := by rw [← hh, Bd.state]; rfl
  have N0 := Fr.nil n0
  show Go p e below (Ret s (Qvo Z q1 cs h0 n0) ({ frames := 2, cells := 2, slots := 6, locals := 48 } : Room).cells ({ frames := 2, cells := 2, slots := 6, locals := 48 } : Room).slots) (s₁.setTop (entryFrame m #[(.int q1)] 1))
  rw [efvo m q1]
  have K0 : Keep h0 h0 [] := Keep.refl _ _
  refine g_getS X0 hx hZ hown (hw _ (List.mem_of_getElem? (i := 8) rfl)) e0 SCS (hb hby dvo_0) ?_
  intro T1 X2 e3
  have hc3_4 : ¬ (cs = (0 : Int32)) := hcs
  refine g_ifNo X2 hx (hb hby dvo_3) (feq hc3_4).1 ?_
  refine g_iloadN X2 hx (hb hby dvo_6) rfl ?_
  refine g_callS X2 hx hZ hown (hw _ (List.mem_of_getElem? (i := 9) rfl)) (hw _ (List.mem_of_getElem? (i := 10) rfl)) (hw _ (List.mem_of_getElem? (i := 11) rfl)) (hw _ (List.mem_of_getElem? (i := 12) rfl)) (by decide) (rmce l Z a0 hw [] q1 h0 n0 Z0) e3 (W := 0) (by decide) (by decide) (by rw [hml]; rfl) [(.int q1)] [] (lenOf pdvo_0 rfl) rfl rfl (Nat.le_of_eq rfl) (hb hby dvo_7) (by decide) (by decide) ?_
  intro v9 T5 L8 X6 hQ7
  obtain ⟨rfl, N10, e11⟩ := hQ7
  have N12 := Fr.app N0 N10
  show Go p e below (Ret s (Qvo Z q1 cs h0 n0) ({ frames := 2, cells := 2, slots := 6, locals := 48 } : Room).cells ({ frames := 2, cells := 2, slots := 6, locals := 48 } : Room).slots) (T5.setTop (mkF m 10 #[.val (.int q1)] [(.int (if (255 : Int32) < q1 then (0 : Int32) else (1 : Int32)))]))
  generalize hen : (if (255 : Int32) < q1 then (0 : Int32) else (1 : Int32)) = en
  by_cases hc10_13 : en = (0 : Int32)
  ·
    refine g_ifYes X6 hx (hb hby dvo_10) (teq hc10_13).1 (by decide) (pc' := 26) (by decide) ?_
    refine g_new X6 hx hZ hown (hw _ (List.mem_of_getElem? (i := 13) rfl)) (hw _ (List.mem_of_getElem? (i := 14) rfl)) (hw _ (List.mem_of_getElem? (i := 6) rfl)) e11 (hb hby dvo_26) (by decide) (by decide) ?_
    intro T14 h17 x gx X15 e16 E18 F19 D20
    have ge_x : n0 ≤ x := by rw [gx]; exact Z0
    have gek_x : h0.size ≤ x := by rw [gx]; exact K0.1
    have F22 := SCS.ext E18
    have F23 := SAD.ext E18
    have F24 := SHI.ext E18
    have F25 := SLO.ext E18
    have Z26 : n0 ≤ h17.size := Nat.le_trans Z0 E18.1
    have K27 := Keep.ext K0 E18
    have F29 : Fld Z h17 x "java/lang/String" "coder" "B" (.int (0 : Int32)) := D20 (Or.inr (hw _ (List.mem_of_getElem? (i := 29) rfl))) (ty := .byte) (by decide)
    refine g_dup X15 hx (hb hby dvo_29) rfl ?_
    refine g_iloadN X15 hx (hb hby dvo_30) rfl ?_
    refine g_callS X15 hx hZ hown (hw _ (List.mem_of_getElem? (i := 118) rfl)) (hw _ (List.mem_of_getElem? (i := 119) rfl)) (hw _ (List.mem_of_getElem? (i := 91) rfl)) (hw _ (List.mem_of_getElem? (i := 120) rfl)) (by decide) (rmub l Z a0 hw [] q1 h17 n0 Z26 F23 F24 F25) e16 (W := 2) (by decide) (by decide) (by rw [hml]; rfl) [(.int q1)] [(.ref x), (.ref x)] (lenOf pdvo_1 rfl) rfl rfl (Nat.le_of_eq rfl) (hb hby dvo_31) (by decide) (by decide) ?_
    intro v35 T31 L34 X32 hQ33
    obtain ⟨b, rfl, N36, K37, g38, g39, F_b, A_b⟩ := hQ33
    have N40 := Fr.app N12 N36
    have ne_x_b : x ≠ b := fun q => absurd F19.lt (by rw [q]; exact Nat.not_lt.mpr g38)
    have F41 := Sta.keepN F22 K37 ns0
    have F42 := Sta.keepN F23 K37 ns0
    have F43 := Sta.keepN F24 K37 ns0
    have F44 := Sta.keepN F25 K37 ns0
    have F45 := F19.keep K37
    have F46 := F29.keep K37 nin0
    have Z47 : n0 ≤ T31.heap.size := Nat.le_trans Z26 K37.1
    have K48 := Keep.trans K27 K37 all0
    have gek_b : h0.size ≤ b := Nat.le_trans K27.1 g38
    show Go p e below (Ret s (Qvo Z q1 cs h0 n0) ({ frames := 2, cells := 2, slots := 6, locals := 48 } : Room).cells ({ frames := 2, cells := 2, slots := 6, locals := 48 } : Room).slots) (T31.setTop (mkF m 34 #[.val (.int q1)] [(.ref b), (.ref x), (.ref x)]))
    refine g_iconst X32 hx (hb hby dvo_34) (v := (1 : Int32)) (by decide) ?_
    refine g_init X32 hx hZ hown rfl (hw _ (List.mem_of_getElem? (i := 19) rfl)) (hw _ (List.mem_of_getElem? (i := 20) rfl)) (hw _ (List.mem_of_getElem? (i := 6) rfl)) (hw _ (List.mem_of_getElem? (i := 22) rfl)) (by decide) (rmsb l Z a0 hw [] x b (1 : Int32) T31.heap n0 Z47 F45 F46 ge_x (by decide)) rfl (W := 1) (by decide) (by decide) (by rw [hml]; rfl) x [(.ref b), (.int (1 : Int32))] [(.ref x)] (lenOf pdvo_2 rfl) rfl rfl (Nat.le_of_eq rfl) (hb hby dvo_35) (by decide) (by decide) ?_
    intro v54 T50 L53 X51 hQ52
    obtain ⟨rfl, N55, K56, F57, F58, F59⟩ := hQ52
    have N60 := Fr.app N40 N55
    have F61 := Sta.keepN F41 K56 (nsS (Exa.ns F45) ns0)
    have F62 := Sta.keepN F42 K56 (nsS (Exa.ns F45) ns0)
    have F63 := Sta.keepN F43 K56 (nsS (Exa.ns F45) ns0)
    have F64 := Sta.keepN F44 K56 (nsS (Exa.ns F45) ns0)
    have F65 := F45.keep K56
    have F67 := A_b.keep K56 (ninS ne_x_b.symm nin0)
    have Z68 : n0 ≤ T50.heap.size := Nat.le_trans Z47 K56.1
    have K69 := Keep.trans K48 K56 (allS (Or.inr gek_x) all0)
    show Go p e below (Ret s (Qvo Z q1 cs h0 n0) ({ frames := 2, cells := 2, slots := 6, locals := 48 } : Room).cells ({ frames := 2, cells := 2, slots := 6, locals := 48 } : Room).slots) (T50.setTop (mkF m 38 #[.val (.int q1)] [(.ref x)]))
    refine g_areturn X51 hx Bd.notSynchronized Bd.returns rfl rfl (hb hby dvo_38) (by decide) (by decide) ?_
    exact ⟨x, rfl, N60, K69, gek_x, ge_x, b, _, 2, F_b, F57, F58, F59, F67, by decide⟩
  ·
    refine g_ifNo X6 hx (hb hby dvo_10) (feq hc10_13).1 ?_
    refine g_new X6 hx hZ hown (hw _ (List.mem_of_getElem? (i := 13) rfl)) (hw _ (List.mem_of_getElem? (i := 14) rfl)) (hw _ (List.mem_of_getElem? (i := 6) rfl)) e11 (hb hby dvo_13) (by decide) (by decide) ?_
    intro T73 h76 x gx X74 e75 E77 F78 D79
    have ge_x : n0 ≤ x := by rw [gx]; exact Z0
    have gek_x : h0.size ≤ x := by rw [gx]; exact K0.1
    have F81 := SCS.ext E77
    have F82 := SAD.ext E77
    have F83 := SHI.ext E77
    have F84 := SLO.ext E77
    have Z85 : n0 ≤ h76.size := Nat.le_trans Z0 E77.1
    have K86 := Keep.ext K0 E77
    have F88 : Fld Z h76 x "java/lang/String" "coder" "B" (.int (0 : Int32)) := D79 (Or.inr (hw _ (List.mem_of_getElem? (i := 29) rfl))) (ty := .byte) (by decide)
    refine g_dup X74 hx (hb hby dvo_16) rfl ?_
    refine g_iloadN X74 hx (hb hby dvo_17) rfl ?_
    refine g_callS X74 hx hZ hown (hw _ (List.mem_of_getElem? (i := 15) rfl)) (hw _ (List.mem_of_getElem? (i := 16) rfl)) (hw _ (List.mem_of_getElem? (i := 11) rfl)) (hw _ (List.mem_of_getElem? (i := 17) rfl)) (by decide) (rmlb l Z a0 hw [] q1 h76 n0 Z85) e75 (W := 2) (by decide) (by decide) (by rw [hml]; rfl) [(.int q1)] [(.ref x), (.ref x)] (lenOf pdvo_1 rfl) rfl rfl (Nat.le_of_eq rfl) (hb hby dvo_18) (by decide) (by decide) ?_
    intro v94 T90 L93 X91 hQ92
    obtain ⟨b, rfl, N95, K96, g97, g98, F_b, A_b⟩ := hQ92
    have N99 := Fr.app N12 N95
    have ne_x_b : x ≠ b := fun q => absurd F78.lt (by rw [q]; exact Nat.not_lt.mpr g97)
    have F100 := Sta.keepN F81 K96 ns0
    have F101 := Sta.keepN F82 K96 ns0
    have F102 := Sta.keepN F83 K96 ns0
    have F103 := Sta.keepN F84 K96 ns0
    have F104 := F78.keep K96
    have F105 := F88.keep K96 nin0
    have Z106 : n0 ≤ T90.heap.size := Nat.le_trans Z85 K96.1
    have K107 := Keep.trans K86 K96 all0
    have gek_b : h0.size ≤ b := Nat.le_trans K86.1 g97
    show Go p e below (Ret s (Qvo Z q1 cs h0 n0) ({ frames := 2, cells := 2, slots := 6, locals := 48 } : Room).cells ({ frames := 2, cells := 2, slots := 6, locals := 48 } : Room).slots) (T90.setTop (mkF m 21 #[.val (.int q1)] [(.ref b), (.ref x), (.ref x)]))
    refine g_iconst X91 hx (hb hby dvo_21) (v := (0 : Int32)) (by decide) ?_
    refine g_init X91 hx hZ hown rfl (hw _ (List.mem_of_getElem? (i := 19) rfl)) (hw _ (List.mem_of_getElem? (i := 20) rfl)) (hw _ (List.mem_of_getElem? (i := 6) rfl)) (hw _ (List.mem_of_getElem? (i := 22) rfl)) (by decide) (rmsb l Z a0 hw [] x b (0 : Int32) T90.heap n0 Z106 F104 F105 ge_x (by decide)) rfl (W := 1) (by decide) (by decide) (by rw [hml]; rfl) x [(.ref b), (.int (0 : Int32))] [(.ref x)] (lenOf pdvo_2 rfl) rfl rfl (Nat.le_of_eq rfl) (hb hby dvo_22) (by decide) (by decide) ?_
    intro v113 T109 L112 X110 hQ111
    obtain ⟨rfl, N114, K115, F116, F117, F118⟩ := hQ111
    have N119 := Fr.app N99 N114
    have F120 := Sta.keepN F100 K115 (nsS (Exa.ns F104) ns0)
    have F121 := Sta.keepN F101 K115 (nsS (Exa.ns F104) ns0)
    have F122 := Sta.keepN F102 K115 (nsS (Exa.ns F104) ns0)
    have F123 := Sta.keepN F103 K115 (nsS (Exa.ns F104) ns0)
    have F124 := F104.keep K115
    have F126 := A_b.keep K115 (ninS ne_x_b.symm nin0)
    have Z127 : n0 ≤ T109.heap.size := Nat.le_trans Z106 K115.1
    have K128 := Keep.trans K107 K115 (allS (Or.inr gek_x) all0)
    show Go p e below (Ret s (Qvo Z q1 cs h0 n0) ({ frames := 2, cells := 2, slots := 6, locals := 48 } : Room).cells ({ frames := 2, cells := 2, slots := 6, locals := 48 } : Room).slots) (T109.setTop (mkF m 25 #[.val (.int q1)] [(.ref x)]))
    refine g_areturn X110 hx Bd.notSynchronized Bd.returns rfl rfl (hb hby dvo_25) (by decide) (by decide) ?_
    exact ⟨x, rfl, N119, K128, gek_x, ge_x, b, _, 1, F_b, F116, F117, F118, F126, by decide⟩
theorem ddr_0 : decode method_2_code 0 = .ok (.iload_n 0, 1) := by decide +kernel
theorem ddr_1 : decode method_2_code 1 = .ok (.ifCond .ne 9, 3) := by decide +kernel
theorem ddr_4 : decode method_2_code 4 = .ok (.iload_n 1, 1) := by decide +kernel
theorem ddr_5 : decode method_2_code 5 = .ok (.i2c, 1) := by decide +kernel
theorem ddr_6 : decode method_2_code 6 = .ok (.invokestatic 7, 3) := by decide +kernel
theorem ddr_9 : decode method_2_code 9 = .ok (.areturn, 1) := by decide +kernel
theorem ddr_10 : decode method_2_code 10 = .ok (.iload_n 0, 1) := by decide +kernel
theorem ddr_11 : decode method_2_code 11 = .ok (.iconst 1, 1) := by decide +kernel
theorem ddr_12 : decode method_2_code 12 = .ok (.if_icmp .ne 29, 3) := by decide +kernel
theorem ddr_15 : decode method_2_code 15 = .ok (.new 8, 3) := by decide +kernel
theorem ddr_18 : decode method_2_code 18 = .ok (.dup, 1) := by decide +kernel
theorem ddr_19 : decode method_2_code 19 = .ok (.iconst 3, 1) := by decide +kernel
theorem ddr_20 : decode method_2_code 20 = .ok (.newarray .char, 2) := by decide +kernel
theorem ddr_22 : decode method_2_code 22 = .ok (.dup, 1) := by decide +kernel
theorem ddr_23 : decode method_2_code 23 = .ok (.iconst 0, 1) := by decide +kernel
theorem ddr_24 : decode method_2_code 24 = .ok (.iload_n 1, 1) := by decide +kernel
theorem ddr_25 : decode method_2_code 25 = .ok (.i2c, 1) := by decide +kernel
theorem ddr_26 : decode method_2_code 26 = .ok (.castore, 1) := by decide +kernel
theorem ddr_27 : decode method_2_code 27 = .ok (.dup, 1) := by decide +kernel
theorem ddr_28 : decode method_2_code 28 = .ok (.iconst 1, 1) := by decide +kernel
theorem ddr_29 : decode method_2_code 29 = .ok (.iload_n 2, 1) := by decide +kernel
theorem ddr_30 : decode method_2_code 30 = .ok (.i2c, 1) := by decide +kernel
theorem ddr_31 : decode method_2_code 31 = .ok (.castore, 1) := by decide +kernel
theorem ddr_32 : decode method_2_code 32 = .ok (.dup, 1) := by decide +kernel
theorem ddr_33 : decode method_2_code 33 = .ok (.iconst 2, 1) := by decide +kernel
theorem ddr_34 : decode method_2_code 34 = .ok (.iload_n 3, 1) := by decide +kernel
theorem ddr_35 : decode method_2_code 35 = .ok (.i2c, 1) := by decide +kernel
theorem ddr_36 : decode method_2_code 36 = .ok (.castore, 1) := by decide +kernel
theorem ddr_37 : decode method_2_code 37 = .ok (.invokespecial 13, 3) := by decide +kernel
theorem ddr_40 : decode method_2_code 40 = .ok (.areturn, 1) := by decide +kernel
theorem ddr_41 : decode method_2_code 41 = .ok (.iload_n 0, 1) := by decide +kernel
theorem ddr_42 : decode method_2_code 42 = .ok (.iconst 2, 1) := by decide +kernel
theorem ddr_43 : decode method_2_code 43 = .ok (.if_icmp .ne 10, 3) := by decide +kernel
theorem ddr_46 : decode method_2_code 46 = .ok (.iload 4, 2) := by decide +kernel
theorem ddr_48 : decode method_2_code 48 = .ok (.i2c, 1) := by decide +kernel
theorem ddr_49 : decode method_2_code 49 = .ok (.invokestatic 7, 3) := by decide +kernel
theorem ddr_52 : decode method_2_code 52 = .ok (.areturn, 1) := by decide +kernel
theorem ddr_53 : decode method_2_code 53 = .ok (.new 8, 3) := by decide +kernel
theorem ddr_56 : decode method_2_code 56 = .ok (.dup, 1) := by decide +kernel
theorem ddr_57 : decode method_2_code 57 = .ok (.iconst 3, 1) := by decide +kernel
theorem ddr_58 : decode method_2_code 58 = .ok (.newarray .char, 2) := by decide +kernel
theorem ddr_60 : decode method_2_code 60 = .ok (.dup, 1) := by decide +kernel
theorem ddr_61 : decode method_2_code 61 = .ok (.iconst 0, 1) := by decide +kernel
theorem ddr_62 : decode method_2_code 62 = .ok (.iload_n 1, 1) := by decide +kernel
theorem ddr_63 : decode method_2_code 63 = .ok (.i2c, 1) := by decide +kernel
theorem ddr_64 : decode method_2_code 64 = .ok (.castore, 1) := by decide +kernel
theorem ddr_65 : decode method_2_code 65 = .ok (.dup, 1) := by decide +kernel
theorem ddr_66 : decode method_2_code 66 = .ok (.iconst 1, 1) := by decide +kernel
theorem ddr_67 : decode method_2_code 67 = .ok (.iload_n 2, 1) := by decide +kernel
theorem ddr_68 : decode method_2_code 68 = .ok (.i2c, 1) := by decide +kernel
theorem ddr_69 : decode method_2_code 69 = .ok (.castore, 1) := by decide +kernel
theorem ddr_70 : decode method_2_code 70 = .ok (.dup, 1) := by decide +kernel
theorem ddr_71 : decode method_2_code 71 = .ok (.iconst 2, 1) := by decide +kernel
theorem ddr_72 : decode method_2_code 72 = .ok (.iload 4, 2) := by decide +kernel
theorem ddr_74 : decode method_2_code 74 = .ok (.i2c, 1) := by decide +kernel
theorem ddr_75 : decode method_2_code 75 = .ok (.castore, 1) := by decide +kernel
theorem ddr_76 : decode method_2_code 76 = .ok (.invokespecial 13, 3) := by decide +kernel
theorem ddr_79 : decode method_2_code 79 = .ok (.areturn, 1) := by decide +kernel
theorem pndr : plainName "com/example/role_chain_check/rolechaincheck/model/RoleNamedPinLaw" = true := by first | (simp [plainName, overriddenIn]; done) | decide +kernel
theorem pddr_0 : parseMethodDescriptor "(C)Ljava/lang/String;" = some ⟨[.char], some (.object "java/lang/String")⟩ := by decide +kernel
theorem pddr_1 : parseMethodDescriptor "([C)V" = some ⟨[(.array .char)], none⟩ := by decide +kernel
theorem efdr (m : MethodId) (z0 : Int32) (z1 : Int32) (z2 : Int32) (z3 : Int32) (z4 : Int32) : entryFrame m #[(.int z0), (.int z1), (.int z2), (.int z3), (.int z4)] 5 = mkF m 0 #[.val (.int z0), .val (.int z1), .val (.int z2), .val (.int z3), .val (.int z4)] [] := by first | (simp [entryFrame, mkF, argsToLocals, Value.category]; done) | rfl
def Qdr (Z : State) (q1 : Int32) (q2 : Int32) (q3 : Int32) (q4 : Int32) (q5 : Int32) (cs : Int32) (h0 : Heap) (n0 : Nat) (v : Option Value) (h : Heap) (L : List Loc) : Prop := ∃ x : Addr, v = some (.ref x) ∧ Fr n0 L ∧ Keep h0 h [] ∧ h0.size ≤ x ∧ n0 ≤ x ∧ own_Sx Z h n0 h0.size x
set_option maxRecDepth 65536 in
set_option maxHeartbeats 40000000 in
theorem rmdr (l : Launch) (Z : State) (a0 : Array Value) (hw : ∀ d ∈ tables_1, d.before a0 Z = true) (ws : List Jvm.Cond) (q1 : Int32) (q2 : Int32) (q3 : Int32) (q4 : Int32) (q5 : Int32) (cs : Int32) (h0 : Heap) (n0 : Nat) (Z0 : n0 ≤ h0.size) (SCS : Sta Z h0 "java/lang/String" "COMPACT_STRINGS" "Z" (.int cs)) (SAD : Sta Z h0 "java/lang/StringUTF16" "$assertionsDisabled" "Z" (.int (1 : Int32))) (SHI : Sta Z h0 "java/lang/StringUTF16" "HI_BYTE_SHIFT" "I" (.int (0 : Int32))) (SLO : Sta Z h0 "java/lang/StringUTF16" "LO_BYTE_SHIFT" "I" (.int (8 : Int32))) (hcs : ¬ cs = 0) :
    MetFree l (⟨"com/example/role_chain_check/rolechaincheck/model/RoleNamedPinLaw", "draw", "(IIIII)Ljava/lang/String;"⟩ : MethodName) (head1 (Jvm.Cond.code (⟨"com/example/role_chain_check/rolechaincheck/model/RoleNamedPinLaw", "draw", "(IIIII)Ljava/lang/String;"⟩ : MethodName) method_2_code 5 (Option.some (Jvm.ClassFile.FieldType.object "java/lang/String")) :: ws) ({ frames := 6, cells := 4, slots := 16, locals := 140 } : Room)) (fun a U => a = #[(.int q1), (.int q2), (.int q3), (.int q4), (.int q5)] ∧ Z.Warmed39 U.vm ∧ U.heap = h0) (fun _ _ _ _ _ => True) (fun _ U o U' => ∃ v L, o = .returned v ∧ Qdr Z q1 q2 q3 q4 q5 cs h0 n0 v U'.heap L ∧ FrameEnd U o U' L ({ frames := 6, cells := 4, slots := 16, locals := 140 } : Room).cells ({ frames := 6, cells := 4, slots := 16, locals := 140 } : Room).slots) := by
  refine MetFree.of_bodySF (plainFor_of_name pndr) hisR ?_
  intro p e s m args below meth c s₁ Bd hml0 hP hK
  obtain ⟨rfl, hZ, hh⟩ := hP
  have hx := Bd.exec
  have hby := Bd.bytes
  have hml : c.maxLocals = 5 := hml0
  have hown : s.vm.findClass "com/example/role_chain_check/rolechaincheck/model/RoleNamedPinLaw" = some m.cls := findClass_of_methodNamed Bd.named
  have hnm := (name_of_methodNamed Bd.named Bd.method).1
  have X0 : Stand p l e ({ frames := 6, cells := 4, slots := 16, locals := 140 } : Room) s m #[(.int q1), (.int q2), (.int q3), (.int q4), (.int q5)] below meth c s₁ [] 0 0 := Stand.of_body Bd
  have e0 : s₁.heap = h0 := by rw [← hh, Bd.state]; rfl
  have N0 := Fr.nil n0
  show Go p e below (Ret s (Qdr Z q1 q2 q3 q4 q5 cs h0 n0) ({ frames := 6, cells := 4, slots := 16, locals := 140 } : Room).cells ({ frames := 6, cells := 4, slots := 16, locals := 140 } : Room).slots) (s₁.setTop (entryFrame m #[(.int q1), (.int q2), (.int q3), (.int q4), (.int q5)] 5))
  rw [efdr m q1 q2 q3 q4 q5]
  have K0 : Keep h0 h0 [] := Keep.refl _ _
  refine g_iloadN X0 hx (hb hby ddr_0) rfl ?_
  by_cases hc1_1 : q1 = (0 : Int32)
  ·
    refine g_ifNo X0 hx (hb hby ddr_1) (teq hc1_1).2 ?_
    refine g_iloadN X0 hx (hb hby ddr_4) rfl ?_
    obtain ⟨i2, hi2⟩ : ∃ v : Int32, q2.toUInt32.toUInt16.toUInt32.toInt32 = v := ⟨_, rfl⟩
    refine g_i2c X0 hx (hb hby ddr_5) hi2 ?_
    refine g_callS X0 hx hZ hown (hw _ (List.mem_of_getElem? (i := 4) rfl)) (hw _ (List.mem_of_getElem? (i := 5) rfl)) (hw _ (List.mem_of_getElem? (i := 6) rfl)) (hw _ (List.mem_of_getElem? (i := 7) rfl)) (by decide) (rmvo l Z a0 hw [] i2 cs h0 n0 Z0 SCS SAD SHI SLO hcs) e0 (W := 0) (by decide) (by decide) (by rw [hml]; rfl) [(.int i2)] [] (lenOf pddr_0 rfl) rfl rfl (Nat.le_of_eq rfl) (hb hby ddr_6) (by decide) (by decide) ?_
    intro v7 T3 L6 X4 hQ5
    obtain ⟨x, rfl, N8, K9, g10, g11, SX⟩ := hQ5
    have N12 := Fr.app N0 N8
    have F13 := Sta.keepN SCS K9 ns0
    have F14 := Sta.keepN SAD K9 ns0
    have F15 := Sta.keepN SHI K9 ns0
    have F16 := Sta.keepN SLO K9 ns0
    have Z17 : n0 ≤ T3.heap.size := Nat.le_trans Z0 K9.1
    have K18 := Keep.trans K0 K9 all0
    have gek_x : h0.size ≤ x := Nat.le_trans K0.1 g10
    show Go p e below (Ret s (Qdr Z q1 q2 q3 q4 q5 cs h0 n0) ({ frames := 6, cells := 4, slots := 16, locals := 140 } : Room).cells ({ frames := 6, cells := 4, slots := 16, locals := 140 } : Room).slots) (T3.setTop (mkF m 9 #[.val (.int q1), .val (.int q2), .val (.int q3), .val (.int q4), .val (.int q5)] [(.ref x)]))
    refine g_areturn X4 hx Bd.notSynchronized Bd.returns rfl rfl (hb hby ddr_9) (by decide) (by decide) ?_
    exact ⟨x, rfl, N12, K18, gek_x, g11, (by
      obtain ⟨vv, cd, n, F, z⟩ := SX
      exact ⟨vv, cd, n, F, z⟩)⟩
  ·
    refine g_ifYes X0 hx (hb hby ddr_1) (feq hc1_1).2 (by decide) (pc' := 10) (by decide) ?_
    refine g_iloadN X0 hx (hb hby ddr_10) rfl ?_
    refine g_iconst X0 hx (hb hby ddr_11) (v := (1 : Int32)) (by decide) ?_
    by_cases hc12_19 : q1 = (1 : Int32)
    ·
      refine g_icmpNo X0 hx (hb hby ddr_12) (teq hc12_19).2 ?_
      refine g_new X0 hx hZ hown (hw _ (List.mem_of_getElem? (i := 81) rfl)) (hw _ (List.mem_of_getElem? (i := 14) rfl)) (hw _ (List.mem_of_getElem? (i := 6) rfl)) e0 (hb hby ddr_15) (by decide) (by decide) ?_
      intro T20 h23 x gx X21 e22 E24 F25 D26
      have ge_x : n0 ≤ x := by rw [gx]; exact Z0
      have gek_x : h0.size ≤ x := by rw [gx]; exact K0.1
      have F28 := SCS.ext E24
      have F29 := SAD.ext E24
      have F30 := SHI.ext E24
      have F31 := SLO.ext E24
      have Z32 : n0 ≤ h23.size := Nat.le_trans Z0 E24.1
      have K33 := Keep.ext K0 E24
      have F35 : Fld Z h23 x "java/lang/String" "coder" "B" (.int (0 : Int32)) := D26 (Or.inr (hw _ (List.mem_of_getElem? (i := 29) rfl))) (ty := .byte) (by decide)
      refine g_dup X21 hx (hb hby ddr_18) rfl ?_
      refine g_iconst X21 hx (hb hby ddr_19) (v := (3 : Int32)) (by decide) ?_
      refine g_newP X21 hx hZ (ty := .char) rfl (hw _ (List.mem_of_getElem? (i := 82) rfl)) e22 (hb hby ddr_20) (by decide) (cap := 3) (by decide) (by decide) (by decide) (by decide) ?_
      intro T37 h40 ca cA44 gca X38 e39 E41 F42 
      have ne_x_ca : x ≠ ca := fun q => absurd F25.lt (by rw [q, gca]; exact Nat.lt_irrefl _)
      have ge_ca : n0 ≤ ca := by rw [gca]; exact Z32
      have gek_ca : h0.size ≤ ca := by rw [gca]; exact K33.1
      have F46 := F28.ext E41
      have F47 := F29.ext E41
      have F48 := F30.ext E41
      have F49 := F31.ext E41
      have F50 := F25.ext E41
      have F51 := F35.ext E41
      have Z52 : n0 ≤ h40.size := Nat.le_trans Z32 E41.1
      have K53 := Keep.ext K33 E41
      have F45 : Av Z h40 ca .char 3 (fun _ => .int 0) := Av.newK F42 (by decide)
      refine g_dup X38 hx (hb hby ddr_22) rfl ?_
      refine g_iconst X38 hx (hb hby ddr_23) (v := (0 : Int32)) (by decide) ?_
      refine g_iloadN X38 hx (hb hby ddr_24) rfl ?_
      obtain ⟨i55, hi55⟩ : ∃ v : Int32, q2.toUInt32.toUInt16.toUInt32.toInt32 = v := ⟨_, rfl⟩
      refine g_i2c X38 hx (hb hby ddr_25) hi55 ?_
      refine g_castore X38 hx hZ e39 F45 (i := 0) (by decide) (by decide) (by decide) (hb hby ddr_26) ?_
      intro T56 h59 X57 e58 W60
      have F61 := F46.wr W60
      have F62 := F47.wr W60
      have F63 := F48.wr W60
      have F64 := F49.wr W60
      have F65 := F50.wr W60
      have F66 := F51.other W60 (Or.inl ne_x_ca)
      have F67 := F45.same W60
      have Z68 : n0 ≤ h59.size := by rw [W60.size]; exact Z52
      have K69 := Keep.wr K53 W60 (Or.inr gek_ca)
      have N70 := Fr.snoc X57 N0 ge_ca
      refine g_dup X57 hx (hb hby ddr_27) rfl ?_
      refine g_iconst X57 hx (hb hby ddr_28) (v := (1 : Int32)) (by decide) ?_
      refine g_iloadN X57 hx (hb hby ddr_29) rfl ?_
      obtain ⟨i71, hi71⟩ : ∃ v : Int32, q3.toUInt32.toUInt16.toUInt32.toInt32 = v := ⟨_, rfl⟩
      refine g_i2c X57 hx (hb hby ddr_30) hi71 ?_
      refine g_castore X57 hx hZ e58 F67 (i := 1) (by decide) (by decide) (by decide) (hb hby ddr_31) ?_
      intro T72 h75 X73 e74 W76
      have F77 := F61.wr W76
      have F78 := F62.wr W76
      have F79 := F63.wr W76
      have F80 := F64.wr W76
      have F81 := F65.wr W76
      have F82 := F66.other W76 (Or.inl ne_x_ca)
      have F83 := F67.same W76
      have Z84 : n0 ≤ h75.size := by rw [W76.size]; exact Z68
      have K85 := Keep.wr K69 W76 (Or.inr gek_ca)
      have N86 := Fr.snoc X73 N70 ge_ca
      refine g_dup X73 hx (hb hby ddr_32) rfl ?_
      refine g_iconst X73 hx (hb hby ddr_33) (v := (2 : Int32)) (by decide) ?_
      refine g_iloadN X73 hx (hb hby ddr_34) rfl ?_
      obtain ⟨i87, hi87⟩ : ∃ v : Int32, q4.toUInt32.toUInt16.toUInt32.toInt32 = v := ⟨_, rfl⟩
      refine g_i2c X73 hx (hb hby ddr_35) hi87 ?_
      refine g_castore X73 hx hZ e74 F83 (i := 2) (by decide) (by decide) (by decide) (hb hby ddr_36) ?_
      intro T88 h91 X89 e90 W92
      have F93 := F77.wr W92
      have F94 := F78.wr W92
      have F95 := F79.wr W92
      have F96 := F80.wr W92
      have F97 := F81.wr W92
      have F98 := F82.other W92 (Or.inl ne_x_ca)
      have F99 := F83.same W92
      have Z100 : n0 ≤ h91.size := by rw [W92.size]; exact Z84
      have K101 := Keep.wr K85 W92 (Or.inr gek_ca)
      have N102 := Fr.snoc X89 N86 ge_ca
      have A_u : Av Z h91 ca .char 3 (fun i => .int ((own_3 (nar .char i55) (nar .char i71) (nar .char i87)) i)) := (F99.congr (by
        intro i hi
        have : i = 0 ∨ i = 1 ∨ i = 2 := by omega
        rcases this with rfl | rfl | rfl <;> rfl))
      refine g_init X89 hx hZ hown rfl (hw _ (List.mem_of_getElem? (i := 83) rfl)) (hw _ (List.mem_of_getElem? (i := 84) rfl)) (hw _ (List.mem_of_getElem? (i := 6) rfl)) (hw _ (List.mem_of_getElem? (i := 85) rfl)) (by decide) (rmic_3 l Z a0 hw [] x ca (own_3 (nar .char i55) (nar .char i71) (nar .char i87)) cs h91 n0 Z100 F97 F98 ge_x F93 F94 F95 F96 hcs A_u (own_3c _ _ _) ne_x_ca.symm) e90 (W := 1) (by decide) (by decide) (by rw [hml]; rfl) x [(.ref ca)] [(.ref x)] (lenOf pddr_1 rfl) rfl rfl (Nat.le_of_eq rfl) (hb hby ddr_37) (by decide) (by decide) ?_
      intro v107 T103 L106 X104 hQ105
      obtain ⟨rfl, N108, K109, b, SV, gb⟩ := hQ105
      have N110 := Fr.app N102 N108
      have F111 := Sta.keepN F93 K109 (nsS (Exa.ns F97) ns0)
      have F112 := Sta.keepN F94 K109 (nsS (Exa.ns F97) ns0)
      have F113 := Sta.keepN F95 K109 (nsS (Exa.ns F97) ns0)
      have F114 := Sta.keepN F96 K109 (nsS (Exa.ns F97) ns0)
      have F115 := F97.keep K109
      have F117 := F99.keep K109 (ninS ne_x_ca.symm nin0)
      have Z118 : n0 ≤ T103.heap.size := Nat.le_trans Z100 K109.1
      have K119 := Keep.trans K101 K109 (allS (Or.inr gek_x) all0)
      show Go p e below (Ret s (Qdr Z q1 q2 q3 q4 q5 cs h0 n0) ({ frames := 6, cells := 4, slots := 16, locals := 140 } : Room).cells ({ frames := 6, cells := 4, slots := 16, locals := 140 } : Room).slots) (T103.setTop (mkF m 40 #[.val (.int q1), .val (.int q2), .val (.int q3), .val (.int q4), .val (.int q5)] [(.ref x)]))
      refine g_areturn X104 hx Bd.notSynchronized Bd.returns rfl rfl (hb hby ddr_40) (by decide) (by decide) ?_
      obtain ⟨V1, V2, V3, -, -⟩ := SV
      refine ⟨x, rfl, N110, K119, gek_x, ge_x, ?_⟩
      rcases V3 with ⟨d1, -, d3⟩ | ⟨d1, -, d3⟩
      · exact ⟨b, 0, 3, _, V1, V2, d1, d3, by decide⟩
      · exact ⟨b, 1, 6, _, V1, V2, d1, d3, by decide⟩
    ·
      refine g_icmpYes X0 hx (hb hby ddr_12) (feq hc12_19).2 (by decide) (pc' := 41) (by decide) ?_
      refine g_iloadN X0 hx (hb hby ddr_41) rfl ?_
      refine g_iconst X0 hx (hb hby ddr_42) (v := (2 : Int32)) (by decide) ?_
      by_cases hc43_120 : q1 = (2 : Int32)
      ·
        refine g_icmpNo X0 hx (hb hby ddr_43) (teq hc43_120).2 ?_
        refine g_iload X0 hx (hb hby ddr_46) rfl ?_
        obtain ⟨i121, hi121⟩ : ∃ v : Int32, q5.toUInt32.toUInt16.toUInt32.toInt32 = v := ⟨_, rfl⟩
        refine g_i2c X0 hx (hb hby ddr_48) hi121 ?_
        refine g_callS X0 hx hZ hown (hw _ (List.mem_of_getElem? (i := 4) rfl)) (hw _ (List.mem_of_getElem? (i := 5) rfl)) (hw _ (List.mem_of_getElem? (i := 6) rfl)) (hw _ (List.mem_of_getElem? (i := 7) rfl)) (by decide) (rmvo l Z a0 hw [] i121 cs h0 n0 Z0 SCS SAD SHI SLO hcs) e0 (W := 0) (by decide) (by decide) (by rw [hml]; rfl) [(.int i121)] [] (lenOf pddr_0 rfl) rfl rfl (Nat.le_of_eq rfl) (hb hby ddr_49) (by decide) (by decide) ?_
        intro v126 T122 L125 X123 hQ124
        obtain ⟨x, rfl, N127, K128, g129, g130, SX⟩ := hQ124
        have N131 := Fr.app N0 N127
        have F132 := Sta.keepN SCS K128 ns0
        have F133 := Sta.keepN SAD K128 ns0
        have F134 := Sta.keepN SHI K128 ns0
        have F135 := Sta.keepN SLO K128 ns0
        have Z136 : n0 ≤ T122.heap.size := Nat.le_trans Z0 K128.1
        have K137 := Keep.trans K0 K128 all0
        have gek_x : h0.size ≤ x := Nat.le_trans K0.1 g129
        show Go p e below (Ret s (Qdr Z q1 q2 q3 q4 q5 cs h0 n0) ({ frames := 6, cells := 4, slots := 16, locals := 140 } : Room).cells ({ frames := 6, cells := 4, slots := 16, locals := 140 } : Room).slots) (T122.setTop (mkF m 52 #[.val (.int q1), .val (.int q2), .val (.int q3), .val (.int q4), .val (.int q5)] [(.ref x)]))
        refine g_areturn X123 hx Bd.notSynchronized Bd.returns rfl rfl (hb hby ddr_52) (by decide) (by decide) ?_
        exact ⟨x, rfl, N131, K137, gek_x, g130, (by
          obtain ⟨vv, cd, n, F, z⟩ := SX
          exact ⟨vv, cd, n, F, z⟩)⟩
      ·
        refine g_icmpYes X0 hx (hb hby ddr_43) (feq hc43_120).2 (by decide) (pc' := 53) (by decide) ?_
        refine g_new X0 hx hZ hown (hw _ (List.mem_of_getElem? (i := 81) rfl)) (hw _ (List.mem_of_getElem? (i := 14) rfl)) (hw _ (List.mem_of_getElem? (i := 6) rfl)) e0 (hb hby ddr_53) (by decide) (by decide) ?_
        intro T138 h141 x gx X139 e140 E142 F143 D144
        have ge_x : n0 ≤ x := by rw [gx]; exact Z0
        have gek_x : h0.size ≤ x := by rw [gx]; exact K0.1
        have F146 := SCS.ext E142
        have F147 := SAD.ext E142
        have F148 := SHI.ext E142
        have F149 := SLO.ext E142
        have Z150 : n0 ≤ h141.size := Nat.le_trans Z0 E142.1
        have K151 := Keep.ext K0 E142
        have F153 : Fld Z h141 x "java/lang/String" "coder" "B" (.int (0 : Int32)) := D144 (Or.inr (hw _ (List.mem_of_getElem? (i := 29) rfl))) (ty := .byte) (by decide)
        refine g_dup X139 hx (hb hby ddr_56) rfl ?_
        refine g_iconst X139 hx (hb hby ddr_57) (v := (3 : Int32)) (by decide) ?_
        refine g_newP X139 hx hZ (ty := .char) rfl (hw _ (List.mem_of_getElem? (i := 82) rfl)) e140 (hb hby ddr_58) (by decide) (cap := 3) (by decide) (by decide) (by decide) (by decide) ?_
        intro T155 h158 ca cA162 gca X156 e157 E159 F160 
        have ne_x_ca : x ≠ ca := fun q => absurd F143.lt (by rw [q, gca]; exact Nat.lt_irrefl _)
        have ge_ca : n0 ≤ ca := by rw [gca]; exact Z150
        have gek_ca : h0.size ≤ ca := by rw [gca]; exact K151.1
        have F164 := F146.ext E159
        have F165 := F147.ext E159
        have F166 := F148.ext E159
        have F167 := F149.ext E159
        have F168 := F143.ext E159
        have F169 := F153.ext E159
        have Z170 : n0 ≤ h158.size := Nat.le_trans Z150 E159.1
        have K171 := Keep.ext K151 E159
        have F163 : Av Z h158 ca .char 3 (fun _ => .int 0) := Av.newK F160 (by decide)
        refine g_dup X156 hx (hb hby ddr_60) rfl ?_
        refine g_iconst X156 hx (hb hby ddr_61) (v := (0 : Int32)) (by decide) ?_
        refine g_iloadN X156 hx (hb hby ddr_62) rfl ?_
        obtain ⟨i173, hi173⟩ : ∃ v : Int32, q2.toUInt32.toUInt16.toUInt32.toInt32 = v := ⟨_, rfl⟩
        refine g_i2c X156 hx (hb hby ddr_63) hi173 ?_
        refine g_castore X156 hx hZ e157 F163 (i := 0) (by decide) (by decide) (by decide) (hb hby ddr_64) ?_
        intro T174 h177 X175 e176 W178
        have F179 := F164.wr W178
        have F180 := F165.wr W178
        have F181 := F166.wr W178
        have F182 := F167.wr W178
        have F183 := F168.wr W178
        have F184 := F169.other W178 (Or.inl ne_x_ca)
        have F185 := F163.same W178
        have Z186 : n0 ≤ h177.size := by rw [W178.size]; exact Z170
        have K187 := Keep.wr K171 W178 (Or.inr gek_ca)
        have N188 := Fr.snoc X175 N0 ge_ca
        refine g_dup X175 hx (hb hby ddr_65) rfl ?_
        refine g_iconst X175 hx (hb hby ddr_66) (v := (1 : Int32)) (by decide) ?_
        refine g_iloadN X175 hx (hb hby ddr_67) rfl ?_
        obtain ⟨i189, hi189⟩ : ∃ v : Int32, q3.toUInt32.toUInt16.toUInt32.toInt32 = v := ⟨_, rfl⟩
        refine g_i2c X175 hx (hb hby ddr_68) hi189 ?_
        refine g_castore X175 hx hZ e176 F185 (i := 1) (by decide) (by decide) (by decide) (hb hby ddr_69) ?_
        intro T190 h193 X191 e192 W194
        have F195 := F179.wr W194
        have F196 := F180.wr W194
        have F197 := F181.wr W194
        have F198 := F182.wr W194
        have F199 := F183.wr W194
        have F200 := F184.other W194 (Or.inl ne_x_ca)
        have F201 := F185.same W194
        have Z202 : n0 ≤ h193.size := by rw [W194.size]; exact Z186
        have K203 := Keep.wr K187 W194 (Or.inr gek_ca)
        have N204 := Fr.snoc X191 N188 ge_ca
        refine g_dup X191 hx (hb hby ddr_70) rfl ?_
        refine g_iconst X191 hx (hb hby ddr_71) (v := (2 : Int32)) (by decide) ?_
        refine g_iload X191 hx (hb hby ddr_72) rfl ?_
        obtain ⟨i205, hi205⟩ : ∃ v : Int32, q5.toUInt32.toUInt16.toUInt32.toInt32 = v := ⟨_, rfl⟩
        refine g_i2c X191 hx (hb hby ddr_74) hi205 ?_
        refine g_castore X191 hx hZ e192 F201 (i := 2) (by decide) (by decide) (by decide) (hb hby ddr_75) ?_
        intro T206 h209 X207 e208 W210
        have F211 := F195.wr W210
        have F212 := F196.wr W210
        have F213 := F197.wr W210
        have F214 := F198.wr W210
        have F215 := F199.wr W210
        have F216 := F200.other W210 (Or.inl ne_x_ca)
        have F217 := F201.same W210
        have Z218 : n0 ≤ h209.size := by rw [W210.size]; exact Z202
        have K219 := Keep.wr K203 W210 (Or.inr gek_ca)
        have N220 := Fr.snoc X207 N204 ge_ca
        have A_u : Av Z h209 ca .char 3 (fun i => .int ((own_3 (nar .char i173) (nar .char i189) (nar .char i205)) i)) := (F217.congr (by
          intro i hi
          have : i = 0 ∨ i = 1 ∨ i = 2 := by omega
          rcases this with rfl | rfl | rfl <;> rfl))
        refine g_init X207 hx hZ hown rfl (hw _ (List.mem_of_getElem? (i := 83) rfl)) (hw _ (List.mem_of_getElem? (i := 84) rfl)) (hw _ (List.mem_of_getElem? (i := 6) rfl)) (hw _ (List.mem_of_getElem? (i := 85) rfl)) (by decide) (rmic_3 l Z a0 hw [] x ca (own_3 (nar .char i173) (nar .char i189) (nar .char i205)) cs h209 n0 Z218 F215 F216 ge_x F211 F212 F213 F214 hcs A_u (own_3c _ _ _) ne_x_ca.symm) e208 (W := 1) (by decide) (by decide) (by rw [hml]; rfl) x [(.ref ca)] [(.ref x)] (lenOf pddr_1 rfl) rfl rfl (Nat.le_of_eq rfl) (hb hby ddr_76) (by decide) (by decide) ?_
        intro v225 T221 L224 X222 hQ223
        obtain ⟨rfl, N226, K227, b, SV, gb⟩ := hQ223
        have N228 := Fr.app N220 N226
        have F229 := Sta.keepN F211 K227 (nsS (Exa.ns F215) ns0)
        have F230 := Sta.keepN F212 K227 (nsS (Exa.ns F215) ns0)
        have F231 := Sta.keepN F213 K227 (nsS (Exa.ns F215) ns0)
        have F232 := Sta.keepN F214 K227 (nsS (Exa.ns F215) ns0)
        have F233 := F215.keep K227
        have F235 := F217.keep K227 (ninS ne_x_ca.symm nin0)
        have Z236 : n0 ≤ T221.heap.size := Nat.le_trans Z218 K227.1
        have K237 := Keep.trans K219 K227 (allS (Or.inr gek_x) all0)
        show Go p e below (Ret s (Qdr Z q1 q2 q3 q4 q5 cs h0 n0) ({ frames := 6, cells := 4, slots := 16, locals := 140 } : Room).cells ({ frames := 6, cells := 4, slots := 16, locals := 140 } : Room).slots) (T221.setTop (mkF m 79 #[.val (.int q1), .val (.int q2), .val (.int q3), .val (.int q4), .val (.int q5)] [(.ref x)]))
        refine g_areturn X222 hx Bd.notSynchronized Bd.returns rfl rfl (hb hby ddr_79) (by decide) (by decide) ?_
        obtain ⟨V1, V2, V3, -, -⟩ := SV
        refine ⟨x, rfl, N228, K237, gek_x, ge_x, ?_⟩
        rcases V3 with ⟨d1, -, d3⟩ | ⟨d1, -, d3⟩
        · exact ⟨b, 0, 3, _, V1, V2, d1, d3, by decide⟩
        · exact ⟨b, 1, 6, _, V1, V2, d1, d3, by decide⟩
theorem drn_0 : decode jdk_31_method_11_code 0 = .ok (.aload_n 0, 1) := by decide +kernel
theorem drn_1 : decode jdk_31_method_11_code 1 = .ok (.ifnonnull 12, 3) := by decide +kernel
theorem drn_13 : decode jdk_31_method_11_code 13 = .ok (.aload_n 0, 1) := by decide +kernel
theorem drn_14 : decode jdk_31_method_11_code 14 = .ok (.areturn, 1) := by decide +kernel
theorem pnrn : plainName "java/util/Objects" = true := by first | (simp [plainName, overriddenIn]; done) | decide +kernel
theorem efrn (m : MethodId) (z0 : Addr) (z1 : Addr) : entryFrame m #[(.ref z0), (.ref z1)] 2 = mkF m 0 #[.val (.ref z0), .val (.ref z1)] [] := by first | (simp [entryFrame, mkF, argsToLocals, Value.category]; done) | rfl
def Qrn (Z : State) (q1 : Addr) (q2 : Addr) (h0 : Heap) (n0 : Nat) (v : Option Value) (h : Heap) (L : List Loc) : Prop := v = some (.ref q1) ∧ Fr n0 L ∧ h = h0
set_option maxRecDepth 65536 in
set_option maxHeartbeats 40000000 in
theorem rmrn (l : Launch) (Z : State) (a0 : Array Value) (hw : ∀ d ∈ tables_1, d.before a0 Z = true) (ws : List Jvm.Cond) (q1 : Addr) (q2 : Addr) (h0 : Heap) (n0 : Nat) (Z0 : n0 ≤ h0.size)  :
    MetFree l (⟨"java/util/Objects", "requireNonNull", "(Ljava/lang/Object;Ljava/lang/String;)Ljava/lang/Object;"⟩ : MethodName) (head1 (Jvm.Cond.code (⟨"java/util/Objects", "requireNonNull", "(Ljava/lang/Object;Ljava/lang/String;)Ljava/lang/Object;"⟩ : MethodName) jdk_31_method_11_code 2 (Option.some (Jvm.ClassFile.FieldType.object "java/lang/Object")) :: ws) ({ frames := 0, cells := 0, slots := 0, locals := 0 } : Room)) (fun a U => a = #[(.ref q1), (.ref q2)] ∧ Z.Warmed39 U.vm ∧ U.heap = h0) (fun _ _ _ _ _ => True) (fun _ U o U' => ∃ v L, o = .returned v ∧ Qrn Z q1 q2 h0 n0 v U'.heap L ∧ FrameEnd U o U' L ({ frames := 0, cells := 0, slots := 0, locals := 0 } : Room).cells ({ frames := 0, cells := 0, slots := 0, locals := 0 } : Room).slots) := by
  refine MetFree.of_bodySF (plainFor_of_name pnrn) hisR ?_
  intro p e s m args below meth c s₁ Bd hml0 hP hK
  obtain ⟨rfl, hZ, hh⟩ := hP
  have hx := Bd.exec
  have hby := Bd.bytes
  have hml : c.maxLocals = 2 := hml0
  have hown : s.vm.findClass "java/util/Objects" = some m.cls := findClass_of_methodNamed Bd.named
  have hnm := (name_of_methodNamed Bd.named Bd.method).1
  have X0 : Stand p l e ({ frames := 0, cells := 0, slots := 0, locals := 0 } : Room) s m #[(.ref q1), (.ref q2)] below meth c s₁ [] 0 0 := Stand.of_body Bd
  have e0 : s₁.heap = h0 := by rw [← hh, Bd.state]; rfl
  have N0 := Fr.nil n0
  show Go p e below (Ret s (Qrn Z q1 q2 h0 n0) ({ frames := 0, cells := 0, slots := 0, locals := 0 } : Room).cells ({ frames := 0, cells := 0, slots := 0, locals := 0 } : Room).slots) (s₁.setTop (entryFrame m #[(.ref q1), (.ref q2)] 2))
  rw [efrn m q1 q2]
  refine g_aloadN X0 hx (hb hby drn_0) rfl rfl ?_
  refine g_ifnonnullYes X0 hx (hb hby drn_1) (by decide) (pc' := 13) (by decide) ?_
  refine g_aloadN X0 hx (hb hby drn_13) rfl rfl ?_
  refine g_areturn X0 hx Bd.notSynchronized Bd.returns rfl rfl (hb hby drn_14) (by decide) (by decide) ?_
  exact ⟨rfl, N0, e0⟩
theorem die_0 : decode jdk_42_method_55_code 0 = .ok (.aload_n 0, 1) := by decide +kernel
theorem die_1 : decode jdk_42_method_55_code 1 = .ok (.getfield 9, 3) := by decide +kernel
theorem die_4 : decode jdk_42_method_55_code 4 = .ok (.arraylength, 1) := by decide +kernel
theorem die_5 : decode jdk_42_method_55_code 5 = .ok (.ifCond .ne 7, 3) := by decide +kernel
theorem die_12 : decode jdk_42_method_55_code 12 = .ok (.iconst 0, 1) := by decide +kernel
theorem die_13 : decode jdk_42_method_55_code 13 = .ok (.ireturn, 1) := by decide +kernel
theorem pnie : plainName "java/lang/String" = true := by first | (simp [plainName, overriddenIn]; done) | decide +kernel
theorem efie (m : MethodId) (z0 : Addr) : entryFrame m #[(.ref z0)] 1 = mkF m 0 #[.val (.ref z0)] [] := by first | (simp [entryFrame, mkF, argsToLocals, Value.category]; done) | rfl
def Qie (Z : State) (q1 : Addr) (vv : Addr) (n : Nat) (F : Nat → Int32) (h0 : Heap) (n0 : Nat) (v : Option Value) (h : Heap) (L : List Loc) : Prop := v = some (.int 0) ∧ Fr n0 L ∧ h = h0
set_option maxRecDepth 65536 in
set_option maxHeartbeats 40000000 in
theorem rmie (l : Launch) (Z : State) (a0 : Array Value) (hw : ∀ d ∈ tables_1, d.before a0 Z = true) (ws : List Jvm.Cond) (q1 : Addr) (vv : Addr) (n : Nat) (F : Nat → Int32) (h0 : Heap) (n0 : Nat) (Z0 : n0 ≤ h0.size) (E1 : Exa Z h0 q1 "java/lang/String") (V1 : Fld Z h0 q1 "java/lang/String" "value" "[B" (.ref vv)) (A1 : Av Z h0 vv .byte n (fun i => .int (F i))) (N1 : 1 ≤ n ∧ n ≤ 6) :
    MetFree l (⟨"java/lang/String", "isEmpty", "()Z"⟩ : MethodName) (head1 (Jvm.Cond.code (⟨"java/lang/String", "isEmpty", "()Z"⟩ : MethodName) jdk_42_method_55_code 1 (Option.some Jvm.ClassFile.FieldType.boolean) :: ws) ({ frames := 0, cells := 0, slots := 0, locals := 0 } : Room)) (fun a U => a = #[(.ref q1)] ∧ Z.Warmed39 U.vm ∧ U.heap = h0) (fun _ _ _ _ _ => True) (fun _ U o U' => ∃ v L, o = .returned v ∧ Qie Z q1 vv n F h0 n0 v U'.heap L ∧ FrameEnd U o U' L ({ frames := 0, cells := 0, slots := 0, locals := 0 } : Room).cells ({ frames := 0, cells := 0, slots := 0, locals := 0 } : Room).slots) := by
  refine MetFree.of_bodySF (plainFor_of_name pnie) hisR ?_
  intro p e s m args below meth c s₁ Bd hml0 hP hK
  obtain ⟨rfl, hZ, hh⟩ := hP
  have hx := Bd.exec
  have hby := Bd.bytes
  have hml : c.maxLocals = 1 := hml0
  have hown : s.vm.findClass "java/lang/String" = some m.cls := findClass_of_methodNamed Bd.named
  have hnm := (name_of_methodNamed Bd.named Bd.method).1
  have X0 : Stand p l e ({ frames := 0, cells := 0, slots := 0, locals := 0 } : Room) s m #[(.ref q1)] below meth c s₁ [] 0 0 := Stand.of_body Bd
  have e0 : s₁.heap = h0 := by rw [← hh, Bd.state]; rfl
  have N0 := Fr.nil n0
  show Go p e below (Ret s (Qie Z q1 vv n F h0 n0) ({ frames := 0, cells := 0, slots := 0, locals := 0 } : Room).cells ({ frames := 0, cells := 0, slots := 0, locals := 0 } : Room).slots) (s₁.setTop (entryFrame m #[(.ref q1)] 1))
  rw [efie m q1]
  refine g_aloadN X0 hx (hb hby die_0) rfl rfl ?_
  refine g_getF X0 hx hZ hown (hw _ (List.mem_of_getElem? (i := 26) rfl)) e0 V1 (hb hby die_1) ?_
  intro T1 X2 e3
  refine g_arraylength X2 hx hZ e3 A1 rfl (hb hby die_4) ?_
  have hc5_4 : ¬ ((Nat.toInt32 n) = (0 : Int32)) := (fun q => by have := own_tn N1.2; rw [q] at this; have z : (0 : Int32).toInt = 0 := rfl; omega)
  refine g_ifYes X2 hx (hb hby die_5) (feq hc5_4).2 (by decide) (pc' := 12) (by decide) ?_
  refine g_iconst X2 hx (hb hby die_12) (v := (0 : Int32)) (by decide) ?_
  refine g_ireturn X2 hx Bd.notSynchronized Bd.returns rfl (by simp) (hb hby die_13) (by decide) (by decide) ?_
  exact ⟨rfl, N0, e3⟩
theorem dri_0 : decode prog_8_method_2_code 0 = .ok (.aload_n 0, 1) := by decide +kernel
theorem dri_1 : decode prog_8_method_2_code 1 = .ok (.invokespecial 28, 3) := by decide +kernel
theorem dri_4 : decode prog_8_method_2_code 4 = .ok (.aload_n 0, 1) := by decide +kernel
theorem dri_5 : decode prog_8_method_2_code 5 = .ok (.aload_n 1, 1) := by decide +kernel
theorem dri_6 : decode prog_8_method_2_code 6 = .ok (.putfield 33, 3) := by decide +kernel
theorem dri_9 : decode prog_8_method_2_code 9 = .ok (.aload_n 0, 1) := by decide +kernel
theorem dri_10 : decode prog_8_method_2_code 10 = .ok (.iload_n 2, 1) := by decide +kernel
theorem dri_11 : decode prog_8_method_2_code 11 = .ok (.putfield 37, 3) := by decide +kernel
theorem dri_14 : decode prog_8_method_2_code 14 = .ok (.return_, 1) := by decide +kernel
theorem pnri : plainName "com/example/role_chain_check/rolechaincheck/model/Role" = true := by first | (simp [plainName, overriddenIn]; done) | decide +kernel
theorem efri (m : MethodId) (z0 : Addr) (z1 : Addr) (z2 : Int32) : entryFrame m #[(.ref z0), (.ref z1), (.int z2)] 3 = mkF m 0 #[.val (.ref z0), .val (.ref z1), .val (.int z2)] [] := by first | (simp [entryFrame, mkF, argsToLocals, Value.category]; done) | rfl
def Qri (Z : State) (q1 : Addr) (q2 : Addr) (h0 : Heap) (n0 : Nat) (v : Option Value) (h : Heap) (L : List Loc) : Prop := v = none ∧ Fr n0 L ∧ Keep h0 h [q1] ∧ Exa Z h q1 "com/example/role_chain_check/rolechaincheck/model/Role" ∧ Fld Z h q1 "com/example/role_chain_check/rolechaincheck/model/Role" "_iri" "Ljava/lang/String;" (.ref q2) ∧ Fld Z h q1 "com/example/role_chain_check/rolechaincheck/model/Role" "_inverse" "Z" (.int 0)
set_option maxRecDepth 65536 in
set_option maxHeartbeats 40000000 in
theorem rmri (l : Launch) (Z : State) (a0 : Array Value) (hw : ∀ d ∈ tables_1, d.before a0 Z = true) (ws : List Jvm.Cond) (q1 : Addr) (q2 : Addr) (h0 : Heap) (n0 : Nat) (Z0 : n0 ≤ h0.size) (E0 : Exa Z h0 q1 "com/example/role_chain_check/rolechaincheck/model/Role") (F0 : Fld Z h0 q1 "com/example/role_chain_check/rolechaincheck/model/Role" "_inverse" "Z" (.int 0)) (g1 : n0 ≤ q1) :
    MetFree l (⟨"com/example/role_chain_check/rolechaincheck/model/Role", "<init>", "(Ljava/lang/String;Z)V"⟩ : MethodName) (head1 (Jvm.Cond.code (⟨"com/example/role_chain_check/rolechaincheck/model/Role", "<init>", "(Ljava/lang/String;Z)V"⟩ : MethodName) prog_8_method_2_code 3 (Option.none : Option Jvm.ClassFile.FieldType) :: ws) ({ frames := 1, cells := 0, slots := 0, locals := 12 } : Room)) (fun a U => a = #[(.ref q1), (.ref q2), (.int (0 : Int32))] ∧ Z.Warmed39 U.vm ∧ U.heap = h0) (fun _ _ _ _ _ => True) (fun _ U o U' => ∃ v L, o = .returned v ∧ Qri Z q1 q2 h0 n0 v U'.heap L ∧ FrameEnd U o U' L ({ frames := 1, cells := 0, slots := 0, locals := 12 } : Room).cells ({ frames := 1, cells := 0, slots := 0, locals := 12 } : Room).slots) := by
  refine MetFree.of_bodySF (plainFor_of_name pnri) hisR ?_
  intro p e s m args below meth c s₁ Bd hml0 hP hK
  obtain ⟨rfl, hZ, hh⟩ := hP
  have hx := Bd.exec
  have hby := Bd.bytes
  have hml : c.maxLocals = 3 := hml0
  have hown : s.vm.findClass "com/example/role_chain_check/rolechaincheck/model/Role" = some m.cls := findClass_of_methodNamed Bd.named
  have hnm := (name_of_methodNamed Bd.named Bd.method).1
  have X0 : Stand p l e ({ frames := 1, cells := 0, slots := 0, locals := 12 } : Room) s m #[(.ref q1), (.ref q2), (.int (0 : Int32))] below meth c s₁ [] 0 0 := Stand.of_body Bd
  have e0 : s₁.heap = h0 := by rw [← hh, Bd.state]; rfl
  have N0 := Fr.nil n0
  show Go p e below (Ret s (Qri Z q1 q2 h0 n0) ({ frames := 1, cells := 0, slots := 0, locals := 12 } : Room).cells ({ frames := 1, cells := 0, slots := 0, locals := 12 } : Room).slots) (s₁.setTop (entryFrame m #[(.ref q1), (.ref q2), (.int (0 : Int32))] 3))
  rw [efri m q1 q2 (0 : Int32)]
  have K0 : Keep h0 h0 [q1] := Keep.refl _ _
  refine g_aloadN X0 hx (hb hby dri_0) rfl rfl ?_
  refine g_objInit X0 hx hZ hown (hw _ (List.mem_of_getElem? (i := 51) rfl)) (hw _ (List.mem_of_getElem? (i := 24) rfl)) (hw _ (List.mem_of_getElem? (i := 25) rfl)) e0 (by rw [hml]; rfl) (hb hby dri_1) (by decide) (W := 0) (Nat.le_of_eq rfl) (by decide) ?_
  intro T1 X2 e3
  refine g_aloadN X2 hx (hb hby dri_4) rfl rfl ?_
  refine g_aloadN X2 hx (hb hby dri_5) rfl rfl ?_
  obtain ⟨o5, F4⟩ := fld_any E0 F0 (hw _ (List.mem_of_getElem? (i := 47) rfl)) (Or.inr (hw _ (List.mem_of_getElem? (i := 53) rfl)))
  refine g_putF X2 hx hZ hown (hw _ (List.mem_of_getElem? (i := 52) rfl)) e3 F4 E0 (Or.inr ⟨(hw _ (List.mem_of_getElem? (i := 53) rfl)), rfl, hnm⟩) (hw _ (List.mem_of_getElem? (i := 47) rfl)) (ty := (.object "java/lang/String")) (by decide) rfl rfl (hb hby dri_6) ?_
  intro T7 h10 X8 e9 W11
  have F13 := E0.wr W11
  have F14 := F0.other W11 (Or.inr (slot_ne (Or.inr (hw _ (List.mem_of_getElem? (i := 55) rfl))) (Or.inr (hw _ (List.mem_of_getElem? (i := 53) rfl))) (by decide) (t := .boolean) (t' := (.object "java/lang/String")) (by decide) (by decide)))
  have F15 := F4.same W11
  have Z16 : n0 ≤ h10.size := by rw [W11.size]; exact Z0
  have K17 := Keep.wr K0 W11 (Or.inl (List.mem_singleton.mpr rfl))
  have N18 := Fr.snoc X8 N0 g1
  refine g_aloadN X8 hx (hb hby dri_9) rfl rfl ?_
  refine g_iloadN X8 hx (hb hby dri_10) rfl ?_
  refine g_putF X8 hx hZ hown (hw _ (List.mem_of_getElem? (i := 54) rfl)) e9 F14 F13 (Or.inr ⟨(hw _ (List.mem_of_getElem? (i := 55) rfl)), rfl, hnm⟩) (hw _ (List.mem_of_getElem? (i := 47) rfl)) (ty := .boolean) (by decide) rfl rfl (hb hby dri_11) ?_
  intro T19 h22 X20 e21 W23
  have F25 := F13.wr W23
  have F26 := F15.other W23 (Or.inr (slot_ne (Or.inr (hw _ (List.mem_of_getElem? (i := 53) rfl))) (Or.inr (hw _ (List.mem_of_getElem? (i := 55) rfl))) (by decide) (t := (.object "java/lang/String")) (t' := .boolean) (by decide) (by decide)))
  have F27 := F14.same W23
  have Z28 : n0 ≤ h22.size := by rw [W23.size]; exact Z16
  have K29 := Keep.wr K17 W23 (Or.inl (List.mem_singleton.mpr rfl))
  have N30 := Fr.snoc X20 N18 g1
  refine g_return X20 hx Bd.notSynchronized Bd.returns (hb hby dri_14) (by decide) (by decide) ?_
  rw [e21]
  exact ⟨rfl, N30, K29, F25, F26, F27⟩
theorem dna_0 : decode prog_8_method_1_code 0 = .ok (.aload_n 0, 1) := by decide +kernel
theorem dna_1 : decode prog_8_method_1_code 1 = .ok (.ldc 1, 2) := by decide +kernel
theorem dna_3 : decode prog_8_method_1_code 3 = .ok (.invokestatic 3, 3) := by decide +kernel
theorem dna_6 : decode prog_8_method_1_code 6 = .ok (.pop, 1) := by decide +kernel
theorem dna_7 : decode prog_8_method_1_code 7 = .ok (.aload_n 0, 1) := by decide +kernel
theorem dna_8 : decode prog_8_method_1_code 8 = .ok (.invokevirtual 9, 3) := by decide +kernel
theorem dna_11 : decode prog_8_method_1_code 11 = .ok (.ifCond .eq 13, 3) := by decide +kernel
theorem dna_24 : decode prog_8_method_1_code 24 = .ok (.new 23, 3) := by decide +kernel
theorem dna_27 : decode prog_8_method_1_code 27 = .ok (.dup, 1) := by decide +kernel
theorem dna_28 : decode prog_8_method_1_code 28 = .ok (.aload_n 0, 1) := by decide +kernel
theorem dna_29 : decode prog_8_method_1_code 29 = .ok (.iconst 0, 1) := by decide +kernel
theorem dna_30 : decode prog_8_method_1_code 30 = .ok (.invokespecial 25, 3) := by decide +kernel
theorem dna_33 : decode prog_8_method_1_code 33 = .ok (.areturn, 1) := by decide +kernel
theorem pnna : plainName "com/example/role_chain_check/rolechaincheck/model/Role" = true := by first | (simp [plainName, overriddenIn]; done) | decide +kernel
theorem pdna_0 : parseMethodDescriptor "(Ljava/lang/Object;Ljava/lang/String;)Ljava/lang/Object;" = some ⟨[(.object "java/lang/Object"), (.object "java/lang/String")], some (.object "java/lang/Object")⟩ := by decide +kernel
theorem pdna_1 : parseMethodDescriptor "()Z" = some ⟨[], some .boolean⟩ := by decide +kernel
theorem pdna_2 : parseMethodDescriptor "(Ljava/lang/String;Z)V" = some ⟨[(.object "java/lang/String"), .boolean], none⟩ := by decide +kernel
theorem efna (m : MethodId) (z0 : Addr) : entryFrame m #[(.ref z0)] 1 = mkF m 0 #[.val (.ref z0)] [] := by first | (simp [entryFrame, mkF, argsToLocals, Value.category]; done) | rfl
def Qna (Z : State) (q1 : Addr) (vv : Addr) (n : Nat) (F : Nat → Int32) (h0 : Heap) (n0 : Nat) (v : Option Value) (h : Heap) (L : List Loc) : Prop := ∃ r : Addr, v = some (.ref r) ∧ Fr n0 L ∧ Keep h0 h [] ∧ h0.size ≤ r ∧ n0 ≤ r ∧ Exa Z h r "com/example/role_chain_check/rolechaincheck/model/Role" ∧ Fld Z h r "com/example/role_chain_check/rolechaincheck/model/Role" "_iri" "Ljava/lang/String;" (.ref q1) ∧ Fld Z h r "com/example/role_chain_check/rolechaincheck/model/Role" "_inverse" "Z" (.int 0)
set_option maxRecDepth 65536 in
set_option maxHeartbeats 40000000 in
theorem rmna (l : Launch) (Z : State) (a0 : Array Value) (hw : ∀ d ∈ tables_1, d.before a0 Z = true) (ws : List Jvm.Cond) (q1 : Addr) (vv : Addr) (n : Nat) (F : Nat → Int32) (h0 : Heap) (n0 : Nat) (Z0 : n0 ≤ h0.size) (E1 : Exa Z h0 q1 "java/lang/String") (V1 : Fld Z h0 q1 "java/lang/String" "value" "[B" (.ref vv)) (A1 : Av Z h0 vv .byte n (fun i => .int (F i))) (N1 : 1 ≤ n ∧ n ≤ 6) :
    MetFree l (⟨"com/example/role_chain_check/rolechaincheck/model/Role", "named", "(Ljava/lang/String;)Lcom/example/role_chain_check/rolechaincheck/model/Role;"⟩ : MethodName) (head1 (Jvm.Cond.code (⟨"com/example/role_chain_check/rolechaincheck/model/Role", "named", "(Ljava/lang/String;)Lcom/example/role_chain_check/rolechaincheck/model/Role;"⟩ : MethodName) prog_8_method_1_code 1 (Option.some (Jvm.ClassFile.FieldType.object "com/example/role_chain_check/rolechaincheck/model/Role")) :: ws) ({ frames := 2, cells := 3, slots := 18, locals := 48 } : Room)) (fun a U => a = #[(.ref q1)] ∧ Z.Warmed39 U.vm ∧ U.heap = h0) (fun _ _ _ _ _ => True) (fun _ U o U' => ∃ v L, o = .returned v ∧ Qna Z q1 vv n F h0 n0 v U'.heap L ∧ ReturnedEndW U o U' L ({ frames := 2, cells := 3, slots := 18, locals := 48 } : Room).cells ({ frames := 2, cells := 3, slots := 18, locals := 48 } : Room).slots) := by
  refine MetFree.of_bodySF (plainFor_of_name pnna) hisR ?_
  intro p e s m args below meth c s₁ Bd hml0 hP hK
  obtain ⟨rfl, hZ, hh⟩ := hP
  have hx := Bd.exec
  have hby := Bd.bytes
  have hml : c.maxLocals = 1 := hml0
  have hown : s.vm.findClass "com/example/role_chain_check/rolechaincheck/model/Role" = some m.cls := findClass_of_methodNamed Bd.named
  have hnm := (name_of_methodNamed Bd.named Bd.method).1
  have X0 : Stand p l e ({ frames := 2, cells := 3, slots := 18, locals := 48 } : Room) s m #[(.ref q1)] below meth c s₁ [] 0 0 := Stand.of_body Bd
  have e0 : s₁.heap = h0 := by rw [← hh, Bd.state]; rfl
  have N0 := Fr.nil n0
  show Go p e below (RetW s (Qna Z q1 vv n F h0 n0) ({ frames := 2, cells := 3, slots := 18, locals := 48 } : Room).cells ({ frames := 2, cells := 3, slots := 18, locals := 48 } : Room).slots) (s₁.setTop (entryFrame m #[(.ref q1)] 1))
  rw [efna m q1]
  have wS : ∀ a ∈ Bundle.stringAtoms, a.before a0 Z = true := by
    intro a ha
    simp only [Bundle.stringAtoms, List.mem_cons, List.not_mem_nil, or_false] at ha
    rcases ha with rfl | rfl | rfl | rfl | rfl | rfl | rfl
    · exact (hw _ (List.mem_of_getElem? (i := 6) rfl))
    · exact (hw _ (List.mem_of_getElem? (i := 14) rfl))
    · exact (hw _ (List.mem_of_getElem? (i := 18) rfl))
    · exact (hw _ (List.mem_of_getElem? (i := 27) rfl))
    · exact (hw _ (List.mem_of_getElem? (i := 29) rfl))
    · exact (hw _ (List.mem_of_getElem? (i := 35) rfl))
    · exact (hw _ (List.mem_of_getElem? (i := 36) rfl))
  replace X0 : Stand p l e ({ frames := 2, cells := 3, slots := 18, locals := 48 } : Room) (s.setVm s.vm) m #[(.ref q1)] below meth c s₁ [] 0 0 := X0
  replace hZ : Z.Warmed39 (s.setVm s.vm).vm := hZ
  replace hown : (s.setVm s.vm).vm.findClass "com/example/role_chain_check/rolechaincheck/model/Role" = some m.cls := hown
  have S0 : s.Since s.vm 0 := State.WarmedH.since (State.WarmedH.refl s) 0
  have k0n : 0 ≤ h0.size := Nat.zero_le _
  have K0 : Keep h0 h0 [] := Keep.refl _ _
  refine g_aloadN X0 hx (hb hby dna_0) rfl rfl ?_
  refine g_ldcS X0 hx hZ hown (hw _ (List.mem_of_getElem? (i := 34) rfl)) wS e0 S0 k0n (hb hby dna_1) (n := 12) (by decide) (by decide) (by decide) (by decide) ?_
  intro lt T2 h3 k4 X5 e6 E7 S8 kn9 hZ hown
  have F10 := E1.ext E7
  have F11 := V1.ext E7
  have F12 := A1.ext E7
  have Z13 : n0 ≤ h3.size := Nat.le_trans Z0 E7.1
  have K14 := Keep.ext K0 E7
  refine g_callS X5 hx hZ hown (hw _ (List.mem_of_getElem? (i := 37) rfl)) (hw _ (List.mem_of_getElem? (i := 38) rfl)) (hw _ (List.mem_of_getElem? (i := 39) rfl)) (hw _ (List.mem_of_getElem? (i := 40) rfl)) (by decide) (rmrn l Z a0 hw [] q1 lt h3 n0 Z13) e6 (W := 0) (by decide) (by decide) (by rw [hml]; rfl) [(.ref q1), (.ref lt)] [] (lenOf pdna_0 rfl) rfl rfl (Nat.le_of_eq rfl) (hb hby dna_3) (by decide) (by decide) ?_
  intro v19 T15 L18 X16 hQ17
  obtain ⟨rfl, N20, e21⟩ := hQ17
  have N22 := Fr.app N0 N20
  show Go p e below (RetW s (Qna Z q1 vv n F h0 n0) ({ frames := 2, cells := 3, slots := 18, locals := 48 } : Room).cells ({ frames := 2, cells := 3, slots := 18, locals := 48 } : Room).slots) (T15.setTop (mkF m 6 #[.val (.ref q1)] [(.ref q1)]))
  refine g_pop X16 hx (hb hby dna_6) rfl ?_
  refine g_aloadN X16 hx (hb hby dna_7) rfl rfl ?_
  refine g_callV X16 hx hZ hown (hw _ (List.mem_of_getElem? (i := 41) rfl)) (hw _ (List.mem_of_getElem? (i := 42) rfl)) (hw _ (List.mem_of_getElem? (i := 44) rfl)) (hw _ (List.mem_of_getElem? (i := 43) rfl)) (hw _ (List.mem_of_getElem? (i := 6) rfl)) (hw _ (List.mem_of_getElem? (i := 45) rfl)) (by decide) (rmie l Z a0 hw [] q1 vv n F h3 n0 Z13 F10 F11 F12 N1) e21 (W := 0) (by decide) (by decide) (by rw [hml]; rfl) q1 F10 [] [] (lenOf pdna_1 rfl) rfl rfl (Nat.le_of_eq rfl) (hb hby dna_8) (by decide) (by decide) ?_
  intro v27 T23 L26 X24 hQ25
  obtain ⟨rfl, N28, e29⟩ := hQ25
  have N30 := Fr.app N22 N28
  show Go p e below (RetW s (Qna Z q1 vv n F h0 n0) ({ frames := 2, cells := 3, slots := 18, locals := 48 } : Room).cells ({ frames := 2, cells := 3, slots := 18, locals := 48 } : Room).slots) (T23.setTop (mkF m 11 #[.val (.ref q1)] [(.int (0 : Int32))]))
  have hc11_31 : (0 : Int32) = (0 : Int32) := (by decide)
  refine g_ifYes X24 hx (hb hby dna_11) (teq hc11_31).1 (by decide) (pc' := 24) (by decide) ?_
  refine g_new X24 hx hZ hown (hw _ (List.mem_of_getElem? (i := 46) rfl)) (hw _ (List.mem_of_getElem? (i := 47) rfl)) (hw _ (List.mem_of_getElem? (i := 32) rfl)) e29 (hb hby dna_24) (by decide) (by decide) ?_
  intro T32 h35 r gr X33 e34 E36 F37 D38
  have ne_q1_r : q1 ≠ r := fun q => absurd F10.lt (by rw [q, gr]; exact Nat.lt_irrefl _)
  have ne_vv_r : vv ≠ r := fun q => absurd F12.lt (by rw [q, gr]; exact Nat.lt_irrefl _)
  have ge_r : n0 ≤ r := by rw [gr]; exact Z13
  have gek_r : h0.size ≤ r := by rw [gr]; exact K14.1
  have F40 := F10.ext E36
  have F41 := F11.ext E36
  have F42 := F12.ext E36
  have Z43 : n0 ≤ h35.size := Nat.le_trans Z13 E36.1
  have K44 := Keep.ext K14 E36
  have k45 : k4 ≤ h35.size := Nat.le_trans kn9 E36.1
  have F47 : Fld Z h35 r "com/example/role_chain_check/rolechaincheck/model/Role" "_inverse" "Z" (.int (0 : Int32)) := D38 (Or.inr (hw _ (List.mem_of_getElem? (i := 55) rfl))) (ty := .boolean) (by decide)
  refine g_dup X33 hx (hb hby dna_27) rfl ?_
  refine g_aloadN X33 hx (hb hby dna_28) rfl rfl ?_
  refine g_iconst X33 hx (hb hby dna_29) (v := (0 : Int32)) (by decide) ?_
  refine g_init X33 hx hZ hown rfl (hw _ (List.mem_of_getElem? (i := 48) rfl)) (hw _ (List.mem_of_getElem? (i := 49) rfl)) (hw _ (List.mem_of_getElem? (i := 32) rfl)) (hw _ (List.mem_of_getElem? (i := 50) rfl)) (by decide) (rmri l Z a0 hw [] r q1 h35 n0 Z43 F37 F47 ge_r) e34 (W := 1) (by decide) (by decide) (by rw [hml]; rfl) r [(.ref q1), (.int (0 : Int32))] [(.ref r)] (lenOf pdna_2 rfl) rfl rfl (Nat.le_of_eq rfl) (hb hby dna_30) (by decide) (by decide) ?_
  intro v53 T49 L52 X50 hQ51
  obtain ⟨rfl, N54, K55, F56, F57, F58⟩ := hQ51
  have N59 := Fr.app N30 N54
  have F60 := F40.keep K55
  have F61 := F41.keep K55 (ninS ne_q1_r nin0)
  have F62 := F42.keep K55 (ninS ne_vv_r nin0)
  have F63 := F37.keep K55
  have Z65 : n0 ≤ T49.heap.size := Nat.le_trans Z43 K55.1
  have k66 : k4 ≤ T49.heap.size := Nat.le_trans k45 K55.1
  have K67 := Keep.trans K44 K55 (allS (Or.inr gek_r) all0)
  show Go p e below (RetW s (Qna Z q1 vv n F h0 n0) ({ frames := 2, cells := 3, slots := 18, locals := 48 } : Room).cells ({ frames := 2, cells := 3, slots := 18, locals := 48 } : Room).slots) (T49.setTop (mkF m 33 #[.val (.ref q1)] [(.ref r)]))
  refine gW_areturn X50 hx S8 rfl k66 Bd.notSynchronized Bd.returns rfl rfl (hb hby dna_33) (by decide) (by decide) ?_
  exact ⟨r, rfl, N59, K67, gek_r, ge_r, F56, F57, F58⟩
theorem dir_0 : decode prog_8_method_3_code 0 = .ok (.aload_n 0, 1) := by decide +kernel
theorem dir_1 : decode prog_8_method_3_code 1 = .ok (.getfield 33, 3) := by decide +kernel
theorem dir_4 : decode prog_8_method_3_code 4 = .ok (.areturn, 1) := by decide +kernel
theorem pnir : plainName "com/example/role_chain_check/rolechaincheck/model/Role" = true := by first | (simp [plainName, overriddenIn]; done) | decide +kernel
theorem efir (m : MethodId) (z0 : Addr) : entryFrame m #[(.ref z0)] 1 = mkF m 0 #[.val (.ref z0)] [] := by first | (simp [entryFrame, mkF, argsToLocals, Value.category]; done) | rfl
def Qir (Z : State) (q1 : Addr) (x : Addr) (h0 : Heap) (n0 : Nat) (v : Option Value) (h : Heap) (L : List Loc) : Prop := v = some (.ref x) ∧ Fr n0 L ∧ h = h0
set_option maxRecDepth 65536 in
set_option maxHeartbeats 40000000 in
theorem rmir (l : Launch) (Z : State) (a0 : Array Value) (hw : ∀ d ∈ tables_1, d.before a0 Z = true) (ws : List Jvm.Cond) (q1 : Addr) (x : Addr) (h0 : Heap) (n0 : Nat) (Z0 : n0 ≤ h0.size) (F1 : Fld Z h0 q1 "com/example/role_chain_check/rolechaincheck/model/Role" "_iri" "Ljava/lang/String;" (.ref x)) :
    MetFree l (⟨"com/example/role_chain_check/rolechaincheck/model/Role", "iri", "()Ljava/lang/String;"⟩ : MethodName) (head1 (Jvm.Cond.code (⟨"com/example/role_chain_check/rolechaincheck/model/Role", "iri", "()Ljava/lang/String;"⟩ : MethodName) prog_8_method_3_code 1 (Option.some (Jvm.ClassFile.FieldType.object "java/lang/String")) :: ws) ({ frames := 0, cells := 0, slots := 0, locals := 0 } : Room)) (fun a U => a = #[(.ref q1)] ∧ Z.Warmed39 U.vm ∧ U.heap = h0) (fun _ _ _ _ _ => True) (fun _ U o U' => ∃ v L, o = .returned v ∧ Qir Z q1 x h0 n0 v U'.heap L ∧ FrameEnd U o U' L ({ frames := 0, cells := 0, slots := 0, locals := 0 } : Room).cells ({ frames := 0, cells := 0, slots := 0, locals := 0 } : Room).slots) := by
  refine MetFree.of_bodySF (plainFor_of_name pnir) hisR ?_
  intro p e s m args below meth c s₁ Bd hml0 hP hK
  obtain ⟨rfl, hZ, hh⟩ := hP
  have hx := Bd.exec
  have hby := Bd.bytes
  have hml : c.maxLocals = 1 := hml0
  have hown : s.vm.findClass "com/example/role_chain_check/rolechaincheck/model/Role" = some m.cls := findClass_of_methodNamed Bd.named
  have hnm := (name_of_methodNamed Bd.named Bd.method).1
  have X0 : Stand p l e ({ frames := 0, cells := 0, slots := 0, locals := 0 } : Room) s m #[(.ref q1)] below meth c s₁ [] 0 0 := Stand.of_body Bd
  have e0 : s₁.heap = h0 := by rw [← hh, Bd.state]; rfl
  have N0 := Fr.nil n0
  show Go p e below (Ret s (Qir Z q1 x h0 n0) ({ frames := 0, cells := 0, slots := 0, locals := 0 } : Room).cells ({ frames := 0, cells := 0, slots := 0, locals := 0 } : Room).slots) (s₁.setTop (entryFrame m #[(.ref q1)] 1))
  rw [efir m q1]
  refine g_aloadN X0 hx (hb hby dir_0) rfl rfl ?_
  refine g_getF X0 hx hZ hown (hw _ (List.mem_of_getElem? (i := 52) rfl)) e0 F1 (hb hby dir_1) ?_
  intro T1 X2 e3
  refine g_areturn X2 hx Bd.notSynchronized Bd.returns rfl rfl (hb hby dir_4) (by decide) (by decide) ?_
  exact ⟨rfl, N0, e3⟩
theorem din_0 : decode prog_8_method_4_code 0 = .ok (.aload_n 0, 1) := by decide +kernel
theorem din_1 : decode prog_8_method_4_code 1 = .ok (.getfield 37, 3) := by decide +kernel
theorem din_4 : decode prog_8_method_4_code 4 = .ok (.ireturn, 1) := by decide +kernel
theorem pnin : plainName "com/example/role_chain_check/rolechaincheck/model/Role" = true := by first | (simp [plainName, overriddenIn]; done) | decide +kernel
theorem efin (m : MethodId) (z0 : Addr) : entryFrame m #[(.ref z0)] 1 = mkF m 0 #[.val (.ref z0)] [] := by first | (simp [entryFrame, mkF, argsToLocals, Value.category]; done) | rfl
def Qin (Z : State) (q1 : Addr) (h0 : Heap) (n0 : Nat) (v : Option Value) (h : Heap) (L : List Loc) : Prop := v = some (.int 0) ∧ Fr n0 L ∧ h = h0
set_option maxRecDepth 65536 in
set_option maxHeartbeats 40000000 in
theorem rmin (l : Launch) (Z : State) (a0 : Array Value) (hw : ∀ d ∈ tables_1, d.before a0 Z = true) (ws : List Jvm.Cond) (q1 : Addr) (h0 : Heap) (n0 : Nat) (Z0 : n0 ≤ h0.size) (F1 : Fld Z h0 q1 "com/example/role_chain_check/rolechaincheck/model/Role" "_inverse" "Z" (.int 0)) :
    MetFree l (⟨"com/example/role_chain_check/rolechaincheck/model/Role", "isInverse", "()Z"⟩ : MethodName) (head1 (Jvm.Cond.code (⟨"com/example/role_chain_check/rolechaincheck/model/Role", "isInverse", "()Z"⟩ : MethodName) prog_8_method_4_code 1 (Option.some Jvm.ClassFile.FieldType.boolean) :: ws) ({ frames := 0, cells := 0, slots := 0, locals := 0 } : Room)) (fun a U => a = #[(.ref q1)] ∧ Z.Warmed39 U.vm ∧ U.heap = h0) (fun _ _ _ _ _ => True) (fun _ U o U' => ∃ v L, o = .returned v ∧ Qin Z q1 h0 n0 v U'.heap L ∧ FrameEnd U o U' L ({ frames := 0, cells := 0, slots := 0, locals := 0 } : Room).cells ({ frames := 0, cells := 0, slots := 0, locals := 0 } : Room).slots) := by
  refine MetFree.of_bodySF (plainFor_of_name pnin) hisR ?_
  intro p e s m args below meth c s₁ Bd hml0 hP hK
  obtain ⟨rfl, hZ, hh⟩ := hP
  have hx := Bd.exec
  have hby := Bd.bytes
  have hml : c.maxLocals = 1 := hml0
  have hown : s.vm.findClass "com/example/role_chain_check/rolechaincheck/model/Role" = some m.cls := findClass_of_methodNamed Bd.named
  have hnm := (name_of_methodNamed Bd.named Bd.method).1
  have X0 : Stand p l e ({ frames := 0, cells := 0, slots := 0, locals := 0 } : Room) s m #[(.ref q1)] below meth c s₁ [] 0 0 := Stand.of_body Bd
  have e0 : s₁.heap = h0 := by rw [← hh, Bd.state]; rfl
  have N0 := Fr.nil n0
  show Go p e below (Ret s (Qin Z q1 h0 n0) ({ frames := 0, cells := 0, slots := 0, locals := 0 } : Room).cells ({ frames := 0, cells := 0, slots := 0, locals := 0 } : Room).slots) (s₁.setTop (entryFrame m #[(.ref q1)] 1))
  rw [efin m q1]
  refine g_aloadN X0 hx (hb hby din_0) rfl rfl ?_
  refine g_getF X0 hx hZ hown (hw _ (List.mem_of_getElem? (i := 54) rfl)) e0 F1 (hb hby din_1) ?_
  intro T1 X2 e3
  refine g_ireturn X2 hx Bd.notSynchronized Bd.returns rfl (by simp) (hb hby din_4) (by decide) (by decide) ?_
  exact ⟨rfl, N0, e3⟩
theorem dle_0 : decode jdk_43_method_13_code 0 = .ok (.aload_n 0, 1) := by decide +kernel
theorem dle_1 : decode jdk_43_method_13_code 1 = .ok (.arraylength, 1) := by decide +kernel
theorem dle_2 : decode jdk_43_method_13_code 2 = .ok (.aload_n 1, 1) := by decide +kernel
theorem dle_3 : decode jdk_43_method_13_code 3 = .ok (.arraylength, 1) := by decide +kernel
theorem dle_4 : decode jdk_43_method_13_code 4 = .ok (.if_icmp .ne 30, 3) := by decide +kernel
theorem dle_7 : decode jdk_43_method_13_code 7 = .ok (.iconst 0, 1) := by decide +kernel
theorem dle_8 : decode jdk_43_method_13_code 8 = .ok (.istore_n 2, 1) := by decide +kernel
theorem dle_9 : decode jdk_43_method_13_code 9 = .ok (.iload_n 2, 1) := by decide +kernel
theorem dle_10 : decode jdk_43_method_13_code 10 = .ok (.aload_n 0, 1) := by decide +kernel
theorem dle_11 : decode jdk_43_method_13_code 11 = .ok (.arraylength, 1) := by decide +kernel
theorem dle_12 : decode jdk_43_method_13_code 12 = .ok (.if_icmp .ge 20, 3) := by decide +kernel
theorem dle_15 : decode jdk_43_method_13_code 15 = .ok (.aload_n 0, 1) := by decide +kernel
theorem dle_16 : decode jdk_43_method_13_code 16 = .ok (.iload_n 2, 1) := by decide +kernel
theorem dle_17 : decode jdk_43_method_13_code 17 = .ok (.baload, 1) := by decide +kernel
theorem dle_18 : decode jdk_43_method_13_code 18 = .ok (.aload_n 1, 1) := by decide +kernel
theorem dle_19 : decode jdk_43_method_13_code 19 = .ok (.iload_n 2, 1) := by decide +kernel
theorem dle_20 : decode jdk_43_method_13_code 20 = .ok (.baload, 1) := by decide +kernel
theorem dle_21 : decode jdk_43_method_13_code 21 = .ok (.if_icmp .eq 5, 3) := by decide +kernel
theorem dle_24 : decode jdk_43_method_13_code 24 = .ok (.iconst 0, 1) := by decide +kernel
theorem dle_25 : decode jdk_43_method_13_code 25 = .ok (.ireturn, 1) := by decide +kernel
theorem dle_26 : decode jdk_43_method_13_code 26 = .ok (.iinc 2 1, 3) := by decide +kernel
theorem dle_29 : decode jdk_43_method_13_code 29 = .ok (.goto (-20), 3) := by decide +kernel
theorem dle_32 : decode jdk_43_method_13_code 32 = .ok (.iconst 1, 1) := by decide +kernel
theorem dle_33 : decode jdk_43_method_13_code 33 = .ok (.ireturn, 1) := by decide +kernel
theorem dle_34 : decode jdk_43_method_13_code 34 = .ok (.iconst 0, 1) := by decide +kernel
theorem dle_35 : decode jdk_43_method_13_code 35 = .ok (.ireturn, 1) := by decide +kernel
theorem pnle : plainName "java/lang/StringLatin1" = true := by first | (simp [plainName, overriddenIn]; done) | decide +kernel
theorem efle (m : MethodId) (z0 : Addr) (z1 : Addr) : entryFrame m #[(.ref z0), (.ref z1)] 3 = mkF m 0 #[.val (.ref z0), .val (.ref z1), .unset] [] := by first | (simp [entryFrame, mkF, argsToLocals, Value.category]; done) | rfl
def Qle (Z : State) (q1 : Addr) (q2 : Addr) (n1 : Nat) (n2 : Nat) (F : Nat → Int32) (G : Nat → Int32) (h0 : Heap) (n0 : Nat) (v : Option Value) (h : Heap) (L : List Loc) : Prop := v = some (.int (own_ae n1 n2 F G)) ∧ Fr n0 L ∧ h = h0
set_option maxRecDepth 65536 in
set_option maxHeartbeats 40000000 in
theorem rmle (l : Launch) (Z : State) (a0 : Array Value) (hw : ∀ d ∈ tables_1, d.before a0 Z = true) (ws : List Jvm.Cond) (q1 : Addr) (q2 : Addr) (n1 : Nat) (n2 : Nat) (F : Nat → Int32) (G : Nat → Int32) (h0 : Heap) (n0 : Nat) (Z0 : n0 ≤ h0.size) (A1 : Av Z h0 q1 .byte n1 (fun i => .int (F i))) (A2 : Av Z h0 q2 .byte n2 (fun i => .int (G i))) (H1 : n1 ≤ 6) (H2 : n2 ≤ 6) :
    MetFree l (⟨"java/lang/StringLatin1", "equals", "([B[B)Z"⟩ : MethodName) (head1 (Jvm.Cond.code (⟨"java/lang/StringLatin1", "equals", "([B[B)Z"⟩ : MethodName) jdk_43_method_13_code 3 (Option.some Jvm.ClassFile.FieldType.boolean) :: ws) ({ frames := 0, cells := 0, slots := 0, locals := 0 } : Room)) (fun a U => a = #[(.ref q1), (.ref q2)] ∧ Z.Warmed39 U.vm ∧ U.heap = h0) (fun _ _ _ _ _ => True) (fun _ U o U' => ∃ v L, o = .returned v ∧ Qle Z q1 q2 n1 n2 F G h0 n0 v U'.heap L ∧ FrameEnd U o U' L ({ frames := 0, cells := 0, slots := 0, locals := 0 } : Room).cells ({ frames := 0, cells := 0, slots := 0, locals := 0 } : Room).slots) := by
  refine MetFree.of_bodySF (plainFor_of_name pnle) hisR ?_
  intro p e s m args below meth c s₁ Bd hml0 hP hK
  obtain ⟨rfl, hZ, hh⟩ := hP
  have hx := Bd.exec
  have hby := Bd.bytes
  have hml : c.maxLocals = 3 := hml0
  have hown : s.vm.findClass "java/lang/StringLatin1" = some m.cls := findClass_of_methodNamed Bd.named
  have hnm := (name_of_methodNamed Bd.named Bd.method).1
  have X0 : Stand p l e ({ frames := 0, cells := 0, slots := 0, locals := 0 } : Room) s m #[(.ref q1), (.ref q2)] below meth c s₁ [] 0 0 := Stand.of_body Bd
  have e0 : s₁.heap = h0 := by rw [← hh, Bd.state]; rfl
  have N0 := Fr.nil n0
  show Go p e below (Ret s (Qle Z q1 q2 n1 n2 F G h0 n0) ({ frames := 0, cells := 0, slots := 0, locals := 0 } : Room).cells ({ frames := 0, cells := 0, slots := 0, locals := 0 } : Room).slots) (s₁.setTop (entryFrame m #[(.ref q1), (.ref q2)] 3))
  rw [efle m q1 q2]
  refine g_aloadN X0 hx (hb hby dle_0) rfl rfl ?_
  refine g_arraylength X0 hx hZ e0 A1 rfl (hb hby dle_1) ?_
  refine g_aloadN X0 hx (hb hby dle_2) rfl rfl ?_
  refine g_arraylength X0 hx hZ e0 A2 rfl (hb hby dle_3) ?_
  by_cases hc4_1 : (Nat.toInt32 n1) = (Nat.toInt32 n2)
  ·
    refine g_icmpNo X0 hx (hb hby dle_4) (teq hc4_1).2 ?_
    refine g_iconst X0 hx (hb hby dle_7) (v := (0 : Int32)) (by decide) ?_
    refine g_istoreN X0 hx (hb hby dle_8) (L' := #[.val (.ref q1), .val (.ref q2), .val (.int (0 : Int32))]) rfl ?_
    have t1 := own_tn H1
    have t2 := own_tn H2
    have hn : n1 = n2 := by
      have := congrArg Int32.toInt hc4_1
      omega
    have L9 : ∀ (N : Nat) (T2 : State) (lo6 : List Loc) (_ : Stand p l e ({ frames := 0, cells := 0, slots := 0, locals := 0 } : Room) s m #[(.ref q1), (.ref q2)] below meth c T2 lo6 0 0) (_ : T2.heap = h0) (_ : Fr n0 lo6) (i : Int32), n1 - i.toInt.toNat ≤ N ∧ 0 ≤ i.toInt ∧ i.toInt ≤ n1 ∧ (∀ j, j < i.toInt.toNat → F j = G j) → Go p e below (Ret s (Qle Z q1 q2 n1 n2 F G h0 n0) ({ frames := 0, cells := 0, slots := 0, locals := 0 } : Room).cells ({ frames := 0, cells := 0, slots := 0, locals := 0 } : Room).slots) (T2.setTop (mkF m 9 #[.val (.ref q1), .val (.ref q2), .val (.int i)] [])) := by
      intro N
      induction N using Nat.strongRecOn with
      | ind N ih =>
        intro T2 lo6 X3 e4 N5 i hL9
        refine g_iloadN X3 hx (hb hby dle_9) rfl ?_
        refine g_aloadN X3 hx (hb hby dle_10) rfl rfl ?_
        refine g_arraylength X3 hx hZ e4 A1 rfl (hb hby dle_11) ?_
        by_cases hc12_7 : i < (Nat.toInt32 n1)
        ·
          refine g_icmpNo X3 hx (hb hby dle_12) (tlt hc12_7).2.1 ?_
          have l_i := Int32.lt_iff_toInt_lt.mp hc12_7
          refine g_aloadN X3 hx (hb hby dle_15) rfl rfl ?_
          refine g_iloadN X3 hx (hb hby dle_16) rfl ?_
          refine g_baloadB X3 hx hZ e4 A1 (by omega) (by omega) (i := i.toInt.toNat) rfl rfl (hb hby dle_17) ?_
          refine g_aloadN X3 hx (hb hby dle_18) rfl rfl ?_
          refine g_iloadN X3 hx (hb hby dle_19) rfl ?_
          refine g_baloadB X3 hx hZ e4 A2 (by omega) (by omega) (i := i.toInt.toNat) rfl rfl (hb hby dle_20) ?_
          by_cases hc21_8 : (F i.toInt.toNat) = (G i.toInt.toNat)
          ·
            refine g_icmpYes X3 hx (hb hby dle_21) (teq hc21_8).1 (by decide) (pc' := 26) (by decide) ?_
            refine g_iinc X3 hx (hb hby dle_26) rfl (L' := #[.val (.ref q1), .val (.ref q2), .val (.int (i + Int32.ofInt 1))]) rfl ?_
            refine g_goto X3 hx (hb hby dle_29) (by decide) (pc' := 9) (by decide) ?_
            have t_i : (i + Int32.ofInt 1).toInt = i.toInt + 1 := by
              have a := c_iadd i (Int32.ofInt 1)
              have z : (Int32.ofInt 1).toInt = 1 := rfl
              have r := rng32 (i + Int32.ofInt 1)
              omega
            exact ih (n1 - (i + Int32.ofInt 1).toInt.toNat) (by omega) _ _ X3 e4 N5 (i + Int32.ofInt 1) ⟨by omega, by omega, by omega, fun j hj => by
              by_cases z : j = i.toInt.toNat
              · rw [z]; exact hc21_8
              · exact hL9.2.2.2 j (by omega)⟩
          ·
            refine g_icmpNo X3 hx (hb hby dle_21) (feq hc21_8).1 ?_
            refine g_iconst X3 hx (hb hby dle_24) (v := (0 : Int32)) (by decide) ?_
            refine g_ireturn X3 hx Bd.notSynchronized Bd.returns rfl (by simp) (hb hby dle_25) (by decide) (by decide) ?_
            have hv : own_ae n1 n2 F G = 0 := if_neg (by
              rintro ⟨-, q⟩
              exact hc21_8 (q _ (by omega)))
            exact ⟨by rw [hv], N5, e4⟩
        ·
          refine g_icmpYes X3 hx (hb hby dle_12) (flt hc12_7).2.1 (by decide) (pc' := 32) (by decide) ?_
          refine g_iconst X3 hx (hb hby dle_32) (v := (1 : Int32)) (by decide) ?_
          refine g_ireturn X3 hx Bd.notSynchronized Bd.returns rfl (by simp) (hb hby dle_33) (by decide) (by decide) ?_
          have l_i : ¬ i.toInt < (Nat.toInt32 n1).toInt := fun z => hc12_7 (Int32.lt_iff_toInt_lt.mpr z)
          have hv : own_ae n1 n2 F G = 1 := if_pos ⟨hn, fun j hj => hL9.2.2.2 j (by omega)⟩
          exact ⟨by rw [hv], N5, e4⟩
    exact L9 n1 _ _ X0 e0 N0 0 ⟨by omega, by decide, by have z : (0 : Int32).toInt = 0 := rfl; omega, fun j hj => absurd hj (by have z : (0 : Int32).toInt.toNat = 0 := rfl; omega)⟩
  ·
    refine g_icmpYes X0 hx (hb hby dle_4) (feq hc4_1).2 (by decide) (pc' := 34) (by decide) ?_
    refine g_iconst X0 hx (hb hby dle_34) (v := (0 : Int32)) (by decide) ?_
    refine g_ireturn X0 hx Bd.notSynchronized Bd.returns rfl (by simp) (hb hby dle_35) (by decide) (by decide) ?_
    have hv : own_ae n1 n2 F G = 0 := if_neg (by
      rintro ⟨q, -⟩
      exact hc4_1 (by rw [q]))
    exact ⟨by rw [hv], N0, e0⟩
theorem dse_0 : decode jdk_42_method_66_code 0 = .ok (.aload_n 0, 1) := by decide +kernel
theorem dse_1 : decode jdk_42_method_66_code 1 = .ok (.aload_n 1, 1) := by decide +kernel
theorem dse_2 : decode jdk_42_method_66_code 2 = .ok (.if_acmp .ne 5, 3) := by decide +kernel
theorem dse_5 : decode jdk_42_method_66_code 5 = .ok (.iconst 1, 1) := by decide +kernel
theorem dse_6 : decode jdk_42_method_66_code 6 = .ok (.ireturn, 1) := by decide +kernel
theorem dse_7 : decode jdk_42_method_66_code 7 = .ok (.aload_n 1, 1) := by decide +kernel
theorem dse_8 : decode jdk_42_method_66_code 8 = .ok (.instanceof 10, 3) := by decide +kernel
theorem dse_11 : decode jdk_42_method_66_code 11 = .ok (.ifCond .eq 43, 3) := by decide +kernel
theorem dse_14 : decode jdk_42_method_66_code 14 = .ok (.aload_n 1, 1) := by decide +kernel
theorem dse_15 : decode jdk_42_method_66_code 15 = .ok (.checkcast 10, 3) := by decide +kernel
theorem dse_18 : decode jdk_42_method_66_code 18 = .ok (.astore_n 2, 1) := by decide +kernel
theorem dse_19 : decode jdk_42_method_66_code 19 = .ok (.getstatic 38, 3) := by decide +kernel
theorem dse_22 : decode jdk_42_method_66_code 22 = .ok (.ifCond .eq 14, 3) := by decide +kernel
theorem dse_25 : decode jdk_42_method_66_code 25 = .ok (.aload_n 0, 1) := by decide +kernel
theorem dse_26 : decode jdk_42_method_66_code 26 = .ok (.getfield 15, 3) := by decide +kernel
theorem dse_29 : decode jdk_42_method_66_code 29 = .ok (.aload_n 2, 1) := by decide +kernel
theorem dse_30 : decode jdk_42_method_66_code 30 = .ok (.getfield 15, 3) := by decide +kernel
theorem dse_33 : decode jdk_42_method_66_code 33 = .ok (.if_icmp .ne 21, 3) := by decide +kernel
theorem dse_36 : decode jdk_42_method_66_code 36 = .ok (.aload_n 0, 1) := by decide +kernel
theorem dse_37 : decode jdk_42_method_66_code 37 = .ok (.getfield 9, 3) := by decide +kernel
theorem dse_40 : decode jdk_42_method_66_code 40 = .ok (.aload_n 2, 1) := by decide +kernel
theorem dse_41 : decode jdk_42_method_66_code 41 = .ok (.getfield 9, 3) := by decide +kernel
theorem dse_44 : decode jdk_42_method_66_code 44 = .ok (.invokestatic 541, 3) := by decide +kernel
theorem dse_47 : decode jdk_42_method_66_code 47 = .ok (.ifCond .eq 7, 3) := by decide +kernel
theorem dse_50 : decode jdk_42_method_66_code 50 = .ok (.iconst 1, 1) := by decide +kernel
theorem dse_51 : decode jdk_42_method_66_code 51 = .ok (.goto 4, 3) := by decide +kernel
theorem dse_54 : decode jdk_42_method_66_code 54 = .ok (.iconst 0, 1) := by decide +kernel
theorem dse_55 : decode jdk_42_method_66_code 55 = .ok (.ireturn, 1) := by decide +kernel
theorem pnse : plainName "java/lang/String" = true := by first | (simp [plainName, overriddenIn]; done) | decide +kernel
theorem pdse_0 : parseMethodDescriptor "([B[B)Z" = some ⟨[(.array .byte), (.array .byte)], some .boolean⟩ := by decide +kernel
theorem efse (m : MethodId) (z0 : Addr) (z1 : Addr) : entryFrame m #[(.ref z0), (.ref z1)] 3 = mkF m 0 #[.val (.ref z0), .val (.ref z1), .unset] [] := by first | (simp [entryFrame, mkF, argsToLocals, Value.category]; done) | rfl
def Qse (Z : State) (q1 : Addr) (q2 : Addr) (v1 : Addr) (v2 : Addr) (c1 : Int32) (c2 : Int32) (n1 : Nat) (n2 : Nat) (F : Nat → Int32) (G : Nat → Int32) (cs : Int32) (h0 : Heap) (n0 : Nat) (v : Option Value) (h : Heap) (L : List Loc) : Prop := v = some (.int (own_se q1 q2 c1 c2 n1 n2 F G)) ∧ Fr n0 L ∧ h = h0
set_option maxRecDepth 65536 in
set_option maxHeartbeats 40000000 in
theorem rmse (l : Launch) (Z : State) (a0 : Array Value) (hw : ∀ d ∈ tables_1, d.before a0 Z = true) (ws : List Jvm.Cond) (q1 : Addr) (q2 : Addr) (v1 : Addr) (v2 : Addr) (c1 : Int32) (c2 : Int32) (n1 : Nat) (n2 : Nat) (F : Nat → Int32) (G : Nat → Int32) (cs : Int32) (h0 : Heap) (n0 : Nat) (Z0 : n0 ≤ h0.size) (E1 : Exa Z h0 q1 "java/lang/String") (V1 : Fld Z h0 q1 "java/lang/String" "value" "[B" (.ref v1)) (A1 : Av Z h0 v1 .byte n1 (fun i => .int (F i))) (N1 : 1 ≤ n1 ∧ n1 ≤ 6) (C1 : Fld Z h0 q1 "java/lang/String" "coder" "B" (.int c1)) (E2 : Exa Z h0 q2 "java/lang/String") (V2 : Fld Z h0 q2 "java/lang/String" "value" "[B" (.ref v2)) (A2 : Av Z h0 v2 .byte n2 (fun i => .int (G i))) (N2 : 1 ≤ n2 ∧ n2 ≤ 6) (C2 : Fld Z h0 q2 "java/lang/String" "coder" "B" (.int c2)) (SCS : Sta Z h0 "java/lang/String" "COMPACT_STRINGS" "Z" (.int cs)) (hcs : ¬ cs = 0) :
    MetFree l (⟨"java/lang/String", "equals", "(Ljava/lang/Object;)Z"⟩ : MethodName) (head1 (Jvm.Cond.code (⟨"java/lang/String", "equals", "(Ljava/lang/Object;)Z"⟩ : MethodName) jdk_42_method_66_code 3 (Option.some Jvm.ClassFile.FieldType.boolean) :: ws) ({ frames := 1, cells := 0, slots := 0, locals := 16 } : Room)) (fun a U => a = #[(.ref q1), (.ref q2)] ∧ Z.Warmed39 U.vm ∧ U.heap = h0) (fun _ _ _ _ _ => True) (fun _ U o U' => ∃ v L, o = .returned v ∧ Qse Z q1 q2 v1 v2 c1 c2 n1 n2 F G cs h0 n0 v U'.heap L ∧ FrameEnd U o U' L ({ frames := 1, cells := 0, slots := 0, locals := 16 } : Room).cells ({ frames := 1, cells := 0, slots := 0, locals := 16 } : Room).slots) := by
  refine MetFree.of_bodySF (plainFor_of_name pnse) hisR ?_
  intro p e s m args below meth c s₁ Bd hml0 hP hK
  obtain ⟨rfl, hZ, hh⟩ := hP
  have hx := Bd.exec
  have hby := Bd.bytes
  have hml : c.maxLocals = 3 := hml0
  have hown : s.vm.findClass "java/lang/String" = some m.cls := findClass_of_methodNamed Bd.named
  have hnm := (name_of_methodNamed Bd.named Bd.method).1
  have X0 : Stand p l e ({ frames := 1, cells := 0, slots := 0, locals := 16 } : Room) s m #[(.ref q1), (.ref q2)] below meth c s₁ [] 0 0 := Stand.of_body Bd
  have e0 : s₁.heap = h0 := by rw [← hh, Bd.state]; rfl
  have N0 := Fr.nil n0
  show Go p e below (Ret s (Qse Z q1 q2 v1 v2 c1 c2 n1 n2 F G cs h0 n0) ({ frames := 1, cells := 0, slots := 0, locals := 16 } : Room).cells ({ frames := 1, cells := 0, slots := 0, locals := 16 } : Room).slots) (s₁.setTop (entryFrame m #[(.ref q1), (.ref q2)] 3))
  rw [efse m q1 q2]
  refine g_aloadN X0 hx (hb hby dse_0) rfl rfl ?_
  refine g_aloadN X0 hx (hb hby dse_1) rfl rfl ?_
  by_cases hc2_1 : q1 = q2
  ·
    refine g_acmp X0 hx (hb hby dse_2) rfl rfl (same := true) (decide_eq_true (congrArg Value.ref hc2_1)) (by decide) (pc' := 5) (by decide) ?_
    refine g_iconst X0 hx (hb hby dse_5) (v := (1 : Int32)) (by decide) ?_
    refine g_ireturn X0 hx Bd.notSynchronized Bd.returns rfl (by simp) (hb hby dse_6) (by decide) (by decide) ?_
    have hv : (own_se q1 q2 c1 c2 n1 n2 F G) = (1 : Int32) := if_pos hc2_1
    exact ⟨by rw [hv], N0, e0⟩
  ·
    refine g_acmp X0 hx (hb hby dse_2) rfl rfl (same := false) (decide_eq_false (fun q => hc2_1 (Value.ref.inj q))) (by decide) (pc' := 7) (by decide) ?_
    have ne_q1_q2 := hc2_1
    refine g_aloadN X0 hx (hb hby dse_7) rfl rfl ?_
    refine g_instY X0 hx hZ hown (hw _ (List.mem_of_getElem? (i := 13) rfl)) e0 (Ins.of_exa E2 (hw _ (List.mem_of_getElem? (i := 21) rfl))) (hb hby dse_8) ?_
    intro T2 X3 e4
    have hc11_5 : ¬ ((1 : Int32) = (0 : Int32)) := (by decide)
    refine g_ifNo X3 hx (hb hby dse_11) (feq hc11_5).1 ?_
    refine g_aloadN X3 hx (hb hby dse_14) rfl rfl ?_
    refine g_castY X3 hx hZ hown (hw _ (List.mem_of_getElem? (i := 13) rfl)) e4 (Ins.of_exa E2 (hw _ (List.mem_of_getElem? (i := 21) rfl))) (hb hby dse_15) ?_
    intro T6 X7 e8
    refine g_astoreN X7 hx (hb hby dse_18) rfl (L' := #[.val (.ref q1), .val (.ref q2), .val (.ref q2)]) rfl ?_
    refine g_getS X7 hx hZ hown (hw _ (List.mem_of_getElem? (i := 8) rfl)) e8 SCS (hb hby dse_19) ?_
    intro T9 X10 e11
    have hc22_12 : ¬ (cs = (0 : Int32)) := hcs
    refine g_ifNo X10 hx (hb hby dse_22) (feq hc22_12).1 ?_
    refine g_aloadN X10 hx (hb hby dse_25) rfl rfl ?_
    refine g_getF X10 hx hZ hown (hw _ (List.mem_of_getElem? (i := 28) rfl)) e11 C1 (hb hby dse_26) ?_
    intro T13 X14 e15
    refine g_aloadN X14 hx (hb hby dse_29) rfl rfl ?_
    refine g_getF X14 hx hZ hown (hw _ (List.mem_of_getElem? (i := 28) rfl)) e15 C2 (hb hby dse_30) ?_
    intro T16 X17 e18
    by_cases hc33_19 : c1 = c2
    ·
      refine g_icmpNo X17 hx (hb hby dse_33) (teq hc33_19).2 ?_
      refine g_aloadN X17 hx (hb hby dse_36) rfl rfl ?_
      refine g_getF X17 hx hZ hown (hw _ (List.mem_of_getElem? (i := 26) rfl)) e18 V1 (hb hby dse_37) ?_
      intro T20 X21 e22
      refine g_aloadN X21 hx (hb hby dse_40) rfl rfl ?_
      refine g_getF X21 hx hZ hown (hw _ (List.mem_of_getElem? (i := 26) rfl)) e22 V2 (hb hby dse_41) ?_
      intro T23 X24 e25
      refine g_callS X24 hx hZ hown (hw _ (List.mem_of_getElem? (i := 78) rfl)) (hw _ (List.mem_of_getElem? (i := 79) rfl)) (hw _ (List.mem_of_getElem? (i := 11) rfl)) (hw _ (List.mem_of_getElem? (i := 80) rfl)) (by decide) (rmle l Z a0 hw [] v1 v2 n1 n2 F G h0 n0 Z0 A1 A2 N1.2 N2.2) e25 (W := 0) (by decide) (by decide) (by rw [hml]; rfl) [(.ref v1), (.ref v2)] [] (lenOf pdse_0 rfl) rfl rfl (Nat.le_of_eq rfl) (hb hby dse_44) (by decide) (by decide) ?_
      intro v30 T26 L29 X27 hQ28
      obtain ⟨rfl, N31, e32⟩ := hQ28
      have N33 := Fr.app N0 N31
      show Go p e below (Ret s (Qse Z q1 q2 v1 v2 c1 c2 n1 n2 F G cs h0 n0) ({ frames := 1, cells := 0, slots := 0, locals := 16 } : Room).cells ({ frames := 1, cells := 0, slots := 0, locals := 16 } : Room).slots) (T26.setTop (mkF m 47 #[.val (.ref q1), .val (.ref q2), .val (.ref q2)] [(.int (own_ae n1 n2 F G))]))
      by_cases hc47_34 : (own_ae n1 n2 F G) = (0 : Int32)
      ·
        refine g_ifYes X27 hx (hb hby dse_47) (teq hc47_34).1 (by decide) (pc' := 54) (by decide) ?_
        refine g_iconst X27 hx (hb hby dse_54) (v := (0 : Int32)) (by decide) ?_
        refine g_ireturn X27 hx Bd.notSynchronized Bd.returns rfl (by simp) (hb hby dse_55) (by decide) (by decide) ?_
        have hv : (own_se q1 q2 c1 c2 n1 n2 F G) = (0 : Int32) := (if_neg ne_q1_q2).trans ((if_pos hc33_19).trans hc47_34)
        exact ⟨by rw [hv], N33, e32⟩
      ·
        refine g_ifNo X27 hx (hb hby dse_47) (feq hc47_34).1 ?_
        refine g_iconst X27 hx (hb hby dse_50) (v := (1 : Int32)) (by decide) ?_
        refine g_goto X27 hx (hb hby dse_51) (by decide) (pc' := 55) (by decide) ?_
        refine g_ireturn X27 hx Bd.notSynchronized Bd.returns rfl (by simp) (hb hby dse_55) (by decide) (by decide) ?_
        have hv : (own_se q1 q2 c1 c2 n1 n2 F G) = (1 : Int32) := (if_neg ne_q1_q2).trans ((if_pos hc33_19).trans ((own_ae01 _ _ _ _).resolve_left hc47_34))
        exact ⟨by rw [hv], N33, e32⟩
    ·
      refine g_icmpYes X17 hx (hb hby dse_33) (feq hc33_19).2 (by decide) (pc' := 54) (by decide) ?_
      refine g_iconst X17 hx (hb hby dse_54) (v := (0 : Int32)) (by decide) ?_
      refine g_ireturn X17 hx Bd.notSynchronized Bd.returns rfl (by simp) (hb hby dse_55) (by decide) (by decide) ?_
      have hv : (own_se q1 q2 c1 c2 n1 n2 F G) = (0 : Int32) := (if_neg ne_q1_q2).trans (if_neg hc33_19)
      exact ⟨by rw [hv], N0, e18⟩
theorem dre_0 : decode prog_8_method_8_code 0 = .ok (.iconst 0, 1) := by decide +kernel
theorem dre_1 : decode prog_8_method_8_code 1 = .ok (.istore_n 2, 1) := by decide +kernel
theorem dre_2 : decode prog_8_method_8_code 2 = .ok (.aload_n 1, 1) := by decide +kernel
theorem dre_3 : decode prog_8_method_8_code 3 = .ok (.instanceof 23, 3) := by decide +kernel
theorem dre_6 : decode prog_8_method_8_code 6 = .ok (.ifCond .eq 39, 3) := by decide +kernel
theorem dre_9 : decode prog_8_method_8_code 9 = .ok (.aload_n 1, 1) := by decide +kernel
theorem dre_10 : decode prog_8_method_8_code 10 = .ok (.checkcast 23, 3) := by decide +kernel
theorem dre_13 : decode prog_8_method_8_code 13 = .ok (.astore_n 3, 1) := by decide +kernel
theorem dre_14 : decode prog_8_method_8_code 14 = .ok (.aload_n 0, 1) := by decide +kernel
theorem dre_15 : decode prog_8_method_8_code 15 = .ok (.getfield 37, 3) := by decide +kernel
theorem dre_18 : decode prog_8_method_8_code 18 = .ok (.aload_n 3, 1) := by decide +kernel
theorem dre_19 : decode prog_8_method_8_code 19 = .ok (.getfield 37, 3) := by decide +kernel
theorem dre_22 : decode prog_8_method_8_code 22 = .ok (.if_icmp .ne 21, 3) := by decide +kernel
theorem dre_25 : decode prog_8_method_8_code 25 = .ok (.aload_n 0, 1) := by decide +kernel
theorem dre_26 : decode prog_8_method_8_code 26 = .ok (.getfield 33, 3) := by decide +kernel
theorem dre_29 : decode prog_8_method_8_code 29 = .ok (.aload_n 3, 1) := by decide +kernel
theorem dre_30 : decode prog_8_method_8_code 30 = .ok (.getfield 33, 3) := by decide +kernel
theorem dre_33 : decode prog_8_method_8_code 33 = .ok (.invokevirtual 45, 3) := by decide +kernel
theorem dre_36 : decode prog_8_method_8_code 36 = .ok (.ifCond .eq 7, 3) := by decide +kernel
theorem dre_39 : decode prog_8_method_8_code 39 = .ok (.iconst 1, 1) := by decide +kernel
theorem dre_40 : decode prog_8_method_8_code 40 = .ok (.goto 4, 3) := by decide +kernel
theorem dre_43 : decode prog_8_method_8_code 43 = .ok (.iconst 0, 1) := by decide +kernel
theorem dre_44 : decode prog_8_method_8_code 44 = .ok (.istore_n 2, 1) := by decide +kernel
theorem dre_45 : decode prog_8_method_8_code 45 = .ok (.iload_n 2, 1) := by decide +kernel
theorem dre_46 : decode prog_8_method_8_code 46 = .ok (.ireturn, 1) := by decide +kernel
theorem pnre : plainName "com/example/role_chain_check/rolechaincheck/model/Role" = true := by first | (simp [plainName, overriddenIn]; done) | decide +kernel
theorem pdre_0 : parseMethodDescriptor "(Ljava/lang/Object;)Z" = some ⟨[(.object "java/lang/Object")], some .boolean⟩ := by decide +kernel
theorem efre (m : MethodId) (z0 : Addr) (z1 : Addr) : entryFrame m #[(.ref z0), (.ref z1)] 4 = mkF m 0 #[.val (.ref z0), .val (.ref z1), .unset, .unset] [] := by first | (simp [entryFrame, mkF, argsToLocals, Value.category]; done) | rfl
def Qre (Z : State) (r1 : Addr) (r2 : Addr) (q1 : Addr) (q2 : Addr) (v1 : Addr) (v2 : Addr) (c1 : Int32) (c2 : Int32) (n1 : Nat) (n2 : Nat) (F : Nat → Int32) (G : Nat → Int32) (cs : Int32) (h0 : Heap) (n0 : Nat) (v : Option Value) (h : Heap) (L : List Loc) : Prop := v = some (.int (own_se q1 q2 c1 c2 n1 n2 F G)) ∧ Fr n0 L ∧ h = h0
set_option maxRecDepth 65536 in
set_option maxHeartbeats 40000000 in
theorem rmre (l : Launch) (Z : State) (a0 : Array Value) (hw : ∀ d ∈ tables_1, d.before a0 Z = true) (ws : List Jvm.Cond) (r1 : Addr) (r2 : Addr) (q1 : Addr) (q2 : Addr) (v1 : Addr) (v2 : Addr) (c1 : Int32) (c2 : Int32) (n1 : Nat) (n2 : Nat) (F : Nat → Int32) (G : Nat → Int32) (cs : Int32) (h0 : Heap) (n0 : Nat) (Z0 : n0 ≤ h0.size) (E1 : Exa Z h0 q1 "java/lang/String") (V1 : Fld Z h0 q1 "java/lang/String" "value" "[B" (.ref v1)) (A1 : Av Z h0 v1 .byte n1 (fun i => .int (F i))) (N1 : 1 ≤ n1 ∧ n1 ≤ 6) (C1 : Fld Z h0 q1 "java/lang/String" "coder" "B" (.int c1)) (E2 : Exa Z h0 q2 "java/lang/String") (V2 : Fld Z h0 q2 "java/lang/String" "value" "[B" (.ref v2)) (A2 : Av Z h0 v2 .byte n2 (fun i => .int (G i))) (N2 : 1 ≤ n2 ∧ n2 ≤ 6) (C2 : Fld Z h0 q2 "java/lang/String" "coder" "B" (.int c2)) (SCS : Sta Z h0 "java/lang/String" "COMPACT_STRINGS" "Z" (.int cs)) (hcs : ¬ cs = 0) (R1 : Exa Z h0 r1 "com/example/role_chain_check/rolechaincheck/model/Role") (R2 : Exa Z h0 r2 "com/example/role_chain_check/rolechaincheck/model/Role") (I1 : Fld Z h0 r1 "com/example/role_chain_check/rolechaincheck/model/Role" "_iri" "Ljava/lang/String;" (.ref q1)) (I2 : Fld Z h0 r2 "com/example/role_chain_check/rolechaincheck/model/Role" "_iri" "Ljava/lang/String;" (.ref q2)) (J1 : Fld Z h0 r1 "com/example/role_chain_check/rolechaincheck/model/Role" "_inverse" "Z" (.int 0)) (J2 : Fld Z h0 r2 "com/example/role_chain_check/rolechaincheck/model/Role" "_inverse" "Z" (.int 0)) :
    MetFree l (⟨"com/example/role_chain_check/rolechaincheck/model/Role", "equals", "(Ljava/lang/Object;)Z"⟩ : MethodName) (head1 (Jvm.Cond.code (⟨"com/example/role_chain_check/rolechaincheck/model/Role", "equals", "(Ljava/lang/Object;)Z"⟩ : MethodName) prog_8_method_8_code 4 (Option.some Jvm.ClassFile.FieldType.boolean) :: ws) ({ frames := 2, cells := 0, slots := 0, locals := 40 } : Room)) (fun a U => a = #[(.ref r1), (.ref r2)] ∧ Z.Warmed39 U.vm ∧ U.heap = h0) (fun _ _ _ _ _ => True) (fun _ U o U' => ∃ v L, o = .returned v ∧ Qre Z r1 r2 q1 q2 v1 v2 c1 c2 n1 n2 F G cs h0 n0 v U'.heap L ∧ FrameEnd U o U' L ({ frames := 2, cells := 0, slots := 0, locals := 40 } : Room).cells ({ frames := 2, cells := 0, slots := 0, locals := 40 } : Room).slots) := by
  refine MetFree.of_bodySF (plainFor_of_name pnre) hisR ?_
  intro p e s m args below meth c s₁ Bd hml0 hP hK
  obtain ⟨rfl, hZ, hh⟩ := hP
  have hx := Bd.exec
  have hby := Bd.bytes
  have hml : c.maxLocals = 4 := hml0
  have hown : s.vm.findClass "com/example/role_chain_check/rolechaincheck/model/Role" = some m.cls := findClass_of_methodNamed Bd.named
  have hnm := (name_of_methodNamed Bd.named Bd.method).1
  have X0 : Stand p l e ({ frames := 2, cells := 0, slots := 0, locals := 40 } : Room) s m #[(.ref r1), (.ref r2)] below meth c s₁ [] 0 0 := Stand.of_body Bd
  have e0 : s₁.heap = h0 := by rw [← hh, Bd.state]; rfl
  have N0 := Fr.nil n0
  show Go p e below (Ret s (Qre Z r1 r2 q1 q2 v1 v2 c1 c2 n1 n2 F G cs h0 n0) ({ frames := 2, cells := 0, slots := 0, locals := 40 } : Room).cells ({ frames := 2, cells := 0, slots := 0, locals := 40 } : Room).slots) (s₁.setTop (entryFrame m #[(.ref r1), (.ref r2)] 4))
  rw [efre m r1 r2]
  refine g_iconst X0 hx (hb hby dre_0) (v := (0 : Int32)) (by decide) ?_
  refine g_istoreN X0 hx (hb hby dre_1) (L' := #[.val (.ref r1), .val (.ref r2), .val (.int (0 : Int32)), .unset]) rfl ?_
  refine g_aloadN X0 hx (hb hby dre_2) rfl rfl ?_
  refine g_instY X0 hx hZ hown (hw _ (List.mem_of_getElem? (i := 46) rfl)) e0 (Ins.of_exa R2 (hw _ (List.mem_of_getElem? (i := 76) rfl))) (hb hby dre_3) ?_
  intro T1 X2 e3
  have hc6_4 : ¬ ((1 : Int32) = (0 : Int32)) := (by decide)
  refine g_ifNo X2 hx (hb hby dre_6) (feq hc6_4).1 ?_
  refine g_aloadN X2 hx (hb hby dre_9) rfl rfl ?_
  refine g_castY X2 hx hZ hown (hw _ (List.mem_of_getElem? (i := 46) rfl)) e3 (Ins.of_exa R2 (hw _ (List.mem_of_getElem? (i := 76) rfl))) (hb hby dre_10) ?_
  intro T5 X6 e7
  refine g_astoreN X6 hx (hb hby dre_13) rfl (L' := #[.val (.ref r1), .val (.ref r2), .val (.int (0 : Int32)), .val (.ref r2)]) rfl ?_
  refine g_aloadN X6 hx (hb hby dre_14) rfl rfl ?_
  refine g_getF X6 hx hZ hown (hw _ (List.mem_of_getElem? (i := 54) rfl)) e7 J1 (hb hby dre_15) ?_
  intro T8 X9 e10
  refine g_aloadN X9 hx (hb hby dre_18) rfl rfl ?_
  refine g_getF X9 hx hZ hown (hw _ (List.mem_of_getElem? (i := 54) rfl)) e10 J2 (hb hby dre_19) ?_
  intro T11 X12 e13
  have hc22_14 : (0 : Int32) = (0 : Int32) := (by decide)
  refine g_icmpNo X12 hx (hb hby dre_22) (teq hc22_14).2 ?_
  refine g_aloadN X12 hx (hb hby dre_25) rfl rfl ?_
  refine g_getF X12 hx hZ hown (hw _ (List.mem_of_getElem? (i := 52) rfl)) e13 I1 (hb hby dre_26) ?_
  intro T15 X16 e17
  refine g_aloadN X16 hx (hb hby dre_29) rfl rfl ?_
  refine g_getF X16 hx hZ hown (hw _ (List.mem_of_getElem? (i := 52) rfl)) e17 I2 (hb hby dre_30) ?_
  intro T18 X19 e20
  refine g_callV X19 hx hZ hown (hw _ (List.mem_of_getElem? (i := 77) rfl)) (hw _ (List.mem_of_getElem? (i := 62) rfl)) (hw _ (List.mem_of_getElem? (i := 64) rfl)) (hw _ (List.mem_of_getElem? (i := 63) rfl)) (hw _ (List.mem_of_getElem? (i := 6) rfl)) (hw _ (List.mem_of_getElem? (i := 65) rfl)) (by decide) (rmse l Z a0 hw [] q1 q2 v1 v2 c1 c2 n1 n2 F G cs h0 n0 Z0 E1 V1 A1 N1 C1 E2 V2 A2 N2 C2 SCS hcs) e20 (W := 0) (by decide) (by decide) (by rw [hml]; rfl) q1 E1 [(.ref q2)] [] (lenOf pdre_0 rfl) rfl rfl (Nat.le_of_eq rfl) (hb hby dre_33) (by decide) (by decide) ?_
  intro v25 T21 L24 X22 hQ23
  obtain ⟨rfl, N26, e27⟩ := hQ23
  have N28 := Fr.app N0 N26
  show Go p e below (Ret s (Qre Z r1 r2 q1 q2 v1 v2 c1 c2 n1 n2 F G cs h0 n0) ({ frames := 2, cells := 0, slots := 0, locals := 40 } : Room).cells ({ frames := 2, cells := 0, slots := 0, locals := 40 } : Room).slots) (T21.setTop (mkF m 36 #[.val (.ref r1), .val (.ref r2), .val (.int (0 : Int32)), .val (.ref r2)] [(.int (own_se q1 q2 c1 c2 n1 n2 F G))]))
  by_cases hc36_29 : (own_se q1 q2 c1 c2 n1 n2 F G) = (0 : Int32)
  ·
    refine g_ifYes X22 hx (hb hby dre_36) (teq hc36_29).1 (by decide) (pc' := 43) (by decide) ?_
    refine g_iconst X22 hx (hb hby dre_43) (v := (0 : Int32)) (by decide) ?_
    refine g_istoreN X22 hx (hb hby dre_44) (L' := #[.val (.ref r1), .val (.ref r2), .val (.int (0 : Int32)), .val (.ref r2)]) rfl ?_
    refine g_iloadN X22 hx (hb hby dre_45) rfl ?_
    refine g_ireturn X22 hx Bd.notSynchronized Bd.returns rfl (by simp) (hb hby dre_46) (by decide) (by decide) ?_
    have hv : (own_se q1 q2 c1 c2 n1 n2 F G) = (0 : Int32) := hc36_29
    exact ⟨by rw [hv], N28, e27⟩
  ·
    refine g_ifNo X22 hx (hb hby dre_36) (feq hc36_29).1 ?_
    refine g_iconst X22 hx (hb hby dre_39) (v := (1 : Int32)) (by decide) ?_
    refine g_goto X22 hx (hb hby dre_40) (by decide) (pc' := 44) (by decide) ?_
    refine g_istoreN X22 hx (hb hby dre_44) (L' := #[.val (.ref r1), .val (.ref r2), .val (.int (1 : Int32)), .val (.ref r2)]) rfl ?_
    refine g_iloadN X22 hx (hb hby dre_45) rfl ?_
    refine g_ireturn X22 hx Bd.notSynchronized Bd.returns rfl (by simp) (hb hby dre_46) (by decide) (by decide) ?_
    have hv : (own_se q1 q2 c1 c2 n1 n2 F G) = (1 : Int32) := (own_se01 _ _ _ _ _ _ _ _).resolve_left hc36_29
    exact ⟨by rw [hv], N28, e27⟩
theorem pn0 : plainName "com/example/role_chain_check/rolechaincheck/model/RoleNamedPinLaw" = true := by first | (simp [plainName, overriddenIn]; done) | decide +kernel
theorem pd0_0 : parseMethodDescriptor "(IIIII)Ljava/lang/String;" = some ⟨[.int, .int, .int, .int, .int], some (.object "java/lang/String")⟩ := by decide +kernel
theorem pd0_1 : parseMethodDescriptor "(Ljava/lang/String;)Lcom/example/role_chain_check/rolechaincheck/model/Role;" = some ⟨[(.object "java/lang/String")], some (.object "com/example/role_chain_check/rolechaincheck/model/Role")⟩ := by decide +kernel
theorem pd0_2 : parseMethodDescriptor "()Ljava/lang/String;" = some ⟨[], some (.object "java/lang/String")⟩ := by decide +kernel
theorem pd0_3 : parseMethodDescriptor "(Ljava/lang/Object;)Z" = some ⟨[(.object "java/lang/Object")], some .boolean⟩ := by decide +kernel
theorem pd0_4 : parseMethodDescriptor "()Z" = some ⟨[], some .boolean⟩ := by decide +kernel
theorem ef0 (m : MethodId) (z0 : Int32) (z1 : Int32) (z2 : Int32) (z3 : Int32) (z4 : Int32) : entryFrame m #[(.int z0), (.int z1), (.int z2), (.int z3), (.int z4)] maxLocals = mkF m 0 #[.val (.int z0), .val (.int z1), .val (.int z2), .val (.int z3), .val (.int z4), .unset, .unset, .unset, .unset, .unset, .unset, .unset, .unset, .unset] [] := by first | (simp [entryFrame, mkF, argsToLocals, Value.category, maxLocals]; done) | rfl
def Q0 (Z : State) (q0 : Int32) (q1 : Int32) (q2 : Int32) (q3 : Int32) (q4 : Int32) (h0 : Heap) (n0 : Nat) (v : Option Value) (h : Heap) (L : List Loc) : Prop := v = some (.int 1) ∧ Fr n0 L
set_option maxRecDepth 65536 in
set_option maxHeartbeats 40000000 in
theorem rm0 (l : Launch) (Z : State) (a0 : Array Value) (hw : ∀ d ∈ tables_1, d.before a0 Z = true) (ws : List Jvm.Cond) (q0 : Int32) (q1 : Int32) (q2 : Int32) (q3 : Int32) (q4 : Int32) (h0 : Heap) (n0 : Nat) (Z0 : n0 ≤ h0.size) {cs : Int32} (SCS : Sta Z h0 "java/lang/String" "COMPACT_STRINGS" "Z" (.int cs)) (SAD : Sta Z h0 "java/lang/StringUTF16" "$assertionsDisabled" "Z" (.int (1 : Int32))) (SHI : Sta Z h0 "java/lang/StringUTF16" "HI_BYTE_SHIFT" "I" (.int (0 : Int32))) (SLO : Sta Z h0 "java/lang/StringUTF16" "LO_BYTE_SHIFT" "I" (.int (8 : Int32))) (hcs : ¬ cs = 0) :
    MetFree l x (head1 (Jvm.Cond.code x code maxLocals ret :: ws) room_1) (fun a U => a = #[(.int q0), (.int q1), (.int q2), (.int q3), (.int q4)] ∧ Z.Warmed39 U.vm ∧ U.heap = h0) (fun _ _ _ _ _ => True) (fun _ U o U' => ∃ v L, o = .returned v ∧ Q0 Z q0 q1 q2 q3 q4 h0 n0 v U'.heap L ∧ ReturnedEndW U o U' L 32 1216) := by
  refine MetFree.of_bodySF (plainFor_of_name pn0) hisR ?_
  intro p e s m args below meth c s₁ Bd hml0 hP hK
  obtain ⟨rfl, hZ, hh⟩ := hP
  have hx := Bd.exec
  have hby := Bd.bytes
  have hml : c.maxLocals = 14 := hml0
  have hown : s.vm.findClass "com/example/role_chain_check/rolechaincheck/model/RoleNamedPinLaw" = some m.cls := findClass_of_methodNamed Bd.named
  have hnm := (name_of_methodNamed Bd.named Bd.method).1
  have X0 : Stand p l e room_1 s m #[(.int q0), (.int q1), (.int q2), (.int q3), (.int q4)] below meth c s₁ [] 0 0 := Stand.of_body Bd
  have e0 : s₁.heap = h0 := by rw [← hh, Bd.state]; rfl
  have N0 := Fr.nil n0
  show Go p e below (RetW s (Q0 Z q0 q1 q2 q3 q4 h0 n0) 32 1216) (s₁.setTop (entryFrame m #[(.int q0), (.int q1), (.int q2), (.int q3), (.int q4)] maxLocals))
  rw [ef0 m q0 q1 q2 q3 q4]
  have wS : ∀ a ∈ Bundle.stringAtoms, a.before a0 Z = true := by
    intro a ha
    simp only [Bundle.stringAtoms, List.mem_cons, List.not_mem_nil, or_false] at ha
    rcases ha with rfl | rfl | rfl | rfl | rfl | rfl | rfl
    · exact (hw _ (List.mem_of_getElem? (i := 6) rfl))
    · exact (hw _ (List.mem_of_getElem? (i := 14) rfl))
    · exact (hw _ (List.mem_of_getElem? (i := 18) rfl))
    · exact (hw _ (List.mem_of_getElem? (i := 27) rfl))
    · exact (hw _ (List.mem_of_getElem? (i := 29) rfl))
    · exact (hw _ (List.mem_of_getElem? (i := 35) rfl))
    · exact (hw _ (List.mem_of_getElem? (i := 36) rfl))
  replace X0 : Stand p l e room_1 (s.setVm s.vm) m #[(.int q0), (.int q1), (.int q2), (.int q3), (.int q4)] below meth c s₁ [] 0 0 := X0
  replace hZ : Z.Warmed39 (s.setVm s.vm).vm := hZ
  replace hown : (s.setVm s.vm).vm.findClass "com/example/role_chain_check/rolechaincheck/model/RoleNamedPinLaw" = some m.cls := hown
  have S0 : s.Since s.vm 0 := State.WarmedH.since (State.WarmedH.refl s) 0
  have k0n : 0 ≤ h0.size := Nat.zero_le _
  refine g_iload X0 hx (hb hby at_0) rfl ?_
  refine g_iconst X0 hx (hb hby at_2) (v := (1 : Int32)) (by decide) ?_
  obtain ⟨i1, hi1⟩ : ∃ v : Int32, q4 &&& (1 : Int32) = v := ⟨_, rfl⟩
  refine g_iand X0 hx (hb hby at_3) hi1 ?_
  refine g_istore X0 hx (hb hby at_4) (L' := #[.val (.int q0), .val (.int q1), .val (.int q2), .val (.int q3), .val (.int q4), .val (.int i1), .unset, .unset, .unset, .unset, .unset, .unset, .unset, .unset]) rfl ?_
  refine g_iload X0 hx (hb hby at_6) rfl ?_
  refine g_iconst X0 hx (hb hby at_8) (v := (1 : Int32)) (by decide) ?_
  obtain ⟨i2, hi2⟩ : ∃ v : Int32, q4 >>> ((1 : Int32) &&& 31) = v := ⟨_, rfl⟩
  refine g_ishr X0 hx (hb hby at_9) hi2 ?_
  refine g_iconst X0 hx (hb hby at_10) (v := (3 : Int32)) (by decide) ?_
  obtain ⟨i3, hi3⟩ : ∃ v : Int32, i2 &&& (3 : Int32) = v := ⟨_, rfl⟩
  refine g_iand X0 hx (hb hby at_11) hi3 ?_
  refine g_istore X0 hx (hb hby at_12) (L' := #[.val (.int q0), .val (.int q1), .val (.int q2), .val (.int q3), .val (.int q4), .val (.int i1), .val (.int i3), .unset, .unset, .unset, .unset, .unset, .unset, .unset]) rfl ?_
  refine g_iload X0 hx (hb hby at_14) rfl ?_
  refine g_iloadN X0 hx (hb hby at_16) rfl ?_
  refine g_iloadN X0 hx (hb hby at_17) rfl ?_
  refine g_iloadN X0 hx (hb hby at_18) rfl ?_
  refine g_iloadN X0 hx (hb hby at_19) rfl ?_
  refine g_callS X0 hx hZ hown (hw _ (List.mem_of_getElem? (i := 0) rfl)) (hw _ (List.mem_of_getElem? (i := 1) rfl)) (hw _ (List.mem_of_getElem? (i := 2) rfl)) (hw _ (List.mem_of_getElem? (i := 3) rfl)) (by decide) (rmdr l Z a0 hw [] i1 q0 q1 q2 q3 cs h0 n0 Z0 SCS SAD SHI SLO hcs) e0 (W := 0) (by decide) (by decide) (by rw [hml]; rfl) [(.int i1), (.int q0), (.int q1), (.int q2), (.int q3)] [] (lenOf pd0_0 rfl) rfl rfl (Nat.le_of_eq rfl) (hb hby at_20) (by decide) (by decide) ?_
  intro v8 T4 L7 X5 hQ6
  obtain ⟨sx, rfl, N9, K10, g11, g12, vsx, csx, nsx, Fsx, E_sx, V_sx, C_sx, A_sx, N_sx⟩ := hQ6
  have N13 := Fr.app N0 N9
  have F14 := Sta.keepN SCS K10 ns0
  have F15 := Sta.keepN SAD K10 ns0
  have F16 := Sta.keepN SHI K10 ns0
  have F17 := Sta.keepN SLO K10 ns0
  have Z18 : n0 ≤ T4.heap.size := Nat.le_trans Z0 K10.1
  have k19 : 0 ≤ T4.heap.size := Nat.le_trans k0n K10.1
  show Go p e below (RetW s (Q0 Z q0 q1 q2 q3 q4 h0 n0) 32 1216) (T4.setTop (mkF m 23 #[.val (.int q0), .val (.int q1), .val (.int q2), .val (.int q3), .val (.int q4), .val (.int i1), .val (.int i3), .unset, .unset, .unset, .unset, .unset, .unset, .unset] [(.ref sx)]))
  refine g_astore X5 hx (hb hby at_23) rfl (L' := #[.val (.int q0), .val (.int q1), .val (.int q2), .val (.int q3), .val (.int q4), .val (.int i1), .val (.int i3), .val (.ref sx), .unset, .unset, .unset, .unset, .unset, .unset]) rfl ?_
  refine g_iload X5 hx (hb hby at_25) rfl ?_
  refine g_iloadN X5 hx (hb hby at_27) rfl ?_
  refine g_iloadN X5 hx (hb hby at_28) rfl ?_
  refine g_iloadN X5 hx (hb hby at_29) rfl ?_
  refine g_iloadN X5 hx (hb hby at_30) rfl ?_
  refine g_callS X5 hx hZ hown (hw _ (List.mem_of_getElem? (i := 0) rfl)) (hw _ (List.mem_of_getElem? (i := 1) rfl)) (hw _ (List.mem_of_getElem? (i := 2) rfl)) (hw _ (List.mem_of_getElem? (i := 3) rfl)) (by decide) (rmdr l Z a0 hw [] i3 q0 q1 q2 q3 cs T4.heap n0 Z18 F14 F15 F16 F17 hcs) rfl (W := 0) (by decide) (by decide) (by rw [hml]; rfl) [(.int i3), (.int q0), (.int q1), (.int q2), (.int q3)] [] (lenOf pd0_0 rfl) rfl rfl (Nat.le_of_eq rfl) (hb hby at_31) (by decide) (by decide) ?_
  intro v28 T24 L27 X25 hQ26
  obtain ⟨tx, rfl, N29, K30, g31, g32, vtx, ctx, ntx, Ftx, E_tx, V_tx, C_tx, A_tx, N_tx⟩ := hQ26
  have N33 := Fr.app N13 N29
  have ne_sx_tx : sx ≠ tx := fun q => absurd E_sx.lt (by rw [q]; exact Nat.not_lt.mpr g31)
  have F34 := Sta.keepN F14 K30 ns0
  have F35 := Sta.keepN F15 K30 ns0
  have F36 := Sta.keepN F16 K30 ns0
  have F37 := Sta.keepN F17 K30 ns0
  have F38 := E_sx.keep K30
  have F39 := V_sx.keep K30 nin0
  have F40 := C_sx.keep K30 nin0
  have F41 := A_sx.keep K30 nin0
  have Z42 : n0 ≤ T24.heap.size := Nat.le_trans Z18 K30.1
  have k43 : 0 ≤ T24.heap.size := Nat.le_trans k19 K30.1
  show Go p e below (RetW s (Q0 Z q0 q1 q2 q3 q4 h0 n0) 32 1216) (T24.setTop (mkF m 34 #[.val (.int q0), .val (.int q1), .val (.int q2), .val (.int q3), .val (.int q4), .val (.int i1), .val (.int i3), .val (.ref sx), .unset, .unset, .unset, .unset, .unset, .unset] [(.ref tx)]))
  refine g_astore X25 hx (hb hby at_34) rfl (L' := #[.val (.int q0), .val (.int q1), .val (.int q2), .val (.int q3), .val (.int q4), .val (.int i1), .val (.int i3), .val (.ref sx), .val (.ref tx), .unset, .unset, .unset, .unset, .unset]) rfl ?_
  refine g_aload X25 hx (hb hby at_36) rfl rfl ?_
  refine g_callSW X25 hx hZ hown (hw _ (List.mem_of_getElem? (i := 30) rfl)) (hw _ (List.mem_of_getElem? (i := 31) rfl)) (hw _ (List.mem_of_getElem? (i := 32) rfl)) (hw _ (List.mem_of_getElem? (i := 33) rfl)) (by decide) (rmna l Z a0 hw [] sx vsx nsx Fsx T24.heap n0 Z42 F38 F39 F41 N_sx) rfl S0 k43 (W := 0) (by decide) (by decide) (by rw [hml]; rfl) [(.ref sx)] [] (lenOf pd0_1 rfl) rfl rfl (Nat.le_of_eq rfl) (hb hby at_38) (by decide) (by decide) ?_
  intro v52 T48 L51 X49 hQ50 S53 hZ hown g54
  obtain ⟨rx, rfl, N55, K56, g57, g58, E_rx, I_rx, J_rx⟩ := hQ50
  have N59 := Fr.app N33 N55
  have ne_sx_rx : sx ≠ rx := fun q => absurd F38.lt (by rw [q]; exact Nat.not_lt.mpr g57)
  have ne_tx_rx : tx ≠ rx := fun q => absurd E_tx.lt (by rw [q]; exact Nat.not_lt.mpr g57)
  have F60 := Sta.keepN F34 K56 ns0
  have F61 := Sta.keepN F35 K56 ns0
  have F62 := Sta.keepN F36 K56 ns0
  have F63 := Sta.keepN F37 K56 ns0
  have F64 := F38.keep K56
  have F65 := F39.keep K56 nin0
  have F66 := F40.keep K56 nin0
  have F67 := F41.keep K56 nin0
  have F68 := E_tx.keep K56
  have F69 := V_tx.keep K56 nin0
  have F70 := C_tx.keep K56 nin0
  have F71 := A_tx.keep K56 nin0
  have Z72 : n0 ≤ T48.heap.size := Nat.le_trans Z42 K56.1
  have k73 : 0 ≤ T48.heap.size := Nat.le_trans k43 K56.1
  show Go p e below (RetW s (Q0 Z q0 q1 q2 q3 q4 h0 n0) 32 1216) (T48.setTop (mkF m 41 #[.val (.int q0), .val (.int q1), .val (.int q2), .val (.int q3), .val (.int q4), .val (.int i1), .val (.int i3), .val (.ref sx), .val (.ref tx), .unset, .unset, .unset, .unset, .unset] [(.ref rx)]))
  refine g_astore X49 hx (hb hby at_41) rfl (L' := #[.val (.int q0), .val (.int q1), .val (.int q2), .val (.int q3), .val (.int q4), .val (.int i1), .val (.int i3), .val (.ref sx), .val (.ref tx), .val (.ref rx), .unset, .unset, .unset, .unset]) rfl ?_
  refine g_aload X49 hx (hb hby at_43) rfl rfl ?_
  refine g_callSW X49 hx hZ hown (hw _ (List.mem_of_getElem? (i := 30) rfl)) (hw _ (List.mem_of_getElem? (i := 31) rfl)) (hw _ (List.mem_of_getElem? (i := 32) rfl)) (hw _ (List.mem_of_getElem? (i := 33) rfl)) (by decide) (rmna l Z a0 hw [] tx vtx ntx Ftx T48.heap n0 Z72 F68 F69 F71 N_tx) rfl S53 (Nat.le_refl _) (W := 0) (by decide) (by decide) (by rw [hml]; rfl) [(.ref tx)] [] (lenOf pd0_1 rfl) rfl rfl (Nat.le_of_eq rfl) (hb hby at_45) (by decide) (by decide) ?_
  intro v81 T77 L80 X78 hQ79 S82 hZ hown g83
  obtain ⟨ux, rfl, N84, K85, g86, g87, E_ux, I_ux, J_ux⟩ := hQ79
  have N88 := Fr.app N59 N84
  have ne_sx_ux : sx ≠ ux := fun q => absurd F64.lt (by rw [q]; exact Nat.not_lt.mpr g86)
  have ne_tx_ux : tx ≠ ux := fun q => absurd F68.lt (by rw [q]; exact Nat.not_lt.mpr g86)
  have ne_rx_ux : rx ≠ ux := fun q => absurd E_rx.lt (by rw [q]; exact Nat.not_lt.mpr g86)
  have F89 := Sta.keepN F60 K85 ns0
  have F90 := Sta.keepN F61 K85 ns0
  have F91 := Sta.keepN F62 K85 ns0
  have F92 := Sta.keepN F63 K85 ns0
  have F93 := F64.keep K85
  have F94 := F65.keep K85 nin0
  have F95 := F66.keep K85 nin0
  have F96 := F67.keep K85 nin0
  have F97 := F68.keep K85
  have F98 := F69.keep K85 nin0
  have F99 := F70.keep K85 nin0
  have F100 := F71.keep K85 nin0
  have F101 := E_rx.keep K85
  have F102 := I_rx.keep K85 nin0
  have F103 := J_rx.keep K85 nin0
  have Z104 : n0 ≤ T77.heap.size := Nat.le_trans Z72 K85.1
  have k105 : T48.heap.size ≤ T77.heap.size := Nat.le_trans (Nat.le_refl _) K85.1
  show Go p e below (RetW s (Q0 Z q0 q1 q2 q3 q4 h0 n0) 32 1216) (T77.setTop (mkF m 48 #[.val (.int q0), .val (.int q1), .val (.int q2), .val (.int q3), .val (.int q4), .val (.int i1), .val (.int i3), .val (.ref sx), .val (.ref tx), .val (.ref rx), .unset, .unset, .unset, .unset] [(.ref ux)]))
  refine g_astore X78 hx (hb hby at_48) rfl (L' := #[.val (.int q0), .val (.int q1), .val (.int q2), .val (.int q3), .val (.int q4), .val (.int i1), .val (.int i3), .val (.ref sx), .val (.ref tx), .val (.ref rx), .val (.ref ux), .unset, .unset, .unset]) rfl ?_
  refine g_aload X78 hx (hb hby at_50) rfl rfl ?_
  refine g_callV X78 hx hZ hown (hw _ (List.mem_of_getElem? (i := 56) rfl)) (hw _ (List.mem_of_getElem? (i := 57) rfl)) (hw _ (List.mem_of_getElem? (i := 59) rfl)) (hw _ (List.mem_of_getElem? (i := 58) rfl)) (hw _ (List.mem_of_getElem? (i := 32) rfl)) (hw _ (List.mem_of_getElem? (i := 60) rfl)) (by decide) (rmir l Z a0 hw [] rx sx T77.heap n0 Z104 F102) rfl (W := 0) (by decide) (by decide) (by rw [hml]; rfl) rx F101 [] [] (lenOf pd0_2 rfl) rfl rfl (Nat.le_of_eq rfl) (hb hby at_52) (by decide) (by decide) ?_
  intro v113 T109 L112 X110 hQ111
  obtain ⟨rfl, N114, e115⟩ := hQ111
  have N116 := Fr.app N88 N114
  show Go p e below (RetW s (Q0 Z q0 q1 q2 q3 q4 h0 n0) 32 1216) (T109.setTop (mkF m 55 #[.val (.int q0), .val (.int q1), .val (.int q2), .val (.int q3), .val (.int q4), .val (.int i1), .val (.int i3), .val (.ref sx), .val (.ref tx), .val (.ref rx), .val (.ref ux), .unset, .unset, .unset] [(.ref sx)]))
  refine g_aload X110 hx (hb hby at_55) rfl rfl ?_
  refine g_callV X110 hx hZ hown (hw _ (List.mem_of_getElem? (i := 61) rfl)) (hw _ (List.mem_of_getElem? (i := 62) rfl)) (hw _ (List.mem_of_getElem? (i := 64) rfl)) (hw _ (List.mem_of_getElem? (i := 63) rfl)) (hw _ (List.mem_of_getElem? (i := 6) rfl)) (hw _ (List.mem_of_getElem? (i := 65) rfl)) (by decide) (rmse l Z a0 hw [] sx sx vsx vsx csx csx nsx nsx Fsx Fsx cs T77.heap n0 Z104 F93 F94 F96 N_sx F95 F93 F94 F96 N_sx F95 F89 hcs) e115 (W := 0) (by decide) (by decide) (by rw [hml]; rfl) sx F93 [(.ref sx)] [] (lenOf pd0_3 rfl) rfl rfl (Nat.le_of_eq rfl) (hb hby at_57) (by decide) (by decide) ?_
  intro v121 T117 L120 X118 hQ119
  obtain ⟨rfl, N122, e123⟩ := hQ119
  have N124 := Fr.app N116 N122
  show Go p e below (RetW s (Q0 Z q0 q1 q2 q3 q4 h0 n0) 32 1216) (T117.setTop (mkF m 60 #[.val (.int q0), .val (.int q1), .val (.int q2), .val (.int q3), .val (.int q4), .val (.int i1), .val (.int i3), .val (.ref sx), .val (.ref tx), .val (.ref rx), .val (.ref ux), .unset, .unset, .unset] [(.int (own_se sx sx csx csx nsx nsx Fsx Fsx))]))
  have hc60_125 : ¬ ((own_se sx sx csx csx nsx nsx Fsx Fsx) = (0 : Int32)) := (by rw [show (own_se sx sx csx csx nsx nsx Fsx Fsx) = 1 from if_pos rfl]; decide)
  refine g_ifNo X118 hx (hb hby at_60) (feq hc60_125).1 ?_
  refine g_aload X118 hx (hb hby at_63) rfl rfl ?_
  refine g_callV X118 hx hZ hown (hw _ (List.mem_of_getElem? (i := 56) rfl)) (hw _ (List.mem_of_getElem? (i := 57) rfl)) (hw _ (List.mem_of_getElem? (i := 59) rfl)) (hw _ (List.mem_of_getElem? (i := 58) rfl)) (hw _ (List.mem_of_getElem? (i := 32) rfl)) (hw _ (List.mem_of_getElem? (i := 60) rfl)) (by decide) (rmir l Z a0 hw [] ux tx T77.heap n0 Z104 I_ux) e123 (W := 0) (by decide) (by decide) (by rw [hml]; rfl) ux E_ux [] [] (lenOf pd0_2 rfl) rfl rfl (Nat.le_of_eq rfl) (hb hby at_65) (by decide) (by decide) ?_
  intro v130 T126 L129 X127 hQ128
  obtain ⟨rfl, N131, e132⟩ := hQ128
  have N133 := Fr.app N124 N131
  show Go p e below (RetW s (Q0 Z q0 q1 q2 q3 q4 h0 n0) 32 1216) (T126.setTop (mkF m 68 #[.val (.int q0), .val (.int q1), .val (.int q2), .val (.int q3), .val (.int q4), .val (.int i1), .val (.int i3), .val (.ref sx), .val (.ref tx), .val (.ref rx), .val (.ref ux), .unset, .unset, .unset] [(.ref tx)]))
  refine g_aload X127 hx (hb hby at_68) rfl rfl ?_
  refine g_callV X127 hx hZ hown (hw _ (List.mem_of_getElem? (i := 61) rfl)) (hw _ (List.mem_of_getElem? (i := 62) rfl)) (hw _ (List.mem_of_getElem? (i := 64) rfl)) (hw _ (List.mem_of_getElem? (i := 63) rfl)) (hw _ (List.mem_of_getElem? (i := 6) rfl)) (hw _ (List.mem_of_getElem? (i := 65) rfl)) (by decide) (rmse l Z a0 hw [] tx tx vtx vtx ctx ctx ntx ntx Ftx Ftx cs T77.heap n0 Z104 F97 F98 F100 N_tx F99 F97 F98 F100 N_tx F99 F89 hcs) e132 (W := 0) (by decide) (by decide) (by rw [hml]; rfl) tx F97 [(.ref tx)] [] (lenOf pd0_3 rfl) rfl rfl (Nat.le_of_eq rfl) (hb hby at_70) (by decide) (by decide) ?_
  intro v138 T134 L137 X135 hQ136
  obtain ⟨rfl, N139, e140⟩ := hQ136
  have N141 := Fr.app N133 N139
  show Go p e below (RetW s (Q0 Z q0 q1 q2 q3 q4 h0 n0) 32 1216) (T134.setTop (mkF m 73 #[.val (.int q0), .val (.int q1), .val (.int q2), .val (.int q3), .val (.int q4), .val (.int i1), .val (.int i3), .val (.ref sx), .val (.ref tx), .val (.ref rx), .val (.ref ux), .unset, .unset, .unset] [(.int (own_se tx tx ctx ctx ntx ntx Ftx Ftx))]))
  have hc73_142 : ¬ ((own_se tx tx ctx ctx ntx ntx Ftx Ftx) = (0 : Int32)) := (by rw [show (own_se tx tx ctx ctx ntx ntx Ftx Ftx) = 1 from if_pos rfl]; decide)
  refine g_ifNo X135 hx (hb hby at_73) (feq hc73_142).1 ?_
  refine g_iconst X135 hx (hb hby at_76) (v := (1 : Int32)) (by decide) ?_
  refine g_goto X135 hx (hb hby at_77) (by decide) (pc' := 81) (by decide) ?_
  refine g_istore X135 hx (hb hby at_81) (L' := #[.val (.int q0), .val (.int q1), .val (.int q2), .val (.int q3), .val (.int q4), .val (.int i1), .val (.int i3), .val (.ref sx), .val (.ref tx), .val (.ref rx), .val (.ref ux), .val (.int (1 : Int32)), .unset, .unset]) rfl ?_
  refine g_aload X135 hx (hb hby at_83) rfl rfl ?_
  refine g_callV X135 hx hZ hown (hw _ (List.mem_of_getElem? (i := 66) rfl)) (hw _ (List.mem_of_getElem? (i := 67) rfl)) (hw _ (List.mem_of_getElem? (i := 69) rfl)) (hw _ (List.mem_of_getElem? (i := 68) rfl)) (hw _ (List.mem_of_getElem? (i := 32) rfl)) (hw _ (List.mem_of_getElem? (i := 70) rfl)) (by decide) (rmin l Z a0 hw [] rx T77.heap n0 Z104 F103) e140 (W := 0) (by decide) (by decide) (by rw [hml]; rfl) rx F101 [] [] (lenOf pd0_4 rfl) rfl rfl (Nat.le_of_eq rfl) (hb hby at_85) (by decide) (by decide) ?_
  intro v147 T143 L146 X144 hQ145
  obtain ⟨rfl, N148, e149⟩ := hQ145
  have N150 := Fr.app N141 N148
  show Go p e below (RetW s (Q0 Z q0 q1 q2 q3 q4 h0 n0) 32 1216) (T143.setTop (mkF m 88 #[.val (.int q0), .val (.int q1), .val (.int q2), .val (.int q3), .val (.int q4), .val (.int i1), .val (.int i3), .val (.ref sx), .val (.ref tx), .val (.ref rx), .val (.ref ux), .val (.int (1 : Int32)), .unset, .unset] [(.int (0 : Int32))]))
  have hc88_151 : (0 : Int32) = (0 : Int32) := (by decide)
  refine g_ifNo X144 hx (hb hby at_88) (teq hc88_151).2 ?_
  refine g_aload X144 hx (hb hby at_91) rfl rfl ?_
  refine g_callV X144 hx hZ hown (hw _ (List.mem_of_getElem? (i := 66) rfl)) (hw _ (List.mem_of_getElem? (i := 67) rfl)) (hw _ (List.mem_of_getElem? (i := 69) rfl)) (hw _ (List.mem_of_getElem? (i := 68) rfl)) (hw _ (List.mem_of_getElem? (i := 32) rfl)) (hw _ (List.mem_of_getElem? (i := 70) rfl)) (by decide) (rmin l Z a0 hw [] ux T77.heap n0 Z104 J_ux) e149 (W := 0) (by decide) (by decide) (by rw [hml]; rfl) ux E_ux [] [] (lenOf pd0_4 rfl) rfl rfl (Nat.le_of_eq rfl) (hb hby at_93) (by decide) (by decide) ?_
  intro v156 T152 L155 X153 hQ154
  obtain ⟨rfl, N157, e158⟩ := hQ154
  have N159 := Fr.app N150 N157
  show Go p e below (RetW s (Q0 Z q0 q1 q2 q3 q4 h0 n0) 32 1216) (T152.setTop (mkF m 96 #[.val (.int q0), .val (.int q1), .val (.int q2), .val (.int q3), .val (.int q4), .val (.int i1), .val (.int i3), .val (.ref sx), .val (.ref tx), .val (.ref rx), .val (.ref ux), .val (.int (1 : Int32)), .unset, .unset] [(.int (0 : Int32))]))
  have hc96_160 : (0 : Int32) = (0 : Int32) := (by decide)
  refine g_ifNo X153 hx (hb hby at_96) (teq hc96_160).2 ?_
  refine g_iconst X153 hx (hb hby at_99) (v := (1 : Int32)) (by decide) ?_
  refine g_goto X153 hx (hb hby at_100) (by decide) (pc' := 104) (by decide) ?_
  refine g_istore X153 hx (hb hby at_104) (L' := #[.val (.int q0), .val (.int q1), .val (.int q2), .val (.int q3), .val (.int q4), .val (.int i1), .val (.int i3), .val (.ref sx), .val (.ref tx), .val (.ref rx), .val (.ref ux), .val (.int (1 : Int32)), .val (.int (1 : Int32)), .unset]) rfl ?_
  refine g_aload X153 hx (hb hby at_106) rfl rfl ?_
  refine g_aload X153 hx (hb hby at_108) rfl rfl ?_
  refine g_callV X153 hx hZ hown (hw _ (List.mem_of_getElem? (i := 71) rfl)) (hw _ (List.mem_of_getElem? (i := 72) rfl)) (hw _ (List.mem_of_getElem? (i := 74) rfl)) (hw _ (List.mem_of_getElem? (i := 73) rfl)) (hw _ (List.mem_of_getElem? (i := 32) rfl)) (hw _ (List.mem_of_getElem? (i := 75) rfl)) (by decide) (rmre l Z a0 hw [] rx ux sx tx vsx vtx csx ctx nsx ntx Fsx Ftx cs T77.heap n0 Z104 F93 F94 F96 N_sx F95 F97 F98 F100 N_tx F99 F89 hcs F101 E_ux F102 I_ux F103 J_ux) e158 (W := 0) (by decide) (by decide) (by rw [hml]; rfl) rx F101 [(.ref ux)] [] (lenOf pd0_3 rfl) rfl rfl (Nat.le_of_eq rfl) (hb hby at_110) (by decide) (by decide) ?_
  intro v165 T161 L164 X162 hQ163
  obtain ⟨rfl, N166, e167⟩ := hQ163
  have N168 := Fr.app N159 N166
  show Go p e below (RetW s (Q0 Z q0 q1 q2 q3 q4 h0 n0) 32 1216) (T161.setTop (mkF m 113 #[.val (.int q0), .val (.int q1), .val (.int q2), .val (.int q3), .val (.int q4), .val (.int i1), .val (.int i3), .val (.ref sx), .val (.ref tx), .val (.ref rx), .val (.ref ux), .val (.int (1 : Int32)), .val (.int (1 : Int32)), .unset] [(.int (own_se sx tx csx ctx nsx ntx Fsx Ftx))]))
  refine g_aload X162 hx (hb hby at_113) rfl rfl ?_
  refine g_aload X162 hx (hb hby at_115) rfl rfl ?_
  refine g_callV X162 hx hZ hown (hw _ (List.mem_of_getElem? (i := 61) rfl)) (hw _ (List.mem_of_getElem? (i := 62) rfl)) (hw _ (List.mem_of_getElem? (i := 64) rfl)) (hw _ (List.mem_of_getElem? (i := 63) rfl)) (hw _ (List.mem_of_getElem? (i := 6) rfl)) (hw _ (List.mem_of_getElem? (i := 65) rfl)) (by decide) (rmse l Z a0 hw [] sx tx vsx vtx csx ctx nsx ntx Fsx Ftx cs T77.heap n0 Z104 F93 F94 F96 N_sx F95 F97 F98 F100 N_tx F99 F89 hcs) e167 (W := 1) (by decide) (by decide) (by rw [hml]; rfl) sx F93 [(.ref tx)] [(.int (own_se sx tx csx ctx nsx ntx Fsx Ftx))] (lenOf pd0_3 rfl) rfl rfl (Nat.le_of_eq rfl) (hb hby at_117) (by decide) (by decide) ?_
  intro v173 T169 L172 X170 hQ171
  obtain ⟨rfl, N174, e175⟩ := hQ171
  have N176 := Fr.app N168 N174
  show Go p e below (RetW s (Q0 Z q0 q1 q2 q3 q4 h0 n0) 32 1216) (T169.setTop (mkF m 120 #[.val (.int q0), .val (.int q1), .val (.int q2), .val (.int q3), .val (.int q4), .val (.int i1), .val (.int i3), .val (.ref sx), .val (.ref tx), .val (.ref rx), .val (.ref ux), .val (.int (1 : Int32)), .val (.int (1 : Int32)), .unset] [(.int (own_se sx tx csx ctx nsx ntx Fsx Ftx)), (.int (own_se sx tx csx ctx nsx ntx Fsx Ftx))]))
  have hc120_177 : (own_se sx tx csx ctx nsx ntx Fsx Ftx) = (own_se sx tx csx ctx nsx ntx Fsx Ftx) := rfl
  refine g_icmpNo X170 hx (hb hby at_120) (teq hc120_177).2 ?_
  refine g_iconst X170 hx (hb hby at_123) (v := (1 : Int32)) (by decide) ?_
  refine g_goto X170 hx (hb hby at_124) (by decide) (pc' := 128) (by decide) ?_
  refine g_istore X170 hx (hb hby at_128) (L' := #[.val (.int q0), .val (.int q1), .val (.int q2), .val (.int q3), .val (.int q4), .val (.int i1), .val (.int i3), .val (.ref sx), .val (.ref tx), .val (.ref rx), .val (.ref ux), .val (.int (1 : Int32)), .val (.int (1 : Int32)), .val (.int (1 : Int32))]) rfl ?_
  refine g_iload X170 hx (hb hby at_130) rfl ?_
  have hc132_178 : ¬ ((1 : Int32) = (0 : Int32)) := (by decide)
  refine g_ifNo X170 hx (hb hby at_132) (feq hc132_178).1 ?_
  refine g_iload X170 hx (hb hby at_135) rfl ?_
  have hc137_179 : ¬ ((1 : Int32) = (0 : Int32)) := (by decide)
  refine g_ifNo X170 hx (hb hby at_137) (feq hc137_179).1 ?_
  refine g_iload X170 hx (hb hby at_140) rfl ?_
  have hc142_180 : ¬ ((1 : Int32) = (0 : Int32)) := (by decide)
  refine g_ifNo X170 hx (hb hby at_142) (feq hc142_180).1 ?_
  refine g_iconst X170 hx (hb hby at_145) (v := (1 : Int32)) (by decide) ?_
  refine g_goto X170 hx (hb hby at_146) (by decide) (pc' := 150) (by decide) ?_
  refine gW_ireturn X170 hx S82 e175 (Nat.le_refl _) Bd.notSynchronized Bd.returns rfl (by simp) (hb hby at_150) (by decide) (by decide) ?_
  exact ⟨rfl, N176⟩

theorem own_evI {s : State} {args : Array Value} {t : Term} {k : Int32} (h : (Jvm.Cond.eq t (.int k)).value args s none s [] = some true) : t.eval args s none [] s = some (.int k) := by
  obtain ⟨x, y, e1, e2, -, k2⟩ := cmp_v (Or.inl h)
  cases (Term.int_eval k).symm.trans e2
  obtain ⟨z, rfl⟩ : ∃ z, x = .int z := k2
  have q : z = k := gotT (Cond.eq_ints e1 (Term.int_eval k)) h
  rw [e1, q]
theorem own_evN {s : State} {args : Array Value} {t : Term} {x : Int32} (e : t.eval args s none [] s = some (.int x)) (h : (Jvm.Cond.not (Jvm.Cond.eq t (.int 0))).value args s none s [] = some true) : ¬ x = 0 := gotF (Cond.eq_ints e (Term.int_eval 0)) (not_v h)
set_option maxRecDepth 65536 in
set_option maxHeartbeats 40000000 in
theorem comes_1 {Post : Tables → Env → Array Value → State → Outcome → State → Prop} (hpost : ∀ tb e args s v u, (limb_1_1.after args s (.returned v) u = true ∧ limb_1_2.after args s (.returned v) u = true ∧ True) → ReturnedEndW s (.returned v) u (Jvm.fieldLocs frame_1_writes args s ++ Jvm.arrayLocs frame_1_arrays args s ++ Jvm.staticLocs frame_1_statics s) 32 1216 → Post tb e args s (.returned v) u) :
    ArmFor flags0 classFile x code maxLocals ret World_1 tables_1 room_1 Calls_1 rest_1 Pre_1 Post := by
  intro l hfl _ _ p e ha hc hk s m args below hf hA hF happ hP
  obtain ⟨hcalls, hrest, hpre⟩ := hP
  obtain ⟨-, -, -, hnamed, -, -, -, hat⟩ := (Spec.applies_iff hf).mp happ
  obtain ⟨hg, hn⟩ := and_e (Cond.before_iff.mp (show (Jvm.Cond.and given_1 narrow_1).before args s = true from hpre))
  obtain ⟨h1, g0⟩ := and_e hg
  obtain ⟨k0, g1⟩ := and_e g0
  obtain ⟨k1, g2⟩ := and_e g1
  obtain ⟨k2, g3⟩ := and_e g2
  obtain ⟨k3, g4⟩ := and_e g3
  obtain ⟨w0, w1, w2, w3, w4, rfl⟩ : ∃ w0 w1 w2 w3 w4 : Value, args = #[w0, w1, w2, w3, w4] := by
    have hs : args.size = 5 := by simpa [Cond.value, given_1] using h1
    obtain ⟨L⟩ := args
    match L, hs with
    | [w0, w1, w2, w3, w4], _ => exact ⟨w0, w1, w2, w3, w4, rfl⟩
  have hw := fun d (hd : d ∈ tables_1) => atoms_spec (ws := Jvm.Cond.code x code maxLocals ret :: tables_1) hat d (List.mem_cons_of_mem _ hd)
  have hfit : Fit s := fun {y c} hc i hi => by
    obtain ⟨ha, rfl⟩ := Array.getElem?_eq_some_iff.mp hc
    have q := List.all_eq_true.mp ((Array.all_eq_true_iff_forall_mem.mp hF) _ (Array.getElem_mem ha)) i (List.mem_range.mpr hi)
    simpa [Array.getElem?_eq_getElem hi] using q
  obtain ⟨i0, e0⟩ := is_v k0
  obtain rfl : w0 = (.int i0) := Option.some.inj e0
  obtain ⟨i1, e1⟩ := is_v k1
  obtain rfl : w1 = (.int i1) := Option.some.inj e1
  obtain ⟨i2, e2⟩ := is_v k2
  obtain rfl : w2 = (.int i2) := Option.some.inj e2
  obtain ⟨i3, e3⟩ := is_v k3
  obtain rfl : w3 = (.int i3) := Option.some.inj e3
  obtain ⟨i4, e4⟩ := is_v g4
  obtain rfl : w4 = (.int i4) := Option.some.inj e4
  have hr := Cond.before_iff.mp (show rest_1_c.before _ s = true from hrest)
  unfold rest_1_c at hr
  obtain ⟨r0, hr⟩ := and_e hr
  obtain ⟨r1, hr⟩ := and_e hr
  obtain ⟨r2, hr⟩ := and_e hr
  obtain ⟨r3, hr⟩ := and_e hr
  obtain ⟨r4, hr⟩ := and_e hr
  obtain ⟨r5, hr⟩ := and_e hr
  obtain ⟨r6, hr⟩ := and_e hr
  obtain ⟨r7, hr⟩ := and_e hr
  obtain ⟨r8, hr⟩ := and_e hr
  obtain ⟨r9, hr⟩ := and_e hr
  obtain ⟨r10, hr⟩ := and_e hr
  obtain ⟨r11, hr⟩ := and_e hr
  obtain ⟨r12, hr⟩ := and_e hr
  obtain ⟨r13, hr⟩ := and_e hr
  obtain ⟨r14, hr⟩ := and_e hr
  obtain ⟨r15, hr⟩ := and_e hr
  obtain ⟨r16, hr⟩ := and_e hr
  obtain ⟨r17, hr⟩ := and_e hr
  obtain ⟨r18, hr⟩ := and_e hr
  obtain ⟨cs, evc⟩ := is_v r1
  have hcs := own_evN evc r2
  have SCS := Sta.start evc (Or.inl (Cond.before_iff.mpr r0))
  have SAD := Sta.start (own_evI r12) (Or.inl (Cond.before_iff.mpr r11))
  have SHI := Sta.start (own_evI r15) (Or.inl (Cond.before_iff.mpr r14))
  have SLO := Sta.start (own_evI r18) (Or.inl (Cond.before_iff.mpr r17))
  obtain ⟨n, o, h1, h2, h3, _, L, rfl, ⟨rfl, N⟩, hq⟩ := rm0 l s _ hw tables_1 i0 i1 i2 i3 i4 s.heap s.heap.size (Nat.le_refl _) SCS SAD SHI SLO hcs p e ha hc hk s m _ below hf ((Spec.applies_iff_loose hf).mp happ).1 ⟨rfl, State.Warmed39.refl s, rfl⟩ trivial
  refine ⟨n, _, h1, h2, h3, hpost _ _ _ _ _ _ ⟨Cond.after_iff.mpr rfl, Cond.after_iff.mpr (eq_i res_at (Term.int_eval (1)) rfl), trivial⟩ ⟨hq.1, hq.2.1, hq.2.2.1, (hq.2.2.2.sift fun y hy => Or.inr (N y hy)).mono (by decide) (by decide)⟩⟩
theorem main_1_1 : Claimed_1_1 := comes_1 fun _ _ _ _ _ _ h hF => ⟨h.1, hF⟩
theorem main_1_2 : Claimed_1_2 := comes_1 fun _ _ _ _ _ _ h hF => ⟨h.2.1, hF⟩
end Jvm.Pilot.@@N@@
namespace Jvm.Pilot.@@N@@
open Jvm Jvm.ClassFile Sem Op Lib Jvm.Free Jvm.Stand Jvm.Pilot.@@N@@.Jvm.D
/-! MADE BY PROGRAM (witnessworld.py) out of the Statement's table words and the real class files: 21 classes; the members and pool entries that the words name. The judged class is class 1, her method 2. -/
namespace start1
open Jvm.ClassFile
def u (s : String) : CpInfo := .utf8 (stringToUtf16 s)
/-- a pool by its gaps: so many unusable entries, then the entry; so many at the end -/
def gap : Nat → List CpInfo → List CpInfo
  | 0, r => r
  | n + 1, r => .unusable :: gap n r
def poolList (es : List (Nat × CpInfo)) (last : Nat) : List CpInfo := es.foldr (fun e r => gap e.1 (e.2 :: r)) (gap last [])
def pool (es : List (Nat × CpInfo)) (last : Nat) : Array CpInfo := ⟨poolList es last⟩
def fileOf (pool : Array CpInfo) (this : Nat) (attrs : Array Attribute := #[]) (ms : Array MethodInfo := #[]) (fl : Nat := 33) (sup : Nat := 0) (ifs : Array Nat := #[]) (fds : Array FieldInfo := #[]) : ClassFile where
  minorVersion := 0
  majorVersion := 65
  constantPool := pool
  accessFlags := fl
  thisClass := this
  superClass := sup
  interfaces := ifs
  fields := fds
  methods := ms
  attributes := attrs
def plain (name : String) (sup : Option ClassId) : Class where
  name := name
  kind := .ordinary
  loader := none
  accessFlags := 33
  super := sup
  interfaces := #[]
  cf := none
  fields := #[]
  methods := #[]
  instanceTypes := #[]
  staticTypes := #[]
  resolved := #[]
  callSites := []
  init := .initialized
  statics := none
  mirror := none

def pool0 : Array CpInfo := pool [(5, u "<init>"), (0, u "()V"), (1, .class_ 10), (1, u "java/lang/Object")] 113

def k0c0 : Code := { maxStack := 0, maxLocals := 1, code := object_method_1_code, exceptionTable := #[], attributes := #[] }
def k0m0 : Method := { name := "<init>", desc := "()V", sig := { parameters := [], returnType := none }, accessFlags := 1, code := some k0c0 }
/-- java/lang/Object -/
def k0 : Class := { plain "java/lang/Object" none with
  accessFlags := 33
  interfaces := #[]
  cf := some (fileOf pool0 8 #[] #[{ accessFlags := 1, nameIndex := 5, descriptorIndex := 6, attributes := #[] }] 33 0 #[] #[])
  fields := #[]
  methods := #[k0m0]
  instanceTypes := #[]
  staticTypes := #[]
  resolved := Array.replicate 124 none
  statics := none }

def pool1 : Array CpInfo := pool [(2, .class_ 4), (1, u "java/lang/Object"), (0, u "<init>"), (0, u "()V"), (0, .methodref 8 9), (0, .class_ 10), (0, .nameAndType 11 12), (0, u "java/lang/String"), (0, u "valueOf"), (0, u "(C)Ljava/lang/String;"), (0, .methodref 8 14), (0, .nameAndType 5 15), (0, u "([C)V"), (0, .methodref 17 18), (0, .class_ 19), (0, .nameAndType 20 21), (0, u "com/example/role_chain_check/rolechaincheck/model/RoleNamedPinLaw"), (0, u "draw"), (0, u "(IIIII)Ljava/lang/String;"), (0, .methodref 23 24), (0, .class_ 25), (0, .nameAndType 26 27), (0, u "com/example/role_chain_check/rolechaincheck/model/Role"), (0, u "named"), (0, u "(Ljava/lang/String;)Lcom/example/role_chain_check/rolechaincheck/model/Role;"), (0, .methodref 23 29), (0, .nameAndType 30 31), (0, u "iri"), (0, u "()Ljava/lang/String;"), (0, .methodref 8 33), (0, .nameAndType 34 35), (0, u "equals"), (0, u "(Ljava/lang/Object;)Z"), (0, .methodref 23 37), (0, .nameAndType 38 39), (0, u "isInverse"), (0, u "()Z"), (0, .methodref 23 33), (3, u "law"), (0, u "(IIIII)Z")] 2

def k1m0 : Method := { name := "<init>", desc := "()V", sig := { parameters := [], returnType := none }, accessFlags := 1, code := none }
def k1c1 : Code := { maxStack := 6, maxLocals := 5, code := method_2_code, exceptionTable := #[], attributes := #[] }
def k1m1 : Method := { name := "draw", desc := "(IIIII)Ljava/lang/String;", sig := { parameters := [.int, .int, .int, .int, .int], returnType := some (.object "java/lang/String") }, accessFlags := 10, code := some k1c1 }
def k1c2 : Code := { maxStack := 5, maxLocals := 14, code := code, exceptionTable := #[], attributes := #[] }
def k1m2 : Method := { name := "law", desc := "(IIIII)Z", sig := { parameters := [.int, .int, .int, .int, .int], returnType := some .boolean }, accessFlags := 9, code := some k1c2 }
/-- com/example/role_chain_check/rolechaincheck/model/RoleNamedPinLaw -/
def k1 : Class := { plain "com/example/role_chain_check/rolechaincheck/model/RoleNamedPinLaw" (some 0) with
  accessFlags := 49
  interfaces := #[]
  cf := some (fileOf pool1 17 #[] #[{ accessFlags := 1, nameIndex := 5, descriptorIndex := 6, attributes := #[] }, { accessFlags := 10, nameIndex := 20, descriptorIndex := 21, attributes := #[] }, { accessFlags := 9, nameIndex := 44, descriptorIndex := 45, attributes := #[] }] 49 2 #[] #[])
  fields := #[]
  methods := #[k1m0, k1m1, k1m2]
  instanceTypes := #[]
  staticTypes := #[]
  resolved := Array.replicate 48 none
  statics := none }

def pool2 : Array CpInfo := pool [(1, .class_ 2), (0, u "java/io/Serializable"), (0, .class_ 4), (0, u "java/lang/Object")] 2

/-- java/io/Serializable -/
def k2 : Class := { plain "java/io/Serializable" (some 0) with
  accessFlags := 1537
  interfaces := #[]
  cf := some (fileOf pool2 1 #[] #[] 1537 3 #[] #[])
  fields := #[]
  methods := #[]
  instanceTypes := #[]
  staticTypes := #[]
  resolved := Array.replicate 7 none
  statics := none }

def pool3 : Array CpInfo := pool [(1, .class_ 2), (0, u "java/lang/Comparable"), (0, .class_ 4), (0, u "java/lang/Object")] 7

/-- java/lang/Comparable -/
def k3 : Class := { plain "java/lang/Comparable" (some 0) with
  accessFlags := 1537
  interfaces := #[]
  cf := some (fileOf pool3 1 #[] #[] 1537 3 #[] #[])
  fields := #[]
  methods := #[]
  instanceTypes := #[]
  staticTypes := #[]
  resolved := Array.replicate 12 none
  statics := none }

def pool4 : Array CpInfo := pool [(2, .class_ 4), (1, u "java/lang/CharSequence"), (42, .class_ 48), (0, u "java/lang/CharSequence$1CodePointIterator"), (10, .class_ 60), (0, u "java/lang/CharSequence$1CharIterator"), (5, .class_ 67), (0, u "java/lang/Object")] 63

/-- java/lang/CharSequence -/
def k4 : Class := { plain "java/lang/CharSequence" (some 0) with
  accessFlags := 1537
  interfaces := #[]
  cf := some (fileOf pool4 2 #[.nestMembers #[47, 59]] #[] 1537 66 #[] #[])
  fields := #[]
  methods := #[]
  instanceTypes := #[]
  staticTypes := #[]
  resolved := Array.replicate 131 none
  statics := none }

def pool5 : Array CpInfo := pool [(1, .class_ 2), (0, u "java/lang/constant/Constable"), (0, .class_ 4), (0, u "java/lang/Object")] 6

/-- java/lang/constant/Constable -/
def k5 : Class := { plain "java/lang/constant/Constable" (some 0) with
  accessFlags := 1537
  interfaces := #[]
  cf := some (fileOf pool5 1 #[] #[] 1537 3 #[] #[])
  fields := #[]
  methods := #[]
  instanceTypes := #[]
  staticTypes := #[]
  resolved := Array.replicate 11 none
  statics := none }

def pool6 : Array CpInfo := pool [(1, .class_ 2), (0, u "java/lang/constant/ConstantDesc"), (0, .class_ 4), (0, u "java/lang/Object")] 32

/-- java/lang/constant/ConstantDesc -/
def k6 : Class := { plain "java/lang/constant/ConstantDesc" (some 0) with
  accessFlags := 1537
  interfaces := #[]
  cf := some (fileOf pool6 1 #[] #[] 1537 3 #[] #[])
  fields := #[]
  methods := #[]
  instanceTypes := #[]
  staticTypes := #[]
  resolved := Array.replicate 37 none
  statics := none }

def pool7 : Array CpInfo := pool [(1, .methodref 2 3), (0, .class_ 4), (0, .nameAndType 5 6), (0, u "java/lang/Object"), (0, u "<init>"), (0, u "()V"), (2, .fieldref 10 11), (0, .class_ 12), (0, .nameAndType 13 14), (0, u "java/lang/String"), (0, u "value"), (0, u "[B"), (0, .fieldref 10 16), (0, .nameAndType 17 18), (0, u "coder"), (0, u "B"), (2, u "hash"), (0, u "I"), (2, u "hashIsZero"), (0, u "Z"), (0, .methodref 10 28), (0, .nameAndType 5 29), (0, u "([CIILjava/lang/Void;)V"), (8, .fieldref 10 39), (0, .nameAndType 40 26), (0, u "COMPACT_STRINGS"), (1, .class_ 44), (1, u "java/lang/StringUTF16"), (0, u "compress"), (1, .methodref 42 48), (0, .nameAndType 49 50), (0, u "coderFromArrayLen"), (0, u "([BI)B"), (2, u "toBytes"), (53, .class_ 109), (1, u "java/lang/StringLatin1"), (32, u "()Z"), (34, .methodref 42 178), (0, .nameAndType 45 179), (0, u "([CII)[B"), (29, .methodref 10 210), (0, .nameAndType 5 211), (0, u "([BB)V"), (157, u "(C)Z"), (171, .methodref 107 542), (0, .nameAndType 543 544), (0, u "equals"), (0, u "([B[B)Z"), (28, u "(Ljava/lang/Object;)Z"), (1, .class_ 576), (0, u "java/lang/CharSequence"), (22, u "CASE_INSENSITIVE_ORDER"), (0, u "Ljava/util/Comparator;"), (91, u "isEmpty"), (89, u "valueOf"), (0, u "(C)Ljava/lang/String;"), (226, u "([C)V"), (4, .methodref 107 1016), (0, .nameAndType 1017 369), (0, u "canEncode"), (0, .methodref 107 1019), (0, .nameAndType 53 1020), (0, u "(C)[B"), (0, .methodref 42 1019), (79, u "serialPersistentFields"), (0, u "[Ljava/io/ObjectStreamField;"), (0, .class_ 1104), (0, u "java/lang/String$CaseInsensitiveComparator"), (1, .class_ 1107), (0, u "java/io/Serializable"), (0, .class_ 1109), (0, u "java/lang/Comparable"), (0, .class_ 1111), (0, u "java/lang/constant/Constable"), (0, .class_ 1113), (0, u "java/lang/constant/ConstantDesc"), (2, u "serialVersionUID"), (0, u "J"), (3, u "REPL"), (0, u "C"), (2, u "LATIN1"), (1, u "UTF16")] 323

def k7m0 : Method := { name := "<init>", desc := "()V", sig := { parameters := [], returnType := none }, accessFlags := 1, code := none }
def k7c1 : Code := { maxStack := 5, maxLocals := 2, code := jdk_42_method_3_code, exceptionTable := #[], attributes := #[] }
def k7m1 : Method := { name := "<init>", desc := "([C)V", sig := { parameters := [(.array .char)], returnType := none }, accessFlags := 1, code := some k7c1 }
def k7c2 : Code := { maxStack := 1, maxLocals := 1, code := jdk_42_method_55_code, exceptionTable := #[], attributes := #[] }
def k7m2 : Method := { name := "isEmpty", desc := "()Z", sig := { parameters := [], returnType := some .boolean }, accessFlags := 1, code := some k7c2 }
def k7c3 : Code := { maxStack := 2, maxLocals := 3, code := jdk_42_method_66_code, exceptionTable := #[], attributes := #[] }
def k7m3 : Method := { name := "equals", desc := "(Ljava/lang/Object;)Z", sig := { parameters := [(.object "java/lang/Object")], returnType := some .boolean }, accessFlags := 1, code := some k7c3 }
def k7c4 : Code := { maxStack := 4, maxLocals := 1, code := jdk_42_method_139_code, exceptionTable := #[], attributes := #[] }
def k7m4 : Method := { name := "valueOf", desc := "(C)Ljava/lang/String;", sig := { parameters := [.char], returnType := some (.object "java/lang/String") }, accessFlags := 9, code := some k7c4 }
def k7c5 : Code := { maxStack := 4, maxLocals := 6, code := jdk_42_method_149_code, exceptionTable := #[], attributes := #[] }
def k7m5 : Method := { name := "<init>", desc := "([CIILjava/lang/Void;)V", sig := { parameters := [(.array .char), .int, .int, (.object "java/lang/Void")], returnType := none }, accessFlags := 2, code := some k7c5 }
def k7c6 : Code := { maxStack := 2, maxLocals := 3, code := jdk_42_method_151_code, exceptionTable := #[], attributes := #[] }
def k7m6 : Method := { name := "<init>", desc := "([BB)V", sig := { parameters := [(.array .byte), .byte], returnType := none }, accessFlags := 0, code := some k7c6 }
/-- java/lang/String -/
def k7 : Class := { plain "java/lang/String" (some 0) with
  accessFlags := 49
  interfaces := #[2, 3, 4, 5, 6]
  cf := some (fileOf pool7 10 #[.nestMembers #[1103]] #[{ accessFlags := 1, nameIndex := 5, descriptorIndex := 6, attributes := #[] }, { accessFlags := 1, nameIndex := 5, descriptorIndex := 1010, attributes := #[] }, { accessFlags := 1, nameIndex := 692, descriptorIndex := 142, attributes := #[] }, { accessFlags := 1, nameIndex := 543, descriptorIndex := 573, attributes := #[] }, { accessFlags := 9, nameIndex := 782, descriptorIndex := 783, attributes := #[] }, { accessFlags := 2, nameIndex := 5, descriptorIndex := 29, attributes := #[] }, { accessFlags := 0, nameIndex := 5, descriptorIndex := 211, attributes := #[] }] 49 2 #[1106, 1108, 575, 1110, 1112] #[{ accessFlags := 18, nameIndex := 13, descriptorIndex := 14, attributes := #[] }, { accessFlags := 18, nameIndex := 17, descriptorIndex := 18, attributes := #[] }, { accessFlags := 2, nameIndex := 21, descriptorIndex := 22, attributes := #[] }, { accessFlags := 2, nameIndex := 25, descriptorIndex := 26, attributes := #[] }, { accessFlags := 26, nameIndex := 1116, descriptorIndex := 1117, attributes := #[] }, { accessFlags := 24, nameIndex := 40, descriptorIndex := 26, attributes := #[] }, { accessFlags := 26, nameIndex := 1101, descriptorIndex := 1102, attributes := #[] }, { accessFlags := 26, nameIndex := 1121, descriptorIndex := 1122, attributes := #[] }, { accessFlags := 25, nameIndex := 599, descriptorIndex := 600, attributes := #[] }, { accessFlags := 24, nameIndex := 1125, descriptorIndex := 18, attributes := #[] }, { accessFlags := 24, nameIndex := 1127, descriptorIndex := 18, attributes := #[] }])
  fields := #[{ name := "value", type := (.array .byte), accessFlags := 18, slot := 0, constantValue := 0 }, { name := "coder", type := .byte, accessFlags := 18, slot := 1, constantValue := 0 }, { name := "hash", type := .int, accessFlags := 2, slot := 2, constantValue := 0 }, { name := "hashIsZero", type := .boolean, accessFlags := 2, slot := 3, constantValue := 0 }, { name := "serialVersionUID", type := .long, accessFlags := 26, slot := 0, constantValue := 0 }, { name := "COMPACT_STRINGS", type := .boolean, accessFlags := 24, slot := 1, constantValue := 0 }, { name := "serialPersistentFields", type := (.array (.object "java/io/ObjectStreamField")), accessFlags := 26, slot := 2, constantValue := 0 }, { name := "REPL", type := .char, accessFlags := 26, slot := 3, constantValue := 0 }, { name := "CASE_INSENSITIVE_ORDER", type := (.object "java/util/Comparator"), accessFlags := 25, slot := 4, constantValue := 0 }, { name := "LATIN1", type := .byte, accessFlags := 24, slot := 5, constantValue := 0 }, { name := "UTF16", type := .byte, accessFlags := 24, slot := 6, constantValue := 0 }]
  methods := #[k7m0, k7m1, k7m2, k7m3, k7m4, k7m5, k7m6]
  instanceTypes := #[(.array .byte), .byte, .int, .boolean]
  staticTypes := #[.long, .boolean, (.array (.object "java/io/ObjectStreamField")), .char, (.object "java/util/Comparator"), .byte, .byte]
  resolved := Array.replicate 1451 none
  statics := some 0 }

def pool8 : Array CpInfo := pool [(4, .class_ 6), (1, u "java/lang/Object"), (0, u "<init>"), (0, u "()V"), (5, .class_ 16), (1, u "java/lang/StringLatin1"), (73, u "canEncode"), (14, u "(C)Z"), (15, u "$assertionsDisabled"), (0, u "Z"), (98, .class_ 223), (1, u "java/lang/StringLatin1$LinesSpliterator"), (57, u "equals"), (0, u "([B[B)Z"), (97, u "toBytes"), (1, u "(C)[B"), (7, .class_ 391), (0, u "java/lang/StringLatin1$CharsSpliterator")] 3

def k8m0 : Method := { name := "<init>", desc := "()V", sig := { parameters := [], returnType := none }, accessFlags := 0, code := none }
def k8c1 : Code := { maxStack := 2, maxLocals := 1, code := jdk_43_method_3_code, exceptionTable := #[], attributes := #[] }
def k8m1 : Method := { name := "canEncode", desc := "(C)Z", sig := { parameters := [.char], returnType := some .boolean }, accessFlags := 9, code := some k8c1 }
def k8c2 : Code := { maxStack := 3, maxLocals := 3, code := jdk_43_method_13_code, exceptionTable := #[], attributes := #[] }
def k8m2 : Method := { name := "equals", desc := "([B[B)Z", sig := { parameters := [(.array .byte), (.array .byte)], returnType := some .boolean }, accessFlags := 9, code := some k8c2 }
def k8c3 : Code := { maxStack := 4, maxLocals := 1, code := jdk_43_method_46_code, exceptionTable := #[], attributes := #[] }
def k8m3 : Method := { name := "toBytes", desc := "(C)[B", sig := { parameters := [.char], returnType := some (.array .byte) }, accessFlags := 9, code := some k8c3 }
/-- java/lang/StringLatin1 -/
def k8 : Class := { plain "java/lang/StringLatin1" (some 0) with
  accessFlags := 48
  interfaces := #[]
  cf := some (fileOf pool8 14 #[.nestMembers #[390, 221]] #[{ accessFlags := 0, nameIndex := 7, descriptorIndex := 8, attributes := #[] }, { accessFlags := 9, nameIndex := 90, descriptorIndex := 105, attributes := #[] }, { accessFlags := 9, nameIndex := 281, descriptorIndex := 282, attributes := #[] }, { accessFlags := 9, nameIndex := 380, descriptorIndex := 382, attributes := #[] }] 48 4 #[] #[{ accessFlags := 4120, nameIndex := 121, descriptorIndex := 122, attributes := #[] }])
  fields := #[{ name := "$assertionsDisabled", type := .boolean, accessFlags := 4120, slot := 0, constantValue := 0 }]
  methods := #[k8m0, k8m1, k8m2, k8m3]
  instanceTypes := #[]
  staticTypes := #[.boolean]
  resolved := Array.replicate 395 none
  statics := none }

def pool9 : Array CpInfo := pool [(1, .string 2), (0, u "iri"), (0, .methodref 4 5), (0, .class_ 6), (0, .nameAndType 7 8), (0, u "java/util/Objects"), (0, u "requireNonNull"), (0, u "(Ljava/lang/Object;Ljava/lang/String;)Ljava/lang/Object;"), (0, .methodref 10 11), (0, .class_ 12), (0, .nameAndType 13 14), (0, u "java/lang/String"), (0, u "isEmpty"), (0, u "()Z"), (6, u "<init>"), (1, .class_ 24), (0, u "com/example/role_chain_check/rolechaincheck/model/Role"), (0, .methodref 23 26), (0, .nameAndType 21 27), (0, u "(Ljava/lang/String;Z)V"), (0, .methodref 29 30), (0, .class_ 31), (0, .nameAndType 21 32), (0, u "java/lang/Object"), (0, u "()V"), (0, .fieldref 23 34), (0, .nameAndType 35 36), (0, u "_iri"), (0, u "Ljava/lang/String;"), (0, .fieldref 23 38), (0, .nameAndType 39 40), (0, u "_inverse"), (0, u "Z"), (2, u "TOP"), (0, u "Lcom/example/role_chain_check/rolechaincheck/model/Role;"), (0, .methodref 10 46), (0, .nameAndType 47 48), (0, u "equals"), (0, u "(Ljava/lang/Object;)Z"), (2, u "BOTTOM"), (29, u "named"), (0, u "(Ljava/lang/String;)Lcom/example/role_chain_check/rolechaincheck/model/Role;"), (2, .class_ 86), (0, u "java/lang/Comparable"), (3, u "()Ljava/lang/String;"), (0, u "isInverse")] 28

def k9c0 : Code := { maxStack := 4, maxLocals := 1, code := prog_8_method_1_code, exceptionTable := #[], attributes := #[] }
def k9m0 : Method := { name := "named", desc := "(Ljava/lang/String;)Lcom/example/role_chain_check/rolechaincheck/model/Role;", sig := { parameters := [(.object "java/lang/String")], returnType := some (.object "com/example/role_chain_check/rolechaincheck/model/Role") }, accessFlags := 9, code := some k9c0 }
def k9c1 : Code := { maxStack := 2, maxLocals := 3, code := prog_8_method_2_code, exceptionTable := #[], attributes := #[] }
def k9m1 : Method := { name := "<init>", desc := "(Ljava/lang/String;Z)V", sig := { parameters := [(.object "java/lang/String"), .boolean], returnType := none }, accessFlags := 2, code := some k9c1 }
def k9c2 : Code := { maxStack := 1, maxLocals := 1, code := prog_8_method_3_code, exceptionTable := #[], attributes := #[] }
def k9m2 : Method := { name := "iri", desc := "()Ljava/lang/String;", sig := { parameters := [], returnType := some (.object "java/lang/String") }, accessFlags := 1, code := some k9c2 }
def k9c3 : Code := { maxStack := 1, maxLocals := 1, code := prog_8_method_4_code, exceptionTable := #[], attributes := #[] }
def k9m3 : Method := { name := "isInverse", desc := "()Z", sig := { parameters := [], returnType := some .boolean }, accessFlags := 1, code := some k9c3 }
def k9c4 : Code := { maxStack := 2, maxLocals := 4, code := prog_8_method_8_code, exceptionTable := #[], attributes := #[] }
def k9m4 : Method := { name := "equals", desc := "(Ljava/lang/Object;)Z", sig := { parameters := [(.object "java/lang/Object")], returnType := some .boolean }, accessFlags := 1, code := some k9c4 }
/-- com/example/role_chain_check/rolechaincheck/model/Role -/
def k9 : Class := { plain "com/example/role_chain_check/rolechaincheck/model/Role" (some 0) with
  accessFlags := 49
  interfaces := #[3]
  cf := some (fileOf pool9 23 #[] #[{ accessFlags := 9, nameIndex := 81, descriptorIndex := 82, attributes := #[] }, { accessFlags := 2, nameIndex := 21, descriptorIndex := 27, attributes := #[] }, { accessFlags := 1, nameIndex := 2, descriptorIndex := 90, attributes := #[] }, { accessFlags := 1, nameIndex := 91, descriptorIndex := 14, attributes := #[] }, { accessFlags := 1, nameIndex := 47, descriptorIndex := 48, attributes := #[] }] 49 29 #[85] #[{ accessFlags := 25, nameIndex := 43, descriptorIndex := 44, attributes := #[] }, { accessFlags := 25, nameIndex := 51, descriptorIndex := 44, attributes := #[] }, { accessFlags := 18, nameIndex := 35, descriptorIndex := 36, attributes := #[] }, { accessFlags := 18, nameIndex := 39, descriptorIndex := 40, attributes := #[] }])
  fields := #[{ name := "TOP", type := (.object "com/example/role_chain_check/rolechaincheck/model/Role"), accessFlags := 25, slot := 0, constantValue := 0 }, { name := "BOTTOM", type := (.object "com/example/role_chain_check/rolechaincheck/model/Role"), accessFlags := 25, slot := 1, constantValue := 0 }, { name := "_iri", type := (.object "java/lang/String"), accessFlags := 18, slot := 0, constantValue := 0 }, { name := "_inverse", type := .boolean, accessFlags := 18, slot := 1, constantValue := 0 }]
  methods := #[k9m0, k9m1, k9m2, k9m3, k9m4]
  instanceTypes := #[(.object "java/lang/String"), .boolean]
  staticTypes := #[(.object "com/example/role_chain_check/rolechaincheck/model/Role"), (.object "com/example/role_chain_check/rolechaincheck/model/Role")]
  resolved := Array.replicate 120 none
  statics := none }

def pool10 : Array CpInfo := pool [(2, .class_ 4), (1, u "java/lang/Object"), (0, u "<init>"), (0, u "()V"), (35, .class_ 44), (1, u "java/util/Objects"), (0, u "requireNonNull"), (48, u "(Ljava/lang/Object;Ljava/lang/String;)Ljava/lang/Object;")] 89

def k10m0 : Method := { name := "<init>", desc := "()V", sig := { parameters := [], returnType := none }, accessFlags := 2, code := none }
def k10c1 : Code := { maxStack := 3, maxLocals := 2, code := jdk_31_method_11_code, exceptionTable := #[], attributes := #[] }
def k10m1 : Method := { name := "requireNonNull", desc := "(Ljava/lang/Object;Ljava/lang/String;)Ljava/lang/Object;", sig := { parameters := [(.object "java/lang/Object"), (.object "java/lang/String")], returnType := some (.object "java/lang/Object") }, accessFlags := 9, code := some k10c1 }
/-- java/util/Objects -/
def k10 : Class := { plain "java/util/Objects" (some 0) with
  accessFlags := 49
  interfaces := #[]
  cf := some (fileOf pool10 42 #[] #[{ accessFlags := 2, nameIndex := 5, descriptorIndex := 6, attributes := #[] }, { accessFlags := 9, nameIndex := 45, descriptorIndex := 94, attributes := #[] }] 49 2 #[] #[])
  fields := #[]
  methods := #[k10m0, k10m1]
  instanceTypes := #[]
  staticTypes := #[]
  resolved := Array.replicate 184 none
  statics := none }

def pool11 : Array CpInfo := pool [(6, .class_ 8), (1, u "java/lang/Object"), (0, u "<init>"), (0, u "()V"), (0, .methodref 12 13), (0, .class_ 14), (0, .nameAndType 15 16), (0, u "java/lang/StringUTF16"), (0, u "newBytesLength"), (0, u "(I)I"), (3, .integer 1073741823), (23, .fieldref 12 45), (0, .nameAndType 46 47), (0, u "$assertionsDisabled"), (0, u "Z"), (11, .fieldref 12 60), (0, .nameAndType 61 62), (0, u "HI_BYTE_SHIFT"), (0, u "I"), (0, .fieldref 12 64), (0, .nameAndType 65 62), (0, u "LO_BYTE_SHIFT"), (5, .methodref 12 72), (0, .nameAndType 73 74), (0, u "getChar"), (0, u "([BI)C"), (32, .methodref 12 108), (0, .nameAndType 109 110), (0, u "newBytesFor"), (0, u "(I)[B"), (0, .methodref 12 112), (0, .nameAndType 113 114), (0, u "putChar"), (0, u "([BII)V"), (0, .methodref 12 116), (0, .nameAndType 117 118), (0, u "compress"), (0, u "([CI[BII)I"), (0, .methodref 12 120), (0, .nameAndType 121 122), (0, u "toBytes"), (0, u "([CII)[B"), (138, u "coderFromArrayLen"), (0, u "([BI)B"), (106, .class_ 371), (1, u "java/lang/StringUTF16$LinesSpliterator"), (58, u "MAX_LENGTH"), (44, u "(C)[B"), (151, .class_ 628), (0, u "java/lang/StringUTF16$CodePointsSpliterator"), (0, .class_ 630), (0, u "java/lang/StringUTF16$CharsSpliterator")] 4

def k11m0 : Method := { name := "<init>", desc := "()V", sig := { parameters := [], returnType := none }, accessFlags := 0, code := none }
def k11c1 : Code := { maxStack := 1, maxLocals := 1, code := jdk_52_method_2_code, exceptionTable := #[], attributes := #[] }
def k11m1 : Method := { name := "newBytesFor", desc := "(I)[B", sig := { parameters := [.int], returnType := some (.array .byte) }, accessFlags := 9, code := some k11c1 }
def k11c2 : Code := { maxStack := 4, maxLocals := 1, code := jdk_52_method_3_code, exceptionTable := #[], attributes := #[] }
def k11m2 : Method := { name := "newBytesLength", desc := "(I)I", sig := { parameters := [.int], returnType := some .int }, accessFlags := 9, code := some k11c2 }
def k11c3 : Code := { maxStack := 4, maxLocals := 3, code := jdk_52_method_4_code, exceptionTable := #[], attributes := #[] }
def k11m3 : Method := { name := "putChar", desc := "([BII)V", sig := { parameters := [(.array .byte), .int, .int], returnType := none }, accessFlags := 8, code := some k11c3 }
def k11c4 : Code := { maxStack := 3, maxLocals := 2, code := jdk_52_method_5_code, exceptionTable := #[], attributes := #[] }
def k11m4 : Method := { name := "getChar", desc := "([BI)C", sig := { parameters := [(.array .byte), .int], returnType := some .char }, accessFlags := 8, code := some k11c4 }
def k11c5 : Code := { maxStack := 4, maxLocals := 5, code := jdk_52_method_14_code, exceptionTable := #[], attributes := #[] }
def k11m5 : Method := { name := "toBytes", desc := "([CII)[B", sig := { parameters := [(.array .char), .int, .int], returnType := some (.array .byte) }, accessFlags := 9, code := some k11c5 }
def k11c6 : Code := { maxStack := 2, maxLocals := 2, code := jdk_52_method_15_code, exceptionTable := #[], attributes := #[] }
def k11m6 : Method := { name := "coderFromArrayLen", desc := "([BI)B", sig := { parameters := [(.array .byte), .int], returnType := some .byte }, accessFlags := 8, code := some k11c6 }
def k11c7 : Code := { maxStack := 5, maxLocals := 6, code := jdk_52_method_16_code, exceptionTable := #[], attributes := #[] }
def k11m7 : Method := { name := "compress", desc := "([CII)[B", sig := { parameters := [(.array .char), .int, .int], returnType := some (.array .byte) }, accessFlags := 9, code := some k11c7 }
def k11c8 : Code := { maxStack := 3, maxLocals := 7, code := jdk_52_method_21_code, exceptionTable := #[], attributes := #[] }
def k11m8 : Method := { name := "compress", desc := "([CI[BII)I", sig := { parameters := [(.array .char), .int, (.array .byte), .int, .int], returnType := some .int }, accessFlags := 9, code := some k11c8 }
def k11c9 : Code := { maxStack := 3, maxLocals := 2, code := jdk_52_method_24_code, exceptionTable := #[], attributes := #[] }
def k11m9 : Method := { name := "toBytes", desc := "(C)[B", sig := { parameters := [.char], returnType := some (.array .byte) }, accessFlags := 9, code := some k11c9 }
/-- java/lang/StringUTF16 -/
def k11 : Class := { plain "java/lang/StringUTF16" (some 0) with
  accessFlags := 48
  interfaces := #[]
  cf := some (fileOf pool11 12 #[.nestMembers #[627, 629, 369]] #[{ accessFlags := 0, nameIndex := 9, descriptorIndex := 10, attributes := #[] }, { accessFlags := 9, nameIndex := 109, descriptorIndex := 110, attributes := #[] }, { accessFlags := 9, nameIndex := 15, descriptorIndex := 16, attributes := #[] }, { accessFlags := 8, nameIndex := 113, descriptorIndex := 114, attributes := #[] }, { accessFlags := 8, nameIndex := 73, descriptorIndex := 74, attributes := #[] }, { accessFlags := 9, nameIndex := 121, descriptorIndex := 122, attributes := #[] }, { accessFlags := 8, nameIndex := 261, descriptorIndex := 262, attributes := #[] }, { accessFlags := 9, nameIndex := 117, descriptorIndex := 122, attributes := #[] }, { accessFlags := 9, nameIndex := 117, descriptorIndex := 118, attributes := #[] }, { accessFlags := 9, nameIndex := 121, descriptorIndex := 475, attributes := #[] }] 48 6 #[] #[{ accessFlags := 26, nameIndex := 61, descriptorIndex := 62, attributes := #[] }, { accessFlags := 26, nameIndex := 65, descriptorIndex := 62, attributes := #[] }, { accessFlags := 24, nameIndex := 430, descriptorIndex := 62, attributes := #[] }, { accessFlags := 4120, nameIndex := 46, descriptorIndex := 47, attributes := #[] }])
  fields := #[{ name := "HI_BYTE_SHIFT", type := .int, accessFlags := 26, slot := 0, constantValue := 0 }, { name := "LO_BYTE_SHIFT", type := .int, accessFlags := 26, slot := 1, constantValue := 0 }, { name := "MAX_LENGTH", type := .int, accessFlags := 24, slot := 2, constantValue := 0 }, { name := "$assertionsDisabled", type := .boolean, accessFlags := 4120, slot := 3, constantValue := 0 }]
  methods := #[k11m0, k11m1, k11m2, k11m3, k11m4, k11m5, k11m6, k11m7, k11m8, k11m9]
  instanceTypes := #[]
  staticTypes := #[.int, .int, .int, .boolean]
  resolved := Array.replicate 635 none
  statics := some 1 }

def pool12 : Array CpInfo := pool [(2, .class_ 4), (1, u "java/lang/Object"), (0, u "<init>"), (0, u "()V"), (17, .class_ 26), (1, u "jdk/internal/util/Preconditions"), (28, .class_ 56), (0, u "jdk/internal/util/Preconditions$4"), (57, .class_ 115), (0, u "jdk/internal/util/Preconditions$1"), (7, u "SIOOBE_FORMATTER"), (0, u "Ljava/util/function/BiFunction;"), (0, .class_ 126), (0, u "jdk/internal/util/Preconditions$2"), (3, u "AIOOBE_FORMATTER"), (0, .class_ 132), (0, u "jdk/internal/util/Preconditions$3"), (3, u "IOOBE_FORMATTER")] 57

def k12m0 : Method := { name := "<init>", desc := "()V", sig := { parameters := [], returnType := none }, accessFlags := 1, code := none }
/-- jdk/internal/util/Preconditions -/
def k12 : Class := { plain "jdk/internal/util/Preconditions" (some 0) with
  accessFlags := 33
  interfaces := #[]
  cf := some (fileOf pool12 24 #[.nestMembers #[55, 131, 125, 114]] #[{ accessFlags := 1, nameIndex := 5, descriptorIndex := 6, attributes := #[] }] 33 2 #[] #[{ accessFlags := 25, nameIndex := 123, descriptorIndex := 124, attributes := #[] }, { accessFlags := 25, nameIndex := 130, descriptorIndex := 124, attributes := #[] }, { accessFlags := 25, nameIndex := 136, descriptorIndex := 124, attributes := #[] }])
  fields := #[{ name := "SIOOBE_FORMATTER", type := (.object "java/util/function/BiFunction"), accessFlags := 25, slot := 0, constantValue := 0 }, { name := "AIOOBE_FORMATTER", type := (.object "java/util/function/BiFunction"), accessFlags := 25, slot := 1, constantValue := 0 }, { name := "IOOBE_FORMATTER", type := (.object "java/util/function/BiFunction"), accessFlags := 25, slot := 2, constantValue := 0 }]
  methods := #[k12m0]
  instanceTypes := #[]
  staticTypes := #[(.object "java/util/function/BiFunction"), (.object "java/util/function/BiFunction"), (.object "java/util/function/BiFunction")]
  resolved := Array.replicate 194 none
  statics := some 2 }

def pool13 : Array CpInfo := pool [(9, u "<init>"), (6, .class_ 18), (1, u "java/lang/Object"), (0, u "()V"), (1, .class_ 23), (1, u "jdk/internal/util/ArraysSupport"), (0, u "LOG2_ARRAY_LONG_INDEX_SCALE"), (0, u "I"), (2, u "U"), (0, u "Ljdk/internal/misc/Unsafe;"), (8, u "BIG_ENDIAN"), (0, u "Z"), (8, u "LOG2_BYTE_BIT_SIZE"), (4, u "LOG2_ARRAY_INT_INDEX_SCALE"), (54, u "JLA"), (0, u "Ljdk/internal/access/JavaLangAccess;"), (11, u "LOG2_ARRAY_BOOLEAN_INDEX_SCALE"), (9, u "LOG2_ARRAY_BYTE_INDEX_SCALE"), (5, u "LOG2_ARRAY_CHAR_INDEX_SCALE"), (5, u "LOG2_ARRAY_SHORT_INDEX_SCALE"), (18, u "LOG2_ARRAY_FLOAT_INDEX_SCALE"), (24, u "LOG2_ARRAY_DOUBLE_INDEX_SCALE"), (89, u "T_BOOLEAN"), (2, u "T_CHAR"), (1, u "T_FLOAT"), (1, u "T_DOUBLE"), (1, u "T_BYTE"), (1, u "T_SHORT"), (1, u "T_INT"), (1, u "T_LONG"), (1, u "SOFT_MAX_ARRAY_LENGTH")] 83

def k13m0 : Method := { name := "<init>", desc := "()V", sig := { parameters := [], returnType := none }, accessFlags := 2, code := none }
/-- jdk/internal/util/ArraysSupport -/
def k13 : Class := { plain "jdk/internal/util/ArraysSupport" (some 0) with
  accessFlags := 33
  interfaces := #[]
  cf := some (fileOf pool13 21 #[] #[{ accessFlags := 2, nameIndex := 9, descriptorIndex := 19, attributes := #[] }] 33 16 #[] #[{ accessFlags := 24, nameIndex := 28, descriptorIndex := 29, attributes := #[] }, { accessFlags := 26, nameIndex := 38, descriptorIndex := 39, attributes := #[] }, { accessFlags := 25, nameIndex := 121, descriptorIndex := 25, attributes := #[] }, { accessFlags := 25, nameIndex := 131, descriptorIndex := 25, attributes := #[] }, { accessFlags := 25, nameIndex := 137, descriptorIndex := 25, attributes := #[] }, { accessFlags := 25, nameIndex := 143, descriptorIndex := 25, attributes := #[] }, { accessFlags := 25, nameIndex := 53, descriptorIndex := 25, attributes := #[] }, { accessFlags := 25, nameIndex := 24, descriptorIndex := 25, attributes := #[] }, { accessFlags := 25, nameIndex := 162, descriptorIndex := 25, attributes := #[] }, { accessFlags := 25, nameIndex := 187, descriptorIndex := 25, attributes := #[] }, { accessFlags := 26, nameIndex := 48, descriptorIndex := 25, attributes := #[] }, { accessFlags := 25, nameIndex := 277, descriptorIndex := 25, attributes := #[] }, { accessFlags := 25, nameIndex := 280, descriptorIndex := 25, attributes := #[] }, { accessFlags := 25, nameIndex := 282, descriptorIndex := 25, attributes := #[] }, { accessFlags := 25, nameIndex := 284, descriptorIndex := 25, attributes := #[] }, { accessFlags := 25, nameIndex := 286, descriptorIndex := 25, attributes := #[] }, { accessFlags := 25, nameIndex := 288, descriptorIndex := 25, attributes := #[] }, { accessFlags := 25, nameIndex := 290, descriptorIndex := 25, attributes := #[] }, { accessFlags := 25, nameIndex := 292, descriptorIndex := 25, attributes := #[] }, { accessFlags := 26, nameIndex := 108, descriptorIndex := 109, attributes := #[] }, { accessFlags := 25, nameIndex := 294, descriptorIndex := 25, attributes := #[] }])
  fields := #[{ name := "U", type := (.object "jdk/internal/misc/Unsafe"), accessFlags := 24, slot := 0, constantValue := 0 }, { name := "BIG_ENDIAN", type := .boolean, accessFlags := 26, slot := 1, constantValue := 0 }, { name := "LOG2_ARRAY_BOOLEAN_INDEX_SCALE", type := .int, accessFlags := 25, slot := 2, constantValue := 0 }, { name := "LOG2_ARRAY_BYTE_INDEX_SCALE", type := .int, accessFlags := 25, slot := 3, constantValue := 0 }, { name := "LOG2_ARRAY_CHAR_INDEX_SCALE", type := .int, accessFlags := 25, slot := 4, constantValue := 0 }, { name := "LOG2_ARRAY_SHORT_INDEX_SCALE", type := .int, accessFlags := 25, slot := 5, constantValue := 0 }, { name := "LOG2_ARRAY_INT_INDEX_SCALE", type := .int, accessFlags := 25, slot := 6, constantValue := 0 }, { name := "LOG2_ARRAY_LONG_INDEX_SCALE", type := .int, accessFlags := 25, slot := 7, constantValue := 0 }, { name := "LOG2_ARRAY_FLOAT_INDEX_SCALE", type := .int, accessFlags := 25, slot := 8, constantValue := 0 }, { name := "LOG2_ARRAY_DOUBLE_INDEX_SCALE", type := .int, accessFlags := 25, slot := 9, constantValue := 0 }, { name := "LOG2_BYTE_BIT_SIZE", type := .int, accessFlags := 26, slot := 10, constantValue := 0 }, { name := "T_BOOLEAN", type := .int, accessFlags := 25, slot := 11, constantValue := 0 }, { name := "T_CHAR", type := .int, accessFlags := 25, slot := 12, constantValue := 0 }, { name := "T_FLOAT", type := .int, accessFlags := 25, slot := 13, constantValue := 0 }, { name := "T_DOUBLE", type := .int, accessFlags := 25, slot := 14, constantValue := 0 }, { name := "T_BYTE", type := .int, accessFlags := 25, slot := 15, constantValue := 0 }, { name := "T_SHORT", type := .int, accessFlags := 25, slot := 16, constantValue := 0 }, { name := "T_INT", type := .int, accessFlags := 25, slot := 17, constantValue := 0 }, { name := "T_LONG", type := .int, accessFlags := 25, slot := 18, constantValue := 0 }, { name := "JLA", type := (.object "jdk/internal/access/JavaLangAccess"), accessFlags := 26, slot := 19, constantValue := 0 }, { name := "SOFT_MAX_ARRAY_LENGTH", type := .int, accessFlags := 25, slot := 20, constantValue := 0 }]
  methods := #[k13m0]
  instanceTypes := #[]
  staticTypes := #[(.object "jdk/internal/misc/Unsafe"), .boolean, .int, .int, .int, .int, .int, .int, .int, .int, .int, .int, .int, .int, .int, .int, .int, .int, .int, (.object "jdk/internal/access/JavaLangAccess"), .int]
  resolved := Array.replicate 378 none
  statics := none }

def pool14 : Array CpInfo := pool [(1, u "java/lang/Cloneable"), (0, .class_ 1), (0, u "java/lang/Object"), (0, .class_ 3)] 3

/-- java/lang/Cloneable -/
def k14 : Class := { plain "java/lang/Cloneable" (some 0) with
  accessFlags := 1537
  interfaces := #[]
  cf := some (fileOf pool14 2 #[] #[] 1537 4 #[] #[])
  fields := #[]
  methods := #[]
  instanceTypes := #[]
  staticTypes := #[]
  resolved := Array.replicate 8 none
  statics := none }

/-- the primitive byte -/
def k15 : Class := { plain "byte" none with kind := .primitive 'B', accessFlags := 0x411 }
/-- [B -/
def k16 : Class := { plain "[B" (some 0) with kind := .array 15 .byte, interfaces := #[14, 2], accessFlags := 1041 }

/-- the primitive char -/
def k17 : Class := { plain "char" none with kind := .primitive 'C', accessFlags := 0x411 }
/-- [C -/
def k18 : Class := { plain "[C" (some 0) with kind := .array 17 .char, interfaces := #[14, 2], accessFlags := 1041 }

/-- the primitive int -/
def k19 : Class := { plain "int" none with kind := .primitive 'I', accessFlags := 0x411 }
/-- [I -/
def k20 : Class := { plain "[I" (some 0) with kind := .array 19 .int, interfaces := #[14, 2], accessFlags := 1041 }

def heap : Heap := #[{ cls := 7, slots := #[.long 0, .int 1, .null, .int 0, .null, .int 0, .int 0], vm := .statics 7 },
  { cls := 11, slots := #[.int 0, .int 8, .int 0, .int 1], vm := .statics 11 },
  { cls := 12, slots := #[.null, .null, .null], vm := .statics 12 }]
def classes : Array Class := #[k0, k1, k2, k3, k4, k5, k6, k7, k8, k9, k10, k11, k12, k13, k14, k15, k16, k17, k18, k19, k20]
def interned : List (Array UInt16 × Addr) := []
def slotsUsed : Nat := 14
def theMethod : MethodId := ⟨1, 2⟩
def args0 : Array Value := #[.int 5, .int 7, .int 0, .int 1, .int 2]
def aboutOver (below : List Frame) : State where
  vm := { classes := classes, interned := interned.toArray }
  heap := heap
  slotsUsed := slotsUsed
  threads := #[{ frames := .invoking theMethod args0 :: below }]
def below0 : List Frame := [.native { method := ⟨0, 0⟩, args := #[] }]
def about1 : State := aboutOver below0
def p0 : Program := .bare "" "" ""
def e0 : Env := launch0.env 0 0 0
theorem w_frames : about1.frames = Frame.invoking theMethod args0 :: below0 := rfl
set_option maxRecDepth 65536 in
theorem w_args : argsFit about1.vm theMethod args0 = true := by decide +kernel
set_option maxRecDepth 65536 in
theorem w_heap : heapFits about1 = true := by decide +kernel
set_option maxRecDepth 65536 in
theorem w_runnable : about1.curStatus? = some .runnable := by decide +kernel
set_option maxRecDepth 65536 in
theorem w_alone : about1.alone = true := by decide +kernel
set_option maxRecDepth 65536 in
theorem w_named : about1.methodNamed? x = some theMethod := by decide +kernel
set_option maxRecDepth 65536 in
theorem w_hears : about1.hears theMethod below0 = true := by decide +kernel
set_option maxRecDepth 65536 in
theorem w_ripe : about1.ripe theMethod args0 below0 = true := by decide +kernel
theorem w_running : about1.status = .running := rfl
set_option maxRecDepth 65536 in
theorem w_room : about1.hasRoom e0.platform room_1 = true :=
  launch0.hasRoom_least _ room_1 (by decide +kernel) (by decide +kernel) (by decide +kernel) (by decide +kernel) (by decide +kernel) (by decide +kernel)
theorem allAtoms_all (ts : List Jvm.Cond) (a : Array Jvm.Value) (st : Jvm.State) : (allAtoms ts).before a st = ts.all (fun c => c.before a st) := by
  induction ts with
  | nil => rfl
  | cons c t ih =>
    show (Jvm.Cond.and c (allAtoms t)).before a st = _
    rw [Jvm.Cond.before_and, ih, List.all_cons]
def words1 : List Jvm.Cond := Jvm.Cond.code x code maxLocals ret :: tables_1
/-- a 'code' word, met by the world's own term for the bytes: nothing is compared byte by byte -/
theorem code_word {y : MethodName} {bytes : ByteArray} {mx : Nat} {rt : Option FieldType} {a : Array Value} {s : State} {m : MethodId} {meth : Method} {c : Code} (h1 : s.methodNamed? y = some m) (h2 : s.vm.method? m = some meth) (h3 : meth.code = some c) (h4 : c.code = bytes)
    (h5 : (c.maxLocals == mx && c.exceptionTable.isEmpty && decide (c.maxStack ≤ mostOperands) && decide (meth.sig.returnType = rt) && !meth.locks && decide (parseMethodDescriptor y.desc = some meth.sig)) = true) : (Jvm.Cond.code y bytes mx rt).before a s = true := by
  simp only [Bool.and_eq_true, beq_iff_eq, Bool.not_eq_true', decide_eq_true_eq] at h5
  obtain ⟨⟨⟨⟨⟨g1, g2⟩, g3⟩, g4⟩, g5⟩, g6⟩ := h5
  simp [Cond.before, Cond.holds, Cond.value, h1, h2, h3, h4, g1, g2, g3, g4, g5, g6]
def isCode : Jvm.Cond → Bool
  | .code _ _ _ _ => true
  | _ => false
theorem all_split {L : List Jvm.Cond} {P : Jvm.Cond → Bool} (h1 : L.all (fun c => isCode c || P c) = true) (h2 : ∀ c ∈ L.filter isCode, P c = true) : L.all P = true := by
  refine List.all_eq_true.mpr fun c hc => ?_
  have h := List.all_eq_true.mp h1 c hc
  rcases Bool.eq_false_or_eq_true (isCode c) with hi | hi
  · exact h2 c (List.mem_filter.mpr ⟨hc, hi⟩)
  · simpa [hi] using h
set_option maxRecDepth 65536 in
theorem w_c0 : (Jvm.Cond.code x code maxLocals ret).before args0 about1 = true := code_word (m := ⟨1, 2⟩) (meth := k1m2) (c := k1c2) (by decide +kernel) rfl rfl rfl (by decide +kernel)
set_option maxRecDepth 65536 in
theorem w_c1 : (Jvm.Cond.code ({ cls := "com/example/role_chain_check/rolechaincheck/model/RoleNamedPinLaw", name := "draw", desc := "(IIIII)Ljava/lang/String;" } : Jvm.MethodName) method_2_code (5 : Nat) (Option.some (Jvm.ClassFile.FieldType.object "java/lang/String"))).before args0 about1 = true := code_word (m := ⟨1, 1⟩) (meth := k1m1) (c := k1c1) (by decide +kernel) rfl rfl rfl (by decide +kernel)
set_option maxRecDepth 65536 in
theorem w_c2 : (Jvm.Cond.code ({ cls := "java/lang/String", name := "valueOf", desc := "(C)Ljava/lang/String;" } : Jvm.MethodName) jdk_42_method_139_code (1 : Nat) (Option.some (Jvm.ClassFile.FieldType.object "java/lang/String"))).before args0 about1 = true := code_word (m := ⟨7, 4⟩) (meth := k7m4) (c := k7c4) (by decide +kernel) rfl rfl rfl (by decide +kernel)
set_option maxRecDepth 65536 in
theorem w_c3 : (Jvm.Cond.code ({ cls := "java/lang/StringLatin1", name := "canEncode", desc := "(C)Z" } : Jvm.MethodName) jdk_43_method_3_code (1 : Nat) (Option.some Jvm.ClassFile.FieldType.boolean)).before args0 about1 = true := code_word (m := ⟨8, 1⟩) (meth := k8m1) (c := k8c1) (by decide +kernel) rfl rfl rfl (by decide +kernel)
set_option maxRecDepth 65536 in
theorem w_c4 : (Jvm.Cond.code ({ cls := "java/lang/StringLatin1", name := "toBytes", desc := "(C)[B" } : Jvm.MethodName) jdk_43_method_46_code (1 : Nat) (Option.some (Jvm.ClassFile.FieldType.array Jvm.ClassFile.FieldType.byte))).before args0 about1 = true := code_word (m := ⟨8, 3⟩) (meth := k8m3) (c := k8c3) (by decide +kernel) rfl rfl rfl (by decide +kernel)
set_option maxRecDepth 65536 in
theorem w_c5 : (Jvm.Cond.code ({ cls := "java/lang/String", name := "<init>", desc := "([BB)V" } : Jvm.MethodName) jdk_42_method_151_code (3 : Nat) (Option.none : Option Jvm.ClassFile.FieldType)).before args0 about1 = true := code_word (m := ⟨7, 6⟩) (meth := k7m6) (c := k7c6) (by decide +kernel) rfl rfl rfl (by decide +kernel)
set_option maxRecDepth 65536 in
theorem w_c6 : (Jvm.Cond.code ({ cls := "java/lang/Object", name := "<init>", desc := "()V" } : Jvm.MethodName) object_method_1_code (1 : Nat) (Option.none : Option Jvm.ClassFile.FieldType)).before args0 about1 = true := code_word (m := ⟨0, 0⟩) (meth := k0m0) (c := k0c0) (by decide +kernel) rfl rfl rfl (by decide +kernel)
set_option maxRecDepth 65536 in
theorem w_c7 : (Jvm.Cond.code ({ cls := "com/example/role_chain_check/rolechaincheck/model/Role", name := "named", desc := "(Ljava/lang/String;)Lcom/example/role_chain_check/rolechaincheck/model/Role;" } : Jvm.MethodName) prog_8_method_1_code (1 : Nat) (Option.some (Jvm.ClassFile.FieldType.object "com/example/role_chain_check/rolechaincheck/model/Role"))).before args0 about1 = true := code_word (m := ⟨9, 0⟩) (meth := k9m0) (c := k9c0) (by decide +kernel) rfl rfl rfl (by decide +kernel)
set_option maxRecDepth 65536 in
theorem w_c8 : (Jvm.Cond.code ({ cls := "java/util/Objects", name := "requireNonNull", desc := "(Ljava/lang/Object;Ljava/lang/String;)Ljava/lang/Object;" } : Jvm.MethodName) jdk_31_method_11_code (2 : Nat) (Option.some (Jvm.ClassFile.FieldType.object "java/lang/Object"))).before args0 about1 = true := code_word (m := ⟨10, 1⟩) (meth := k10m1) (c := k10c1) (by decide +kernel) rfl rfl rfl (by decide +kernel)
set_option maxRecDepth 65536 in
theorem w_c9 : (Jvm.Cond.code ({ cls := "java/lang/String", name := "isEmpty", desc := "()Z" } : Jvm.MethodName) jdk_42_method_55_code (1 : Nat) (Option.some Jvm.ClassFile.FieldType.boolean)).before args0 about1 = true := code_word (m := ⟨7, 2⟩) (meth := k7m2) (c := k7c2) (by decide +kernel) rfl rfl rfl (by decide +kernel)
set_option maxRecDepth 65536 in
theorem w_c10 : (Jvm.Cond.code ({ cls := "com/example/role_chain_check/rolechaincheck/model/Role", name := "<init>", desc := "(Ljava/lang/String;Z)V" } : Jvm.MethodName) prog_8_method_2_code (3 : Nat) (Option.none : Option Jvm.ClassFile.FieldType)).before args0 about1 = true := code_word (m := ⟨9, 1⟩) (meth := k9m1) (c := k9c1) (by decide +kernel) rfl rfl rfl (by decide +kernel)
set_option maxRecDepth 65536 in
theorem w_c11 : (Jvm.Cond.code ({ cls := "com/example/role_chain_check/rolechaincheck/model/Role", name := "iri", desc := "()Ljava/lang/String;" } : Jvm.MethodName) prog_8_method_3_code (1 : Nat) (Option.some (Jvm.ClassFile.FieldType.object "java/lang/String"))).before args0 about1 = true := code_word (m := ⟨9, 2⟩) (meth := k9m2) (c := k9c2) (by decide +kernel) rfl rfl rfl (by decide +kernel)
set_option maxRecDepth 65536 in
theorem w_c12 : (Jvm.Cond.code ({ cls := "java/lang/String", name := "equals", desc := "(Ljava/lang/Object;)Z" } : Jvm.MethodName) jdk_42_method_66_code (3 : Nat) (Option.some Jvm.ClassFile.FieldType.boolean)).before args0 about1 = true := code_word (m := ⟨7, 3⟩) (meth := k7m3) (c := k7c3) (by decide +kernel) rfl rfl rfl (by decide +kernel)
set_option maxRecDepth 65536 in
theorem w_c13 : (Jvm.Cond.code ({ cls := "com/example/role_chain_check/rolechaincheck/model/Role", name := "isInverse", desc := "()Z" } : Jvm.MethodName) prog_8_method_4_code (1 : Nat) (Option.some Jvm.ClassFile.FieldType.boolean)).before args0 about1 = true := code_word (m := ⟨9, 3⟩) (meth := k9m3) (c := k9c3) (by decide +kernel) rfl rfl rfl (by decide +kernel)
set_option maxRecDepth 65536 in
theorem w_c14 : (Jvm.Cond.code ({ cls := "com/example/role_chain_check/rolechaincheck/model/Role", name := "equals", desc := "(Ljava/lang/Object;)Z" } : Jvm.MethodName) prog_8_method_8_code (4 : Nat) (Option.some Jvm.ClassFile.FieldType.boolean)).before args0 about1 = true := code_word (m := ⟨9, 4⟩) (meth := k9m4) (c := k9c4) (by decide +kernel) rfl rfl rfl (by decide +kernel)
set_option maxRecDepth 65536 in
theorem w_c15 : (Jvm.Cond.code ({ cls := "java/lang/StringLatin1", name := "equals", desc := "([B[B)Z" } : Jvm.MethodName) jdk_43_method_13_code (3 : Nat) (Option.some Jvm.ClassFile.FieldType.boolean)).before args0 about1 = true := code_word (m := ⟨8, 2⟩) (meth := k8m2) (c := k8c2) (by decide +kernel) rfl rfl rfl (by decide +kernel)
set_option maxRecDepth 65536 in
theorem w_c16 : (Jvm.Cond.code ({ cls := "java/lang/String", name := "<init>", desc := "([C)V" } : Jvm.MethodName) jdk_42_method_3_code (2 : Nat) (Option.none : Option Jvm.ClassFile.FieldType)).before args0 about1 = true := code_word (m := ⟨7, 1⟩) (meth := k7m1) (c := k7c1) (by decide +kernel) rfl rfl rfl (by decide +kernel)
set_option maxRecDepth 65536 in
theorem w_c17 : (Jvm.Cond.code ({ cls := "java/lang/String", name := "<init>", desc := "([CIILjava/lang/Void;)V" } : Jvm.MethodName) jdk_42_method_149_code (6 : Nat) (Option.none : Option Jvm.ClassFile.FieldType)).before args0 about1 = true := code_word (m := ⟨7, 5⟩) (meth := k7m5) (c := k7c5) (by decide +kernel) rfl rfl rfl (by decide +kernel)
set_option maxRecDepth 65536 in
theorem w_c18 : (Jvm.Cond.code ({ cls := "java/lang/StringUTF16", name := "compress", desc := "([CII)[B" } : Jvm.MethodName) jdk_52_method_16_code (6 : Nat) (Option.some (Jvm.ClassFile.FieldType.array Jvm.ClassFile.FieldType.byte))).before args0 about1 = true := code_word (m := ⟨11, 7⟩) (meth := k11m7) (c := k11c7) (by decide +kernel) rfl rfl rfl (by decide +kernel)
set_option maxRecDepth 65536 in
theorem w_c19 : (Jvm.Cond.code ({ cls := "java/lang/StringUTF16", name := "compress", desc := "([CI[BII)I" } : Jvm.MethodName) jdk_52_method_21_code (7 : Nat) (Option.some Jvm.ClassFile.FieldType.int)).before args0 about1 = true := code_word (m := ⟨11, 8⟩) (meth := k11m8) (c := k11c8) (by decide +kernel) rfl rfl rfl (by decide +kernel)
set_option maxRecDepth 65536 in
theorem w_c20 : (Jvm.Cond.code ({ cls := "java/lang/StringUTF16", name := "coderFromArrayLen", desc := "([BI)B" } : Jvm.MethodName) jdk_52_method_15_code (2 : Nat) (Option.some Jvm.ClassFile.FieldType.byte)).before args0 about1 = true := code_word (m := ⟨11, 6⟩) (meth := k11m6) (c := k11c6) (by decide +kernel) rfl rfl rfl (by decide +kernel)
set_option maxRecDepth 65536 in
theorem w_c21 : (Jvm.Cond.code ({ cls := "java/lang/StringUTF16", name := "toBytes", desc := "([CII)[B" } : Jvm.MethodName) jdk_52_method_14_code (5 : Nat) (Option.some (Jvm.ClassFile.FieldType.array Jvm.ClassFile.FieldType.byte))).before args0 about1 = true := code_word (m := ⟨11, 5⟩) (meth := k11m5) (c := k11c5) (by decide +kernel) rfl rfl rfl (by decide +kernel)
set_option maxRecDepth 65536 in
theorem w_c22 : (Jvm.Cond.code ({ cls := "java/lang/StringUTF16", name := "newBytesFor", desc := "(I)[B" } : Jvm.MethodName) jdk_52_method_2_code (1 : Nat) (Option.some (Jvm.ClassFile.FieldType.array Jvm.ClassFile.FieldType.byte))).before args0 about1 = true := code_word (m := ⟨11, 1⟩) (meth := k11m1) (c := k11c1) (by decide +kernel) rfl rfl rfl (by decide +kernel)
set_option maxRecDepth 65536 in
theorem w_c23 : (Jvm.Cond.code ({ cls := "java/lang/StringUTF16", name := "newBytesLength", desc := "(I)I" } : Jvm.MethodName) jdk_52_method_3_code (1 : Nat) (Option.some Jvm.ClassFile.FieldType.int)).before args0 about1 = true := code_word (m := ⟨11, 2⟩) (meth := k11m2) (c := k11c2) (by decide +kernel) rfl rfl rfl (by decide +kernel)
set_option maxRecDepth 65536 in
theorem w_c24 : (Jvm.Cond.code ({ cls := "java/lang/StringUTF16", name := "putChar", desc := "([BII)V" } : Jvm.MethodName) jdk_52_method_4_code (3 : Nat) (Option.none : Option Jvm.ClassFile.FieldType)).before args0 about1 = true := code_word (m := ⟨11, 3⟩) (meth := k11m3) (c := k11c3) (by decide +kernel) rfl rfl rfl (by decide +kernel)
set_option maxRecDepth 65536 in
theorem w_c25 : (Jvm.Cond.code ({ cls := "java/lang/StringUTF16", name := "getChar", desc := "([BI)C" } : Jvm.MethodName) jdk_52_method_5_code (2 : Nat) (Option.some Jvm.ClassFile.FieldType.char)).before args0 about1 = true := code_word (m := ⟨11, 4⟩) (meth := k11m4) (c := k11c4) (by decide +kernel) rfl rfl rfl (by decide +kernel)
set_option maxRecDepth 65536 in
theorem w_c26 : (Jvm.Cond.code ({ cls := "java/lang/StringUTF16", name := "toBytes", desc := "(C)[B" } : Jvm.MethodName) jdk_52_method_24_code (2 : Nat) (Option.some (Jvm.ClassFile.FieldType.array Jvm.ClassFile.FieldType.byte))).before args0 about1 = true := code_word (m := ⟨11, 9⟩) (meth := k11m9) (c := k11c9) (by decide +kernel) rfl rfl rfl (by decide +kernel)
def codes1 : List Jvm.Cond := [Jvm.Cond.code x code maxLocals ret, Jvm.Cond.code ({ cls := "com/example/role_chain_check/rolechaincheck/model/RoleNamedPinLaw", name := "draw", desc := "(IIIII)Ljava/lang/String;" } : Jvm.MethodName) method_2_code (5 : Nat) (Option.some (Jvm.ClassFile.FieldType.object "java/lang/String")), Jvm.Cond.code ({ cls := "java/lang/String", name := "valueOf", desc := "(C)Ljava/lang/String;" } : Jvm.MethodName) jdk_42_method_139_code (1 : Nat) (Option.some (Jvm.ClassFile.FieldType.object "java/lang/String")), Jvm.Cond.code ({ cls := "java/lang/StringLatin1", name := "canEncode", desc := "(C)Z" } : Jvm.MethodName) jdk_43_method_3_code (1 : Nat) (Option.some Jvm.ClassFile.FieldType.boolean), Jvm.Cond.code ({ cls := "java/lang/StringLatin1", name := "toBytes", desc := "(C)[B" } : Jvm.MethodName) jdk_43_method_46_code (1 : Nat) (Option.some (Jvm.ClassFile.FieldType.array Jvm.ClassFile.FieldType.byte)), Jvm.Cond.code ({ cls := "java/lang/String", name := "<init>", desc := "([BB)V" } : Jvm.MethodName) jdk_42_method_151_code (3 : Nat) (Option.none : Option Jvm.ClassFile.FieldType), Jvm.Cond.code ({ cls := "java/lang/Object", name := "<init>", desc := "()V" } : Jvm.MethodName) object_method_1_code (1 : Nat) (Option.none : Option Jvm.ClassFile.FieldType), Jvm.Cond.code ({ cls := "com/example/role_chain_check/rolechaincheck/model/Role", name := "named", desc := "(Ljava/lang/String;)Lcom/example/role_chain_check/rolechaincheck/model/Role;" } : Jvm.MethodName) prog_8_method_1_code (1 : Nat) (Option.some (Jvm.ClassFile.FieldType.object "com/example/role_chain_check/rolechaincheck/model/Role")), Jvm.Cond.code ({ cls := "java/util/Objects", name := "requireNonNull", desc := "(Ljava/lang/Object;Ljava/lang/String;)Ljava/lang/Object;" } : Jvm.MethodName) jdk_31_method_11_code (2 : Nat) (Option.some (Jvm.ClassFile.FieldType.object "java/lang/Object")), Jvm.Cond.code ({ cls := "java/lang/String", name := "isEmpty", desc := "()Z" } : Jvm.MethodName) jdk_42_method_55_code (1 : Nat) (Option.some Jvm.ClassFile.FieldType.boolean), Jvm.Cond.code ({ cls := "com/example/role_chain_check/rolechaincheck/model/Role", name := "<init>", desc := "(Ljava/lang/String;Z)V" } : Jvm.MethodName) prog_8_method_2_code (3 : Nat) (Option.none : Option Jvm.ClassFile.FieldType), Jvm.Cond.code ({ cls := "com/example/role_chain_check/rolechaincheck/model/Role", name := "iri", desc := "()Ljava/lang/String;" } : Jvm.MethodName) prog_8_method_3_code (1 : Nat) (Option.some (Jvm.ClassFile.FieldType.object "java/lang/String")), Jvm.Cond.code ({ cls := "java/lang/String", name := "equals", desc := "(Ljava/lang/Object;)Z" } : Jvm.MethodName) jdk_42_method_66_code (3 : Nat) (Option.some Jvm.ClassFile.FieldType.boolean), Jvm.Cond.code ({ cls := "com/example/role_chain_check/rolechaincheck/model/Role", name := "isInverse", desc := "()Z" } : Jvm.MethodName) prog_8_method_4_code (1 : Nat) (Option.some Jvm.ClassFile.FieldType.boolean), Jvm.Cond.code ({ cls := "com/example/role_chain_check/rolechaincheck/model/Role", name := "equals", desc := "(Ljava/lang/Object;)Z" } : Jvm.MethodName) prog_8_method_8_code (4 : Nat) (Option.some Jvm.ClassFile.FieldType.boolean), Jvm.Cond.code ({ cls := "java/lang/StringLatin1", name := "equals", desc := "([B[B)Z" } : Jvm.MethodName) jdk_43_method_13_code (3 : Nat) (Option.some Jvm.ClassFile.FieldType.boolean), Jvm.Cond.code ({ cls := "java/lang/String", name := "<init>", desc := "([C)V" } : Jvm.MethodName) jdk_42_method_3_code (2 : Nat) (Option.none : Option Jvm.ClassFile.FieldType), Jvm.Cond.code ({ cls := "java/lang/String", name := "<init>", desc := "([CIILjava/lang/Void;)V" } : Jvm.MethodName) jdk_42_method_149_code (6 : Nat) (Option.none : Option Jvm.ClassFile.FieldType), Jvm.Cond.code ({ cls := "java/lang/StringUTF16", name := "compress", desc := "([CII)[B" } : Jvm.MethodName) jdk_52_method_16_code (6 : Nat) (Option.some (Jvm.ClassFile.FieldType.array Jvm.ClassFile.FieldType.byte)), Jvm.Cond.code ({ cls := "java/lang/StringUTF16", name := "compress", desc := "([CI[BII)I" } : Jvm.MethodName) jdk_52_method_21_code (7 : Nat) (Option.some Jvm.ClassFile.FieldType.int), Jvm.Cond.code ({ cls := "java/lang/StringUTF16", name := "coderFromArrayLen", desc := "([BI)B" } : Jvm.MethodName) jdk_52_method_15_code (2 : Nat) (Option.some Jvm.ClassFile.FieldType.byte), Jvm.Cond.code ({ cls := "java/lang/StringUTF16", name := "toBytes", desc := "([CII)[B" } : Jvm.MethodName) jdk_52_method_14_code (5 : Nat) (Option.some (Jvm.ClassFile.FieldType.array Jvm.ClassFile.FieldType.byte)), Jvm.Cond.code ({ cls := "java/lang/StringUTF16", name := "newBytesFor", desc := "(I)[B" } : Jvm.MethodName) jdk_52_method_2_code (1 : Nat) (Option.some (Jvm.ClassFile.FieldType.array Jvm.ClassFile.FieldType.byte)), Jvm.Cond.code ({ cls := "java/lang/StringUTF16", name := "newBytesLength", desc := "(I)I" } : Jvm.MethodName) jdk_52_method_3_code (1 : Nat) (Option.some Jvm.ClassFile.FieldType.int), Jvm.Cond.code ({ cls := "java/lang/StringUTF16", name := "putChar", desc := "([BII)V" } : Jvm.MethodName) jdk_52_method_4_code (3 : Nat) (Option.none : Option Jvm.ClassFile.FieldType), Jvm.Cond.code ({ cls := "java/lang/StringUTF16", name := "getChar", desc := "([BI)C" } : Jvm.MethodName) jdk_52_method_5_code (2 : Nat) (Option.some Jvm.ClassFile.FieldType.char), Jvm.Cond.code ({ cls := "java/lang/StringUTF16", name := "toBytes", desc := "(C)[B" } : Jvm.MethodName) jdk_52_method_24_code (2 : Nat) (Option.some (Jvm.ClassFile.FieldType.array Jvm.ClassFile.FieldType.byte))]
set_option maxRecDepth 65536 in
theorem codes_eq : words1.filter isCode = codes1 := rfl
theorem w_codes : ∀ c ∈ words1.filter isCode, c.before args0 about1 = true := by
  rw [codes_eq]
  intro c hc
  simp only [codes1, List.mem_cons, List.not_mem_nil, or_false] at hc
  rcases hc with rfl | rfl | rfl | rfl | rfl | rfl | rfl | rfl | rfl | rfl | rfl | rfl | rfl | rfl | rfl | rfl | rfl | rfl | rfl | rfl | rfl | rfl | rfl | rfl | rfl | rfl | rfl
  · exact w_c0
  · exact w_c1
  · exact w_c2
  · exact w_c3
  · exact w_c4
  · exact w_c5
  · exact w_c6
  · exact w_c7
  · exact w_c8
  · exact w_c9
  · exact w_c10
  · exact w_c11
  · exact w_c12
  · exact w_c13
  · exact w_c14
  · exact w_c15
  · exact w_c16
  · exact w_c17
  · exact w_c18
  · exact w_c19
  · exact w_c20
  · exact w_c21
  · exact w_c22
  · exact w_c23
  · exact w_c24
  · exact w_c25
  · exact w_c26
set_option maxRecDepth 65536 in
theorem w_t1 : (words1.take 24).all (fun c => isCode c || c.before args0 about1) = true := by decide +kernel
set_option maxRecDepth 65536 in
theorem w_t2 : ((words1.drop 24).take 24).all (fun c => isCode c || c.before args0 about1) = true := by decide +kernel
set_option maxRecDepth 65536 in
theorem w_t3 : (((words1.drop 24).drop 24).take 24).all (fun c => isCode c || c.before args0 about1) = true := by decide +kernel
set_option maxRecDepth 65536 in
theorem w_t4 : ((((words1.drop 24).drop 24).drop 24).take 24).all (fun c => isCode c || c.before args0 about1) = true := by decide +kernel
set_option maxRecDepth 65536 in
theorem w_t5 : (((((words1.drop 24).drop 24).drop 24).drop 24).take 24).all (fun c => isCode c || c.before args0 about1) = true := by decide +kernel
set_option maxRecDepth 65536 in
theorem w_t6 : (((((words1.drop 24).drop 24).drop 24).drop 24).drop 24).all (fun c => isCode c || c.before args0 about1) = true := by decide +kernel
theorem w_tables : (allAtoms (Jvm.Cond.code x code maxLocals ret :: tables_1)).before args0 about1 = true := by
  rw [allAtoms_all]
  show words1.all (fun c => c.before args0 about1) = true
  refine all_split ?_ w_codes
  rw [← List.take_append_drop 24 words1, List.all_append, w_t1, ← List.take_append_drop 24 (words1.drop 24), List.all_append, w_t2, ← List.take_append_drop 24 ((words1.drop 24).drop 24), List.all_append, w_t3, ← List.take_append_drop 24 (((words1.drop 24).drop 24).drop 24), List.all_append, w_t4, ← List.take_append_drop 24 ((((words1.drop 24).drop 24).drop 24).drop 24), List.all_append, w_t5, w_t6]
  rfl
set_option maxRecDepth 65536 in
theorem w_rest : rest_1_c.before args0 about1 = true := by decide +kernel
set_option maxRecDepth 65536 in
theorem w_case : (Jvm.Cond.and given_1 narrow_1).before args0 about1 = true := by decide +kernel
theorem w_applies : (headSpec (Jvm.Cond.code x code maxLocals ret :: tables_1) room_1).applies x e0.platform about1 = true :=
  (Spec.applies_iff w_frames).mpr ⟨w_running, w_runnable, w_alone, w_named, w_hears, w_ripe, w_room, w_tables⟩
theorem atStart : AtStart classFile x code maxLocals ret World_1 tables_1 room_1 Calls_1 rest_1 Pre_1 launch0 p0 e0 about1 theMethod args0 below0 :=
  ⟨lists_1, trivial, launch0.admits_env _ _ _, launch0.least_env, fairChoices_fair.cas, fairChoices_fair.clock, w_frames, w_args, w_heap, w_applies, trivial, w_rest, w_case⟩
end start1
theorem witness_1 : WitnessClaimed_1 := ⟨start1.p0, start1.e0, start1.about1, start1.theMethod, start1.args0, start1.below0, start1.atStart⟩
end Jvm.Pilot.@@N@@
