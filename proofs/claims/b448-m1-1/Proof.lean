import JvmDerived
import JvmDerived.Pilot.@@N@@Statement
import JvmDerived.Pilot.@@N@@Code
set_option linter.unusedVariables false
set_option linter.unusedSimpArgs false
namespace Jvm.Pilot.@@N@@
open Jvm Jvm.ClassFile Sem Op Lib Jvm.Free Jvm.Stand Jvm.LawKit Jvm.RoadKit Bundle Jvm.Pilot.@@N@@.Jvm.D
section OwnKit
variable {p : Program} {l : Launch} {e : Env} {R : Room} {s : State} {m : MethodId} {args : Array Value} {below : List Frame} {meth : Method} {c : Code} {T : State} {locs : List Loc} {cells slots : Nat} {P : State → Outcome → Prop} {pc : Nat} {Ls : Array Slot} {st : List Value} {Z : State} {a0 : Array Value} {h : Heap} {own : String} {index : Nat}
/-- what is still owed from a state on -/
def Go (p : Program) (e : Env) (below : List Frame) (P : State → Outcome → Prop) (S : State) : Prop := ∃ s₂ o, Steps p.tables e below S s₂ ∧ s₂.status = .running ∧ Ended s₂ below o ∧ P s₂ o
theorem Go.by {S S' : State} (st : ∀ t, Steps p.tables e below S' t → Steps p.tables e below S t) (k : Go p e below P S') : Go p e below P S := by
  obtain ⟨a, b, h1, h2⟩ := k
  exact ⟨a, b, st _ h1, h2⟩
def Ret (s : State) (Q : Option Value → Heap → List Loc → Prop) (C N : Nat) (s₂ : State) (o : Outcome) : Prop := ∃ v L, o = .returned v ∧ Q v s₂.heap L ∧ FrameEnd s o s₂ L C N

theorem g_iloadN (X : Stand p l e R s m args below meth c T locs cells slots) (hx : p.tables.exec = Jvm.exec) {k : Fin 4} {v : Int32} (hd : decode c.code pc = .ok (.iload_n k, 1)) (hl : Ls[k.val]? = some (.val (.int v))) (q : Go p e below P (T.setTop (mkF m (pc + 1) Ls (.int v :: st)))) : Go p e below P (T.setTop (mkF m pc Ls st)) := q.by fun t r => XS.iloadN X.here hx rfl hd hl r
theorem g_iload (X : Stand p l e R s m args below meth c T locs cells slots) (hx : p.tables.exec = Jvm.exec) {k : Nat} {v : Int32} (hd : decode c.code pc = .ok (.iload k, 2)) (hl : Ls[k]? = some (.val (.int v))) (q : Go p e below P (T.setTop (mkF m (pc + 2) Ls (.int v :: st)))) : Go p e below P (T.setTop (mkF m pc Ls st)) := q.by fun t r => XS.iload X.here hx rfl hd hl r
theorem g_lloadN (X : Stand p l e R s m args below meth c T locs cells slots) (hx : p.tables.exec = Jvm.exec) {k : Fin 4} {v : Int64} (hd : decode c.code pc = .ok (.lload_n k, 1)) (hl : Ls[k.val]? = some (.val (.long v))) (q : Go p e below P (T.setTop (mkF m (pc + 1) Ls (.long v :: st)))) : Go p e below P (T.setTop (mkF m pc Ls st)) := q.by fun t r => XS.lloadN X.here hx rfl hd hl r
theorem g_lload (X : Stand p l e R s m args below meth c T locs cells slots) (hx : p.tables.exec = Jvm.exec) {k : Nat} {v : Int64} (hd : decode c.code pc = .ok (.lload k, 2)) (hl : Ls[k]? = some (.val (.long v))) (q : Go p e below P (T.setTop (mkF m (pc + 2) Ls (.long v :: st)))) : Go p e below P (T.setTop (mkF m pc Ls st)) := q.by fun t r => XS.lload X.here hx rfl hd hl r
theorem g_dloadN (X : Stand p l e R s m args below meth c T locs cells slots) (hx : p.tables.exec = Jvm.exec) {k : Fin 4} {v : UInt64} (hd : decode c.code pc = .ok (.dload_n k, 1)) (hl : Ls[k.val]? = some (.val (.double v))) (q : Go p e below P (T.setTop (mkF m (pc + 1) Ls (.double v :: st)))) : Go p e below P (T.setTop (mkF m pc Ls st)) := q.by fun t r => XS.dloadN X.here hx rfl hd hl r
theorem g_dload (X : Stand p l e R s m args below meth c T locs cells slots) (hx : p.tables.exec = Jvm.exec) {k : Nat} {v : UInt64} (hd : decode c.code pc = .ok (.dload k, 2)) (hl : Ls[k]? = some (.val (.double v))) (q : Go p e below P (T.setTop (mkF m (pc + 2) Ls (.double v :: st)))) : Go p e below P (T.setTop (mkF m pc Ls st)) := q.by fun t r => XS.dload X.here hx rfl hd hl r
theorem g_floadN (X : Stand p l e R s m args below meth c T locs cells slots) (hx : p.tables.exec = Jvm.exec) {k : Fin 4} {v : UInt32} (hd : decode c.code pc = .ok (.fload_n k, 1)) (hl : Ls[k.val]? = some (.val (.float v))) (q : Go p e below P (T.setTop (mkF m (pc + 1) Ls (.float v :: st)))) : Go p e below P (T.setTop (mkF m pc Ls st)) := q.by fun t r => XS.floadN X.here hx rfl hd hl r
theorem g_fload (X : Stand p l e R s m args below meth c T locs cells slots) (hx : p.tables.exec = Jvm.exec) {k : Nat} {v : UInt32} (hd : decode c.code pc = .ok (.fload k, 2)) (hl : Ls[k]? = some (.val (.float v))) (q : Go p e below P (T.setTop (mkF m (pc + 2) Ls (.float v :: st)))) : Go p e below P (T.setTop (mkF m pc Ls st)) := q.by fun t r => XS.fload X.here hx rfl hd hl r
theorem g_aloadN (X : Stand p l e R s m args below meth c T locs cells slots) (hx : p.tables.exec = Jvm.exec) {k : Fin 4} {v : Value} (hd : decode c.code pc = .ok (.aload_n k, 1)) (hl : Ls[k.val]? = some (.val v)) (hv : v.isRef = true) (q : Go p e below P (T.setTop (mkF m (pc + 1) Ls (v :: st)))) : Go p e below P (T.setTop (mkF m pc Ls st)) := q.by fun t r => XS.aloadN X.here hx rfl hd hl hv r
theorem g_aload (X : Stand p l e R s m args below meth c T locs cells slots) (hx : p.tables.exec = Jvm.exec) {k : Nat} {v : Value} (hd : decode c.code pc = .ok (.aload k, 2)) (hl : Ls[k]? = some (.val v)) (hv : v.isRef = true) (q : Go p e below P (T.setTop (mkF m (pc + 2) Ls (v :: st)))) : Go p e below P (T.setTop (mkF m pc Ls st)) := q.by fun t r => XS.aload X.here hx rfl hd hl hv r
theorem g_istoreN (X : Stand p l e R s m args below meth c T locs cells slots) (hx : p.tables.exec = Jvm.exec) {k : Fin 4} {v : Int32} {L' : Array Slot} (hd : decode c.code pc = .ok (.istore_n k, 1)) (hl : storeLocals Ls k.val (.int v) = some L') (q : Go p e below P (T.setTop (mkF m (pc + 1) L' st))) : Go p e below P (T.setTop (mkF m pc Ls (.int v :: st))) := q.by fun t r => XS.istoreN X.here hx rfl hd rfl hl r
theorem g_istore (X : Stand p l e R s m args below meth c T locs cells slots) (hx : p.tables.exec = Jvm.exec) {k : Nat} {v : Int32} {L' : Array Slot} (hd : decode c.code pc = .ok (.istore k, 2)) (hl : storeLocals Ls k (.int v) = some L') (q : Go p e below P (T.setTop (mkF m (pc + 2) L' st))) : Go p e below P (T.setTop (mkF m pc Ls (.int v :: st))) := q.by fun t r => XS.istore X.here hx rfl hd rfl hl r
theorem g_lstoreN (X : Stand p l e R s m args below meth c T locs cells slots) (hx : p.tables.exec = Jvm.exec) {k : Fin 4} {v : Int64} {L' : Array Slot} (hd : decode c.code pc = .ok (.lstore_n k, 1)) (hl : storeLocals Ls k.val (.long v) = some L') (q : Go p e below P (T.setTop (mkF m (pc + 1) L' st))) : Go p e below P (T.setTop (mkF m pc Ls (.long v :: st))) := q.by fun t r => XS.lstoreN X.here hx rfl hd rfl hl r
theorem g_lstore (X : Stand p l e R s m args below meth c T locs cells slots) (hx : p.tables.exec = Jvm.exec) {k : Nat} {v : Int64} {L' : Array Slot} (hd : decode c.code pc = .ok (.lstore k, 2)) (hl : storeLocals Ls k (.long v) = some L') (q : Go p e below P (T.setTop (mkF m (pc + 2) L' st))) : Go p e below P (T.setTop (mkF m pc Ls (.long v :: st))) := q.by fun t r => XS.lstore X.here hx rfl hd rfl hl r
theorem g_dstoreN (X : Stand p l e R s m args below meth c T locs cells slots) (hx : p.tables.exec = Jvm.exec) {k : Fin 4} {v : UInt64} {L' : Array Slot} (hd : decode c.code pc = .ok (.dstore_n k, 1)) (hl : storeLocals Ls k.val (.double v) = some L') (q : Go p e below P (T.setTop (mkF m (pc + 1) L' st))) : Go p e below P (T.setTop (mkF m pc Ls (.double v :: st))) := q.by fun t r => XS.dstoreN X.here hx rfl hd rfl hl r
theorem g_dstore (X : Stand p l e R s m args below meth c T locs cells slots) (hx : p.tables.exec = Jvm.exec) {k : Nat} {v : UInt64} {L' : Array Slot} (hd : decode c.code pc = .ok (.dstore k, 2)) (hl : storeLocals Ls k (.double v) = some L') (q : Go p e below P (T.setTop (mkF m (pc + 2) L' st))) : Go p e below P (T.setTop (mkF m pc Ls (.double v :: st))) := q.by fun t r => XS.dstore X.here hx rfl hd rfl hl r
theorem g_fstoreN (X : Stand p l e R s m args below meth c T locs cells slots) (hx : p.tables.exec = Jvm.exec) {k : Fin 4} {v : UInt32} {L' : Array Slot} (hd : decode c.code pc = .ok (.fstore_n k, 1)) (hl : storeLocals Ls k.val (.float v) = some L') (q : Go p e below P (T.setTop (mkF m (pc + 1) L' st))) : Go p e below P (T.setTop (mkF m pc Ls (.float v :: st))) := q.by fun t r => XS.fstoreN X.here hx rfl hd rfl hl r
theorem g_fstore (X : Stand p l e R s m args below meth c T locs cells slots) (hx : p.tables.exec = Jvm.exec) {k : Nat} {v : UInt32} {L' : Array Slot} (hd : decode c.code pc = .ok (.fstore k, 2)) (hl : storeLocals Ls k (.float v) = some L') (q : Go p e below P (T.setTop (mkF m (pc + 2) L' st))) : Go p e below P (T.setTop (mkF m pc Ls (.float v :: st))) := q.by fun t r => XS.fstore X.here hx rfl hd rfl hl r
theorem g_astoreN (X : Stand p l e R s m args below meth c T locs cells slots) (hx : p.tables.exec = Jvm.exec) {k : Fin 4} {v : Value} {L' : Array Slot} (hd : decode c.code pc = .ok (.astore_n k, 1)) (hv : v.isRef = true) (hl : storeLocals Ls k.val v = some L') (q : Go p e below P (T.setTop (mkF m (pc + 1) L' st))) : Go p e below P (T.setTop (mkF m pc Ls (v :: st))) := q.by fun t r => XS.astoreN X.here hx rfl hd rfl hv hl r
theorem g_astore (X : Stand p l e R s m args below meth c T locs cells slots) (hx : p.tables.exec = Jvm.exec) {k : Nat} {v : Value} {L' : Array Slot} (hd : decode c.code pc = .ok (.astore k, 2)) (hv : v.isRef = true) (hl : storeLocals Ls k v = some L') (q : Go p e below P (T.setTop (mkF m (pc + 2) L' st))) : Go p e below P (T.setTop (mkF m pc Ls (v :: st))) := q.by fun t r => XS.astore X.here hx rfl hd rfl hv hl r
theorem g_iconst (X : Stand p l e R s m args below meth c T locs cells slots) (hx : p.tables.exec = Jvm.exec) {i : Int} {v : Int32} (hd : decode c.code pc = .ok (.iconst i, 1)) (hv : Int32.ofInt i = v) (q : Go p e below P (T.setTop (mkF m (pc + 1) Ls (.int v :: st)))) : Go p e below P (T.setTop (mkF m pc Ls st)) := q.by fun t r => XS.iconst X.here hx rfl hd (hv ▸ r)
theorem g_bipush (X : Stand p l e R s m args below meth c T locs cells slots) (hx : p.tables.exec = Jvm.exec) {i : Int} {v : Int32} (hd : decode c.code pc = .ok (.bipush i, 2)) (hv : (Int8.ofInt i).toInt32 = v) (q : Go p e below P (T.setTop (mkF m (pc + 2) Ls (.int v :: st)))) : Go p e below P (T.setTop (mkF m pc Ls st)) := q.by fun t r => XS.bipush X.here hx rfl hd (hv ▸ r)
theorem g_sipush (X : Stand p l e R s m args below meth c T locs cells slots) (hx : p.tables.exec = Jvm.exec) {i : Int} {v : Int32} (hd : decode c.code pc = .ok (.sipush i, 3)) (hv : (Int16.ofInt i).toInt32 = v) (q : Go p e below P (T.setTop (mkF m (pc + 3) Ls (.int v :: st)))) : Go p e below P (T.setTop (mkF m pc Ls st)) := q.by fun t r => XS.sipush X.here hx rfl hd (hv ▸ r)
theorem g_lconst0 (X : Stand p l e R s m args below meth c T locs cells slots) (hx : p.tables.exec = Jvm.exec)  (hd : decode c.code pc = .ok (.lconst 0, 1))  (q : Go p e below P (T.setTop (mkF m (pc + 1) Ls (.long 0 :: st)))) : Go p e below P (T.setTop (mkF m pc Ls st)) := q.by fun t r => XS.lconst X.here hx rfl hd r
theorem g_lconst1 (X : Stand p l e R s m args below meth c T locs cells slots) (hx : p.tables.exec = Jvm.exec)  (hd : decode c.code pc = .ok (.lconst 1, 1))  (q : Go p e below P (T.setTop (mkF m (pc + 1) Ls (.long 1 :: st)))) : Go p e below P (T.setTop (mkF m pc Ls st)) := q.by fun t r => XS.lconst X.here hx rfl hd r
theorem g_aconst_null (X : Stand p l e R s m args below meth c T locs cells slots) (hx : p.tables.exec = Jvm.exec)  (hd : decode c.code pc = .ok (.aconst_null, 1))  (q : Go p e below P (T.setTop (mkF m (pc + 1) Ls (.null :: st)))) : Go p e below P (T.setTop (mkF m pc Ls st)) := q.by fun t r => XS.aconstNull X.here hx rfl hd r
theorem g_dconst0 (X : Stand p l e R s m args below meth c T locs cells slots) (hx : p.tables.exec = Jvm.exec)  (hd : decode c.code pc = .ok (.dconst 0, 1))  (q : Go p e below P (T.setTop (mkF m (pc + 1) Ls (.double 0 :: st)))) : Go p e below P (T.setTop (mkF m pc Ls st)) := q.by fun t r => XS.dconst0 X.here hx rfl hd rfl r
theorem g_dconst1 (X : Stand p l e R s m args below meth c T locs cells slots) (hx : p.tables.exec = Jvm.exec)  (hd : decode c.code pc = .ok (.dconst 1, 1))  (q : Go p e below P (T.setTop (mkF m (pc + 1) Ls (.double 4607182418800017408 :: st)))) : Go p e below P (T.setTop (mkF m pc Ls st)) := q.by fun t r => XS.dconst1 X.here hx rfl hd rfl r
theorem g_iadd (X : Stand p l e R s m args below meth c T locs cells slots) (hx : p.tables.exec = Jvm.exec) {x y v : Int32} (hd : decode c.code pc = .ok (.iadd, 1)) (hv : x + y = v) (q : Go p e below P (T.setTop (mkF m (pc + 1) Ls (.int v :: st)))) : Go p e below P (T.setTop (mkF m pc Ls (.int y :: .int x :: st))) := q.by fun t r => XS.iadd X.here hx rfl hd rfl (hv ▸ r)
theorem g_isub (X : Stand p l e R s m args below meth c T locs cells slots) (hx : p.tables.exec = Jvm.exec) {x y v : Int32} (hd : decode c.code pc = .ok (.isub, 1)) (hv : x - y = v) (q : Go p e below P (T.setTop (mkF m (pc + 1) Ls (.int v :: st)))) : Go p e below P (T.setTop (mkF m pc Ls (.int y :: .int x :: st))) := q.by fun t r => XS.isub X.here hx rfl hd rfl (hv ▸ r)
theorem g_imul (X : Stand p l e R s m args below meth c T locs cells slots) (hx : p.tables.exec = Jvm.exec) {x y v : Int32} (hd : decode c.code pc = .ok (.imul, 1)) (hv : x * y = v) (q : Go p e below P (T.setTop (mkF m (pc + 1) Ls (.int v :: st)))) : Go p e below P (T.setTop (mkF m pc Ls (.int y :: .int x :: st))) := q.by fun t r => XS.imul X.here hx rfl hd rfl (hv ▸ r)
theorem g_iand (X : Stand p l e R s m args below meth c T locs cells slots) (hx : p.tables.exec = Jvm.exec) {x y v : Int32} (hd : decode c.code pc = .ok (.iand, 1)) (hv : x &&& y = v) (q : Go p e below P (T.setTop (mkF m (pc + 1) Ls (.int v :: st)))) : Go p e below P (T.setTop (mkF m pc Ls (.int y :: .int x :: st))) := q.by fun t r => XS.iand X.here hx rfl hd rfl (hv ▸ r)
theorem g_ior (X : Stand p l e R s m args below meth c T locs cells slots) (hx : p.tables.exec = Jvm.exec) {x y v : Int32} (hd : decode c.code pc = .ok (.ior, 1)) (hv : x ||| y = v) (q : Go p e below P (T.setTop (mkF m (pc + 1) Ls (.int v :: st)))) : Go p e below P (T.setTop (mkF m pc Ls (.int y :: .int x :: st))) := q.by fun t r => XS.ior X.here hx rfl hd rfl (hv ▸ r)
theorem g_ixor (X : Stand p l e R s m args below meth c T locs cells slots) (hx : p.tables.exec = Jvm.exec) {x y v : Int32} (hd : decode c.code pc = .ok (.ixor, 1)) (hv : x ^^^ y = v) (q : Go p e below P (T.setTop (mkF m (pc + 1) Ls (.int v :: st)))) : Go p e below P (T.setTop (mkF m pc Ls (.int y :: .int x :: st))) := q.by fun t r => XS.ixor X.here hx rfl hd rfl (hv ▸ r)
theorem g_ladd (X : Stand p l e R s m args below meth c T locs cells slots) (hx : p.tables.exec = Jvm.exec) {x y v : Int64} (hd : decode c.code pc = .ok (.ladd, 1)) (hv : x + y = v) (q : Go p e below P (T.setTop (mkF m (pc + 1) Ls (.long v :: st)))) : Go p e below P (T.setTop (mkF m pc Ls (.long y :: .long x :: st))) := q.by fun t r => XS.ladd X.here hx rfl hd rfl (hv ▸ r)
theorem g_lsub (X : Stand p l e R s m args below meth c T locs cells slots) (hx : p.tables.exec = Jvm.exec) {x y v : Int64} (hd : decode c.code pc = .ok (.lsub, 1)) (hv : x - y = v) (q : Go p e below P (T.setTop (mkF m (pc + 1) Ls (.long v :: st)))) : Go p e below P (T.setTop (mkF m pc Ls (.long y :: .long x :: st))) := q.by fun t r => XS.lsub X.here hx rfl hd rfl (hv ▸ r)
theorem g_lmul (X : Stand p l e R s m args below meth c T locs cells slots) (hx : p.tables.exec = Jvm.exec) {x y v : Int64} (hd : decode c.code pc = .ok (.lmul, 1)) (hv : x * y = v) (q : Go p e below P (T.setTop (mkF m (pc + 1) Ls (.long v :: st)))) : Go p e below P (T.setTop (mkF m pc Ls (.long y :: .long x :: st))) := q.by fun t r => XS.lmul X.here hx rfl hd rfl (hv ▸ r)
theorem g_land (X : Stand p l e R s m args below meth c T locs cells slots) (hx : p.tables.exec = Jvm.exec) {x y v : Int64} (hd : decode c.code pc = .ok (.land, 1)) (hv : x &&& y = v) (q : Go p e below P (T.setTop (mkF m (pc + 1) Ls (.long v :: st)))) : Go p e below P (T.setTop (mkF m pc Ls (.long y :: .long x :: st))) := q.by fun t r => XS.land X.here hx rfl hd rfl (hv ▸ r)
theorem g_lor (X : Stand p l e R s m args below meth c T locs cells slots) (hx : p.tables.exec = Jvm.exec) {x y v : Int64} (hd : decode c.code pc = .ok (.lor, 1)) (hv : x ||| y = v) (q : Go p e below P (T.setTop (mkF m (pc + 1) Ls (.long v :: st)))) : Go p e below P (T.setTop (mkF m pc Ls (.long y :: .long x :: st))) := q.by fun t r => XS.lor X.here hx rfl hd rfl (hv ▸ r)
theorem g_ishl (X : Stand p l e R s m args below meth c T locs cells slots) (hx : p.tables.exec = Jvm.exec) {x y v : Int32} (hd : decode c.code pc = .ok (.ishl, 1)) (hv : x <<< (y &&& 31) = v) (q : Go p e below P (T.setTop (mkF m (pc + 1) Ls (.int v :: st)))) : Go p e below P (T.setTop (mkF m pc Ls (.int y :: .int x :: st))) := q.by fun t r => XS.ishl X.here hx rfl hd rfl (hv ▸ r)
theorem g_ishr (X : Stand p l e R s m args below meth c T locs cells slots) (hx : p.tables.exec = Jvm.exec) {x y v : Int32} (hd : decode c.code pc = .ok (.ishr, 1)) (hv : x >>> (y &&& 31) = v) (q : Go p e below P (T.setTop (mkF m (pc + 1) Ls (.int v :: st)))) : Go p e below P (T.setTop (mkF m pc Ls (.int y :: .int x :: st))) := q.by fun t r => XS.ishr X.here hx rfl hd rfl (hv ▸ r)
theorem g_iushr (X : Stand p l e R s m args below meth c T locs cells slots) (hx : p.tables.exec = Jvm.exec) {x y v : Int32} (hd : decode c.code pc = .ok (.iushr, 1)) (hv : (x.toUInt32 >>> (y &&& 31).toUInt32).toInt32 = v) (q : Go p e below P (T.setTop (mkF m (pc + 1) Ls (.int v :: st)))) : Go p e below P (T.setTop (mkF m pc Ls (.int y :: .int x :: st))) := q.by fun t r => XS.iushr X.here hx rfl hd rfl (hv ▸ r)
theorem g_idiv (X : Stand p l e R s m args below meth c T locs cells slots) (hx : p.tables.exec = Jvm.exec) {x y v : Int32} (hd : decode c.code pc = .ok (.idiv, 1)) (hy : y ≠ 0) (hv : x / y = v) (q : Go p e below P (T.setTop (mkF m (pc + 1) Ls (.int v :: st)))) : Go p e below P (T.setTop (mkF m pc Ls (.int y :: .int x :: st))) := q.by fun t r => XS.idiv X.here hx rfl hd rfl hy (hv ▸ r)
theorem g_irem (X : Stand p l e R s m args below meth c T locs cells slots) (hx : p.tables.exec = Jvm.exec) {x y v : Int32} (hd : decode c.code pc = .ok (.irem, 1)) (hy : y ≠ 0) (hv : x % y = v) (q : Go p e below P (T.setTop (mkF m (pc + 1) Ls (.int v :: st)))) : Go p e below P (T.setTop (mkF m pc Ls (.int y :: .int x :: st))) := q.by fun t r => XS.irem X.here hx rfl hd rfl hy (irem_eq_mod x y ▸ hv ▸ r)
theorem g_ldiv (X : Stand p l e R s m args below meth c T locs cells slots) (hx : p.tables.exec = Jvm.exec) {x y v : Int64} (hd : decode c.code pc = .ok (.ldiv, 1)) (hy : y ≠ 0) (hv : x / y = v) (q : Go p e below P (T.setTop (mkF m (pc + 1) Ls (.long v :: st)))) : Go p e below P (T.setTop (mkF m pc Ls (.long y :: .long x :: st))) := q.by fun t r => XS.ldiv X.here hx rfl hd rfl hy (hv ▸ r)
theorem g_lshl (X : Stand p l e R s m args below meth c T locs cells slots) (hx : p.tables.exec = Jvm.exec) {x v : Int64} {y : Int32} (hd : decode c.code pc = .ok (.lshl, 1)) (hv : x <<< (y &&& 0x3f).toInt64 = v) (q : Go p e below P (T.setTop (mkF m (pc + 1) Ls (.long v :: st)))) : Go p e below P (T.setTop (mkF m pc Ls (.int y :: .long x :: st))) := q.by fun t r => XS.lshl X.here hx rfl hd rfl (hv ▸ r)
theorem g_lshr (X : Stand p l e R s m args below meth c T locs cells slots) (hx : p.tables.exec = Jvm.exec) {x v : Int64} {y : Int32} (hd : decode c.code pc = .ok (.lshr, 1)) (hv : x >>> (y &&& 0x3f).toInt64 = v) (q : Go p e below P (T.setTop (mkF m (pc + 1) Ls (.long v :: st)))) : Go p e below P (T.setTop (mkF m pc Ls (.int y :: .long x :: st))) := q.by fun t r => XS.lshr X.here hx rfl hd rfl (hv ▸ r)
theorem g_lushr (X : Stand p l e R s m args below meth c T locs cells slots) (hx : p.tables.exec = Jvm.exec) {x v : Int64} {y : Int32} (hd : decode c.code pc = .ok (.lushr, 1)) (hv : (x.toUInt64 >>> (y &&& 0x3f).toInt64.toUInt64).toInt64 = v) (q : Go p e below P (T.setTop (mkF m (pc + 1) Ls (.long v :: st)))) : Go p e below P (T.setTop (mkF m pc Ls (.int y :: .long x :: st))) := q.by fun t r => XS.lushr X.here hx rfl hd rfl (hv ▸ r)
theorem g_lcmp (X : Stand p l e R s m args below meth c T locs cells slots) (hx : p.tables.exec = Jvm.exec) {x y : Int64} (hd : decode c.code pc = .ok (.lcmp, 1))  (q : Go p e below P (T.setTop (mkF m (pc + 1) Ls (.int (lcmpW x y) :: st)))) : Go p e below P (T.setTop (mkF m pc Ls (.long y :: .long x :: st))) := q.by fun t r => XS.lcmp X.here hx rfl hd rfl r
theorem g_ineg (X : Stand p l e R s m args below meth c T locs cells slots) (hx : p.tables.exec = Jvm.exec) {x : Int32} {v : Int32} (hd : decode c.code pc = .ok (.ineg, 1)) (hv : -x = v) (q : Go p e below P (T.setTop (mkF m (pc + 1) Ls (.int v :: st)))) : Go p e below P (T.setTop (mkF m pc Ls (.int x :: st))) := q.by fun t r => XS.ineg X.here hx rfl hd rfl (hv ▸ r)
theorem g_lneg (X : Stand p l e R s m args below meth c T locs cells slots) (hx : p.tables.exec = Jvm.exec) {x : Int64} {v : Int64} (hd : decode c.code pc = .ok (.lneg, 1)) (hv : -x = v) (q : Go p e below P (T.setTop (mkF m (pc + 1) Ls (.long v :: st)))) : Go p e below P (T.setTop (mkF m pc Ls (.long x :: st))) := q.by fun t r => XS.lneg X.here hx rfl hd rfl (hv ▸ r)
theorem g_i2l (X : Stand p l e R s m args below meth c T locs cells slots) (hx : p.tables.exec = Jvm.exec) {x : Int32} {v : Int64} (hd : decode c.code pc = .ok (.i2l, 1)) (hv : x.toInt64 = v) (q : Go p e below P (T.setTop (mkF m (pc + 1) Ls (.long v :: st)))) : Go p e below P (T.setTop (mkF m pc Ls (.int x :: st))) := q.by fun t r => XS.i2l X.here hx rfl hd rfl (hv ▸ r)
theorem g_l2i (X : Stand p l e R s m args below meth c T locs cells slots) (hx : p.tables.exec = Jvm.exec) {x : Int64} {v : Int32} (hd : decode c.code pc = .ok (.l2i, 1)) (hv : x.toInt32 = v) (q : Go p e below P (T.setTop (mkF m (pc + 1) Ls (.int v :: st)))) : Go p e below P (T.setTop (mkF m pc Ls (.long x :: st))) := q.by fun t r => XS.l2i X.here hx rfl hd rfl (hv ▸ r)
theorem g_i2b (X : Stand p l e R s m args below meth c T locs cells slots) (hx : p.tables.exec = Jvm.exec) {x : Int32} {v : Int32} (hd : decode c.code pc = .ok (.i2b, 1)) (hv : x.toInt8.toInt32 = v) (q : Go p e below P (T.setTop (mkF m (pc + 1) Ls (.int v :: st)))) : Go p e below P (T.setTop (mkF m pc Ls (.int x :: st))) := q.by fun t r => XS.i2b X.here hx rfl hd rfl (hv ▸ r)
theorem g_i2c (X : Stand p l e R s m args below meth c T locs cells slots) (hx : p.tables.exec = Jvm.exec) {x : Int32} {v : Int32} (hd : decode c.code pc = .ok (.i2c, 1)) (hv : x.toUInt32.toUInt16.toUInt32.toInt32 = v) (q : Go p e below P (T.setTop (mkF m (pc + 1) Ls (.int v :: st)))) : Go p e below P (T.setTop (mkF m pc Ls (.int x :: st))) := q.by fun t r => XS.i2c X.here hx rfl hd rfl (hv ▸ r)
theorem g_i2s (X : Stand p l e R s m args below meth c T locs cells slots) (hx : p.tables.exec = Jvm.exec) {x : Int32} {v : Int32} (hd : decode c.code pc = .ok (.i2s, 1)) (hv : x.toInt16.toInt32 = v) (q : Go p e below P (T.setTop (mkF m (pc + 1) Ls (.int v :: st)))) : Go p e below P (T.setTop (mkF m pc Ls (.int x :: st))) := q.by fun t r => XS.i2s X.here hx rfl hd rfl (hv ▸ r)
theorem g_i2d (X : Stand p l e R s m args below meth c T locs cells slots) (hx : p.tables.exec = Jvm.exec) {x : Int32} {v : UInt64} (hd : decode c.code pc = .ok (.i2d, 1)) (hv : FP.i2d x = v) (q : Go p e below P (T.setTop (mkF m (pc + 1) Ls (.double v :: st)))) : Go p e below P (T.setTop (mkF m pc Ls (.int x :: st))) := q.by fun t r => XS.i2dS X.here hx rfl hd rfl hv r
theorem g_l2d (X : Stand p l e R s m args below meth c T locs cells slots) (hx : p.tables.exec = Jvm.exec) {x : Int64} {v : UInt64} (hd : decode c.code pc = .ok (.l2d, 1)) (hv : FP.l2d x = v) (q : Go p e below P (T.setTop (mkF m (pc + 1) Ls (.double v :: st)))) : Go p e below P (T.setTop (mkF m pc Ls (.long x :: st))) := q.by fun t r => XS.l2dS X.here hx rfl hd rfl hv r
theorem g_d2i (X : Stand p l e R s m args below meth c T locs cells slots) (hx : p.tables.exec = Jvm.exec) {x : UInt64} {v : Int32} (hd : decode c.code pc = .ok (.d2i, 1)) (hv : FP.d2i x = v) (q : Go p e below P (T.setTop (mkF m (pc + 1) Ls (.int v :: st)))) : Go p e below P (T.setTop (mkF m pc Ls (.double x :: st))) := q.by fun t r => XS.d2iS X.here hx rfl hd rfl hv r
theorem g_d2l (X : Stand p l e R s m args below meth c T locs cells slots) (hx : p.tables.exec = Jvm.exec) {x : UInt64} {v : Int64} (hd : decode c.code pc = .ok (.d2l, 1)) (hv : FP.d2l x = v) (q : Go p e below P (T.setTop (mkF m (pc + 1) Ls (.long v :: st)))) : Go p e below P (T.setTop (mkF m pc Ls (.double x :: st))) := q.by fun t r => XS.d2lS X.here hx rfl hd rfl hv r
theorem g_dneg (X : Stand p l e R s m args below meth c T locs cells slots) (hx : p.tables.exec = Jvm.exec) {x : UInt64} {v : UInt64} (hd : decode c.code pc = .ok (.dneg, 1)) (hv : FP.dneg x = v) (q : Go p e below P (T.setTop (mkF m (pc + 1) Ls (.double v :: st)))) : Go p e below P (T.setTop (mkF m pc Ls (.double x :: st))) := q.by fun t r => XS.dnegS X.here hx rfl hd rfl hv r
theorem g_i2f (X : Stand p l e R s m args below meth c T locs cells slots) (hx : p.tables.exec = Jvm.exec) {x : Int32} {v : UInt32} (hd : decode c.code pc = .ok (.i2f, 1)) (hv : FP.i2f x = v) (q : Go p e below P (T.setTop (mkF m (pc + 1) Ls (.float v :: st)))) : Go p e below P (T.setTop (mkF m pc Ls (.int x :: st))) := q.by fun t r => XS.i2fS X.here hx rfl hd rfl hv r
theorem g_l2f (X : Stand p l e R s m args below meth c T locs cells slots) (hx : p.tables.exec = Jvm.exec) {x : Int64} {v : UInt32} (hd : decode c.code pc = .ok (.l2f, 1)) (hv : FP.l2f x = v) (q : Go p e below P (T.setTop (mkF m (pc + 1) Ls (.float v :: st)))) : Go p e below P (T.setTop (mkF m pc Ls (.long x :: st))) := q.by fun t r => XS.l2fS X.here hx rfl hd rfl hv r
theorem g_fneg (X : Stand p l e R s m args below meth c T locs cells slots) (hx : p.tables.exec = Jvm.exec) {x : UInt32} {v : UInt32} (hd : decode c.code pc = .ok (.fneg, 1)) (hv : FP.fneg x = v) (q : Go p e below P (T.setTop (mkF m (pc + 1) Ls (.float v :: st)))) : Go p e below P (T.setTop (mkF m pc Ls (.float x :: st))) := q.by fun t r => XS.fnegS X.here hx rfl hd rfl hv r
theorem g_dadd (X : Stand p l e R s m args below meth c T locs cells slots) (hx : p.tables.exec = Jvm.exec) {x y v : UInt64} (hd : decode c.code pc = .ok (.dadd, 1)) (hn : Jvm.Free.Fl.NoNaN64 (FP.dadd x y)) (hv : FP.dadd x y = v) (q : Go p e below P (T.setTop (mkF m (pc + 1) Ls (.double v :: st)))) : Go p e below P (T.setTop (mkF m pc Ls (.double y :: .double x :: st))) := q.by fun t r => XS.daddS X.here hx rfl hd rfl hn hv r
theorem g_dsub (X : Stand p l e R s m args below meth c T locs cells slots) (hx : p.tables.exec = Jvm.exec) {x y v : UInt64} (hd : decode c.code pc = .ok (.dsub, 1)) (hn : Jvm.Free.Fl.NoNaN64 (FP.dsub x y)) (hv : FP.dsub x y = v) (q : Go p e below P (T.setTop (mkF m (pc + 1) Ls (.double v :: st)))) : Go p e below P (T.setTop (mkF m pc Ls (.double y :: .double x :: st))) := q.by fun t r => XS.dsubS X.here hx rfl hd rfl hn hv r
theorem g_dmul (X : Stand p l e R s m args below meth c T locs cells slots) (hx : p.tables.exec = Jvm.exec) {x y v : UInt64} (hd : decode c.code pc = .ok (.dmul, 1)) (hn : Jvm.Free.Fl.NoNaN64 (FP.dmul x y)) (hv : FP.dmul x y = v) (q : Go p e below P (T.setTop (mkF m (pc + 1) Ls (.double v :: st)))) : Go p e below P (T.setTop (mkF m pc Ls (.double y :: .double x :: st))) := q.by fun t r => XS.dmulS X.here hx rfl hd rfl hn hv r
theorem g_ddiv (X : Stand p l e R s m args below meth c T locs cells slots) (hx : p.tables.exec = Jvm.exec) {x y v : UInt64} (hd : decode c.code pc = .ok (.ddiv, 1)) (hn : Jvm.Free.Fl.NoNaN64 (FP.ddiv x y)) (hv : FP.ddiv x y = v) (q : Go p e below P (T.setTop (mkF m (pc + 1) Ls (.double v :: st)))) : Go p e below P (T.setTop (mkF m pc Ls (.double y :: .double x :: st))) := q.by fun t r => XS.ddivS X.here hx rfl hd rfl hn hv r
theorem g_dcmp (X : Stand p l e R s m args below meth c T locs cells slots) (hx : p.tables.exec = Jvm.exec) {o : CmpOp} {x y : UInt64} (hd : decode c.code pc = .ok (.dcmp o, 1))  (q : Go p e below P (T.setTop (mkF m (pc + 1) Ls (.int (cmpValue (FP.dcmp x y) o) :: st)))) : Go p e below P (T.setTop (mkF m pc Ls (.double y :: .double x :: st))) := q.by fun t r => XS.dcmpS X.here hx rfl hd rfl rfl r
theorem g_fcmp (X : Stand p l e R s m args below meth c T locs cells slots) (hx : p.tables.exec = Jvm.exec) {o : CmpOp} {x y : UInt32} (hd : decode c.code pc = .ok (.fcmp o, 1))  (q : Go p e below P (T.setTop (mkF m (pc + 1) Ls (.int (cmpValue (FP.fcmp x y) o) :: st)))) : Go p e below P (T.setTop (mkF m pc Ls (.float y :: .float x :: st))) := q.by fun t r => XS.fcmpS X.here hx rfl hd rfl rfl r
theorem g_dup (X : Stand p l e R s m args below meth c T locs cells slots) (hx : p.tables.exec = Jvm.exec) {x : Value} (hd : decode c.code pc = .ok (.dup, 1)) (hc : x.category = 1) (q : Go p e below P (T.setTop (mkF m (pc + 1) Ls (x :: x :: st)))) : Go p e below P (T.setTop (mkF m pc Ls (x :: st))) := q.by fun t r => XS.dup X.here hx rfl hd rfl hc r
theorem g_pop (X : Stand p l e R s m args below meth c T locs cells slots) (hx : p.tables.exec = Jvm.exec) {x : Value} (hd : decode c.code pc = .ok (.pop, 1)) (hc : x.category = 1) (q : Go p e below P (T.setTop (mkF m (pc + 1) Ls st))) : Go p e below P (T.setTop (mkF m pc Ls (x :: st))) := q.by fun t r => XS.pop X.here hx rfl hd rfl hc r
theorem g_dup2 (X : Stand p l e R s m args below meth c T locs cells slots) (hx : p.tables.exec = Jvm.exec) {x y : Value} (hd : decode c.code pc = .ok (.dup2, 1)) (hc : x.category = 1) (hc' : y.category = 1) (q : Go p e below P (T.setTop (mkF m (pc + 1) Ls (x :: y :: x :: y :: st)))) : Go p e below P (T.setTop (mkF m pc Ls (x :: y :: st))) := q.by fun t r => XT.dup2 X.here hx rfl hd rfl hc hc' r
theorem g_iinc (X : Stand p l e R s m args below meth c T locs cells slots) (hx : p.tables.exec = Jvm.exec) {k : Nat} {d : Int} {x : Int32} {L' : Array Slot} (hd : decode c.code pc = .ok (.iinc k d, 3)) (hl : Ls[k]? = some (.val (.int x))) (hs : storeLocals Ls k (.int (x + Int32.ofInt d)) = some L') (q : Go p e below P (T.setTop (mkF m (pc + 3) L' st))) : Go p e below P (T.setTop (mkF m pc Ls st)) := q.by fun t r => XS.iinc X.here hx rfl hd hl hs r
theorem g_goto (X : Stand p l e R s m args below meth c T locs cells slots) (hx : p.tables.exec = Jvm.exec)  {o : Int} {pc' : Nat} (hd : decode c.code pc = .ok (.goto o, 3))  (ho : 0 ≤ (pc : Int) + o) (hp : ((pc : Int) + o).toNat = pc') (q : Go p e below P (T.setTop (mkF m pc' Ls st))) : Go p e below P (T.setTop (mkF m pc Ls st)) := q.by fun t r => XS.goto X.here hx rfl rfl hd ho hp r
theorem g_ifYes (X : Stand p l e R s m args below meth c T locs cells slots) (hx : p.tables.exec = Jvm.exec) {cd : ClassFile.Cond} {x : Int32} {o : Int} {pc' : Nat} (hd : decode c.code pc = .ok (.ifCond cd o, 3)) (hc : if_icmp.holds cd x 0 = true) (ho : 0 ≤ (pc : Int) + o) (hp : ((pc : Int) + o).toNat = pc') (q : Go p e below P (T.setTop (mkF m pc' Ls st))) : Go p e below P (T.setTop (mkF m pc Ls (.int x :: st))) := q.by fun t r => XS.ifYes X.here hx rfl rfl hd rfl ((if0 _ _).trans hc) ho hp r
theorem g_icmpYes (X : Stand p l e R s m args below meth c T locs cells slots) (hx : p.tables.exec = Jvm.exec) {cd : ClassFile.Cond} {x y : Int32} {o : Int} {pc' : Nat} (hd : decode c.code pc = .ok (.if_icmp cd o, 3)) (hc : if_icmp.holds cd x y = true) (ho : 0 ≤ (pc : Int) + o) (hp : ((pc : Int) + o).toNat = pc') (q : Go p e below P (T.setTop (mkF m pc' Ls st))) : Go p e below P (T.setTop (mkF m pc Ls (.int y :: .int x :: st))) := q.by fun t r => XS.icmpYes X.here hx rfl rfl hd rfl hc ho hp r
theorem g_ifNo (X : Stand p l e R s m args below meth c T locs cells slots) (hx : p.tables.exec = Jvm.exec) {cd : ClassFile.Cond} {o : Int} {x : Int32} (hd : decode c.code pc = .ok (.ifCond cd o, 3)) (hc : if_icmp.holds cd x 0 = false) (q : Go p e below P (T.setTop (mkF m (pc + 3) Ls st))) : Go p e below P (T.setTop (mkF m pc Ls (.int x :: st))) := q.by fun t r => XS.ifNo X.here hx rfl hd rfl ((if0 _ _).trans hc) r
theorem g_icmpNo (X : Stand p l e R s m args below meth c T locs cells slots) (hx : p.tables.exec = Jvm.exec) {cd : ClassFile.Cond} {o : Int} {x y : Int32} (hd : decode c.code pc = .ok (.if_icmp cd o, 3)) (hc : if_icmp.holds cd x y = false) (q : Go p e below P (T.setTop (mkF m (pc + 3) Ls st))) : Go p e below P (T.setTop (mkF m pc Ls (.int y :: .int x :: st))) := q.by fun t r => XS.icmpNo X.here hx rfl hd rfl hc r
theorem g_ifnonnullYes (X : Stand p l e R s m args below meth c T locs cells slots) (hx : p.tables.exec = Jvm.exec) {b : Addr} {o : Int} {pc' : Nat} (hd : decode c.code pc = .ok (.ifnonnull o, 3))  (ho : 0 ≤ (pc : Int) + o) (hp : ((pc : Int) + o).toNat = pc') (q : Go p e below P (T.setTop (mkF m pc' Ls st))) : Go p e below P (T.setTop (mkF m pc Ls (.ref b :: st))) := q.by fun t r => XS.ifnonnullYes X.here hx rfl rfl hd rfl ho hp r
theorem g_ifnonnullNo (X : Stand p l e R s m args below meth c T locs cells slots) (hx : p.tables.exec = Jvm.exec) {o : Int} (hd : decode c.code pc = .ok (.ifnonnull o, 3))  (q : Go p e below P (T.setTop (mkF m (pc + 3) Ls st))) : Go p e below P (T.setTop (mkF m pc Ls (.null :: st))) := q.by fun t r => XS.ifnonnullNo X.here hx rfl hd rfl r
theorem g_ifnullYes (X : Stand p l e R s m args below meth c T locs cells slots) (hx : p.tables.exec = Jvm.exec)  {o : Int} {pc' : Nat} (hd : decode c.code pc = .ok (.ifnull o, 3))  (ho : 0 ≤ (pc : Int) + o) (hp : ((pc : Int) + o).toNat = pc') (q : Go p e below P (T.setTop (mkF m pc' Ls st))) : Go p e below P (T.setTop (mkF m pc Ls (.null :: st))) := q.by fun t r => XS.ifnullYes X.here hx rfl rfl hd rfl ho hp r
theorem g_ifnullNo (X : Stand p l e R s m args below meth c T locs cells slots) (hx : p.tables.exec = Jvm.exec) {o : Int} {b : Addr} (hd : decode c.code pc = .ok (.ifnull o, 3))  (q : Go p e below P (T.setTop (mkF m (pc + 3) Ls st))) : Go p e below P (T.setTop (mkF m pc Ls (.ref b :: st))) := q.by fun t r => XS.ifnullNo X.here hx rfl hd rfl r
theorem g_drem (X : Stand p l e R s m args below meth c T locs cells slots) (hx : p.tables.exec = Jvm.exec) {x y v : UInt64} (hd : decode c.code pc = .ok (.drem, 1)) (hn : Jvm.Free.Fl.NoNaN64 (FP.drem x y)) (hv : FP.drem x y = v) (q : Go p e below P (T.setTop (mkF m (pc + 1) Ls (.double v :: st)))) : Go p e below P (T.setTop (mkF m pc Ls (.double y :: .double x :: st))) := q.by fun t r => by
  subst hv
  have ht := X.here
  show Steps p.tables e below (T.setTop { method := m, pc := pc, locals := Ls, stack := .double y :: .double x :: st, locked := none }) t
  jvm_step ht [ht.top, hx, hd, Op.drem.at_number ht.top hn]
  exact r
theorem g_dup_x2 (X : Stand p l e R s m args below meth c T locs cells slots) (hx : p.tables.exec = Jvm.exec) {x y z : Value} (hd : decode c.code pc = .ok (.dup_x2, 1)) (h1 : x.category = 1) (h2 : y.category = 1) (h3 : z.category = 1) (q : Go p e below P (T.setTop (mkF m (pc + 1) Ls (x :: y :: z :: x :: st)))) : Go p e below P (T.setTop (mkF m pc Ls (x :: y :: z :: st))) := q.by fun t r => by
  have ht := X.here
  show Steps p.tables e below (T.setTop { method := m, pc := pc, locals := Ls, stack := x :: y :: z :: st, locked := none }) t
  jvm_step ht [ht.top, hx, hd, h1, h2, h3]
  exact r
theorem g_ldcI (X : Stand p l e R s m args below meth c T locs cells slots) (hx : p.tables.exec = Jvm.exec) (hZ : Z.Warmed39 s.vm) (hown : s.vm.findClass own = some m.cls) {v : Int32} (w : (Cond.constant own index v).before a0 Z = true) (hd : decode c.code pc = .ok (.ldc index, 2)) (q : Go p e below P (T.setTop (mkF m (pc + 2) Ls (.int v :: st)))) : Go p e below P (T.setTop (mkF m pc Ls st)) := q.by fun t r => X.ldcI hx hown (mvT hZ w) rfl hd r
theorem g_ldc2J (X : Stand p l e R s m args below meth c T locs cells slots) (hx : p.tables.exec = Jvm.exec) (hZ : Z.Warmed39 s.vm) (hown : s.vm.findClass own = some m.cls) {v : Int64} (w : (Cond.constantLong own index v).before a0 Z = true) (hd : decode c.code pc = .ok (.ldc2_w index, 3)) (q : Go p e below P (T.setTop (mkF m (pc + 3) Ls (.long v :: st)))) : Go p e below P (T.setTop (mkF m pc Ls st)) := q.by fun t r => X.ldc2J hx hown (mvT hZ w) rfl hd r
theorem g_ldc2D (X : Stand p l e R s m args below meth c T locs cells slots) (hx : p.tables.exec = Jvm.exec) (hZ : Z.Warmed39 s.vm) (hown : s.vm.findClass own = some m.cls) {v : UInt64} (w : (Cond.constantDouble own index v).before a0 Z = true) (hd : decode c.code pc = .ok (.ldc2_w index, 3)) (q : Go p e below P (T.setTop (mkF m (pc + 3) Ls (.double v :: st)))) : Go p e below P (T.setTop (mkF m pc Ls st)) := q.by fun t r => X.ldc2DoubleC hx hown (mvT hZ w) (g := mkF m pc Ls st) rfl hd t r
theorem g_ldcF (X : Stand p l e R s m args below meth c T locs cells slots) (hx : p.tables.exec = Jvm.exec) (hZ : Z.Warmed39 s.vm) (hown : s.vm.findClass own = some m.cls) {v : UInt32} (w : (Cond.constantFloat own index v).before a0 Z = true) (hd : decode c.code pc = .ok (.ldc index, 2)) (q : Go p e below P (T.setTop (mkF m (pc + 2) Ls (.float v :: st)))) : Go p e below P (T.setTop (mkF m pc Ls st)) := q.by fun t r => X.ldcFloatC hx hown (mvT hZ w) (g := mkF m pc Ls st) rfl hd t r
theorem Ret.end {Q : Option Value → Heap → List Loc → Prop} {C N : Nat} {g : JFrame} (X : Stand p l e R s m args below meth c T locs cells slots) (hx : p.tables.exec = Jvm.exec) (hlk : meth.locks = false) {v : Option Value} (hv : meth.sig.returnType = none → v = none) (stp : ∀ fs, (∀ (f : JFrame) (acts : List Action), f.method = m → f.locked = none → f.entered = [] → (doReturn e (T.setTop f) acts v).1 = T.setFrames fs) → Steps p.tables e below (T.setTop g) (T.setFrames fs)) (hC : cells ≤ C) (hN : slots ≤ N) (hq : Q v T.heap locs) : Go p e below (Ret s Q C N) (T.setTop g) := by
  obtain ⟨fs, hr, hrun, hended, hW, hsame⟩ := X.leave hv hlk
  exact ⟨_, _, stp fs hr, hrun, hended, _, _, rfl, hq, ⟨_, rfl⟩, hW, hsame.mono hC hN⟩
theorem g_ireturn {Q : Option Value → Heap → List Loc → Prop} {C N : Nat} (X : Stand p l e R s m args below meth c T locs cells slots) (hx : p.tables.exec = Jvm.exec) (hlk : meth.locks = false) {w : Int32} {t : FieldType} (hret : meth.sig.returnType = some t) (hn : narrow t (.int w) = .int w) (hti : t = .int ∨ t = .boolean ∨ t = .byte ∨ t = .char ∨ t = .short) (hd : decode c.code pc = .ok (.ireturn, 1)) (hC : cells ≤ C) (hN : slots ≤ N) (hq : Q (some (.int w)) T.heap locs) : Go p e below (Ret s Q C N) (T.setTop (mkF m pc Ls [.int w])) :=
  Ret.end X hx hlk (fun h => by rw [hret] at h; cases h) (fun fs hr => X.ireturnOut hx hret hn hti hd hr) hC hN hq
theorem g_lreturn {Q : Option Value → Heap → List Loc → Prop} {C N : Nat} (X : Stand p l e R s m args below meth c T locs cells slots) (hx : p.tables.exec = Jvm.exec) (hlk : meth.locks = false) {w : Int64} (hret : meth.sig.returnType = some .long) (hd : decode c.code pc = .ok (.lreturn, 1)) (hC : cells ≤ C) (hN : slots ≤ N) (hq : Q (some (.long w)) T.heap locs) : Go p e below (Ret s Q C N) (T.setTop (mkF m pc Ls [.long w])) :=
  Ret.end X hx hlk (fun h => by rw [hret] at h; cases h) (fun fs hr => X.lreturnOut hx hret hd hr) hC hN hq
theorem g_return {Q : Option Value → Heap → List Loc → Prop} {C N : Nat} (X : Stand p l e R s m args below meth c T locs cells slots) (hx : p.tables.exec = Jvm.exec) (hlk : meth.locks = false) (hret : meth.sig.returnType = none) (hd : decode c.code pc = .ok (.return_, 1)) (hC : cells ≤ C) (hN : slots ≤ N) (hq : Q none T.heap locs) : Go p e below (Ret s Q C N) (T.setTop (mkF m pc Ls [])) :=
  Ret.end X hx hlk (fun _ => rfl) (fun fs hr => X.returnOut hx hret hd hr) hC hN hq
theorem g_areturn {Q : Option Value → Heap → List Loc → Prop} {C N : Nat} (X : Stand p l e R s m args below meth c T locs cells slots) (hx : p.tables.exec = Jvm.exec) (hlk : meth.locks = false) {w : Value} {t : FieldType} (hret : meth.sig.returnType = some t) (ht : t.isReference = true) (hw : w.isRef = true) (hd : decode c.code pc = .ok (.areturn, 1)) (hC : cells ≤ C) (hN : slots ≤ N) (hq : Q (some w) T.heap locs) : Go p e below (Ret s Q C N) (T.setTop (mkF m pc Ls [w])) :=
  Ret.end X hx hlk (fun h => by rw [hret] at h; cases h) (fun fs hr => X.areturnOut hx hw hret ht hd hr) hC hN hq
theorem g_dreturn {Q : Option Value → Heap → List Loc → Prop} {C N : Nat} (X : Stand p l e R s m args below meth c T locs cells slots) (hx : p.tables.exec = Jvm.exec) (hlk : meth.locks = false) {w : UInt64} (hret : meth.sig.returnType = some .double) (hd : decode c.code pc = .ok (.dreturn, 1)) (hC : cells ≤ C) (hN : slots ≤ N) (hq : Q (some (.double w)) T.heap locs) : Go p e below (Ret s Q C N) (T.setTop (mkF m pc Ls [.double w])) :=
  Ret.end X hx hlk (fun h => by rw [hret] at h; cases h) (fun fs hr => by
    have hm' : T.vm.method? m = some meth := X.method'
    show Steps p.tables e below (T.setTop { method := m, pc := pc, locals := Ls, stack := [.double w], locked := none }) _
    jvm_step X.here [X.here.top, hx, hd, hm', hret]
    first | (intro acts; rw [hr _ acts rfl rfl rfl]) | rw [hr _ _ rfl rfl rfl]
    exact Steps.refl _) hC hN hq
theorem g_freturn {Q : Option Value → Heap → List Loc → Prop} {C N : Nat} (X : Stand p l e R s m args below meth c T locs cells slots) (hx : p.tables.exec = Jvm.exec) (hlk : meth.locks = false) {w : UInt32} (hret : meth.sig.returnType = some .float) (hd : decode c.code pc = .ok (.freturn, 1)) (hC : cells ≤ C) (hN : slots ≤ N) (hq : Q (some (.float w)) T.heap locs) : Go p e below (Ret s Q C N) (T.setTop (mkF m pc Ls [.float w])) :=
  Ret.end X hx hlk (fun h => by rw [hret] at h; cases h) (fun fs hr => retF X hx hret hd hr) hC hN hq
theorem g_callS (X : Stand p l e R s m args below meth c T locs cells slots) (hx : p.tables.exec = Jvm.exec) (hZ : Z.Warmed39 s.vm) (hown : s.vm.findClass own = some m.cls) {y : MethodName} {bytes : ByteArray} {maxL : Nat} {ret : Option FieldType} (w1 : (Cond.methodLink own index y).before a0 Z = true) (w2 : (Cond.static y).before a0 Z = true) (w3 : (Cond.initialized y.cls).before a0 Z = true) (w4 : (Cond.code y bytes maxL ret).before a0 Z = true) (hy : y.cls ≠ "java/lang/invoke/MethodHandle" ∧ y.cls ≠ "java/lang/invoke/VarHandle") {rm : Room} {as' : Array Value} {Q : Option Value → Heap → List Loc → Prop} (hM : MetFree l y (head1 [Cond.code y bytes maxL ret] rm) (fun a U => a = as' ∧ Z.Warmed39 U.vm ∧ U.heap = h) (fun _ _ _ _ _ => True) (fun _ U o U' => ∃ v L, o = .returned v ∧ Q v U'.heap L ∧ FrameEnd U o U' L rm.cells rm.slots)) (eT : T.heap = h) {W : Nat} (hf : rm.frames + 1 ≤ R.frames) (hlo : W + (maxL + 11) + rm.locals ≤ R.locals) (hsize : Ls.size = c.maxLocals) (argsL rest : List Value) (hlen : ∀ sig, parseMethodDescriptor y.desc = some sig → argsL.length = sig.parameters.length) (hst : st = argsL.reverse ++ rest) (has : argsL.toArray = as') (hW : (rest.map fun v => v.category).sum ≤ W) (hd : decode c.code pc = .ok (.invokestatic index, 3)) (hc : cells + rm.cells ≤ R.cells) (hs : slots + rm.slots ≤ R.slots) (k : ∀ (v : Option Value) (T' : State) (L : List Loc), Stand p l e R s m args below meth c T' (locs ++ L) (cells + rm.cells) (slots + rm.slots) → Q v T'.heap L → Go p e below P (T'.setTop (mkF m (pc + 3) Ls (v.toList ++ rest)))) : Go p e below P (T.setTop (mkF m pc Ls st)) := by
  obtain ⟨v, vm1, ⟨T', L', k', n'⟩, -, X', ⟨L, hQ, l1, y1, z1⟩, stp⟩ := Jvm.LawKit.callS X hx hown (mvT hZ w1) (mvT hZ w2) (mvT hZ w3) (mvT hZ w4) hy (backOf (W := W) hM hZ w4 w3 hf hlo) (g := mkF m pc Ls st) rfl hsize hlen hst (by show 2 * 0 + _ ≤ _; omega) hd (fun _ _ => ⟨has, eT, hc, hs⟩)
  dsimp only [Pt.U, Pt.locs, Pt.cells, Pt.slots] at X' l1 y1 z1 stp hQ
  subst l1 y1 z1
  exact (k v T' L X' hQ).by stp
theorem g_init (X : Stand p l e R s m args below meth c T locs cells slots) (hx : p.tables.exec = Jvm.exec) (hZ : Z.Warmed39 s.vm) (hown : s.vm.findClass own = some m.cls) {y : MethodName} {bytes : ByteArray} {maxL : Nat} (hy1 : y.name = "<init>") (w1 : (Cond.methodLink own index y).before a0 Z = true) (w2 : (Cond.instanceMethod y).before a0 Z = true) (w3 : (Cond.initialized y.cls).before a0 Z = true) (w4 : (Cond.code y bytes maxL none).before a0 Z = true) (hy : y.cls ≠ "java/lang/invoke/MethodHandle" ∧ y.cls ≠ "java/lang/invoke/VarHandle") {rm : Room} {as' : Array Value} {Q : Option Value → Heap → List Loc → Prop} (hM : MetFree l y (head1 [Cond.code y bytes maxL none] rm) (fun a U => a = as' ∧ Z.Warmed39 U.vm ∧ U.heap = h) (fun _ _ _ _ _ => True) (fun _ U o U' => ∃ v L, o = .returned v ∧ Q v U'.heap L ∧ FrameEnd U o U' L rm.cells rm.slots)) (eT : T.heap = h) {W : Nat} (hf : rm.frames + 1 ≤ R.frames) (hlo : W + (maxL + 11) + rm.locals ≤ R.locals) (hsize : Ls.size = c.maxLocals) (a : Addr) (argsL rest : List Value) (hlen : ∀ sig, parseMethodDescriptor y.desc = some sig → argsL.length = sig.parameters.length) (hst : st = argsL.reverse ++ .ref a :: rest) (has : (.ref a :: argsL).toArray = as') (hW : (rest.map fun v => v.category).sum ≤ W) (hd : decode c.code pc = .ok (.invokespecial index, 3)) (hc : cells + rm.cells ≤ R.cells) (hs : slots + rm.slots ≤ R.slots) (k : ∀ (v : Option Value) (T' : State) (L : List Loc), Stand p l e R s m args below meth c T' (locs ++ L) (cells + rm.cells) (slots + rm.slots) → Q v T'.heap L → Go p e below P (T'.setTop (mkF m (pc + 3) Ls (v.toList ++ rest)))) : Go p e below P (T.setTop (mkF m pc Ls st)) := by
  obtain ⟨v, vm1, ⟨T', L', k', n'⟩, -, X', ⟨L, hQ, l1, y1, z1⟩, stp⟩ := X.specialBack hx hy1 hown (mvT hZ w1) (mvT hZ w2) (mvT hZ w4) hy (backOf (W := W) hM hZ w4 w3 hf hlo) (g := mkF m pc Ls st) rfl hsize (Steps.refl _) hlen hst (by show 2 * 0 + _ ≤ _; omega) hd (fun _ _ => ⟨has, eT, hc, hs⟩)
  dsimp only [Pt.U, Pt.locs, Pt.cells, Pt.slots] at X' l1 y1 z1 stp hQ
  subst l1 y1 z1
  exact (k v T' L X' hQ).by fun t r => stp.trans r
theorem g_callV (X : Stand p l e R s m args below meth c T locs cells slots) (hx : p.tables.exec = Jvm.exec) (hZ : Z.Warmed39 s.vm) (hown : s.vm.findClass own = some m.cls) {y : MethodName} {bytes : ByteArray} {maxL : Nat} {ret : Option FieldType} {C : String} (w1 : (Cond.methodLink own index y).before a0 Z = true) (w2 : (Cond.declares y).before a0 Z = true) (w5 : (Cond.selects C y y).before a0 Z = true) (w6 : (Cond.instanceMethod y).before a0 Z = true) (w3 : (Cond.initialized y.cls).before a0 Z = true) (w4 : (Cond.code y bytes maxL ret).before a0 Z = true) (hy : y.cls ≠ "java/lang/invoke/MethodHandle" ∧ y.cls ≠ "java/lang/invoke/VarHandle") {rm : Room} {as' : Array Value} {Q : Option Value → Heap → List Loc → Prop} (hM : MetFree l y (head1 [Cond.code y bytes maxL ret] rm) (fun a U => a = as' ∧ Z.Warmed39 U.vm ∧ U.heap = h) (fun _ _ _ _ _ => True) (fun _ U o U' => ∃ v L, o = .returned v ∧ Q v U'.heap L ∧ FrameEnd U o U' L rm.cells rm.slots)) (eT : T.heap = h) {W : Nat} (hf : rm.frames + 1 ≤ R.frames) (hlo : W + (maxL + 11) + rm.locals ≤ R.locals) (hsize : Ls.size = c.maxLocals) (a : Addr) (E : Exa Z h a C) (argsL rest : List Value) (hlen : ∀ sig, parseMethodDescriptor y.desc = some sig → argsL.length = sig.parameters.length) (hst : st = argsL.reverse ++ .ref a :: rest) (has : (.ref a :: argsL).toArray = as') (hW : (rest.map fun v => v.category).sum ≤ W) (hd : decode c.code pc = .ok (.invokevirtual index, 3)) (hc : cells + rm.cells ≤ R.cells) (hs : slots + rm.slots ≤ R.slots) (k : ∀ (v : Option Value) (T' : State) (L : List Loc), Stand p l e R s m args below meth c T' (locs ++ L) (cells + rm.cells) (slots + rm.slots) → Q v T'.heap L → Go p e below P (T'.setTop (mkF m (pc + 3) Ls (v.toList ++ rest)))) : Go p e below P (T.setTop (mkF m pc Ls st)) := by
  obtain ⟨cq, kq, qa, qb, qc⟩ := isOf hZ eT E
  obtain ⟨v, vm1, ⟨T', L', k', n'⟩, -, X', ⟨L, hQ, l1, y1, z1⟩, stp⟩ := X.virtualBack hx (y := y) (z := y) hown (mvT hZ w1) (mvT hZ w2) (notFace_of_selects (args := #[]) (mvT hZ w5)) (mvT hZ w5) (mvT hZ w6) hy (backOf (W := W) hM hZ w4 w3 hf hlo) qa qc (g := mkF m pc Ls st) rfl hsize (Steps.refl _) hlen hst (by show 2 * 0 + _ ≤ _; omega) hd (fun _ _ => ⟨has, eT, hc, hs⟩)
  dsimp only [Pt.U, Pt.locs, Pt.cells, Pt.slots] at X' l1 y1 z1 stp hQ
  subst l1 y1 z1
  exact (k v T' L X' hQ).by fun t r => stp.trans r
theorem g_absD (X : Stand p l e R s m args below meth c T locs cells slots) (hx : p.tables.exec = Jvm.exec) (hZ : Z.Warmed39 s.vm) (hown : s.vm.findClass own = some m.cls) (w1 : (Cond.methodLink own index Jvm.Free.Fl.Abs.absDN).before a0 Z = true) (w2 : (Cond.static Jvm.Free.Fl.Abs.absDN).before a0 Z = true) (w3 : (Cond.initialized "java/lang/Math").before a0 Z = true) (w4 : (Cond.code Jvm.Free.Fl.Abs.absDN Jvm.Free.Fl.Abs.absDCode 2 (some .double)).before a0 Z = true) (eT : T.heap = h) (hsize : Ls.size = c.maxLocals) {a : UInt64} (hn : Jvm.Free.Fl.NoNaN64 a) (hfr : 1 ≤ R.frames) {W : Nat} (hW : (st.map fun v => v.category).sum ≤ W) (hlo : W + 13 ≤ R.locals) (hc : cells ≤ R.cells) (hs : slots ≤ R.slots) (hd : decode c.code pc = .ok (.invokestatic index, 3))
    (k : ∀ T', Stand p l e R s m args below meth c T' locs cells slots → T'.heap = h → Go p e below P (T'.setTop (mkF m (pc + 3) Ls (.double (a &&& 0x7fffffffffffffff) :: st)))) : Go p e below P (T.setTop (mkF m pc Ls (.double a :: st))) := by
  obtain ⟨T', X', e', stp⟩ := natS X hx hZ hown w1 w2 w3 w4 (by decide) eT (W := W) (F := fun a' => a' = #[.double a] ∧ Jvm.Free.Fl.NoNaN64 a) (val := .double (a &&& 0x7fffffffffffffff)) (val' := .double (a &&& 0x7fffffffffffffff)) (fun q => Jvm.Free.Fl.Abs.absD_pays a q hfr hlo) (g := mkF m pc Ls (.double a :: st)) rfl hsize (argsL := [.double a]) (rest := st) (lenOf (ps := [.double]) (r := some .double) (by decide +kernel) rfl) rfl (by show 2 * 0 + _ ≤ _; omega) hd hc hs ⟨rfl, hn⟩ rfl
  exact (k T' X' e').by stp
theorem g_objInit (X : Stand p l e R s m args below meth c T locs cells slots) (hx : p.tables.exec = Jvm.exec) (hZ : Z.Warmed39 s.vm) (hown : s.vm.findClass own = some m.cls) (w1 : (Cond.methodLink own index Lib.objectInit).before a0 Z = true) (w2 : (Cond.instanceMethod Lib.objectInit).before a0 Z = true) (w3 : (Cond.code Lib.objectInit ⟨#[0xb1]⟩ 1 none).before a0 Z = true) (eT : T.heap = h) (hsize : Ls.size = c.maxLocals) {a : Addr} (hd : decode c.code pc = .ok (.invokespecial index, 3)) (hf : 1 ≤ R.frames) {W : Nat} (hW : (st.map fun v => v.category).sum ≤ W) (hlo : W + 12 ≤ R.locals)
    (k : ∀ T', Stand p l e R s m args below meth c T' locs cells slots → T'.heap = h → Go p e below P (T'.setTop (mkF m (pc + 3) Ls st))) : Go p e below P (T.setTop (mkF m pc Ls (.ref a :: st))) := by
  obtain ⟨T', X', e', stp⟩ := initO X hx hZ hown w1 w2 w3 eT (g := mkF m pc Ls (.ref a :: st)) rfl hsize rfl hd hf (W := W) (by show 2 * 0 + _ ≤ _; omega) hlo
  exact (k T' X' e').by stp
theorem g_new (X : Stand p l e R s m args below meth c T locs cells slots) (hx : p.tables.exec = Jvm.exec) (hZ : Z.Warmed39 s.vm) (hown : s.vm.findClass own = some m.cls) {C : String} {n : Nat} (w : (Cond.classLink own index C).before a0 Z = true) (wi : (Cond.instantiable C n).before a0 Z = true) (wz : (Cond.initialized C).before a0 Z = true) (eT : T.heap = h) (hd : decode c.code pc = .ok (.new index, 3)) (hc : cells + 1 ≤ R.cells) (hl : slots + n ≤ R.slots)
    (k : ∀ T' h' a, a = h.size → Stand p l e R s m args below meth c T' locs (cells + 1) (slots + n) → T'.heap = h' → Ext h h' → Exa Z h' a C → (∀ {O nm d : String} {ty : FieldType}, Laid Z a0 C O nm d → parseFieldDescriptor d = some ty → Fld Z h' a O nm d (defaultValue ty)) → Go p e below P (T'.setTop (mkF m (pc + 3) Ls (.ref a :: st)))) : Go p e below P (T.setTop (mkF m pc Ls st)) := by
  obtain ⟨T', h', X', e', E, A, D, -, stp⟩ := newO X hx hZ hown w wi wz eT (g := mkF m pc Ls st) rfl hd hc hl
  exact (k T' h' _ rfl X' e' E A D).by stp
theorem g_getF (X : Stand p l e R s m args below meth c T locs cells slots) (hx : p.tables.exec = Jvm.exec) (hZ : Z.Warmed39 s.vm) (hown : s.vm.findClass own = some m.cls) {O n d : String} (w : (Cond.fieldLink own index O n d).before a0 Z = true) (eT : T.heap = h) {a : Addr} {v : Value} (F : Fld Z h a O n d v) (hd : decode c.code pc = .ok (.getfield index, 3))
    (k : ∀ T', Stand p l e R s m args below meth c T' locs cells slots → T'.heap = h → Go p e below P (T'.setTop (mkF m (pc + 3) Ls (v :: st)))) : Go p e below P (T.setTop (mkF m pc Ls (.ref a :: st))) := by
  obtain ⟨T', X', e', stp⟩ := getF X hx hZ hown (host := "") (Or.inl w) Via.refl eT F (g := mkF m pc Ls (.ref a :: st)) rfl rfl hd
  exact (k T' X' e').by stp
theorem g_getS (X : Stand p l e R s m args below meth c T locs cells slots) (hx : p.tables.exec = Jvm.exec) (hZ : Z.Warmed39 s.vm) (hown : s.vm.findClass own = some m.cls) {O n d : String} (w : (Cond.fieldLink own index O n d).before a0 Z = true) (eT : T.heap = h) {v : Value} (F : Sta Z h O n d v) (hd : decode c.code pc = .ok (.getstatic index, 3))
    (k : ∀ T', Stand p l e R s m args below meth c T' locs cells slots → T'.heap = h → Go p e below P (T'.setTop (mkF m (pc + 3) Ls (v :: st)))) : Go p e below P (T.setTop (mkF m pc Ls st)) := by
  obtain ⟨T', X', e', stp⟩ := getS X hx hZ hown (host := "") w Via.refl eT F (g := mkF m pc Ls st) rfl hd
  exact (k T' X' e').by stp
theorem g_putF (X : Stand p l e R s m args below meth c T locs cells slots) (hx : p.tables.exec = Jvm.exec) (hZ : Z.Warmed39 s.vm) (hown : s.vm.findClass own = some m.cls) {O n d C : String} {kk : Nat} {ty : FieldType} (w : (Cond.fieldLink own index O n d).before a0 Z = true) (eT : T.heap = h) {a : Addr} {v old : Value} (F : Fld Z h a O n d old) (E : Exa Z h a C) (L : (Cond.lays C O n d).before a0 Z = true ∨ ((Cond.laysFinal C O n d).before a0 Z = true ∧ own = O ∧ meth.name = "<init>")) (wi : (Cond.instantiable C kk).before a0 Z = true) (hty : parseFieldDescriptor d = some ty) (hn : narrow ty v = v) (hf : fits ty v = true) (hd : decode c.code pc = .ok (.putfield index, 3))
    (k : ∀ T' h', Stand p l e R s m args below meth c T' (locs ++ [⟨a, Jvm.RoadKit.slotOf Z O n d⟩]) cells slots → T'.heap = h' → Wr h h' a (Jvm.RoadKit.slotOf Z O n d) v → Go p e below P (T'.setTop (mkF m (pc + 3) Ls st))) : Go p e below P (T.setTop (mkF m pc Ls (v :: .ref a :: st))) := by
  obtain ⟨T', h', X', e', W, stp⟩ := putF X hx hZ hown (host := "") (Or.inl w) Via.refl eT F E L wi hty hn hf (g := mkF m pc Ls (v :: .ref a :: st)) rfl rfl hd
  exact (k T' h' X' e' W).by stp
theorem g_newP (X : Stand p l e R s m args below meth c T locs cells slots) (hx : p.tables.exec = Jvm.exec) (hZ : Z.Warmed39 s.vm) {aty : ArrayType} {ty : FieldType} (hty : newarray.typeOf aty = ty) (w : (Cond.arrayClass ty).before a0 Z = true) (eT : T.heap = h) (hd : decode c.code pc = .ok (.newarray aty, 2)) {n : Int32} (hn : ¬ n < 0) {cap : Nat} (hcap : n.toNatClampNeg ≤ cap) (hb : cap * 8 ≤ 536870912) (hc : cells + 1 ≤ R.cells) (hl : slots + cap ≤ R.slots)
    (k : ∀ T' h' a cA, a = h.size → Stand p l e R s m args below meth c T' locs (cells + 1) (slots + cap) → T'.heap = h' → Ext h h' → Arr Z h' a (newA cA ty n) ty → Go p e below P (T'.setTop (mkF m (pc + 2) Ls (.ref a :: st)))) : Go p e below P (T.setTop (mkF m pc Ls (.int n :: st))) := by
  subst hty
  obtain ⟨T', h', cA, X', e', E, A, stp⟩ := newP X hx hZ w eT (g := mkF m pc Ls (.int n :: st)) rfl hd rfl hn hcap hb hc hl
  exact (k T' h' _ cA rfl X' e' E A).by stp
theorem fld_any {C O O' n n' d d' : String} {v : Value} {a : Addr} {kk : Nat} (E : Exa Z h a C) (F : Fld Z h a O n d v) (wi : (Cond.instantiable C kk).before a0 Z = true) (L : Laid Z a0 C O' n' d') : ∃ w, Fld Z h a O' n' d' w := by
  obtain ⟨cell, k, h1, h2, h3, h4, h5⟩ := E
  obtain ⟨cell', cf, k', i, f, g1, g2, g3, g4, g5, g6, g7⟩ := F
  cases h1.symm.trans g1
  obtain ⟨c1, k1, cf1, kf1, i1, f1, l1, l2, l3, l4, l5, l6, -⟩ := L.spec
  obtain ⟨c2, k2, j1, j2, j3, -⟩ := Cond.instantiable_spec wi
  cases h2.symm.trans l1
  cases h3.symm.trans l2
  cases l1.symm.trans j1
  cases h3.symm.trans j2
  have hsz := h5 j3
  obtain ⟨hlt, -⟩ := Array.getElem?_eq_some_iff.mp l6
  exact ⟨_, cell, cf1, kf1, i1, f1, g1, l3, l4, g4, g5, l5, Array.getElem?_eq_getElem (by rw [hsz]; exact hlt)⟩
/-- an array by a function of the place -/
def Av (Z : State) (h : Heap) (a : Addr) (ty : FieldType) (n : Nat) (f : Nat → Value) : Prop := ∃ cl : Cell, Arr Z h a cl ty ∧ cl.slots.size = n ∧ ∀ i, i < n → cl.slots[i]? = some (f i)
theorem Av.lt {a : Addr} {ty : FieldType} {n : Nat} {f : Nat → Value} (F : Av Z h a ty n f) : a < h.size := by obtain ⟨cl, A, -⟩ := F; exact A.lt
theorem Av.ext {h' : Heap} {a : Addr} {ty : FieldType} {n : Nat} {f : Nat → Value} (F : Av Z h a ty n f) (E : Ext h h') : Av Z h' a ty n f := by obtain ⟨cl, A, B⟩ := F; exact ⟨cl, A.ext E, B⟩
theorem Av.other {h' : Heap} {a b : Addr} {sl : Nat} {v : Value} {ty : FieldType} {n : Nat} {f : Nat → Value} (F : Av Z h b ty n f) (W : Wr h h' a sl v) (q : b ≠ a) : Av Z h' b ty n f := by obtain ⟨cl, A, B⟩ := F; exact ⟨cl, A.other W q, B⟩
theorem Av.keep {h' : Heap} {a : Addr} {ws : List Addr} {ty : FieldType} {n : Nat} {f : Nat → Value} (F : Av Z h a ty n f) (K : Keep h h' ws) (q : a ∉ ws) : Av Z h' a ty n f := by obtain ⟨cl, A, B⟩ := F; exact ⟨cl, ⟨K.2.1 a cl A.1 q, A.2⟩, B⟩
theorem Av.new {a : Addr} {cA : ClassId} {ty : FieldType} {n : Int32} (A : Arr Z h a (newA cA ty n) ty) : Av Z h a ty n.toNatClampNeg (fun _ => defaultValue ty) := ⟨_, A, sz_new _ _ _, fun i hi => by simp [newA, hi]⟩
theorem Av.newK {a : Addr} {cA : ClassId} {ty : FieldType} {n : Int32} {k : Nat} (A : Arr Z h a (newA cA ty n) ty) (hk : n.toNatClampNeg = k) : Av Z h a ty k (fun _ => defaultValue ty) := hk ▸ Av.new A
theorem Av.congr {a : Addr} {ty : FieldType} {n : Nat} {f f' : Nat → Value} (F : Av Z h a ty n f) (q : ∀ i, i < n → f i = f' i) : Av Z h a ty n f' := by obtain ⟨cl, A, B, C⟩ := F; exact ⟨cl, A, B, fun i hi => by rw [C i hi, q i hi]⟩
theorem Av.same {h' : Heap} {a : Addr} {i : Nat} {v : Value} {ty : FieldType} {n : Nat} {f : Nat → Value} (F : Av Z h a ty n f) (W : Wr h h' a i v) : Av Z h' a ty n (fun j => if j = i then v else f j) := by
  obtain ⟨cl, A, B, C⟩ := F
  refine ⟨_, A.same W, by rw [sz_set]; exact B, fun j hj => ?_⟩
  obtain ⟨cb, hb1, -, -, -, -, hb2, hb3⟩ := wr_at W A.1
  have e1 := (A.same W).1
  have e2 : cb = cl.setSlot i v := Option.some.inj (hb1.symm.trans e1)
  by_cases q : j = i
  · subst q; rw [← e2, (hb3 rfl).2.1]; simp
  · rw [← e2, hb2 j q, C j hj]; simp [q]
theorem out_idx {j : Int32} {n : Nat} (h0 : 0 ≤ j.toInt) (h1 : j.toInt < n) : ¬ (j < 0 ∨ n ≤ j.toNatClampNeg) := by
  have e : (j.toNatClampNeg : Int) = j.toInt := by rw [Int32.toNatClampNeg]; omega
  intro q
  rcases q with q | q
  · have := Int32.lt_iff_toInt_lt.mp q; simp at this; omega
  · omega
theorem g_iaload (X : Stand p l e R s m args below meth c T locs cells slots) (hx : p.tables.exec = Jvm.exec) (hZ : Z.Warmed39 s.vm) (eT : T.heap = h) {a : Addr} {n : Nat} {f : Nat → Value} (F : Av Z h a .int n f) {j : Int32} {i : Nat} {v : Value} (hj0 : 0 ≤ j.toInt) (hj1 : j.toInt < n) (hi : j.toNatClampNeg = i) (hv : f i = v) (hd : decode c.code pc = .ok (.iaload, 1)) (q : Go p e below P (T.setTop (mkF m (pc + 1) Ls (v :: st)))) : Go p e below P (T.setTop (mkF m pc Ls (.int j :: .ref a :: st))) := by
  obtain ⟨cl, A, B, C⟩ := F
  have hin := out_idx hj0 hj1
  subst hi hv
  exact q.by fun t r => X.iaload hx (by rw [eT]; exact A.1) (State.isArrayOf_alike hZ.alike A.2.1) A.2.2 (by rw [B]; exact hin) (C _ (by omega)) (g := mkF m pc Ls (.int j :: .ref a :: st)) rfl rfl hd t r
theorem g_laload (X : Stand p l e R s m args below meth c T locs cells slots) (hx : p.tables.exec = Jvm.exec) (hZ : Z.Warmed39 s.vm) (eT : T.heap = h) {a : Addr} {n : Nat} {f : Nat → Value} (F : Av Z h a .long n f) {j : Int32} {i : Nat} {v : Value} (hj0 : 0 ≤ j.toInt) (hj1 : j.toInt < n) (hi : j.toNatClampNeg = i) (hv : f i = v) (hd : decode c.code pc = .ok (.laload, 1)) (q : Go p e below P (T.setTop (mkF m (pc + 1) Ls (v :: st)))) : Go p e below P (T.setTop (mkF m pc Ls (.int j :: .ref a :: st))) := by
  obtain ⟨cl, A, B, C⟩ := F
  have hin := out_idx hj0 hj1
  subst hi hv
  exact q.by fun t r => X.laload hx (by rw [eT]; exact A.1) (State.isArrayOf_alike hZ.alike A.2.1) A.2.2 (by rw [B]; exact hin) (C _ (by omega)) (g := mkF m pc Ls (.int j :: .ref a :: st)) rfl rfl hd t r
theorem g_daload (X : Stand p l e R s m args below meth c T locs cells slots) (hx : p.tables.exec = Jvm.exec) (hZ : Z.Warmed39 s.vm) (eT : T.heap = h) {a : Addr} {n : Nat} {f : Nat → Value} (F : Av Z h a .double n f) {j : Int32} {i : Nat} {v : Value} (hj0 : 0 ≤ j.toInt) (hj1 : j.toInt < n) (hi : j.toNatClampNeg = i) (hv : f i = v) (hd : decode c.code pc = .ok (.daload, 1)) (q : Go p e below P (T.setTop (mkF m (pc + 1) Ls (v :: st)))) : Go p e below P (T.setTop (mkF m pc Ls (.int j :: .ref a :: st))) := by
  obtain ⟨cl, A, B, C⟩ := F
  have hin := out_idx hj0 hj1
  subst hi hv
  exact q.by fun t r => X.daload hx (by rw [eT]; exact A.1) (State.isArrayOf_alike hZ.alike A.2.1) A.2.2 (by rw [B]; exact hin) (C _ (by omega)) (g := mkF m pc Ls (.int j :: .ref a :: st)) rfl rfl hd t r
theorem g_caload (X : Stand p l e R s m args below meth c T locs cells slots) (hx : p.tables.exec = Jvm.exec) (hZ : Z.Warmed39 s.vm) (eT : T.heap = h) {a : Addr} {n : Nat} {f : Nat → Value} (F : Av Z h a .char n f) {j : Int32} {i : Nat} {v : Value} (hj0 : 0 ≤ j.toInt) (hj1 : j.toInt < n) (hi : j.toNatClampNeg = i) (hv : f i = v) (hd : decode c.code pc = .ok (.caload, 1)) (q : Go p e below P (T.setTop (mkF m (pc + 1) Ls (v :: st)))) : Go p e below P (T.setTop (mkF m pc Ls (.int j :: .ref a :: st))) := by
  obtain ⟨cl, A, B, C⟩ := F
  have hin := out_idx hj0 hj1
  subst hi hv
  exact q.by fun t r => X.caload hx (by rw [eT]; exact A.1) (State.isArrayOf_alike hZ.alike A.2.1) A.2.2 (by rw [B]; exact hin) (C _ (by omega)) (g := mkF m pc Ls (.int j :: .ref a :: st)) rfl rfl hd t r
theorem g_baloadB (X : Stand p l e R s m args below meth c T locs cells slots) (hx : p.tables.exec = Jvm.exec) (hZ : Z.Warmed39 s.vm) (eT : T.heap = h) {a : Addr} {n : Nat} {f : Nat → Value} (F : Av Z h a .byte n f) {j : Int32} {i : Nat} {v : Value} (hj0 : 0 ≤ j.toInt) (hj1 : j.toInt < n) (hi : j.toNatClampNeg = i) (hv : f i = v) (hd : decode c.code pc = .ok (.baload, 1)) (q : Go p e below P (T.setTop (mkF m (pc + 1) Ls (v :: st)))) : Go p e below P (T.setTop (mkF m pc Ls (.int j :: .ref a :: st))) := by
  obtain ⟨cl, A, B, C⟩ := F
  have hin := out_idx hj0 hj1
  subst hi hv
  exact q.by fun t r => X.baloadBytes hx (by rw [eT]; exact A.1) (State.isArrayOf_alike hZ.alike A.2.1) A.2.2 (by rw [B]; exact hin) (C _ (by omega)) (g := mkF m pc Ls (.int j :: .ref a :: st)) rfl rfl hd t r
theorem g_baloadZ (X : Stand p l e R s m args below meth c T locs cells slots) (hx : p.tables.exec = Jvm.exec) (hZ : Z.Warmed39 s.vm) (eT : T.heap = h) {a : Addr} {n : Nat} {f : Nat → Value} (F : Av Z h a .boolean n f) {j : Int32} {i : Nat} {v : Value} (hj0 : 0 ≤ j.toInt) (hj1 : j.toInt < n) (hi : j.toNatClampNeg = i) (hv : f i = v) (hd : decode c.code pc = .ok (.baload, 1)) (q : Go p e below P (T.setTop (mkF m (pc + 1) Ls (v :: st)))) : Go p e below P (T.setTop (mkF m pc Ls (.int j :: .ref a :: st))) := by
  obtain ⟨cl, A, B, C⟩ := F
  have hin := out_idx hj0 hj1
  subst hi hv
  exact q.by fun t r => X.baloadBooleans hx (by rw [eT]; exact A.1) (State.isArrayOf_alike hZ.alike A.2.1) A.2.2 (by rw [B]; exact hin) (C _ (by omega)) (g := mkF m pc Ls (.int j :: .ref a :: st)) rfl rfl hd t r
theorem g_iastore (X : Stand p l e R s m args below meth c T locs cells slots) (hx : p.tables.exec = Jvm.exec) (hZ : Z.Warmed39 s.vm) (eT : T.heap = h) {a : Addr} {n : Nat} {f : Nat → Value} (F : Av Z h a .int n f) {j : Int32} {i : Nat} {x : Int32} (hj0 : 0 ≤ j.toInt) (hj1 : j.toInt < n) (hi : j.toNatClampNeg = i) (hd : decode c.code pc = .ok (.iastore, 1))
    (k : ∀ T' h', Stand p l e R s m args below meth c T' (locs ++ [⟨a, i⟩]) cells slots → T'.heap = h' → Wr h h' a i (.int x) → Go p e below P (T'.setTop (mkF m (pc + 1) Ls st))) : Go p e below P (T.setTop (mkF m pc Ls (.int x :: .int j :: .ref a :: st))) := by
  obtain ⟨cl, A, B, C⟩ := F
  have hin := out_idx hj0 hj1
  subst hi
  obtain ⟨T', h', X', e', W, stp⟩ := stI X hx hZ eT A (x := x) (by rw [B]; exact hin) (g := mkF m pc Ls (.int x :: .int j :: .ref a :: st)) rfl rfl hd
  exact (k T' h' X' e' W).by stp
theorem g_lastore (X : Stand p l e R s m args below meth c T locs cells slots) (hx : p.tables.exec = Jvm.exec) (hZ : Z.Warmed39 s.vm) (eT : T.heap = h) {a : Addr} {n : Nat} {f : Nat → Value} (F : Av Z h a .long n f) {j : Int32} {i : Nat} {x : Int64} (hj0 : 0 ≤ j.toInt) (hj1 : j.toInt < n) (hi : j.toNatClampNeg = i) (hd : decode c.code pc = .ok (.lastore, 1))
    (k : ∀ T' h', Stand p l e R s m args below meth c T' (locs ++ [⟨a, i⟩]) cells slots → T'.heap = h' → Wr h h' a i (.long x) → Go p e below P (T'.setTop (mkF m (pc + 1) Ls st))) : Go p e below P (T.setTop (mkF m pc Ls (.long x :: .int j :: .ref a :: st))) := by
  obtain ⟨cl, A, B, C⟩ := F
  have hin := out_idx hj0 hj1
  subst hi
  obtain ⟨T', h', X', e', W, stp⟩ := stJ X hx hZ eT A (x := x) (by rw [B]; exact hin) (g := mkF m pc Ls (.long x :: .int j :: .ref a :: st)) rfl rfl hd
  exact (k T' h' X' e' W).by stp
theorem g_dastore (X : Stand p l e R s m args below meth c T locs cells slots) (hx : p.tables.exec = Jvm.exec) (hZ : Z.Warmed39 s.vm) (eT : T.heap = h) {a : Addr} {n : Nat} {f : Nat → Value} (F : Av Z h a .double n f) {j : Int32} {i : Nat} {x : UInt64} (hj0 : 0 ≤ j.toInt) (hj1 : j.toInt < n) (hi : j.toNatClampNeg = i) (hd : decode c.code pc = .ok (.dastore, 1))
    (k : ∀ T' h', Stand p l e R s m args below meth c T' (locs ++ [⟨a, i⟩]) cells slots → T'.heap = h' → Wr h h' a i (.double x) → Go p e below P (T'.setTop (mkF m (pc + 1) Ls st))) : Go p e below P (T.setTop (mkF m pc Ls (.double x :: .int j :: .ref a :: st))) := by
  obtain ⟨cl, A, B, C⟩ := F
  have hin := out_idx hj0 hj1
  subst hi
  obtain ⟨T', h', X', e', W, stp⟩ := stD X hx hZ eT A (x := x) (by rw [B]; exact hin) (g := mkF m pc Ls (.double x :: .int j :: .ref a :: st)) rfl rfl hd
  exact (k T' h' X' e' W).by stp
theorem g_castore (X : Stand p l e R s m args below meth c T locs cells slots) (hx : p.tables.exec = Jvm.exec) (hZ : Z.Warmed39 s.vm) (eT : T.heap = h) {a : Addr} {n : Nat} {f : Nat → Value} (F : Av Z h a .char n f) {j : Int32} {i : Nat} {x : Int32} (hj0 : 0 ≤ j.toInt) (hj1 : j.toInt < n) (hi : j.toNatClampNeg = i) (hd : decode c.code pc = .ok (.castore, 1))
    (k : ∀ T' h', Stand p l e R s m args below meth c T' (locs ++ [⟨a, i⟩]) cells slots → T'.heap = h' → Wr h h' a i (.int (nar .char x)) → Go p e below P (T'.setTop (mkF m (pc + 1) Ls st))) : Go p e below P (T.setTop (mkF m pc Ls (.int x :: .int j :: .ref a :: st))) := by
  obtain ⟨cl, A, B, C⟩ := F
  have hin := out_idx hj0 hj1
  subst hi
  obtain ⟨T', h', X', e', W, stp⟩ := stC X hx hZ eT A (x := x) (by rw [B]; exact hin) (g := mkF m pc Ls (.int x :: .int j :: .ref a :: st)) rfl rfl hd
  exact (k T' h' X' e' W).by stp
theorem g_bastoreB (X : Stand p l e R s m args below meth c T locs cells slots) (hx : p.tables.exec = Jvm.exec) (hZ : Z.Warmed39 s.vm) (eT : T.heap = h) {a : Addr} {n : Nat} {f : Nat → Value} (F : Av Z h a .byte n f) {j : Int32} {i : Nat} {x : Int32} (hj0 : 0 ≤ j.toInt) (hj1 : j.toInt < n) (hi : j.toNatClampNeg = i) (hd : decode c.code pc = .ok (.bastore, 1))
    (k : ∀ T' h', Stand p l e R s m args below meth c T' (locs ++ [⟨a, i⟩]) cells slots → T'.heap = h' → Wr h h' a i (.int (nar .byte x)) → Go p e below P (T'.setTop (mkF m (pc + 1) Ls st))) : Go p e below P (T.setTop (mkF m pc Ls (.int x :: .int j :: .ref a :: st))) := by
  obtain ⟨cl, A, B, C⟩ := F
  have hin := out_idx hj0 hj1
  subst hi
  obtain ⟨T', h', X', e', W, stp⟩ := stB X hx hZ eT A (x := x) (by rw [B]; exact hin) (g := mkF m pc Ls (.int x :: .int j :: .ref a :: st)) rfl rfl hd
  exact (k T' h' X' e' W).by stp
theorem g_bastoreZ (X : Stand p l e R s m args below meth c T locs cells slots) (hx : p.tables.exec = Jvm.exec) (hZ : Z.Warmed39 s.vm) (eT : T.heap = h) {a : Addr} {n : Nat} {f : Nat → Value} (F : Av Z h a .boolean n f) {j : Int32} {i : Nat} {x : Int32} (hj0 : 0 ≤ j.toInt) (hj1 : j.toInt < n) (hi : j.toNatClampNeg = i) (hd : decode c.code pc = .ok (.bastore, 1))
    (k : ∀ T' h', Stand p l e R s m args below meth c T' (locs ++ [⟨a, i⟩]) cells slots → T'.heap = h' → Wr h h' a i (.int (nar .boolean x)) → Go p e below P (T'.setTop (mkF m (pc + 1) Ls st))) : Go p e below P (T.setTop (mkF m pc Ls (.int x :: .int j :: .ref a :: st))) := by
  obtain ⟨cl, A, B, C⟩ := F
  have hin := out_idx hj0 hj1
  subst hi
  obtain ⟨T', h', X', e', W, stp⟩ := stZ X hx hZ eT A (x := x) (by rw [B]; exact hin) (g := mkF m pc Ls (.int x :: .int j :: .ref a :: st)) rfl rfl hd
  exact (k T' h' X' e' W).by stp
theorem g_arraylength (X : Stand p l e R s m args below meth c T locs cells slots) (hx : p.tables.exec = Jvm.exec) (hZ : Z.Warmed39 s.vm) (eT : T.heap = h) {a : Addr} {ty : FieldType} {n : Nat} {f : Nat → Value} (F : Av Z h a ty n f) {v : Int32} (hv : n.toInt32 = v) (hd : decode c.code pc = .ok (.arraylength, 1)) (q : Go p e below P (T.setTop (mkF m (pc + 1) Ls (.int v :: st)))) : Go p e below P (T.setTop (mkF m pc Ls (.ref a :: st))) := by
  obtain ⟨cl, A, B, C⟩ := F
  subst hv B
  exact q.by fun t r => X.arraylength hx (by rw [eT]; exact A.1) (State.isArrayOf_alike hZ.alike A.2.1) (g := mkF m pc Ls (.ref a :: st)) rfl rfl hd t r
theorem g_newRA (X : Stand p l e R s m args below meth c T locs cells slots) (hx : p.tables.exec = Jvm.exec) (hZ : Z.Warmed39 s.vm) (hown : s.vm.findClass own = some m.cls) {C : String} {ty : FieldType} (hC : (FieldType.array ty).toString = C) (w1 : (Cond.classLink own index C).before a0 Z = true) (w2 : (Cond.arrayOver (.array ty)).before a0 Z = true) (eT : T.heap = h) (hd : decode c.code pc = .ok (.anewarray index, 3)) {n : Int32} (hn : ¬ n < 0) {cap : Nat} (hcap : n.toNatClampNeg ≤ cap) (hb : cap * 8 ≤ 536870912) (hc : cells + 1 ≤ R.cells) (hl : slots + cap ≤ R.slots) {ad : String} (had : "[" ++ C = ad)
    (k : ∀ T' h' a cA, a = h.size → Stand p l e R s m args below meth c T' locs (cells + 1) (slots + cap) → T'.heap = h' → Ext h h' → Arr Z h' a (newA cA (.array ty) n) (.array ty) → Exa Z h' a ad → OvrA Z cA ty C → Go p e below P (T'.setTop (mkF m (pc + 3) Ls (.ref a :: st)))) : Go p e below P (T.setTop (mkF m pc Ls (.int n :: st))) := by
  obtain ⟨T', h', cA, X', e', E, A, EX, O, stp⟩ := newRA X hx hZ hown hC w1 w2 eT (g := mkF m pc Ls (.int n :: st)) rfl hd rfl hn hcap hb hc hl had
  exact (k T' h' _ cA rfl X' e' E A EX O).by stp
theorem g_newPE (X : Stand p l e R s m args below meth c T locs cells slots) (hx : p.tables.exec = Jvm.exec) (hZ : Z.Warmed39 s.vm) {aty : ArrayType} {ty : FieldType} (hty : newarray.typeOf aty = ty) (w : (Cond.arrayClass ty).before a0 Z = true) (eT : T.heap = h) (hd : decode c.code pc = .ok (.newarray aty, 2)) {n : Int32} (hn : ¬ n < 0) {cap : Nat} (hcap : n.toNatClampNeg ≤ cap) (hb : cap * 8 ≤ 536870912) (hc : cells + 1 ≤ R.cells) (hl : slots + cap ≤ R.slots) {ad : String} (had : "[" ++ ty.toString = ad)
    (k : ∀ T' h' a cA, a = h.size → Stand p l e R s m args below meth c T' locs (cells + 1) (slots + cap) → T'.heap = h' → Ext h h' → Arr Z h' a (newA cA ty n) ty → Exa Z h' a ad → Go p e below P (T'.setTop (mkF m (pc + 2) Ls (.ref a :: st)))) : Go p e below P (T.setTop (mkF m pc Ls (.int n :: st))) := by
  subst hty
  obtain ⟨T', h', cA, X', e', E, A, EX, stp⟩ := newPE X hx hZ w eT (g := mkF m pc Ls (.int n :: st)) rfl hd rfl hn hcap hb hc hl had
  exact (k T' h' _ cA rfl X' e' E A EX).by stp
theorem g_aaload (X : Stand p l e R s m args below meth c T locs cells slots) (hx : p.tables.exec = Jvm.exec) (hZ : Z.Warmed39 s.vm) (eT : T.heap = h) {a : Addr} {ty : FieldType} {n : Nat} {f : Nat → Value} (F : Av Z h a ty n f) (hty : ty.isReference = true) {j : Int32} {i : Nat} {v : Value} (hj0 : 0 ≤ j.toInt) (hj1 : j.toInt < n) (hi : j.toNatClampNeg = i) (hv : f i = v) (hd : decode c.code pc = .ok (.aaload, 1)) (q : Go p e below P (T.setTop (mkF m (pc + 1) Ls (v :: st)))) : Go p e below P (T.setTop (mkF m pc Ls (.int j :: .ref a :: st))) := by
  obtain ⟨cl, A, B, C⟩ := F
  have hin := out_idx hj0 hj1
  subst hi hv
  exact q.by fun t r => X.aaload hx (by rw [eT]; exact A.1) (State.isArrayOf_alike hZ.alike A.2.1) hty A.2.2 (by rw [B]; exact hin) (C _ (by omega)) (g := mkF m pc Ls (.int j :: .ref a :: st)) rfl rfl hd t r
theorem g_aastore (X : Stand p l e R s m args below meth c T locs cells slots) (hx : p.tables.exec = Jvm.exec) (hZ : Z.Warmed39 s.vm) (eT : T.heap = h) {a : Addr} {ty : FieldType} {n : Nat} {f : Nat → Value} (F : Av Z h a ty n f) (hty : ty.isReference = true) {v : Value} (S : Sto Z h a v) {j : Int32} {i : Nat} (hj0 : 0 ≤ j.toInt) (hj1 : j.toInt < n) (hi : j.toNatClampNeg = i) (hd : decode c.code pc = .ok (.aastore, 1))
    (k : ∀ T' h', Stand p l e R s m args below meth c T' (locs ++ [⟨a, i⟩]) cells slots → T'.heap = h' → Wr h h' a i v → Go p e below P (T'.setTop (mkF m (pc + 1) Ls st))) : Go p e below P (T.setTop (mkF m pc Ls (v :: .int j :: .ref a :: st))) := by
  obtain ⟨cl, A, B, C⟩ := F
  have hin := out_idx hj0 hj1
  subst hi
  obtain ⟨T', h', X', e', W, stp⟩ := stR X hx hZ eT A (by rw [B]; exact hin) hty S (g := mkF m pc Ls (v :: .int j :: .ref a :: st)) rfl rfl hd
  exact (k T' h' X' e' W).by stp
theorem Av.some {h' : Heap} {a b : Addr} {sl : Nat} {v : Value} {ty : FieldType} {n : Nat} {f : Nat → Value} (F : Av Z h b ty n f) (W : Wr h h' a sl v) : ∃ g, Av Z h' b ty n g := by
  by_cases q : b = a
  · subst q; exact ⟨_, F.same W⟩
  · exact ⟨_, F.other W q⟩
theorem g_dup_x1 (X : Stand p l e R s m args below meth c T locs cells slots) (hx : p.tables.exec = Jvm.exec) {x y : Value} (hd : decode c.code pc = .ok (.dup_x1, 1)) (hc : x.category = 1) (hc2 : y.category = 1) (q : Go p e below P (T.setTop (mkF m (pc + 1) Ls (x :: y :: x :: st)))) : Go p e below P (T.setTop (mkF m pc Ls (x :: y :: st))) := q.by fun t r => XS.dupX1 X.here hx rfl hd rfl hc hc2 r
theorem g_acmp (X : Stand p l e R s m args below meth c T locs cells slots) (hx : p.tables.exec = Jvm.exec) {cd : ACond} {o : Int} {x y : Value} {same : Bool} {pc' : Nat} (hd : decode c.code pc = .ok (.if_acmp cd o, 3)) (h1 : x.isRef = true) (h2 : y.isRef = true) (hq : decide (x = y) = same) (ho : 0 ≤ (pc : Int) + o) (hp : pc' = if acV cd same = true then ((pc : Int) + o).toNat else pc + 3) (q : Go p e below P (T.setTop (mkF m pc' Ls st))) : Go p e below P (T.setTop (mkF m pc Ls (y :: x :: st))) := q.by fun t r => Jvm.RoadKit.acmp X hx rfl h1 h2 rfl hd rfl hq ho hp r
theorem g_instY (X : Stand p l e R s m args below meth c T locs cells slots) (hx : p.tables.exec = Jvm.exec) (hZ : Z.Warmed39 s.vm) (hown : s.vm.findClass own = some m.cls) {K : String} (w : (Cond.classLink own index K).before a0 Z = true) (eT : T.heap = h) {a : Addr} (F : Ins Z h a K true) (hd : decode c.code pc = .ok (.instanceof index, 3))
    (k : ∀ T', Stand p l e R s m args below meth c T' locs cells slots → T'.heap = h → Go p e below P (T'.setTop (mkF m (pc + 3) Ls (.int 1 :: st)))) : Go p e below P (T.setTop (mkF m pc Ls (.ref a :: st))) := by
  obtain ⟨T', X', e', stp⟩ := instY X hx hZ hown w eT F (g := mkF m pc Ls (.ref a :: st)) rfl rfl hd
  exact (k T' X' e').by stp
theorem g_callI (X : Stand p l e R s m args below meth c T locs cells slots) (hx : p.tables.exec = Jvm.exec) (hZ : Z.Warmed39 s.vm) (hown : s.vm.findClass own = some m.cls) {xi y : MethodName} {bytes : ByteArray} {maxL cnt : Nat} {ret : Option FieldType} {C : String} (w1 : (Cond.methodLink own index xi).before a0 Z = true) (w2 : (Cond.declares xi).before a0 Z = true) (w7 : (Cond.interfaceMethod xi.cls xi.cls xi.name xi.desc).before a0 Z = true) (w5 : (Cond.selects C xi y).before a0 Z = true) (w6 : (Cond.instanceMethod y).before a0 Z = true) (w8 : (Cond.publicMethod y).before a0 Z = true) (w9 : (Cond.unhidden C xi.name xi.desc).before a0 Z = true) (wc : (Cond.castable C xi.cls).before a0 Z = true) (w3 : (Cond.initialized y.cls).before a0 Z = true) (w4 : (Cond.code y bytes maxL ret).before a0 Z = true) (hy : xi.cls ≠ "java/lang/invoke/MethodHandle" ∧ xi.cls ≠ "java/lang/invoke/VarHandle") {rm : Room} {as' : Array Value} {Q : Option Value → Heap → List Loc → Prop} (hM : MetFree l y (head1 [Cond.code y bytes maxL ret] rm) (fun a U => a = as' ∧ Z.Warmed39 U.vm ∧ U.heap = h) (fun _ _ _ _ _ => True) (fun _ U o U' => ∃ v L, o = .returned v ∧ Q v U'.heap L ∧ FrameEnd U o U' L rm.cells rm.slots)) (eT : T.heap = h) {W : Nat} (hf : rm.frames + 1 ≤ R.frames) (hlo : W + (maxL + 11) + rm.locals ≤ R.locals) (hsize : Ls.size = c.maxLocals) (a : Addr) (E : Exa Z h a C) (argsL rest : List Value) (hlen : ∀ sig, parseMethodDescriptor xi.desc = some sig → argsL.length = sig.parameters.length) (hst : st = argsL.reverse ++ .ref a :: rest) (has : (.ref a :: argsL).toArray = as') (hW : (rest.map fun v => v.category).sum ≤ W) (hd : decode c.code pc = .ok (.invokeinterface index cnt, 5)) (hc : cells + rm.cells ≤ R.cells) (hs : slots + rm.slots ≤ R.slots) (k : ∀ (v : Option Value) (T' : State) (L : List Loc), Stand p l e R s m args below meth c T' (locs ++ L) (cells + rm.cells) (slots + rm.slots) → Q v T'.heap L → Go p e below P (T'.setTop (mkF m (pc + 5) Ls (v.toList ++ rest)))) : Go p e below P (T.setTop (mkF m pc Ls st)) := by
  obtain ⟨cq, kq, qa, qb, qc⟩ := isOf hZ eT E
  obtain ⟨v, vm1, ⟨T', L', k', n'⟩, -, X', ⟨L, hQ, l1, y1, z1⟩, stp⟩ := X.interfaceBack hx (xi := xi) (y := y) hown (mvT hZ w1) (mvT hZ w2) (mvT hZ w7 (by simp [Cond.onTables, Cond.keepsFace, Cond.keeps, Cond.faceAtom, hy.1, hy.2])) (mvT hZ w5) (mvT hZ w6) (mvT hZ w8) (mvT hZ w9) (mvT hZ wc) hy (backOf (W := W) hM hZ w4 w3 hf hlo) qa qb qc (g := mkF m pc Ls st) rfl hsize (Steps.refl _) hlen hst (by show 2 * 0 + _ ≤ _; omega) hd (fun _ _ => ⟨has, eT, hc, hs⟩)
  dsimp only [Pt.U, Pt.locs, Pt.cells, Pt.slots] at X' l1 y1 z1 stp hQ
  subst l1 y1 z1
  exact (k v T' L X' hQ).by fun t r => stp.trans r
def RetW (s : State) (Q : Option Value → Heap → List Loc → Prop) (C N : Nat) (s₂ : State) (o : Outcome) : Prop := ∃ v L, o = .returned v ∧ Q v s₂.heap L ∧ ReturnedEndW s o s₂ L C N
theorem gW_ireturn {Q : Option Value → Heap → List Loc → Prop} {C N : Nat} {vm0 : Vm} (X : Stand p l e R (s.setVm vm0) m args below meth c T locs cells slots) (hx : p.tables.exec = Jvm.exec) {k0 : Nat} (hS : s.Since vm0 k0) (eT : T.heap = h) (hk : k0 ≤ h.size) (hlk : meth.locks = false) {w : Int32} {t : FieldType} (hret : meth.sig.returnType = some t) (hn : narrow t (.int w) = .int w) (hti : t = .int ∨ t = .boolean ∨ t = .byte ∨ t = .char ∨ t = .short) (hd : decode c.code pc = .ok (.ireturn, 1)) (hC : cells ≤ C) (hN : slots ≤ N) (hq : Q (some (.int w)) T.heap locs) : Go p e below (RetW s Q C N) (T.setTop (mkF m pc Ls [.int w])) := by
  obtain ⟨fs, hr, hrun, hended, h1, h2, h3, h4⟩ := X.leaveW hS (by rw [eT]; exact hk) (v := some (.int w)) (fun q => by rw [hret] at q; cases q) hlk
  exact ⟨_, _, X.ireturnOut hx hret hn hti hd hr, hrun, hended, _, _, rfl, hq, h1, h2, h3, h4.mono hC hN⟩
theorem g_ldcS {vm0 : Vm} (X : Stand p l e R (s.setVm vm0) m args below meth c T locs cells slots) (hx : p.tables.exec = Jvm.exec) (hZ : Z.Warmed39 (s.setVm vm0).vm) (hown : (s.setVm vm0).vm.findClass own = some m.cls) {text : String} (w : (Cond.stringLink own index text).before a0 Z = true) (wS : ∀ a ∈ Bundle.stringAtoms, a.before a0 Z = true) (eT : T.heap = h) {k0 : Nat} (hS : s.Since vm0 k0) (hk : k0 ≤ h.size) (hd : decode c.code pc = .ok (.ldc index, 2)) {n : Nat} (hn : 4 * text.toList.length ≤ n) (hbig : n ≤ 536870912) (hc : cells + 2 ≤ R.cells) (hl : slots + (n + 4) ≤ R.slots)
    (k : ∀ (a : Addr) (T' : State) (h' : Heap) (k1 : Nat), Stand p l e R (s.setVm T'.vm) m args below meth c T' locs (cells + 2) (slots + (n + 4)) → T'.heap = h' → Ext h h' → s.Since T'.vm k1 → k1 ≤ h'.size → Z.Warmed39 (s.setVm T'.vm).vm → (s.setVm T'.vm).vm.findClass own = some m.cls → Go p e below P (T'.setTop (mkF m (pc + 2) Ls (.ref a :: st)))) : Go p e below P (T.setTop (mkF m pc Ls st)) := by
  obtain ⟨a, T', h', k1, X', e', E, S', hk', hZ', hown', stp⟩ := ldcS X hx hZ hown w wS eT hS hk (g := mkF m pc Ls st) rfl hd hn hbig hc hl
  exact (k a T' h' k1 X' e' E S' hk' hZ' hown').by stp
theorem cv_g_lt (r : Option Ordering) : cmpValue r .g < 0 ↔ r = some .lt := by rcases r with _ | (_ | _ | _) <;> decide
theorem cv_g_gt (r : Option Ordering) : 0 < cmpValue r .g ↔ (r = some .gt ∨ r = none) := by rcases r with _ | (_ | _ | _) <;> decide
theorem cv_l_lt (r : Option Ordering) : cmpValue r .l < 0 ↔ (r = some .lt ∨ r = none) := by rcases r with _ | (_ | _ | _) <;> decide
theorem cv_l_gt (r : Option Ordering) : 0 < cmpValue r .l ↔ r = some .gt := by rcases r with _ | (_ | _ | _) <;> decide
theorem cv_g_eq (r : Option Ordering) : cmpValue r .g = 0 ↔ r = some .eq := by rcases r with _ | (_ | _ | _) <;> decide
theorem cv_l_eq (r : Option Ordering) : cmpValue r .l = 0 ↔ r = some .eq := by rcases r with _ | (_ | _ | _) <;> decide
end OwnKit
theorem do_0 : decode jdk_72_method_26_code 0 = .ok (.getstatic 81, 3) := by decide +kernel
theorem do_3 : decode jdk_72_method_26_code 3 = .ok (.areturn, 1) := by decide +kernel
theorem pno : plainName "java/util/Map" = true := by first | (simp [plainName, overriddenIn]; done) | decide +kernel
theorem efo (m : MethodId)  : entryFrame m #[] 0 = mkF m 0 #[] [] := by first | (simp [entryFrame, mkF, argsToLocals, Value.category]; done) | rfl
def Qo (Z : State)  (em : Addr) (h0 : Heap) (n0 : Nat) (v : Option Value) (h : Heap) (L : List Loc) : Prop := v = some (.ref em) ∧ Fr n0 L ∧ h = h0
set_option maxRecDepth 65536 in
set_option maxHeartbeats 40000000 in
theorem rmo (l : Launch) (Z : State) (a0 : Array Value) (hw : ∀ d ∈ tables_1, d.before a0 Z = true) (ws : List Jvm.Cond)  (em : Addr) (h0 : Heap) (n0 : Nat) (Z0 : n0 ≤ h0.size) (S0 : Sta Z h0 "java/util/ImmutableCollections" "EMPTY_MAP" "Ljava/util/ImmutableCollections$MapN;" (.ref em)) :
    MetFree l (⟨"java/util/Map", "of", "()Ljava/util/Map;"⟩ : MethodName) (head1 (Jvm.Cond.code (⟨"java/util/Map", "of", "()Ljava/util/Map;"⟩ : MethodName) jdk_72_method_26_code 0 (Option.some (Jvm.ClassFile.FieldType.object "java/util/Map")) :: ws) ({ frames := 0, cells := 0, slots := 0, locals := 0 } : Room)) (fun a U => a = #[] ∧ Z.Warmed39 U.vm ∧ U.heap = h0) (fun _ _ _ _ _ => True) (fun _ U o U' => ∃ v L, o = .returned v ∧ Qo Z  em h0 n0 v U'.heap L ∧ FrameEnd U o U' L ({ frames := 0, cells := 0, slots := 0, locals := 0 } : Room).cells ({ frames := 0, cells := 0, slots := 0, locals := 0 } : Room).slots) := by
  refine MetFree.of_bodySF (plainFor_of_name pno) hisR ?_
  intro p e s m args below meth c s₁ Bd hml0 hP hK
  obtain ⟨rfl, hZ, hh⟩ := hP
  have hx := Bd.exec
  have hby := Bd.bytes
  have hml : c.maxLocals = 0 := hml0
  have hown : s.vm.findClass "java/util/Map" = some m.cls := findClass_of_methodNamed Bd.named
  have hnm := (name_of_methodNamed Bd.named Bd.method).1
  have X0 : Stand p l e ({ frames := 0, cells := 0, slots := 0, locals := 0 } : Room) s m #[] below meth c s₁ [] 0 0 := Stand.of_body Bd
  have e0 : s₁.heap = h0 := by rw [← hh, Bd.state]; rfl
  have N0 := Fr.nil n0
  show Go p e below (Ret s (Qo Z  em h0 n0) ({ frames := 0, cells := 0, slots := 0, locals := 0 } : Room).cells ({ frames := 0, cells := 0, slots := 0, locals := 0 } : Room).slots) (s₁.setTop (entryFrame m #[] 0))
  rw [efo m ]
  refine g_getS X0 hx hZ hown (hw _ (List.mem_of_getElem? (i := 15) rfl)) e0 S0 (hb hby do_0) ?_
  intro T1 X2 e3
  refine g_areturn X2 hx Bd.notSynchronized Bd.returns rfl rfl (hb hby do_3) (by decide) (by decide) ?_
  exact ⟨rfl, N0, e3⟩
theorem dm_0 : decode jdk_71_method_1_code 0 = .ok (.aload_n 0, 1) := by decide +kernel
theorem dm_1 : decode jdk_71_method_1_code 1 = .ok (.invokespecial 1, 3) := by decide +kernel
theorem dm_4 : decode jdk_71_method_1_code 4 = .ok (.return_, 1) := by decide +kernel
theorem pnm : plainName "java/util/AbstractMap" = true := by first | (simp [plainName, overriddenIn]; done) | decide +kernel
theorem efm (m : MethodId) (z0 : Addr) : entryFrame m #[(.ref z0)] 1 = mkF m 0 #[.val (.ref z0)] [] := by first | (simp [entryFrame, mkF, argsToLocals, Value.category]; done) | rfl
def Qm (Z : State) (q1 : Addr) (h0 : Heap) (n0 : Nat) (v : Option Value) (h : Heap) (L : List Loc) : Prop := v = none ∧ Fr n0 L ∧ h = h0
set_option maxRecDepth 65536 in
set_option maxHeartbeats 40000000 in
theorem rmm (l : Launch) (Z : State) (a0 : Array Value) (hw : ∀ d ∈ tables_1, d.before a0 Z = true) (ws : List Jvm.Cond) (q1 : Addr) (h0 : Heap) (n0 : Nat) (Z0 : n0 ≤ h0.size)  :
    MetFree l (⟨"java/util/AbstractMap", "<init>", "()V"⟩ : MethodName) (head1 (Jvm.Cond.code (⟨"java/util/AbstractMap", "<init>", "()V"⟩ : MethodName) jdk_71_method_1_code 1 (Option.none : Option Jvm.ClassFile.FieldType) :: ws) ({ frames := 1, cells := 0, slots := 0, locals := 12 } : Room)) (fun a U => a = #[(.ref q1)] ∧ Z.Warmed39 U.vm ∧ U.heap = h0) (fun _ _ _ _ _ => True) (fun _ U o U' => ∃ v L, o = .returned v ∧ Qm Z q1 h0 n0 v U'.heap L ∧ FrameEnd U o U' L ({ frames := 1, cells := 0, slots := 0, locals := 12 } : Room).cells ({ frames := 1, cells := 0, slots := 0, locals := 12 } : Room).slots) := by
  refine MetFree.of_bodySF (plainFor_of_name pnm) hisR ?_
  intro p e s m args below meth c s₁ Bd hml0 hP hK
  obtain ⟨rfl, hZ, hh⟩ := hP
  have hx := Bd.exec
  have hby := Bd.bytes
  have hml : c.maxLocals = 1 := hml0
  have hown : s.vm.findClass "java/util/AbstractMap" = some m.cls := findClass_of_methodNamed Bd.named
  have hnm := (name_of_methodNamed Bd.named Bd.method).1
  have X0 : Stand p l e ({ frames := 1, cells := 0, slots := 0, locals := 12 } : Room) s m #[(.ref q1)] below meth c s₁ [] 0 0 := Stand.of_body Bd
  have e0 : s₁.heap = h0 := by rw [← hh, Bd.state]; rfl
  have N0 := Fr.nil n0
  show Go p e below (Ret s (Qm Z q1 h0 n0) ({ frames := 1, cells := 0, slots := 0, locals := 12 } : Room).cells ({ frames := 1, cells := 0, slots := 0, locals := 12 } : Room).slots) (s₁.setTop (entryFrame m #[(.ref q1)] 1))
  rw [efm m q1]
  refine g_aloadN X0 hx (hb hby dm_0) rfl rfl ?_
  refine g_objInit X0 hx hZ hown (hw _ (List.mem_of_getElem? (i := 31) rfl)) (hw _ (List.mem_of_getElem? (i := 7) rfl)) (hw _ (List.mem_of_getElem? (i := 8) rfl)) e0 (by rw [hml]; rfl) (hb hby dm_1) (by decide) (W := 0) (Nat.le_of_eq rfl) (by decide) ?_
  intro T1 X2 e3
  refine g_return X2 hx Bd.notSynchronized Bd.returns (hb hby dm_4) (by decide) (by decide) ?_
  exact ⟨rfl, N0, e3⟩
theorem dh_0 : decode jdk_69_method_7_code 0 = .ok (.aload_n 0, 1) := by decide +kernel
theorem dh_1 : decode jdk_69_method_7_code 1 = .ok (.invokespecial 43, 3) := by decide +kernel
theorem dh_4 : decode jdk_69_method_7_code 4 = .ok (.aload_n 0, 1) := by decide +kernel
theorem dh_5 : decode jdk_69_method_7_code 5 = .ok (.ldc 92, 2) := by decide +kernel
theorem dh_7 : decode jdk_69_method_7_code 7 = .ok (.putfield 81, 3) := by decide +kernel
theorem dh_10 : decode jdk_69_method_7_code 10 = .ok (.return_, 1) := by decide +kernel
theorem pnh : plainName "java/util/HashMap" = true := by first | (simp [plainName, overriddenIn]; done) | decide +kernel
theorem pdh_0 : parseMethodDescriptor "()V" = some ⟨[], none⟩ := by decide +kernel
theorem efh (m : MethodId) (z0 : Addr) : entryFrame m #[(.ref z0)] 1 = mkF m 0 #[.val (.ref z0)] [] := by first | (simp [entryFrame, mkF, argsToLocals, Value.category]; done) | rfl
def Qh (Z : State) (q1 : Addr) (h0 : Heap) (n0 : Nat) (v : Option Value) (h : Heap) (L : List Loc) : Prop := v = none ∧ Fr n0 L ∧ Keep h0 h [q1]
set_option maxRecDepth 65536 in
set_option maxHeartbeats 40000000 in
theorem rmh (l : Launch) (Z : State) (a0 : Array Value) (hw : ∀ d ∈ tables_1, d.before a0 Z = true) (ws : List Jvm.Cond) (q1 : Addr) (h0 : Heap) (n0 : Nat) (Z0 : n0 ≤ h0.size) (E0 : Exa Z h0 q1 "java/util/HashMap") (F0 : Fld Z h0 q1 "java/util/HashMap" "loadFactor" "F" (.float 0)) (g1 : n0 ≤ q1) :
    MetFree l (⟨"java/util/HashMap", "<init>", "()V"⟩ : MethodName) (head1 (Jvm.Cond.code (⟨"java/util/HashMap", "<init>", "()V"⟩ : MethodName) jdk_69_method_7_code 1 (Option.none : Option Jvm.ClassFile.FieldType) :: ws) ({ frames := 2, cells := 0, slots := 0, locals := 24 } : Room)) (fun a U => a = #[(.ref q1)] ∧ Z.Warmed39 U.vm ∧ U.heap = h0) (fun _ _ _ _ _ => True) (fun _ U o U' => ∃ v L, o = .returned v ∧ Qh Z q1 h0 n0 v U'.heap L ∧ FrameEnd U o U' L ({ frames := 2, cells := 0, slots := 0, locals := 24 } : Room).cells ({ frames := 2, cells := 0, slots := 0, locals := 24 } : Room).slots) := by
  refine MetFree.of_bodySF (plainFor_of_name pnh) hisR ?_
  intro p e s m args below meth c s₁ Bd hml0 hP hK
  obtain ⟨rfl, hZ, hh⟩ := hP
  have hx := Bd.exec
  have hby := Bd.bytes
  have hml : c.maxLocals = 1 := hml0
  have hown : s.vm.findClass "java/util/HashMap" = some m.cls := findClass_of_methodNamed Bd.named
  have hnm := (name_of_methodNamed Bd.named Bd.method).1
  have X0 : Stand p l e ({ frames := 2, cells := 0, slots := 0, locals := 24 } : Room) s m #[(.ref q1)] below meth c s₁ [] 0 0 := Stand.of_body Bd
  have e0 : s₁.heap = h0 := by rw [← hh, Bd.state]; rfl
  have N0 := Fr.nil n0
  show Go p e below (Ret s (Qh Z q1 h0 n0) ({ frames := 2, cells := 0, slots := 0, locals := 24 } : Room).cells ({ frames := 2, cells := 0, slots := 0, locals := 24 } : Room).slots) (s₁.setTop (entryFrame m #[(.ref q1)] 1))
  rw [efh m q1]
  have K0 : Keep h0 h0 [q1] := Keep.refl _ _
  refine g_aloadN X0 hx (hb hby dh_0) rfl rfl ?_
  refine g_init X0 hx hZ hown rfl (hw _ (List.mem_of_getElem? (i := 25) rfl)) (hw _ (List.mem_of_getElem? (i := 26) rfl)) (hw _ (List.mem_of_getElem? (i := 29) rfl)) (hw _ (List.mem_of_getElem? (i := 30) rfl)) (by decide) (rmm l Z a0 hw [] q1 h0 n0 Z0) e0 (W := 0) (by decide) (by decide) (by rw [hml]; rfl) q1 [] [] (lenOf pdh_0 rfl) rfl rfl (Nat.le_of_eq rfl) (hb hby dh_1) (by decide) (by decide) ?_
  intro v5 T1 L4 X2 hQ3
  obtain ⟨rfl, N6, e7⟩ := hQ3
  have N8 := Fr.app N0 N6
  show Go p e below (Ret s (Qh Z q1 h0 n0) ({ frames := 2, cells := 0, slots := 0, locals := 24 } : Room).cells ({ frames := 2, cells := 0, slots := 0, locals := 24 } : Room).slots) (T1.setTop (mkF m 4 #[.val (.ref q1)] []))
  refine g_aloadN X2 hx (hb hby dh_4) rfl rfl ?_
  refine g_ldcF X2 hx hZ hown (hw _ (List.mem_of_getElem? (i := 32) rfl)) (hb hby dh_5) ?_
  refine g_putF X2 hx hZ hown (hw _ (List.mem_of_getElem? (i := 33) rfl)) e7 F0 E0 (Or.inr ⟨(hw _ (List.mem_of_getElem? (i := 34) rfl)), rfl, hnm⟩) (hw _ (List.mem_of_getElem? (i := 20) rfl)) (ty := .float) (by decide) rfl rfl (hb hby dh_7) ?_
  intro T9 h12 X10 e11 W13
  have F15 := E0.wr W13
  have F16 := F0.same W13
  have Z17 : n0 ≤ h12.size := by rw [W13.size]; exact Z0
  have K18 := Keep.wr K0 W13 (Or.inl (List.mem_singleton.mpr rfl))
  have N19 := Fr.snoc X10 N8 g1
  refine g_return X10 hx Bd.notSynchronized Bd.returns (hb hby dh_10) (by decide) (by decide) ?_
  rw [e11]
  exact ⟨rfl, N19, K18⟩
theorem dz_0 : decode jdk_2605_method_6_code 0 = .ok (.aload_n 0, 1) := by decide +kernel
theorem dz_1 : decode jdk_2605_method_6_code 1 = .ok (.getfield 16, 3) := by decide +kernel
theorem dz_4 : decode jdk_2605_method_6_code 4 = .ok (.ireturn, 1) := by decide +kernel
theorem pnz : plainName "java/util/ImmutableCollections$MapN" = true := by first | (simp [plainName, overriddenIn]; done) | decide +kernel
theorem efz (m : MethodId) (z0 : Addr) : entryFrame m #[(.ref z0)] 1 = mkF m 0 #[.val (.ref z0)] [] := by first | (simp [entryFrame, mkF, argsToLocals, Value.category]; done) | rfl
def Qz (Z : State) (em : Addr) (h0 : Heap) (n0 : Nat) (v : Option Value) (h : Heap) (L : List Loc) : Prop := v = some (.int 0) ∧ Fr n0 L ∧ h = h0
set_option maxRecDepth 65536 in
set_option maxHeartbeats 40000000 in
theorem rmz (l : Launch) (Z : State) (a0 : Array Value) (hw : ∀ d ∈ tables_1, d.before a0 Z = true) (ws : List Jvm.Cond) (em : Addr) (h0 : Heap) (n0 : Nat) (Z0 : n0 ≤ h0.size) (Fm : Fld Z h0 em "java/util/ImmutableCollections$MapN" "size" "I" (.int 0)) :
    MetFree l (⟨"java/util/ImmutableCollections$MapN", "size", "()I"⟩ : MethodName) (head1 (Jvm.Cond.code (⟨"java/util/ImmutableCollections$MapN", "size", "()I"⟩ : MethodName) jdk_2605_method_6_code 1 (Option.some Jvm.ClassFile.FieldType.int) :: ws) ({ frames := 0, cells := 0, slots := 0, locals := 0 } : Room)) (fun a U => a = #[(.ref em)] ∧ Z.Warmed39 U.vm ∧ U.heap = h0) (fun _ _ _ _ _ => True) (fun _ U o U' => ∃ v L, o = .returned v ∧ Qz Z em h0 n0 v U'.heap L ∧ FrameEnd U o U' L ({ frames := 0, cells := 0, slots := 0, locals := 0 } : Room).cells ({ frames := 0, cells := 0, slots := 0, locals := 0 } : Room).slots) := by
  refine MetFree.of_bodySF (plainFor_of_name pnz) hisR ?_
  intro p e s m args below meth c s₁ Bd hml0 hP hK
  obtain ⟨rfl, hZ, hh⟩ := hP
  have hx := Bd.exec
  have hby := Bd.bytes
  have hml : c.maxLocals = 1 := hml0
  have hown : s.vm.findClass "java/util/ImmutableCollections$MapN" = some m.cls := findClass_of_methodNamed Bd.named
  have hnm := (name_of_methodNamed Bd.named Bd.method).1
  have X0 : Stand p l e ({ frames := 0, cells := 0, slots := 0, locals := 0 } : Room) s m #[(.ref em)] below meth c s₁ [] 0 0 := Stand.of_body Bd
  have e0 : s₁.heap = h0 := by rw [← hh, Bd.state]; rfl
  have N0 := Fr.nil n0
  show Go p e below (Ret s (Qz Z em h0 n0) ({ frames := 0, cells := 0, slots := 0, locals := 0 } : Room).cells ({ frames := 0, cells := 0, slots := 0, locals := 0 } : Room).slots) (s₁.setTop (entryFrame m #[(.ref em)] 1))
  rw [efz m em]
  refine g_aloadN X0 hx (hb hby dz_0) rfl rfl ?_
  refine g_getF X0 hx hZ hown (hw _ (List.mem_of_getElem? (i := 74) rfl)) e0 Fm (hb hby dz_1) ?_
  intro T1 X2 e3
  refine g_ireturn X2 hx Bd.notSynchronized Bd.returns rfl (by simp) (hb hby dz_4) (by decide) (by decide) ?_
  exact ⟨rfl, N0, e3⟩
theorem dp_0 : decode jdk_69_method_9_code 0 = .ok (.aload_n 1, 1) := by decide +kernel
theorem dp_1 : decode jdk_69_method_9_code 1 = .ok (.invokeinterface 100 1, 5) := by decide +kernel
theorem dp_6 : decode jdk_69_method_9_code 6 = .ok (.istore_n 3, 1) := by decide +kernel
theorem dp_7 : decode jdk_69_method_9_code 7 = .ok (.iload_n 3, 1) := by decide +kernel
theorem dp_8 : decode jdk_69_method_9_code 8 = .ok (.ifCond .le 161, 3) := by decide +kernel
theorem dp_169 : decode jdk_69_method_9_code 169 = .ok (.return_, 1) := by decide +kernel
theorem pnp : plainName "java/util/HashMap" = true := by first | (simp [plainName, overriddenIn]; done) | decide +kernel
theorem pdp_0 : parseMethodDescriptor "()I" = some ⟨[], some .int⟩ := by decide +kernel
theorem efp (m : MethodId) (z0 : Addr) (z1 : Addr) (z2 : Int32) : entryFrame m #[(.ref z0), (.ref z1), (.int z2)] 8 = mkF m 0 #[.val (.ref z0), .val (.ref z1), .val (.int z2), .unset, .unset, .unset, .unset, .unset] [] := by first | (simp [entryFrame, mkF, argsToLocals, Value.category]; done) | rfl
def Qp (Z : State) (q1 : Addr) (em : Addr) (h0 : Heap) (n0 : Nat) (v : Option Value) (h : Heap) (L : List Loc) : Prop := v = none ∧ Fr n0 L ∧ h = h0
set_option maxRecDepth 65536 in
set_option maxHeartbeats 40000000 in
theorem rmp (l : Launch) (Z : State) (a0 : Array Value) (hw : ∀ d ∈ tables_1, d.before a0 Z = true) (ws : List Jvm.Cond) (q1 : Addr) (em : Addr) (h0 : Heap) (n0 : Nat) (Z0 : n0 ≤ h0.size) (Em : Exa Z h0 em "java/util/ImmutableCollections$MapN") (Fm : Fld Z h0 em "java/util/ImmutableCollections$MapN" "size" "I" (.int 0)) :
    MetFree l (⟨"java/util/HashMap", "putMapEntries", "(Ljava/util/Map;Z)V"⟩ : MethodName) (head1 (Jvm.Cond.code (⟨"java/util/HashMap", "putMapEntries", "(Ljava/util/Map;Z)V"⟩ : MethodName) jdk_69_method_9_code 8 (Option.none : Option Jvm.ClassFile.FieldType) :: ws) ({ frames := 1, cells := 0, slots := 0, locals := 12 } : Room)) (fun a U => a = #[(.ref q1), (.ref em), (.int (0 : Int32))] ∧ Z.Warmed39 U.vm ∧ U.heap = h0) (fun _ _ _ _ _ => True) (fun _ U o U' => ∃ v L, o = .returned v ∧ Qp Z q1 em h0 n0 v U'.heap L ∧ FrameEnd U o U' L ({ frames := 1, cells := 0, slots := 0, locals := 12 } : Room).cells ({ frames := 1, cells := 0, slots := 0, locals := 12 } : Room).slots) := by
  refine MetFree.of_bodySF (plainFor_of_name pnp) hisR ?_
  intro p e s m args below meth c s₁ Bd hml0 hP hK
  obtain ⟨rfl, hZ, hh⟩ := hP
  have hx := Bd.exec
  have hby := Bd.bytes
  have hml : c.maxLocals = 8 := hml0
  have hown : s.vm.findClass "java/util/HashMap" = some m.cls := findClass_of_methodNamed Bd.named
  have hnm := (name_of_methodNamed Bd.named Bd.method).1
  have X0 : Stand p l e ({ frames := 1, cells := 0, slots := 0, locals := 12 } : Room) s m #[(.ref q1), (.ref em), (.int (0 : Int32))] below meth c s₁ [] 0 0 := Stand.of_body Bd
  have e0 : s₁.heap = h0 := by rw [← hh, Bd.state]; rfl
  have N0 := Fr.nil n0
  show Go p e below (Ret s (Qp Z q1 em h0 n0) ({ frames := 1, cells := 0, slots := 0, locals := 12 } : Room).cells ({ frames := 1, cells := 0, slots := 0, locals := 12 } : Room).slots) (s₁.setTop (entryFrame m #[(.ref q1), (.ref em), (.int (0 : Int32))] 8))
  rw [efp m q1 em (0 : Int32)]
  refine g_aloadN X0 hx (hb hby dp_0) rfl rfl ?_
  refine g_callI X0 hx hZ hown (hw _ (List.mem_of_getElem? (i := 64) rfl)) (hw _ (List.mem_of_getElem? (i := 65) rfl)) (hw _ (List.mem_of_getElem? (i := 66) rfl)) (hw _ (List.mem_of_getElem? (i := 67) rfl)) (hw _ (List.mem_of_getElem? (i := 68) rfl)) (hw _ (List.mem_of_getElem? (i := 69) rfl)) (hw _ (List.mem_of_getElem? (i := 70) rfl)) (hw _ (List.mem_of_getElem? (i := 71) rfl)) (hw _ (List.mem_of_getElem? (i := 72) rfl)) (hw _ (List.mem_of_getElem? (i := 73) rfl)) (by decide) (rmz l Z a0 hw [] em h0 n0 Z0 Fm) e0 (W := 0) (by decide) (by decide) (by rw [hml]; rfl) em Em [] [] (lenOf pdp_0 rfl) rfl rfl (Nat.le_of_eq rfl) (hb hby dp_1) (by decide) (by decide) ?_
  intro v5 T1 L4 X2 hQ3
  obtain ⟨rfl, N6, e7⟩ := hQ3
  have N8 := Fr.app N0 N6
  show Go p e below (Ret s (Qp Z q1 em h0 n0) ({ frames := 1, cells := 0, slots := 0, locals := 12 } : Room).cells ({ frames := 1, cells := 0, slots := 0, locals := 12 } : Room).slots) (T1.setTop (mkF m 6 #[.val (.ref q1), .val (.ref em), .val (.int (0 : Int32)), .unset, .unset, .unset, .unset, .unset] [(.int (0 : Int32))]))
  refine g_istoreN X2 hx (hb hby dp_6) (L' := #[.val (.ref q1), .val (.ref em), .val (.int (0 : Int32)), .val (.int (0 : Int32)), .unset, .unset, .unset, .unset]) rfl ?_
  refine g_iloadN X2 hx (hb hby dp_7) rfl ?_
  have hc8_9 : ¬ ((0 : Int32) < (0 : Int32)) := (by decide)
  refine g_ifYes X2 hx (hb hby dp_8) (flt hc8_9).2.2.2 (by decide) (pc' := 169) (by decide) ?_
  refine g_return X2 hx Bd.notSynchronized Bd.returns (hb hby dp_169) (by decide) (by decide) ?_
  exact ⟨rfl, N8, e7⟩
theorem dg_0 : decode jdk_69_method_8_code 0 = .ok (.aload_n 0, 1) := by decide +kernel
theorem dg_1 : decode jdk_69_method_8_code 1 = .ok (.invokespecial 43, 3) := by decide +kernel
theorem dg_4 : decode jdk_69_method_8_code 4 = .ok (.aload_n 0, 1) := by decide +kernel
theorem dg_5 : decode jdk_69_method_8_code 5 = .ok (.ldc 92, 2) := by decide +kernel
theorem dg_7 : decode jdk_69_method_8_code 7 = .ok (.putfield 81, 3) := by decide +kernel
theorem dg_10 : decode jdk_69_method_8_code 10 = .ok (.aload_n 0, 1) := by decide +kernel
theorem dg_11 : decode jdk_69_method_8_code 11 = .ok (.aload_n 1, 1) := by decide +kernel
theorem dg_12 : decode jdk_69_method_8_code 12 = .ok (.iconst 0, 1) := by decide +kernel
theorem dg_13 : decode jdk_69_method_8_code 13 = .ok (.invokevirtual 96, 3) := by decide +kernel
theorem dg_16 : decode jdk_69_method_8_code 16 = .ok (.return_, 1) := by decide +kernel
theorem png : plainName "java/util/HashMap" = true := by first | (simp [plainName, overriddenIn]; done) | decide +kernel
theorem pdg_0 : parseMethodDescriptor "()V" = some ⟨[], none⟩ := by decide +kernel
theorem pdg_1 : parseMethodDescriptor "(Ljava/util/Map;Z)V" = some ⟨[(.object "java/util/Map"), .boolean], none⟩ := by decide +kernel
theorem efg (m : MethodId) (z0 : Addr) (z1 : Addr) : entryFrame m #[(.ref z0), (.ref z1)] 2 = mkF m 0 #[.val (.ref z0), .val (.ref z1)] [] := by first | (simp [entryFrame, mkF, argsToLocals, Value.category]; done) | rfl
def Qg (Z : State) (q1 : Addr) (em : Addr) (h0 : Heap) (n0 : Nat) (v : Option Value) (h : Heap) (L : List Loc) : Prop := v = none ∧ Fr n0 L ∧ Keep h0 h [q1]
set_option maxRecDepth 65536 in
set_option maxHeartbeats 40000000 in
theorem rmg (l : Launch) (Z : State) (a0 : Array Value) (hw : ∀ d ∈ tables_1, d.before a0 Z = true) (ws : List Jvm.Cond) (q1 : Addr) (em : Addr) (h0 : Heap) (n0 : Nat) (Z0 : n0 ≤ h0.size) (E0 : Exa Z h0 q1 "java/util/HashMap") (F0 : Fld Z h0 q1 "java/util/HashMap" "loadFactor" "F" (.float 0)) (g1 : n0 ≤ q1) (Em : Exa Z h0 em "java/util/ImmutableCollections$MapN") (Fm : Fld Z h0 em "java/util/ImmutableCollections$MapN" "size" "I" (.int 0)) (ne_em_q1 : em ≠ q1) :
    MetFree l (⟨"java/util/HashMap", "<init>", "(Ljava/util/Map;)V"⟩ : MethodName) (head1 (Jvm.Cond.code (⟨"java/util/HashMap", "<init>", "(Ljava/util/Map;)V"⟩ : MethodName) jdk_69_method_8_code 2 (Option.none : Option Jvm.ClassFile.FieldType) :: ws) ({ frames := 2, cells := 0, slots := 0, locals := 32 } : Room)) (fun a U => a = #[(.ref q1), (.ref em)] ∧ Z.Warmed39 U.vm ∧ U.heap = h0) (fun _ _ _ _ _ => True) (fun _ U o U' => ∃ v L, o = .returned v ∧ Qg Z q1 em h0 n0 v U'.heap L ∧ FrameEnd U o U' L ({ frames := 2, cells := 0, slots := 0, locals := 32 } : Room).cells ({ frames := 2, cells := 0, slots := 0, locals := 32 } : Room).slots) := by
  refine MetFree.of_bodySF (plainFor_of_name png) hisR ?_
  intro p e s m args below meth c s₁ Bd hml0 hP hK
  obtain ⟨rfl, hZ, hh⟩ := hP
  have hx := Bd.exec
  have hby := Bd.bytes
  have hml : c.maxLocals = 2 := hml0
  have hown : s.vm.findClass "java/util/HashMap" = some m.cls := findClass_of_methodNamed Bd.named
  have hnm := (name_of_methodNamed Bd.named Bd.method).1
  have X0 : Stand p l e ({ frames := 2, cells := 0, slots := 0, locals := 32 } : Room) s m #[(.ref q1), (.ref em)] below meth c s₁ [] 0 0 := Stand.of_body Bd
  have e0 : s₁.heap = h0 := by rw [← hh, Bd.state]; rfl
  have N0 := Fr.nil n0
  show Go p e below (Ret s (Qg Z q1 em h0 n0) ({ frames := 2, cells := 0, slots := 0, locals := 32 } : Room).cells ({ frames := 2, cells := 0, slots := 0, locals := 32 } : Room).slots) (s₁.setTop (entryFrame m #[(.ref q1), (.ref em)] 2))
  rw [efg m q1 em]
  have K0 : Keep h0 h0 [q1] := Keep.refl _ _
  refine g_aloadN X0 hx (hb hby dg_0) rfl rfl ?_
  refine g_init X0 hx hZ hown rfl (hw _ (List.mem_of_getElem? (i := 25) rfl)) (hw _ (List.mem_of_getElem? (i := 26) rfl)) (hw _ (List.mem_of_getElem? (i := 29) rfl)) (hw _ (List.mem_of_getElem? (i := 30) rfl)) (by decide) (rmm l Z a0 hw [] q1 h0 n0 Z0) e0 (W := 0) (by decide) (by decide) (by rw [hml]; rfl) q1 [] [] (lenOf pdg_0 rfl) rfl rfl (Nat.le_of_eq rfl) (hb hby dg_1) (by decide) (by decide) ?_
  intro v5 T1 L4 X2 hQ3
  obtain ⟨rfl, N6, e7⟩ := hQ3
  have N8 := Fr.app N0 N6
  show Go p e below (Ret s (Qg Z q1 em h0 n0) ({ frames := 2, cells := 0, slots := 0, locals := 32 } : Room).cells ({ frames := 2, cells := 0, slots := 0, locals := 32 } : Room).slots) (T1.setTop (mkF m 4 #[.val (.ref q1), .val (.ref em)] []))
  refine g_aloadN X2 hx (hb hby dg_4) rfl rfl ?_
  refine g_ldcF X2 hx hZ hown (hw _ (List.mem_of_getElem? (i := 32) rfl)) (hb hby dg_5) ?_
  refine g_putF X2 hx hZ hown (hw _ (List.mem_of_getElem? (i := 33) rfl)) e7 F0 E0 (Or.inr ⟨(hw _ (List.mem_of_getElem? (i := 34) rfl)), rfl, hnm⟩) (hw _ (List.mem_of_getElem? (i := 20) rfl)) (ty := .float) (by decide) rfl rfl (hb hby dg_7) ?_
  intro T9 h12 X10 e11 W13
  have F15 := E0.wr W13
  have F16 := Em.wr W13
  have F17 := Fm.other W13 (Or.inl ne_em_q1)
  have F18 := F0.same W13
  have Z19 : n0 ≤ h12.size := by rw [W13.size]; exact Z0
  have K20 := Keep.wr K0 W13 (Or.inl (List.mem_singleton.mpr rfl))
  have N21 := Fr.snoc X10 N8 g1
  refine g_aloadN X10 hx (hb hby dg_10) rfl rfl ?_
  refine g_aloadN X10 hx (hb hby dg_11) rfl rfl ?_
  refine g_iconst X10 hx (hb hby dg_12) (v := (0 : Int32)) (by decide) ?_
  refine g_callV X10 hx hZ hown (hw _ (List.mem_of_getElem? (i := 59) rfl)) (hw _ (List.mem_of_getElem? (i := 60) rfl)) (hw _ (List.mem_of_getElem? (i := 62) rfl)) (hw _ (List.mem_of_getElem? (i := 61) rfl)) (hw _ (List.mem_of_getElem? (i := 21) rfl)) (hw _ (List.mem_of_getElem? (i := 63) rfl)) (by decide) (rmp l Z a0 hw [] q1 em h12 n0 Z19 F16 F17) e11 (W := 0) (by decide) (by decide) (by rw [hml]; rfl) q1 F15 [(.ref em), (.int (0 : Int32))] [] (lenOf pdg_1 rfl) rfl rfl (Nat.le_of_eq rfl) (hb hby dg_13) (by decide) (by decide) ?_
  intro v26 T22 L25 X23 hQ24
  obtain ⟨rfl, N27, e28⟩ := hQ24
  have N29 := Fr.app N21 N27
  show Go p e below (Ret s (Qg Z q1 em h0 n0) ({ frames := 2, cells := 0, slots := 0, locals := 32 } : Room).cells ({ frames := 2, cells := 0, slots := 0, locals := 32 } : Room).slots) (T22.setTop (mkF m 16 #[.val (.ref q1), .val (.ref em)] []))
  refine g_return X23 hx Bd.notSynchronized Bd.returns (hb hby dg_16) (by decide) (by decide) ?_
  rw [e28]
  exact ⟨rfl, N29, K20⟩
theorem dy_0 : decode jdk_72_method_39_code 0 = .ok (.aload_n 0, 1) := by decide +kernel
theorem dy_1 : decode jdk_72_method_39_code 1 = .ok (.instanceof 101, 3) := by decide +kernel
theorem dy_4 : decode jdk_72_method_39_code 4 = .ok (.ifCond .eq 5, 3) := by decide +kernel
theorem dy_7 : decode jdk_72_method_39_code 7 = .ok (.aload_n 0, 1) := by decide +kernel
theorem dy_8 : decode jdk_72_method_39_code 8 = .ok (.areturn, 1) := by decide +kernel
theorem pny : plainName "java/util/Map" = true := by first | (simp [plainName, overriddenIn]; done) | decide +kernel
theorem efy (m : MethodId) (z0 : Addr) : entryFrame m #[(.ref z0)] 1 = mkF m 0 #[.val (.ref z0)] [] := by first | (simp [entryFrame, mkF, argsToLocals, Value.category]; done) | rfl
def Qy (Z : State) (em : Addr) (h0 : Heap) (n0 : Nat) (v : Option Value) (h : Heap) (L : List Loc) : Prop := v = some (.ref em) ∧ Fr n0 L ∧ h = h0
set_option maxRecDepth 65536 in
set_option maxHeartbeats 40000000 in
theorem rmy (l : Launch) (Z : State) (a0 : Array Value) (hw : ∀ d ∈ tables_1, d.before a0 Z = true) (ws : List Jvm.Cond) (em : Addr) (h0 : Heap) (n0 : Nat) (Z0 : n0 ≤ h0.size) (Em : Exa Z h0 em "java/util/ImmutableCollections$MapN") :
    MetFree l (⟨"java/util/Map", "copyOf", "(Ljava/util/Map;)Ljava/util/Map;"⟩ : MethodName) (head1 (Jvm.Cond.code (⟨"java/util/Map", "copyOf", "(Ljava/util/Map;)Ljava/util/Map;"⟩ : MethodName) jdk_72_method_39_code 1 (Option.some (Jvm.ClassFile.FieldType.object "java/util/Map")) :: ws) ({ frames := 0, cells := 0, slots := 0, locals := 0 } : Room)) (fun a U => a = #[(.ref em)] ∧ Z.Warmed39 U.vm ∧ U.heap = h0) (fun _ _ _ _ _ => True) (fun _ U o U' => ∃ v L, o = .returned v ∧ Qy Z em h0 n0 v U'.heap L ∧ FrameEnd U o U' L ({ frames := 0, cells := 0, slots := 0, locals := 0 } : Room).cells ({ frames := 0, cells := 0, slots := 0, locals := 0 } : Room).slots) := by
  refine MetFree.of_bodySF (plainFor_of_name pny) hisR ?_
  intro p e s m args below meth c s₁ Bd hml0 hP hK
  obtain ⟨rfl, hZ, hh⟩ := hP
  have hx := Bd.exec
  have hby := Bd.bytes
  have hml : c.maxLocals = 1 := hml0
  have hown : s.vm.findClass "java/util/Map" = some m.cls := findClass_of_methodNamed Bd.named
  have hnm := (name_of_methodNamed Bd.named Bd.method).1
  have X0 : Stand p l e ({ frames := 0, cells := 0, slots := 0, locals := 0 } : Room) s m #[(.ref em)] below meth c s₁ [] 0 0 := Stand.of_body Bd
  have e0 : s₁.heap = h0 := by rw [← hh, Bd.state]; rfl
  have N0 := Fr.nil n0
  show Go p e below (Ret s (Qy Z em h0 n0) ({ frames := 0, cells := 0, slots := 0, locals := 0 } : Room).cells ({ frames := 0, cells := 0, slots := 0, locals := 0 } : Room).slots) (s₁.setTop (entryFrame m #[(.ref em)] 1))
  rw [efy m em]
  refine g_aloadN X0 hx (hb hby dy_0) rfl rfl ?_
  refine g_instY X0 hx hZ hown (hw _ (List.mem_of_getElem? (i := 54) rfl)) e0 (Ins.of_exa Em (hw _ (List.mem_of_getElem? (i := 55) rfl))) (hb hby dy_1) ?_
  intro T1 X2 e3
  have hc4_4 : ¬ ((1 : Int32) = (0 : Int32)) := (by decide)
  refine g_ifNo X2 hx (hb hby dy_4) (feq hc4_4).1 ?_
  refine g_aloadN X2 hx (hb hby dy_7) rfl rfl ?_
  refine g_areturn X2 hx Bd.notSynchronized Bd.returns rfl rfl (hb hby dy_8) (by decide) (by decide) ?_
  exact ⟨rfl, N0, e3⟩
theorem di_0 : decode prog_142_method_1_code 0 = .ok (.aload_n 0, 1) := by decide +kernel
theorem di_1 : decode prog_142_method_1_code 1 = .ok (.invokespecial 1, 3) := by decide +kernel
theorem di_4 : decode prog_142_method_1_code 4 = .ok (.aload_n 0, 1) := by decide +kernel
theorem di_5 : decode prog_142_method_1_code 5 = .ok (.aload_n 0, 1) := by decide +kernel
theorem di_6 : decode prog_142_method_1_code 6 = .ok (.putfield 7, 3) := by decide +kernel
theorem di_9 : decode prog_142_method_1_code 9 = .ok (.aload_n 0, 1) := by decide +kernel
theorem di_10 : decode prog_142_method_1_code 10 = .ok (.invokestatic 13, 3) := by decide +kernel
theorem di_13 : decode prog_142_method_1_code 13 = .ok (.putfield 19, 3) := by decide +kernel
theorem di_16 : decode prog_142_method_1_code 16 = .ok (.aload_n 0, 1) := by decide +kernel
theorem di_17 : decode prog_142_method_1_code 17 = .ok (.new 23, 3) := by decide +kernel
theorem di_20 : decode prog_142_method_1_code 20 = .ok (.dup, 1) := by decide +kernel
theorem di_21 : decode prog_142_method_1_code 21 = .ok (.invokespecial 25, 3) := by decide +kernel
theorem di_24 : decode prog_142_method_1_code 24 = .ok (.putfield 26, 3) := by decide +kernel
theorem di_27 : decode prog_142_method_1_code 27 = .ok (.return_, 1) := by decide +kernel
theorem pni : plainName "com/example/pathweave/pathweave/planner/Slots" = true := by first | (simp [plainName, overriddenIn]; done) | decide +kernel
theorem pdi_0 : parseMethodDescriptor "()Ljava/util/Map;" = some ⟨[], some (.object "java/util/Map")⟩ := by decide +kernel
theorem pdi_1 : parseMethodDescriptor "()V" = some ⟨[], none⟩ := by decide +kernel
theorem efi (m : MethodId) (z0 : Addr) : entryFrame m #[(.ref z0)] 1 = mkF m 0 #[.val (.ref z0)] [] := by first | (simp [entryFrame, mkF, argsToLocals, Value.category]; done) | rfl
def Qi (Z : State) (q1 : Addr) (em : Addr) (h0 : Heap) (n0 : Nat) (v : Option Value) (h : Heap) (L : List Loc) : Prop := v = none ∧ Fr n0 L ∧ Keep h0 h [q1] ∧ Exa Z h q1 "com/example/pathweave/pathweave/planner/Slots" ∧ Fld Z h q1 "com/example/pathweave/pathweave/planner/Slots" "giver" "Lcom/example/pathweave/pathweave/planner/Slots;" (.ref q1) ∧ Fld Z h q1 "com/example/pathweave/pathweave/planner/Slots" "outer" "Ljava/util/Map;" (.ref em) ∧ Fld Z h q1 "com/example/pathweave/pathweave/planner/Slots" "count" "I" (.int 0)
set_option maxRecDepth 65536 in
set_option maxHeartbeats 40000000 in
theorem rmi (l : Launch) (Z : State) (a0 : Array Value) (hw : ∀ d ∈ tables_1, d.before a0 Z = true) (ws : List Jvm.Cond) (q1 : Addr) (em : Addr) (h0 : Heap) (n0 : Nat) (Z0 : n0 ≤ h0.size) (E0 : Exa Z h0 q1 "com/example/pathweave/pathweave/planner/Slots") (F0 : Fld Z h0 q1 "com/example/pathweave/pathweave/planner/Slots" "count" "I" (.int 0)) (g1 : n0 ≤ q1) (S0 : Sta Z h0 "java/util/ImmutableCollections" "EMPTY_MAP" "Ljava/util/ImmutableCollections$MapN;" (.ref em)) :
    MetFree l (⟨"com/example/pathweave/pathweave/planner/Slots", "<init>", "()V"⟩ : MethodName) (head1 (Jvm.Cond.code (⟨"com/example/pathweave/pathweave/planner/Slots", "<init>", "()V"⟩ : MethodName) prog_142_method_1_code 1 (Option.none : Option Jvm.ClassFile.FieldType) :: ws) ({ frames := 3, cells := 1, slots := 8, locals := 40 } : Room)) (fun a U => a = #[(.ref q1)] ∧ Z.Warmed39 U.vm ∧ U.heap = h0) (fun _ _ _ _ _ => True) (fun _ U o U' => ∃ v L, o = .returned v ∧ Qi Z q1 em h0 n0 v U'.heap L ∧ FrameEnd U o U' L ({ frames := 3, cells := 1, slots := 8, locals := 40 } : Room).cells ({ frames := 3, cells := 1, slots := 8, locals := 40 } : Room).slots) := by
  refine MetFree.of_bodySF (plainFor_of_name pni) hisR ?_
  intro p e s m args below meth c s₁ Bd hml0 hP hK
  obtain ⟨rfl, hZ, hh⟩ := hP
  have hx := Bd.exec
  have hby := Bd.bytes
  have hml : c.maxLocals = 1 := hml0
  have hown : s.vm.findClass "com/example/pathweave/pathweave/planner/Slots" = some m.cls := findClass_of_methodNamed Bd.named
  have hnm := (name_of_methodNamed Bd.named Bd.method).1
  have X0 : Stand p l e ({ frames := 3, cells := 1, slots := 8, locals := 40 } : Room) s m #[(.ref q1)] below meth c s₁ [] 0 0 := Stand.of_body Bd
  have e0 : s₁.heap = h0 := by rw [← hh, Bd.state]; rfl
  have N0 := Fr.nil n0
  show Go p e below (Ret s (Qi Z q1 em h0 n0) ({ frames := 3, cells := 1, slots := 8, locals := 40 } : Room).cells ({ frames := 3, cells := 1, slots := 8, locals := 40 } : Room).slots) (s₁.setTop (entryFrame m #[(.ref q1)] 1))
  rw [efi m q1]
  have K0 : Keep h0 h0 [q1] := Keep.refl _ _
  refine g_aloadN X0 hx (hb hby di_0) rfl rfl ?_
  refine g_objInit X0 hx hZ hown (hw _ (List.mem_of_getElem? (i := 6) rfl)) (hw _ (List.mem_of_getElem? (i := 7) rfl)) (hw _ (List.mem_of_getElem? (i := 8) rfl)) e0 (by rw [hml]; rfl) (hb hby di_1) (by decide) (W := 0) (Nat.le_of_eq rfl) (by decide) ?_
  intro T1 X2 e3
  refine g_aloadN X2 hx (hb hby di_4) rfl rfl ?_
  refine g_aloadN X2 hx (hb hby di_5) rfl rfl ?_
  obtain ⟨o5, F4⟩ := fld_any E0 F0 (hw _ (List.mem_of_getElem? (i := 1) rfl)) (Or.inr (hw _ (List.mem_of_getElem? (i := 10) rfl)))
  refine g_putF X2 hx hZ hown (hw _ (List.mem_of_getElem? (i := 9) rfl)) e3 F4 E0 (Or.inr ⟨(hw _ (List.mem_of_getElem? (i := 10) rfl)), rfl, hnm⟩) (hw _ (List.mem_of_getElem? (i := 1) rfl)) (ty := (.object "com/example/pathweave/pathweave/planner/Slots")) (by decide) rfl rfl (hb hby di_6) ?_
  intro T7 h10 X8 e9 W11
  have F13 := E0.wr W11
  have F14 := F0.other W11 (Or.inr (slot_ne (Or.inl (hw _ (List.mem_of_getElem? (i := 87) rfl))) (Or.inr (hw _ (List.mem_of_getElem? (i := 10) rfl))) (by decide) (t := .int) (t' := (.object "com/example/pathweave/pathweave/planner/Slots")) (by decide) (by decide)))
  have F15 := S0.wr W11
  have F16 := F4.same W11
  have Z17 : n0 ≤ h10.size := by rw [W11.size]; exact Z0
  have K18 := Keep.wr K0 W11 (Or.inl (List.mem_singleton.mpr rfl))
  have N19 := Fr.snoc X8 N0 g1
  refine g_aloadN X8 hx (hb hby di_9) rfl rfl ?_
  refine g_callS X8 hx hZ hown (hw _ (List.mem_of_getElem? (i := 11) rfl)) (hw _ (List.mem_of_getElem? (i := 12) rfl)) (hw _ (List.mem_of_getElem? (i := 13) rfl)) (hw _ (List.mem_of_getElem? (i := 14) rfl)) (by decide) (rmo l Z a0 hw [] em h10 n0 Z17 F15) e9 (W := 1) (by decide) (by decide) (by rw [hml]; rfl) [] [(.ref q1)] (lenOf pdi_0 rfl) rfl rfl (Nat.le_of_eq rfl) (hb hby di_10) (by decide) (by decide) ?_
  intro v24 T20 L23 X21 hQ22
  obtain ⟨rfl, N25, e26⟩ := hQ22
  have N27 := Fr.app N19 N25
  show Go p e below (Ret s (Qi Z q1 em h0 n0) ({ frames := 3, cells := 1, slots := 8, locals := 40 } : Room).cells ({ frames := 3, cells := 1, slots := 8, locals := 40 } : Room).slots) (T20.setTop (mkF m 13 #[.val (.ref q1)] [(.ref em), (.ref q1)]))
  obtain ⟨o29, F28⟩ := fld_any F13 F14 (hw _ (List.mem_of_getElem? (i := 1) rfl)) (Or.inr (hw _ (List.mem_of_getElem? (i := 18) rfl)))
  refine g_putF X21 hx hZ hown (hw _ (List.mem_of_getElem? (i := 17) rfl)) e26 F28 F13 (Or.inr ⟨(hw _ (List.mem_of_getElem? (i := 18) rfl)), rfl, hnm⟩) (hw _ (List.mem_of_getElem? (i := 1) rfl)) (ty := (.object "java/util/Map")) (by decide) rfl rfl (hb hby di_13) ?_
  intro T31 h34 X32 e33 W35
  have F37 := F13.wr W35
  have F38 := F14.other W35 (Or.inr (slot_ne (Or.inl (hw _ (List.mem_of_getElem? (i := 87) rfl))) (Or.inr (hw _ (List.mem_of_getElem? (i := 18) rfl))) (by decide) (t := .int) (t' := (.object "java/util/Map")) (by decide) (by decide)))
  have F39 := F15.wr W35
  have F40 := F16.other W35 (Or.inr (slot_ne (Or.inr (hw _ (List.mem_of_getElem? (i := 10) rfl))) (Or.inr (hw _ (List.mem_of_getElem? (i := 18) rfl))) (by decide) (t := (.object "com/example/pathweave/pathweave/planner/Slots")) (t' := (.object "java/util/Map")) (by decide) (by decide)))
  have F41 := F28.same W35
  have Z42 : n0 ≤ h34.size := by rw [W35.size]; exact Z17
  have K43 := Keep.wr K18 W35 (Or.inl (List.mem_singleton.mpr rfl))
  have N44 := Fr.snoc X32 N27 g1
  refine g_aloadN X32 hx (hb hby di_16) rfl rfl ?_
  refine g_new X32 hx hZ hown (hw _ (List.mem_of_getElem? (i := 19) rfl)) (hw _ (List.mem_of_getElem? (i := 20) rfl)) (hw _ (List.mem_of_getElem? (i := 21) rfl)) e33 (hb hby di_17) (by decide) (by decide) ?_
  intro T45 h48 hm ghm X46 e47 E49 F50 D51
  have ne_q1_hm : q1 ≠ hm := fun q => absurd F37.lt (by rw [q, ghm]; exact Nat.lt_irrefl _)
  have ge_hm : n0 ≤ hm := by rw [ghm]; exact Z42
  have gek_hm : h0.size ≤ hm := by rw [ghm]; exact K43.1
  have F53 := F37.ext E49
  have F54 := F38.ext E49
  have F55 := F39.ext E49
  have F56 := F40.ext E49
  have F57 := F41.ext E49
  have Z58 : n0 ≤ h48.size := Nat.le_trans Z42 E49.1
  have K59 := Keep.ext K43 E49
  have F61 : Fld Z h48 hm "java/util/HashMap" "loadFactor" "F" (.float (0 : UInt32)) := D51 (Or.inr (hw _ (List.mem_of_getElem? (i := 34) rfl))) (ty := .float) (by decide)
  refine g_dup X46 hx (hb hby di_20) rfl ?_
  refine g_init X46 hx hZ hown rfl (hw _ (List.mem_of_getElem? (i := 22) rfl)) (hw _ (List.mem_of_getElem? (i := 23) rfl)) (hw _ (List.mem_of_getElem? (i := 21) rfl)) (hw _ (List.mem_of_getElem? (i := 24) rfl)) (by decide) (rmh l Z a0 hw [] hm h48 n0 Z58 F50 F61 ge_hm) e47 (W := 2) (by decide) (by decide) (by rw [hml]; rfl) hm [] [(.ref hm), (.ref q1)] (lenOf pdi_1 rfl) rfl rfl (Nat.le_of_eq rfl) (hb hby di_21) (by decide) (by decide) ?_
  intro v67 T63 L66 X64 hQ65
  obtain ⟨rfl, N68, K69⟩ := hQ65
  have N70 := Fr.app N44 N68
  have F71 := F53.keep K69
  have F72 := F54.keep K69 (ninS ne_q1_hm nin0)
  have F74 := F56.keep K69 (ninS ne_q1_hm nin0)
  have F75 := F57.keep K69 (ninS ne_q1_hm nin0)
  have F76 := F50.keep K69
  have Z78 : n0 ≤ T63.heap.size := Nat.le_trans Z58 K69.1
  have K79 := Keep.trans K59 K69 (allS (Or.inr gek_hm) all0)
  show Go p e below (Ret s (Qi Z q1 em h0 n0) ({ frames := 3, cells := 1, slots := 8, locals := 40 } : Room).cells ({ frames := 3, cells := 1, slots := 8, locals := 40 } : Room).slots) (T63.setTop (mkF m 24 #[.val (.ref q1)] [(.ref hm), (.ref q1)]))
  obtain ⟨o81, F80⟩ := fld_any F71 F72 (hw _ (List.mem_of_getElem? (i := 1) rfl)) (Or.inl (hw _ (List.mem_of_getElem? (i := 36) rfl)))
  refine g_putF X64 hx hZ hown (hw _ (List.mem_of_getElem? (i := 35) rfl)) rfl F80 F71 (Or.inl (hw _ (List.mem_of_getElem? (i := 36) rfl))) (hw _ (List.mem_of_getElem? (i := 1) rfl)) (ty := (.object "java/util/Map")) (by decide) rfl rfl (hb hby di_24) ?_
  intro T83 h86 X84 e85 W87
  have F89 := F71.wr W87
  have F90 := F72.other W87 (Or.inr (slot_ne (Or.inl (hw _ (List.mem_of_getElem? (i := 87) rfl))) (Or.inl (hw _ (List.mem_of_getElem? (i := 36) rfl))) (by decide) (t := .int) (t' := (.object "java/util/Map")) (by decide) (by decide)))
  have F91 := F74.other W87 (Or.inr (slot_ne (Or.inr (hw _ (List.mem_of_getElem? (i := 10) rfl))) (Or.inl (hw _ (List.mem_of_getElem? (i := 36) rfl))) (by decide) (t := (.object "com/example/pathweave/pathweave/planner/Slots")) (t' := (.object "java/util/Map")) (by decide) (by decide)))
  have F92 := F75.other W87 (Or.inr (slot_ne (Or.inr (hw _ (List.mem_of_getElem? (i := 18) rfl))) (Or.inl (hw _ (List.mem_of_getElem? (i := 36) rfl))) (by decide) (t := (.object "java/util/Map")) (t' := (.object "java/util/Map")) (by decide) (by decide)))
  have F93 := F76.wr W87
  have F94 := F80.same W87
  have Z95 : n0 ≤ h86.size := by rw [W87.size]; exact Z78
  have K96 := Keep.wr K79 W87 (Or.inl (List.mem_singleton.mpr rfl))
  have N97 := Fr.snoc X84 N70 g1
  refine g_return X84 hx Bd.notSynchronized Bd.returns (hb hby di_27) (by decide) (by decide) ?_
  rw [e85]
  exact ⟨rfl, N97, K96, F89, F91, F92, F90⟩
theorem dj_0 : decode prog_142_method_2_code 0 = .ok (.aload_n 0, 1) := by decide +kernel
theorem dj_1 : decode prog_142_method_2_code 1 = .ok (.invokespecial 1, 3) := by decide +kernel
theorem dj_4 : decode prog_142_method_2_code 4 = .ok (.aload_n 0, 1) := by decide +kernel
theorem dj_5 : decode prog_142_method_2_code 5 = .ok (.aload_n 1, 1) := by decide +kernel
theorem dj_6 : decode prog_142_method_2_code 6 = .ok (.putfield 7, 3) := by decide +kernel
theorem dj_9 : decode prog_142_method_2_code 9 = .ok (.aload_n 0, 1) := by decide +kernel
theorem dj_10 : decode prog_142_method_2_code 10 = .ok (.aload_n 2, 1) := by decide +kernel
theorem dj_11 : decode prog_142_method_2_code 11 = .ok (.invokestatic 29, 3) := by decide +kernel
theorem dj_14 : decode prog_142_method_2_code 14 = .ok (.putfield 19, 3) := by decide +kernel
theorem dj_17 : decode prog_142_method_2_code 17 = .ok (.aload_n 0, 1) := by decide +kernel
theorem dj_18 : decode prog_142_method_2_code 18 = .ok (.new 23, 3) := by decide +kernel
theorem dj_21 : decode prog_142_method_2_code 21 = .ok (.dup, 1) := by decide +kernel
theorem dj_22 : decode prog_142_method_2_code 22 = .ok (.aload_n 2, 1) := by decide +kernel
theorem dj_23 : decode prog_142_method_2_code 23 = .ok (.invokespecial 33, 3) := by decide +kernel
theorem dj_26 : decode prog_142_method_2_code 26 = .ok (.putfield 26, 3) := by decide +kernel
theorem dj_29 : decode prog_142_method_2_code 29 = .ok (.return_, 1) := by decide +kernel
theorem pnj : plainName "com/example/pathweave/pathweave/planner/Slots" = true := by first | (simp [plainName, overriddenIn]; done) | decide +kernel
theorem pdj_0 : parseMethodDescriptor "(Ljava/util/Map;)Ljava/util/Map;" = some ⟨[(.object "java/util/Map")], some (.object "java/util/Map")⟩ := by decide +kernel
theorem pdj_1 : parseMethodDescriptor "(Ljava/util/Map;)V" = some ⟨[(.object "java/util/Map")], none⟩ := by decide +kernel
theorem efj (m : MethodId) (z0 : Addr) (z1 : Addr) (z2 : Addr) : entryFrame m #[(.ref z0), (.ref z1), (.ref z2)] 3 = mkF m 0 #[.val (.ref z0), .val (.ref z1), .val (.ref z2)] [] := by first | (simp [entryFrame, mkF, argsToLocals, Value.category]; done) | rfl
def Qj (Z : State) (q1 : Addr) (q2 : Addr) (em : Addr) (h0 : Heap) (n0 : Nat) (v : Option Value) (h : Heap) (L : List Loc) : Prop := v = none ∧ Fr n0 L ∧ Keep h0 h [q1] ∧ Exa Z h q1 "com/example/pathweave/pathweave/planner/Slots" ∧ Fld Z h q1 "com/example/pathweave/pathweave/planner/Slots" "giver" "Lcom/example/pathweave/pathweave/planner/Slots;" (.ref q2) ∧ Fld Z h q1 "com/example/pathweave/pathweave/planner/Slots" "outer" "Ljava/util/Map;" (.ref em)
set_option maxRecDepth 65536 in
set_option maxHeartbeats 40000000 in
theorem rmj (l : Launch) (Z : State) (a0 : Array Value) (hw : ∀ d ∈ tables_1, d.before a0 Z = true) (ws : List Jvm.Cond) (q1 : Addr) (q2 : Addr) (em : Addr) (h0 : Heap) (n0 : Nat) (Z0 : n0 ≤ h0.size) (E0 : Exa Z h0 q1 "com/example/pathweave/pathweave/planner/Slots") (F0 : Fld Z h0 q1 "com/example/pathweave/pathweave/planner/Slots" "count" "I" (.int 0)) (g1 : n0 ≤ q1) (Em : Exa Z h0 em "java/util/ImmutableCollections$MapN") (Fm : Fld Z h0 em "java/util/ImmutableCollections$MapN" "size" "I" (.int 0)) (ne_em_q1 : em ≠ q1) :
    MetFree l (⟨"com/example/pathweave/pathweave/planner/Slots", "<init>", "(Lcom/example/pathweave/pathweave/planner/Slots;Ljava/util/Map;)V"⟩ : MethodName) (head1 (Jvm.Cond.code (⟨"com/example/pathweave/pathweave/planner/Slots", "<init>", "(Lcom/example/pathweave/pathweave/planner/Slots;Ljava/util/Map;)V"⟩ : MethodName) prog_142_method_2_code 3 (Option.none : Option Jvm.ClassFile.FieldType) :: ws) ({ frames := 3, cells := 1, slots := 8, locals := 48 } : Room)) (fun a U => a = #[(.ref q1), (.ref q2), (.ref em)] ∧ Z.Warmed39 U.vm ∧ U.heap = h0) (fun _ _ _ _ _ => True) (fun _ U o U' => ∃ v L, o = .returned v ∧ Qj Z q1 q2 em h0 n0 v U'.heap L ∧ FrameEnd U o U' L ({ frames := 3, cells := 1, slots := 8, locals := 48 } : Room).cells ({ frames := 3, cells := 1, slots := 8, locals := 48 } : Room).slots) := by
  refine MetFree.of_bodySF (plainFor_of_name pnj) hisR ?_
  intro p e s m args below meth c s₁ Bd hml0 hP hK
  obtain ⟨rfl, hZ, hh⟩ := hP
  have hx := Bd.exec
  have hby := Bd.bytes
  have hml : c.maxLocals = 3 := hml0
  have hown : s.vm.findClass "com/example/pathweave/pathweave/planner/Slots" = some m.cls := findClass_of_methodNamed Bd.named
  have hnm := (name_of_methodNamed Bd.named Bd.method).1
  have X0 : Stand p l e ({ frames := 3, cells := 1, slots := 8, locals := 48 } : Room) s m #[(.ref q1), (.ref q2), (.ref em)] below meth c s₁ [] 0 0 := Stand.of_body Bd
  have e0 : s₁.heap = h0 := by rw [← hh, Bd.state]; rfl
  have N0 := Fr.nil n0
  show Go p e below (Ret s (Qj Z q1 q2 em h0 n0) ({ frames := 3, cells := 1, slots := 8, locals := 48 } : Room).cells ({ frames := 3, cells := 1, slots := 8, locals := 48 } : Room).slots) (s₁.setTop (entryFrame m #[(.ref q1), (.ref q2), (.ref em)] 3))
  rw [efj m q1 q2 em]
  have K0 : Keep h0 h0 [q1] := Keep.refl _ _
  refine g_aloadN X0 hx (hb hby dj_0) rfl rfl ?_
  refine g_objInit X0 hx hZ hown (hw _ (List.mem_of_getElem? (i := 6) rfl)) (hw _ (List.mem_of_getElem? (i := 7) rfl)) (hw _ (List.mem_of_getElem? (i := 8) rfl)) e0 (by rw [hml]; rfl) (hb hby dj_1) (by decide) (W := 0) (Nat.le_of_eq rfl) (by decide) ?_
  intro T1 X2 e3
  refine g_aloadN X2 hx (hb hby dj_4) rfl rfl ?_
  refine g_aloadN X2 hx (hb hby dj_5) rfl rfl ?_
  obtain ⟨o5, F4⟩ := fld_any E0 F0 (hw _ (List.mem_of_getElem? (i := 1) rfl)) (Or.inr (hw _ (List.mem_of_getElem? (i := 10) rfl)))
  refine g_putF X2 hx hZ hown (hw _ (List.mem_of_getElem? (i := 9) rfl)) e3 F4 E0 (Or.inr ⟨(hw _ (List.mem_of_getElem? (i := 10) rfl)), rfl, hnm⟩) (hw _ (List.mem_of_getElem? (i := 1) rfl)) (ty := (.object "com/example/pathweave/pathweave/planner/Slots")) (by decide) rfl rfl (hb hby dj_6) ?_
  intro T7 h10 X8 e9 W11
  have F13 := E0.wr W11
  have F14 := F0.other W11 (Or.inr (slot_ne (Or.inl (hw _ (List.mem_of_getElem? (i := 87) rfl))) (Or.inr (hw _ (List.mem_of_getElem? (i := 10) rfl))) (by decide) (t := .int) (t' := (.object "com/example/pathweave/pathweave/planner/Slots")) (by decide) (by decide)))
  have F15 := Em.wr W11
  have F16 := Fm.other W11 (Or.inl ne_em_q1)
  have F17 := F4.same W11
  have Z18 : n0 ≤ h10.size := by rw [W11.size]; exact Z0
  have K19 := Keep.wr K0 W11 (Or.inl (List.mem_singleton.mpr rfl))
  have N20 := Fr.snoc X8 N0 g1
  refine g_aloadN X8 hx (hb hby dj_9) rfl rfl ?_
  refine g_aloadN X8 hx (hb hby dj_10) rfl rfl ?_
  refine g_callS X8 hx hZ hown (hw _ (List.mem_of_getElem? (i := 51) rfl)) (hw _ (List.mem_of_getElem? (i := 52) rfl)) (hw _ (List.mem_of_getElem? (i := 13) rfl)) (hw _ (List.mem_of_getElem? (i := 53) rfl)) (by decide) (rmy l Z a0 hw [] em h10 n0 Z18 F15) e9 (W := 1) (by decide) (by decide) (by rw [hml]; rfl) [(.ref em)] [(.ref q1)] (lenOf pdj_0 rfl) rfl rfl (Nat.le_of_eq rfl) (hb hby dj_11) (by decide) (by decide) ?_
  intro v25 T21 L24 X22 hQ23
  obtain ⟨rfl, N26, e27⟩ := hQ23
  have N28 := Fr.app N20 N26
  show Go p e below (Ret s (Qj Z q1 q2 em h0 n0) ({ frames := 3, cells := 1, slots := 8, locals := 48 } : Room).cells ({ frames := 3, cells := 1, slots := 8, locals := 48 } : Room).slots) (T21.setTop (mkF m 14 #[.val (.ref q1), .val (.ref q2), .val (.ref em)] [(.ref em), (.ref q1)]))
  obtain ⟨o30, F29⟩ := fld_any F13 F14 (hw _ (List.mem_of_getElem? (i := 1) rfl)) (Or.inr (hw _ (List.mem_of_getElem? (i := 18) rfl)))
  refine g_putF X22 hx hZ hown (hw _ (List.mem_of_getElem? (i := 17) rfl)) e27 F29 F13 (Or.inr ⟨(hw _ (List.mem_of_getElem? (i := 18) rfl)), rfl, hnm⟩) (hw _ (List.mem_of_getElem? (i := 1) rfl)) (ty := (.object "java/util/Map")) (by decide) rfl rfl (hb hby dj_14) ?_
  intro T32 h35 X33 e34 W36
  have F38 := F13.wr W36
  have F39 := F14.other W36 (Or.inr (slot_ne (Or.inl (hw _ (List.mem_of_getElem? (i := 87) rfl))) (Or.inr (hw _ (List.mem_of_getElem? (i := 18) rfl))) (by decide) (t := .int) (t' := (.object "java/util/Map")) (by decide) (by decide)))
  have F40 := F15.wr W36
  have F41 := F16.other W36 (Or.inl ne_em_q1)
  have F42 := F17.other W36 (Or.inr (slot_ne (Or.inr (hw _ (List.mem_of_getElem? (i := 10) rfl))) (Or.inr (hw _ (List.mem_of_getElem? (i := 18) rfl))) (by decide) (t := (.object "com/example/pathweave/pathweave/planner/Slots")) (t' := (.object "java/util/Map")) (by decide) (by decide)))
  have F43 := F29.same W36
  have Z44 : n0 ≤ h35.size := by rw [W36.size]; exact Z18
  have K45 := Keep.wr K19 W36 (Or.inl (List.mem_singleton.mpr rfl))
  have N46 := Fr.snoc X33 N28 g1
  refine g_aloadN X33 hx (hb hby dj_17) rfl rfl ?_
  refine g_new X33 hx hZ hown (hw _ (List.mem_of_getElem? (i := 19) rfl)) (hw _ (List.mem_of_getElem? (i := 20) rfl)) (hw _ (List.mem_of_getElem? (i := 21) rfl)) e34 (hb hby dj_18) (by decide) (by decide) ?_
  intro T47 h50 hm ghm X48 e49 E51 F52 D53
  have ne_q1_hm : q1 ≠ hm := fun q => absurd F38.lt (by rw [q, ghm]; exact Nat.lt_irrefl _)
  have ne_em_hm : em ≠ hm := fun q => absurd F40.lt (by rw [q, ghm]; exact Nat.lt_irrefl _)
  have ge_hm : n0 ≤ hm := by rw [ghm]; exact Z44
  have gek_hm : h0.size ≤ hm := by rw [ghm]; exact K45.1
  have F55 := F38.ext E51
  have F56 := F39.ext E51
  have F57 := F40.ext E51
  have F58 := F41.ext E51
  have F59 := F42.ext E51
  have F60 := F43.ext E51
  have Z61 : n0 ≤ h50.size := Nat.le_trans Z44 E51.1
  have K62 := Keep.ext K45 E51
  have F64 : Fld Z h50 hm "java/util/HashMap" "loadFactor" "F" (.float (0 : UInt32)) := D53 (Or.inr (hw _ (List.mem_of_getElem? (i := 34) rfl))) (ty := .float) (by decide)
  refine g_dup X48 hx (hb hby dj_21) rfl ?_
  refine g_aloadN X48 hx (hb hby dj_22) rfl rfl ?_
  refine g_init X48 hx hZ hown rfl (hw _ (List.mem_of_getElem? (i := 56) rfl)) (hw _ (List.mem_of_getElem? (i := 57) rfl)) (hw _ (List.mem_of_getElem? (i := 21) rfl)) (hw _ (List.mem_of_getElem? (i := 58) rfl)) (by decide) (rmg l Z a0 hw [] hm em h50 n0 Z61 F52 F64 ge_hm F57 F58 ne_em_hm) e49 (W := 2) (by decide) (by decide) (by rw [hml]; rfl) hm [(.ref em)] [(.ref hm), (.ref q1)] (lenOf pdj_1 rfl) rfl rfl (Nat.le_of_eq rfl) (hb hby dj_23) (by decide) (by decide) ?_
  intro v70 T66 L69 X67 hQ68
  obtain ⟨rfl, N71, K72⟩ := hQ68
  have N73 := Fr.app N46 N71
  have F74 := F55.keep K72
  have F75 := F56.keep K72 (ninS ne_q1_hm nin0)
  have F76 := F57.keep K72
  have F77 := F58.keep K72 (ninS ne_em_hm nin0)
  have F78 := F59.keep K72 (ninS ne_q1_hm nin0)
  have F79 := F60.keep K72 (ninS ne_q1_hm nin0)
  have F80 := F52.keep K72
  have Z82 : n0 ≤ T66.heap.size := Nat.le_trans Z61 K72.1
  have K83 := Keep.trans K62 K72 (allS (Or.inr gek_hm) all0)
  show Go p e below (Ret s (Qj Z q1 q2 em h0 n0) ({ frames := 3, cells := 1, slots := 8, locals := 48 } : Room).cells ({ frames := 3, cells := 1, slots := 8, locals := 48 } : Room).slots) (T66.setTop (mkF m 26 #[.val (.ref q1), .val (.ref q2), .val (.ref em)] [(.ref hm), (.ref q1)]))
  obtain ⟨o85, F84⟩ := fld_any F74 F75 (hw _ (List.mem_of_getElem? (i := 1) rfl)) (Or.inl (hw _ (List.mem_of_getElem? (i := 36) rfl)))
  refine g_putF X67 hx hZ hown (hw _ (List.mem_of_getElem? (i := 35) rfl)) rfl F84 F74 (Or.inl (hw _ (List.mem_of_getElem? (i := 36) rfl))) (hw _ (List.mem_of_getElem? (i := 1) rfl)) (ty := (.object "java/util/Map")) (by decide) rfl rfl (hb hby dj_26) ?_
  intro T87 h90 X88 e89 W91
  have F93 := F74.wr W91
  have F94 := F75.other W91 (Or.inr (slot_ne (Or.inl (hw _ (List.mem_of_getElem? (i := 87) rfl))) (Or.inl (hw _ (List.mem_of_getElem? (i := 36) rfl))) (by decide) (t := .int) (t' := (.object "java/util/Map")) (by decide) (by decide)))
  have F95 := F76.wr W91
  have F96 := F77.other W91 (Or.inl ne_em_q1)
  have F97 := F78.other W91 (Or.inr (slot_ne (Or.inr (hw _ (List.mem_of_getElem? (i := 10) rfl))) (Or.inl (hw _ (List.mem_of_getElem? (i := 36) rfl))) (by decide) (t := (.object "com/example/pathweave/pathweave/planner/Slots")) (t' := (.object "java/util/Map")) (by decide) (by decide)))
  have F98 := F79.other W91 (Or.inr (slot_ne (Or.inr (hw _ (List.mem_of_getElem? (i := 18) rfl))) (Or.inl (hw _ (List.mem_of_getElem? (i := 36) rfl))) (by decide) (t := (.object "java/util/Map")) (t' := (.object "java/util/Map")) (by decide) (by decide)))
  have F99 := F80.wr W91
  have F100 := F84.same W91
  have Z101 : n0 ≤ h90.size := by rw [W91.size]; exact Z82
  have K102 := Keep.wr K83 W91 (Or.inl (List.mem_singleton.mpr rfl))
  have N103 := Fr.snoc X88 N73 g1
  refine g_return X88 hx Bd.notSynchronized Bd.returns (hb hby dj_29) (by decide) (by decide) ?_
  rw [e89]
  exact ⟨rfl, N103, K102, F93, F97, F98⟩
theorem du_0 : decode prog_142_method_4_code 0 = .ok (.aload_n 0, 1) := by decide +kernel
theorem du_1 : decode prog_142_method_4_code 1 = .ok (.getfield 19, 3) := by decide +kernel
theorem du_4 : decode prog_142_method_4_code 4 = .ok (.areturn, 1) := by decide +kernel
theorem pnu : plainName "com/example/pathweave/pathweave/planner/Slots" = true := by first | (simp [plainName, overriddenIn]; done) | decide +kernel
theorem efu (m : MethodId) (z0 : Addr) : entryFrame m #[(.ref z0)] 1 = mkF m 0 #[.val (.ref z0)] [] := by first | (simp [entryFrame, mkF, argsToLocals, Value.category]; done) | rfl
def Qu (Z : State) (q1 : Addr) (em : Addr) (h0 : Heap) (n0 : Nat) (v : Option Value) (h : Heap) (L : List Loc) : Prop := v = some (.ref em) ∧ Fr n0 L ∧ h = h0
set_option maxRecDepth 65536 in
set_option maxHeartbeats 40000000 in
theorem rmu (l : Launch) (Z : State) (a0 : Array Value) (hw : ∀ d ∈ tables_1, d.before a0 Z = true) (ws : List Jvm.Cond) (q1 : Addr) (em : Addr) (h0 : Heap) (n0 : Nat) (Z0 : n0 ≤ h0.size) (F1 : Fld Z h0 q1 "com/example/pathweave/pathweave/planner/Slots" "outer" "Ljava/util/Map;" (.ref em)) :
    MetFree l (⟨"com/example/pathweave/pathweave/planner/Slots", "outer", "()Ljava/util/Map;"⟩ : MethodName) (head1 (Jvm.Cond.code (⟨"com/example/pathweave/pathweave/planner/Slots", "outer", "()Ljava/util/Map;"⟩ : MethodName) prog_142_method_4_code 1 (Option.some (Jvm.ClassFile.FieldType.object "java/util/Map")) :: ws) ({ frames := 0, cells := 0, slots := 0, locals := 0 } : Room)) (fun a U => a = #[(.ref q1)] ∧ Z.Warmed39 U.vm ∧ U.heap = h0) (fun _ _ _ _ _ => True) (fun _ U o U' => ∃ v L, o = .returned v ∧ Qu Z q1 em h0 n0 v U'.heap L ∧ FrameEnd U o U' L ({ frames := 0, cells := 0, slots := 0, locals := 0 } : Room).cells ({ frames := 0, cells := 0, slots := 0, locals := 0 } : Room).slots) := by
  refine MetFree.of_bodySF (plainFor_of_name pnu) hisR ?_
  intro p e s m args below meth c s₁ Bd hml0 hP hK
  obtain ⟨rfl, hZ, hh⟩ := hP
  have hx := Bd.exec
  have hby := Bd.bytes
  have hml : c.maxLocals = 1 := hml0
  have hown : s.vm.findClass "com/example/pathweave/pathweave/planner/Slots" = some m.cls := findClass_of_methodNamed Bd.named
  have hnm := (name_of_methodNamed Bd.named Bd.method).1
  have X0 : Stand p l e ({ frames := 0, cells := 0, slots := 0, locals := 0 } : Room) s m #[(.ref q1)] below meth c s₁ [] 0 0 := Stand.of_body Bd
  have e0 : s₁.heap = h0 := by rw [← hh, Bd.state]; rfl
  have N0 := Fr.nil n0
  show Go p e below (Ret s (Qu Z q1 em h0 n0) ({ frames := 0, cells := 0, slots := 0, locals := 0 } : Room).cells ({ frames := 0, cells := 0, slots := 0, locals := 0 } : Room).slots) (s₁.setTop (entryFrame m #[(.ref q1)] 1))
  rw [efu m q1]
  refine g_aloadN X0 hx (hb hby du_0) rfl rfl ?_
  refine g_getF X0 hx hZ hown (hw _ (List.mem_of_getElem? (i := 17) rfl)) e0 F1 (hb hby du_1) ?_
  intro T1 X2 e3
  refine g_areturn X2 hx Bd.notSynchronized Bd.returns rfl rfl (hb hby du_4) (by decide) (by decide) ?_
  exact ⟨rfl, N0, e3⟩
theorem df_0 : decode prog_142_method_3_code 0 = .ok (.new 8, 3) := by decide +kernel
theorem df_3 : decode prog_142_method_3_code 3 = .ok (.dup, 1) := by decide +kernel
theorem df_4 : decode prog_142_method_3_code 4 = .ok (.aload_n 0, 1) := by decide +kernel
theorem df_5 : decode prog_142_method_3_code 5 = .ok (.getfield 7, 3) := by decide +kernel
theorem df_8 : decode prog_142_method_3_code 8 = .ok (.aload_n 1, 1) := by decide +kernel
theorem df_9 : decode prog_142_method_3_code 9 = .ok (.invokespecial 36, 3) := by decide +kernel
theorem df_12 : decode prog_142_method_3_code 12 = .ok (.areturn, 1) := by decide +kernel
theorem pnf : plainName "com/example/pathweave/pathweave/planner/Slots" = true := by first | (simp [plainName, overriddenIn]; done) | decide +kernel
theorem pdf_0 : parseMethodDescriptor "(Lcom/example/pathweave/pathweave/planner/Slots;Ljava/util/Map;)V" = some ⟨[(.object "com/example/pathweave/pathweave/planner/Slots"), (.object "java/util/Map")], none⟩ := by decide +kernel
theorem eff (m : MethodId) (z0 : Addr) (z1 : Addr) : entryFrame m #[(.ref z0), (.ref z1)] 2 = mkF m 0 #[.val (.ref z0), .val (.ref z1)] [] := by first | (simp [entryFrame, mkF, argsToLocals, Value.category]; done) | rfl
def Qf (Z : State) (q1 : Addr) (em : Addr) (ro : Addr) (h0 : Heap) (n0 : Nat) (v : Option Value) (h : Heap) (L : List Loc) : Prop := ∃ ns : Addr, v = some (.ref ns) ∧ Fr n0 L ∧ Keep h0 h [] ∧ h0.size ≤ ns ∧ n0 ≤ ns ∧ Exa Z h ns "com/example/pathweave/pathweave/planner/Slots" ∧ Fld Z h ns "com/example/pathweave/pathweave/planner/Slots" "giver" "Lcom/example/pathweave/pathweave/planner/Slots;" (.ref ro) ∧ Fld Z h ns "com/example/pathweave/pathweave/planner/Slots" "outer" "Ljava/util/Map;" (.ref em)
set_option maxRecDepth 65536 in
set_option maxHeartbeats 40000000 in
theorem rmf (l : Launch) (Z : State) (a0 : Array Value) (hw : ∀ d ∈ tables_1, d.before a0 Z = true) (ws : List Jvm.Cond) (q1 : Addr) (em : Addr) (ro : Addr) (h0 : Heap) (n0 : Nat) (Z0 : n0 ≤ h0.size) (F1 : Fld Z h0 q1 "com/example/pathweave/pathweave/planner/Slots" "giver" "Lcom/example/pathweave/pathweave/planner/Slots;" (.ref ro)) (Em : Exa Z h0 em "java/util/ImmutableCollections$MapN") (Fm : Fld Z h0 em "java/util/ImmutableCollections$MapN" "size" "I" (.int 0)) :
    MetFree l (⟨"com/example/pathweave/pathweave/planner/Slots", "forSubquery", "(Ljava/util/Map;)Lcom/example/pathweave/pathweave/planner/Slots;"⟩ : MethodName) (head1 (Jvm.Cond.code (⟨"com/example/pathweave/pathweave/planner/Slots", "forSubquery", "(Ljava/util/Map;)Lcom/example/pathweave/pathweave/planner/Slots;"⟩ : MethodName) prog_142_method_3_code 2 (Option.some (Jvm.ClassFile.FieldType.object "com/example/pathweave/pathweave/planner/Slots")) :: ws) ({ frames := 4, cells := 2, slots := 12, locals := 64 } : Room)) (fun a U => a = #[(.ref q1), (.ref em)] ∧ Z.Warmed39 U.vm ∧ U.heap = h0) (fun _ _ _ _ _ => True) (fun _ U o U' => ∃ v L, o = .returned v ∧ Qf Z q1 em ro h0 n0 v U'.heap L ∧ FrameEnd U o U' L ({ frames := 4, cells := 2, slots := 12, locals := 64 } : Room).cells ({ frames := 4, cells := 2, slots := 12, locals := 64 } : Room).slots) := by
  refine MetFree.of_bodySF (plainFor_of_name pnf) hisR ?_
  intro p e s m args below meth c s₁ Bd hml0 hP hK
  obtain ⟨rfl, hZ, hh⟩ := hP
  have hx := Bd.exec
  have hby := Bd.bytes
  have hml : c.maxLocals = 2 := hml0
  have hown : s.vm.findClass "com/example/pathweave/pathweave/planner/Slots" = some m.cls := findClass_of_methodNamed Bd.named
  have hnm := (name_of_methodNamed Bd.named Bd.method).1
  have X0 : Stand p l e ({ frames := 4, cells := 2, slots := 12, locals := 64 } : Room) s m #[(.ref q1), (.ref em)] below meth c s₁ [] 0 0 := Stand.of_body Bd
  have e0 : s₁.heap = h0 := by rw [← hh, Bd.state]; rfl
  have N0 := Fr.nil n0
  show Go p e below (Ret s (Qf Z q1 em ro h0 n0) ({ frames := 4, cells := 2, slots := 12, locals := 64 } : Room).cells ({ frames := 4, cells := 2, slots := 12, locals := 64 } : Room).slots) (s₁.setTop (entryFrame m #[(.ref q1), (.ref em)] 2))
  rw [eff m q1 em]
  have K0 : Keep h0 h0 [] := Keep.refl _ _
  refine g_new X0 hx hZ hown (hw _ (List.mem_of_getElem? (i := 47) rfl)) (hw _ (List.mem_of_getElem? (i := 1) rfl)) (hw _ (List.mem_of_getElem? (i := 2) rfl)) e0 (hb hby df_0) (by decide) (by decide) ?_
  intro T1 h4 ns gns X2 e3 E5 F6 D7
  have ne_em_ns : em ≠ ns := fun q => absurd Em.lt (by rw [q, gns]; exact Nat.lt_irrefl _)
  have ne_q1_ns : q1 ≠ ns := fun q => absurd F1.lt (by rw [q, gns]; exact Nat.lt_irrefl _)
  have ge_ns : n0 ≤ ns := by rw [gns]; exact Z0
  have gek_ns : h0.size ≤ ns := by rw [gns]; exact K0.1
  have F9 := Em.ext E5
  have F10 := Fm.ext E5
  have F11 := F1.ext E5
  have Z12 : n0 ≤ h4.size := Nat.le_trans Z0 E5.1
  have K13 := Keep.ext K0 E5
  have F15 : Fld Z h4 ns "com/example/pathweave/pathweave/planner/Slots" "count" "I" (.int (0 : Int32)) := D7 (Or.inl (hw _ (List.mem_of_getElem? (i := 87) rfl))) (ty := .int) (by decide)
  refine g_dup X2 hx (hb hby df_3) rfl ?_
  refine g_aloadN X2 hx (hb hby df_4) rfl rfl ?_
  refine g_getF X2 hx hZ hown (hw _ (List.mem_of_getElem? (i := 9) rfl)) e3 F11 (hb hby df_5) ?_
  intro T17 X18 e19
  refine g_aloadN X18 hx (hb hby df_8) rfl rfl ?_
  refine g_init X18 hx hZ hown rfl (hw _ (List.mem_of_getElem? (i := 48) rfl)) (hw _ (List.mem_of_getElem? (i := 49) rfl)) (hw _ (List.mem_of_getElem? (i := 2) rfl)) (hw _ (List.mem_of_getElem? (i := 50) rfl)) (by decide) (rmj l Z a0 hw [] ns ro em h4 n0 Z12 F6 F15 ge_ns F9 F10 ne_em_ns) e19 (W := 1) (by decide) (by decide) (by rw [hml]; rfl) ns [(.ref ro), (.ref em)] [(.ref ns)] (lenOf pdf_0 rfl) rfl rfl (Nat.le_of_eq rfl) (hb hby df_9) (by decide) (by decide) ?_
  intro v24 T20 L23 X21 hQ22
  obtain ⟨rfl, N25, K26, F27, F28, F29⟩ := hQ22
  have N30 := Fr.app N0 N25
  have F31 := F9.keep K26
  have F32 := F10.keep K26 (ninS ne_em_ns nin0)
  have F33 := F11.keep K26 (ninS ne_q1_ns nin0)
  have F34 := F6.keep K26
  have Z36 : n0 ≤ T20.heap.size := Nat.le_trans Z12 K26.1
  have K37 := Keep.trans K13 K26 (allS (Or.inr gek_ns) all0)
  show Go p e below (Ret s (Qf Z q1 em ro h0 n0) ({ frames := 4, cells := 2, slots := 12, locals := 64 } : Room).cells ({ frames := 4, cells := 2, slots := 12, locals := 64 } : Room).slots) (T20.setTop (mkF m 12 #[.val (.ref q1), .val (.ref em)] [(.ref ns)]))
  refine g_areturn X21 hx Bd.notSynchronized Bd.returns rfl rfl (hb hby df_12) (by decide) (by decide) ?_
  exact ⟨ns, rfl, N30, K37, gek_ns, ge_ns, F27, F28, F29⟩
theorem dk_0 : decode method_2_code 0 = .ok (.iload_n 0, 1) := by decide +kernel
theorem dk_1 : decode method_2_code 1 = .ok (.ldc 7, 2) := by decide +kernel
theorem dk_3 : decode method_2_code 3 = .ok (.iand, 1) := by decide +kernel
theorem dk_4 : decode method_2_code 4 = .ok (.iconst 3, 1) := by decide +kernel
theorem dk_5 : decode method_2_code 5 = .ok (.irem, 1) := by decide +kernel
theorem dk_6 : decode method_2_code 6 = .ok (.istore 4, 2) := by decide +kernel
theorem dk_8 : decode method_2_code 8 = .ok (.iload 4, 2) := by decide +kernel
theorem dk_10 : decode method_2_code 10 = .ok (.ifCond .ne 5, 3) := by decide +kernel
theorem dk_13 : decode method_2_code 13 = .ok (.aload_n 1, 1) := by decide +kernel
theorem dk_14 : decode method_2_code 14 = .ok (.areturn, 1) := by decide +kernel
theorem dk_15 : decode method_2_code 15 = .ok (.iload 4, 2) := by decide +kernel
theorem dk_17 : decode method_2_code 17 = .ok (.iconst 1, 1) := by decide +kernel
theorem dk_18 : decode method_2_code 18 = .ok (.if_icmp .ne 5, 3) := by decide +kernel
theorem dk_21 : decode method_2_code 21 = .ok (.aload_n 2, 1) := by decide +kernel
theorem dk_22 : decode method_2_code 22 = .ok (.areturn, 1) := by decide +kernel
theorem dk_23 : decode method_2_code 23 = .ok (.aload_n 3, 1) := by decide +kernel
theorem dk_24 : decode method_2_code 24 = .ok (.areturn, 1) := by decide +kernel
theorem pnk : plainName "com/example/pathweave/pathweave/planner/SlotsNewSlotPinLaw" = true := by first | (simp [plainName, overriddenIn]; done) | decide +kernel
theorem efk (m : MethodId) (z0 : Int32) (z1 : Addr) (z2 : Addr) (z3 : Addr) : entryFrame m #[(.int z0), (.ref z1), (.ref z2), (.ref z3)] 5 = mkF m 0 #[.val (.int z0), .val (.ref z1), .val (.ref z2), .val (.ref z3), .unset] [] := by first | (simp [entryFrame, mkF, argsToLocals, Value.category]; done) | rfl
def Qk (Z : State) (q1 : Int32) (q2 : Addr) (q3 : Addr) (q4 : Addr) (h0 : Heap) (n0 : Nat) (v : Option Value) (h : Heap) (L : List Loc) : Prop := ∃ x : Addr, (v = some (.ref x) ∧ (x = q2 ∨ x = q3 ∨ x = q4)) ∧ Fr n0 L ∧ h = h0
set_option maxRecDepth 65536 in
set_option maxHeartbeats 40000000 in
theorem rmk (l : Launch) (Z : State) (a0 : Array Value) (hw : ∀ d ∈ tables_1, d.before a0 Z = true) (ws : List Jvm.Cond) (q1 : Int32) (q2 : Addr) (q3 : Addr) (q4 : Addr) (h0 : Heap) (n0 : Nat) (Z0 : n0 ≤ h0.size)  :
    MetFree l (⟨"com/example/pathweave/pathweave/planner/SlotsNewSlotPinLaw", "pick", "(ILcom/example/pathweave/pathweave/planner/Slots;Lcom/example/pathweave/pathweave/planner/Slots;Lcom/example/pathweave/pathweave/planner/Slots;)Lcom/example/pathweave/pathweave/planner/Slots;"⟩ : MethodName) (head1 (Jvm.Cond.code (⟨"com/example/pathweave/pathweave/planner/SlotsNewSlotPinLaw", "pick", "(ILcom/example/pathweave/pathweave/planner/Slots;Lcom/example/pathweave/pathweave/planner/Slots;Lcom/example/pathweave/pathweave/planner/Slots;)Lcom/example/pathweave/pathweave/planner/Slots;"⟩ : MethodName) method_2_code 5 (Option.some (Jvm.ClassFile.FieldType.object "com/example/pathweave/pathweave/planner/Slots")) :: ws) ({ frames := 0, cells := 0, slots := 0, locals := 0 } : Room)) (fun a U => a = #[(.int q1), (.ref q2), (.ref q3), (.ref q4)] ∧ Z.Warmed39 U.vm ∧ U.heap = h0) (fun _ _ _ _ _ => True) (fun _ U o U' => ∃ v L, o = .returned v ∧ Qk Z q1 q2 q3 q4 h0 n0 v U'.heap L ∧ FrameEnd U o U' L ({ frames := 0, cells := 0, slots := 0, locals := 0 } : Room).cells ({ frames := 0, cells := 0, slots := 0, locals := 0 } : Room).slots) := by
  refine MetFree.of_bodySF (plainFor_of_name pnk) hisR ?_
  intro p e s m args below meth c s₁ Bd hml0 hP hK
  obtain ⟨rfl, hZ, hh⟩ := hP
  have hx := Bd.exec
  have hby := Bd.bytes
  have hml : c.maxLocals = 5 := hml0
  have hown : s.vm.findClass "com/example/pathweave/pathweave/planner/SlotsNewSlotPinLaw" = some m.cls := findClass_of_methodNamed Bd.named
  have hnm := (name_of_methodNamed Bd.named Bd.method).1
  have X0 : Stand p l e ({ frames := 0, cells := 0, slots := 0, locals := 0 } : Room) s m #[(.int q1), (.ref q2), (.ref q3), (.ref q4)] below meth c s₁ [] 0 0 := Stand.of_body Bd
  have e0 : s₁.heap = h0 := by rw [← hh, Bd.state]; rfl
  have N0 := Fr.nil n0
  show Go p e below (Ret s (Qk Z q1 q2 q3 q4 h0 n0) ({ frames := 0, cells := 0, slots := 0, locals := 0 } : Room).cells ({ frames := 0, cells := 0, slots := 0, locals := 0 } : Room).slots) (s₁.setTop (entryFrame m #[(.int q1), (.ref q2), (.ref q3), (.ref q4)] 5))
  rw [efk m q1 q2 q3 q4]
  refine g_iloadN X0 hx (hb hby dk_0) rfl ?_
  refine g_ldcI X0 hx hZ hown (hw _ (List.mem_of_getElem? (i := 80) rfl)) (hb hby dk_1) ?_
  obtain ⟨i1, hi1⟩ : ∃ v : Int32, q1 &&& (2147483647 : Int32) = v := ⟨_, rfl⟩
  refine g_iand X0 hx (hb hby dk_3) hi1 ?_
  refine g_iconst X0 hx (hb hby dk_4) (v := (3 : Int32)) (by decide) ?_
  obtain ⟨i2, hi2⟩ : ∃ v : Int32, i1 % (3 : Int32) = v := ⟨_, rfl⟩
  refine g_irem X0 hx (hb hby dk_5) (by decide) hi2 ?_
  refine g_istore X0 hx (hb hby dk_6) (L' := #[.val (.int q1), .val (.ref q2), .val (.ref q3), .val (.ref q4), .val (.int i2)]) rfl ?_
  refine g_iload X0 hx (hb hby dk_8) rfl ?_
  by_cases hc10_3 : i2 = (0 : Int32)
  ·
    refine g_ifNo X0 hx (hb hby dk_10) (teq hc10_3).2 ?_
    refine g_aloadN X0 hx (hb hby dk_13) rfl rfl ?_
    refine g_areturn X0 hx Bd.notSynchronized Bd.returns rfl rfl (hb hby dk_14) (by decide) (by decide) ?_
    exact ⟨q2, ⟨rfl, Or.inl rfl⟩, N0, e0⟩
  ·
    refine g_ifYes X0 hx (hb hby dk_10) (feq hc10_3).2 (by decide) (pc' := 15) (by decide) ?_
    refine g_iload X0 hx (hb hby dk_15) rfl ?_
    refine g_iconst X0 hx (hb hby dk_17) (v := (1 : Int32)) (by decide) ?_
    by_cases hc18_4 : i2 = (1 : Int32)
    ·
      refine g_icmpNo X0 hx (hb hby dk_18) (teq hc18_4).2 ?_
      refine g_aloadN X0 hx (hb hby dk_21) rfl rfl ?_
      refine g_areturn X0 hx Bd.notSynchronized Bd.returns rfl rfl (hb hby dk_22) (by decide) (by decide) ?_
      exact ⟨q3, ⟨rfl, Or.inr (Or.inl rfl)⟩, N0, e0⟩
    ·
      refine g_icmpYes X0 hx (hb hby dk_18) (feq hc18_4).2 (by decide) (pc' := 23) (by decide) ?_
      refine g_aloadN X0 hx (hb hby dk_23) rfl rfl ?_
      refine g_areturn X0 hx Bd.notSynchronized Bd.returns rfl rfl (hb hby dk_24) (by decide) (by decide) ?_
      exact ⟨q4, ⟨rfl, Or.inr (Or.inr rfl)⟩, N0, e0⟩
theorem dc0_0 : decode prog_142_method_12_code 0 = .ok (.aload_n 0, 1) := by decide +kernel
theorem dc0_1 : decode prog_142_method_12_code 1 = .ok (.getfield 7, 3) := by decide +kernel
theorem dc0_4 : decode prog_142_method_12_code 4 = .ok (.aload_n 0, 1) := by decide +kernel
theorem dc0_5 : decode prog_142_method_12_code 5 = .ok (.if_acmp .ne 10, 3) := by decide +kernel
theorem dc0_8 : decode prog_142_method_12_code 8 = .ok (.aload_n 0, 1) := by decide +kernel
theorem dc0_9 : decode prog_142_method_12_code 9 = .ok (.getfield 39, 3) := by decide +kernel
theorem dc0_12 : decode prog_142_method_12_code 12 = .ok (.goto 10, 3) := by decide +kernel
theorem dc0_22 : decode prog_142_method_12_code 22 = .ok (.ireturn, 1) := by decide +kernel
theorem pnc0 : plainName "com/example/pathweave/pathweave/planner/Slots" = true := by first | (simp [plainName, overriddenIn]; done) | decide +kernel
theorem efc0 (m : MethodId) (z0 : Addr) : entryFrame m #[(.ref z0)] 1 = mkF m 0 #[.val (.ref z0)] [] := by first | (simp [entryFrame, mkF, argsToLocals, Value.category]; done) | rfl
def Qc0 (Z : State) (ro : Addr) (cn : Int32) (h0 : Heap) (n0 : Nat) (v : Option Value) (h : Heap) (L : List Loc) : Prop := v = some (.int cn) ∧ Fr n0 L ∧ h = h0
set_option maxRecDepth 65536 in
set_option maxHeartbeats 40000000 in
theorem rmc0 (l : Launch) (Z : State) (a0 : Array Value) (hw : ∀ d ∈ tables_1, d.before a0 Z = true) (ws : List Jvm.Cond) (ro : Addr) (cn : Int32) (h0 : Heap) (n0 : Nat) (Z0 : n0 ≤ h0.size) (Er : Exa Z h0 ro "com/example/pathweave/pathweave/planner/Slots") (Gr : Fld Z h0 ro "com/example/pathweave/pathweave/planner/Slots" "giver" "Lcom/example/pathweave/pathweave/planner/Slots;" (.ref ro)) (Cr : Fld Z h0 ro "com/example/pathweave/pathweave/planner/Slots" "count" "I" (.int cn)) :
    MetFree l (⟨"com/example/pathweave/pathweave/planner/Slots", "count", "()I"⟩ : MethodName) (head1 (Jvm.Cond.code (⟨"com/example/pathweave/pathweave/planner/Slots", "count", "()I"⟩ : MethodName) prog_142_method_12_code 1 (Option.some Jvm.ClassFile.FieldType.int) :: ws) ({ frames := 0, cells := 0, slots := 0, locals := 0 } : Room)) (fun a U => a = #[(.ref ro)] ∧ Z.Warmed39 U.vm ∧ U.heap = h0) (fun _ _ _ _ _ => True) (fun _ U o U' => ∃ v L, o = .returned v ∧ Qc0 Z ro cn h0 n0 v U'.heap L ∧ FrameEnd U o U' L ({ frames := 0, cells := 0, slots := 0, locals := 0 } : Room).cells ({ frames := 0, cells := 0, slots := 0, locals := 0 } : Room).slots) := by
  refine MetFree.of_bodySF (plainFor_of_name pnc0) hisR ?_
  intro p e s m args below meth c s₁ Bd hml0 hP hK
  obtain ⟨rfl, hZ, hh⟩ := hP
  have hx := Bd.exec
  have hby := Bd.bytes
  have hml : c.maxLocals = 1 := hml0
  have hown : s.vm.findClass "com/example/pathweave/pathweave/planner/Slots" = some m.cls := findClass_of_methodNamed Bd.named
  have hnm := (name_of_methodNamed Bd.named Bd.method).1
  have X0 : Stand p l e ({ frames := 0, cells := 0, slots := 0, locals := 0 } : Room) s m #[(.ref ro)] below meth c s₁ [] 0 0 := Stand.of_body Bd
  have e0 : s₁.heap = h0 := by rw [← hh, Bd.state]; rfl
  have N0 := Fr.nil n0
  show Go p e below (Ret s (Qc0 Z ro cn h0 n0) ({ frames := 0, cells := 0, slots := 0, locals := 0 } : Room).cells ({ frames := 0, cells := 0, slots := 0, locals := 0 } : Room).slots) (s₁.setTop (entryFrame m #[(.ref ro)] 1))
  rw [efc0 m ro]
  refine g_aloadN X0 hx (hb hby dc0_0) rfl rfl ?_
  refine g_getF X0 hx hZ hown (hw _ (List.mem_of_getElem? (i := 9) rfl)) e0 Gr (hb hby dc0_1) ?_
  intro T1 X2 e3
  refine g_aloadN X2 hx (hb hby dc0_4) rfl rfl ?_
  refine g_acmp X2 hx (hb hby dc0_5) rfl rfl (same := true) (decide_eq_true rfl) (by decide) (pc' := 8) (by decide) ?_
  refine g_aloadN X2 hx (hb hby dc0_8) rfl rfl ?_
  refine g_getF X2 hx hZ hown (hw _ (List.mem_of_getElem? (i := 86) rfl)) e3 Cr (hb hby dc0_9) ?_
  intro T4 X5 e6
  refine g_goto X5 hx (hb hby dc0_12) (by decide) (pc' := 22) (by decide) ?_
  refine g_ireturn X5 hx Bd.notSynchronized Bd.returns rfl (by simp) (hb hby dc0_22) (by decide) (by decide) ?_
  exact ⟨rfl, N0, e6⟩
theorem dc1_0 : decode prog_142_method_12_code 0 = .ok (.aload_n 0, 1) := by decide +kernel
theorem dc1_1 : decode prog_142_method_12_code 1 = .ok (.getfield 7, 3) := by decide +kernel
theorem dc1_4 : decode prog_142_method_12_code 4 = .ok (.aload_n 0, 1) := by decide +kernel
theorem dc1_5 : decode prog_142_method_12_code 5 = .ok (.if_acmp .ne 10, 3) := by decide +kernel
theorem dc1_8 : decode prog_142_method_12_code 8 = .ok (.aload_n 0, 1) := by decide +kernel
theorem dc1_9 : decode prog_142_method_12_code 9 = .ok (.getfield 39, 3) := by decide +kernel
theorem dc1_12 : decode prog_142_method_12_code 12 = .ok (.goto 10, 3) := by decide +kernel
theorem dc1_15 : decode prog_142_method_12_code 15 = .ok (.aload_n 0, 1) := by decide +kernel
theorem dc1_16 : decode prog_142_method_12_code 16 = .ok (.getfield 7, 3) := by decide +kernel
theorem dc1_19 : decode prog_142_method_12_code 19 = .ok (.invokevirtual 77, 3) := by decide +kernel
theorem dc1_22 : decode prog_142_method_12_code 22 = .ok (.ireturn, 1) := by decide +kernel
theorem pnc1 : plainName "com/example/pathweave/pathweave/planner/Slots" = true := by first | (simp [plainName, overriddenIn]; done) | decide +kernel
theorem pdc1_0 : parseMethodDescriptor "()I" = some ⟨[], some .int⟩ := by decide +kernel
theorem efc1 (m : MethodId) (z0 : Addr) : entryFrame m #[(.ref z0)] 1 = mkF m 0 #[.val (.ref z0)] [] := by first | (simp [entryFrame, mkF, argsToLocals, Value.category]; done) | rfl
def Qc1 (Z : State) (q1 : Addr) (ro : Addr) (cn : Int32) (h0 : Heap) (n0 : Nat) (v : Option Value) (h : Heap) (L : List Loc) : Prop := v = some (.int cn) ∧ Fr n0 L ∧ h = h0
set_option maxRecDepth 65536 in
set_option maxHeartbeats 40000000 in
theorem rmc1 (l : Launch) (Z : State) (a0 : Array Value) (hw : ∀ d ∈ tables_1, d.before a0 Z = true) (ws : List Jvm.Cond) (q1 : Addr) (ro : Addr) (cn : Int32) (h0 : Heap) (n0 : Nat) (Z0 : n0 ≤ h0.size) (Gx : Fld Z h0 q1 "com/example/pathweave/pathweave/planner/Slots" "giver" "Lcom/example/pathweave/pathweave/planner/Slots;" (.ref ro)) (Er : Exa Z h0 ro "com/example/pathweave/pathweave/planner/Slots") (Gr : Fld Z h0 ro "com/example/pathweave/pathweave/planner/Slots" "giver" "Lcom/example/pathweave/pathweave/planner/Slots;" (.ref ro)) (Cr : Fld Z h0 ro "com/example/pathweave/pathweave/planner/Slots" "count" "I" (.int cn)) :
    MetFree l (⟨"com/example/pathweave/pathweave/planner/Slots", "count", "()I"⟩ : MethodName) (head1 (Jvm.Cond.code (⟨"com/example/pathweave/pathweave/planner/Slots", "count", "()I"⟩ : MethodName) prog_142_method_12_code 1 (Option.some Jvm.ClassFile.FieldType.int) :: ws) ({ frames := 1, cells := 0, slots := 0, locals := 16 } : Room)) (fun a U => a = #[(.ref q1)] ∧ Z.Warmed39 U.vm ∧ U.heap = h0) (fun _ _ _ _ _ => True) (fun _ U o U' => ∃ v L, o = .returned v ∧ Qc1 Z q1 ro cn h0 n0 v U'.heap L ∧ FrameEnd U o U' L ({ frames := 1, cells := 0, slots := 0, locals := 16 } : Room).cells ({ frames := 1, cells := 0, slots := 0, locals := 16 } : Room).slots) := by
  refine MetFree.of_bodySF (plainFor_of_name pnc1) hisR ?_
  intro p e s m args below meth c s₁ Bd hml0 hP hK
  obtain ⟨rfl, hZ, hh⟩ := hP
  have hx := Bd.exec
  have hby := Bd.bytes
  have hml : c.maxLocals = 1 := hml0
  have hown : s.vm.findClass "com/example/pathweave/pathweave/planner/Slots" = some m.cls := findClass_of_methodNamed Bd.named
  have hnm := (name_of_methodNamed Bd.named Bd.method).1
  have X0 : Stand p l e ({ frames := 1, cells := 0, slots := 0, locals := 16 } : Room) s m #[(.ref q1)] below meth c s₁ [] 0 0 := Stand.of_body Bd
  have e0 : s₁.heap = h0 := by rw [← hh, Bd.state]; rfl
  have N0 := Fr.nil n0
  show Go p e below (Ret s (Qc1 Z q1 ro cn h0 n0) ({ frames := 1, cells := 0, slots := 0, locals := 16 } : Room).cells ({ frames := 1, cells := 0, slots := 0, locals := 16 } : Room).slots) (s₁.setTop (entryFrame m #[(.ref q1)] 1))
  rw [efc1 m q1]
  refine g_aloadN X0 hx (hb hby dc1_0) rfl rfl ?_
  refine g_getF X0 hx hZ hown (hw _ (List.mem_of_getElem? (i := 9) rfl)) e0 Gx (hb hby dc1_1) ?_
  intro T1 X2 e3
  refine g_aloadN X2 hx (hb hby dc1_4) rfl rfl ?_
  by_cases hc5_4 : ro = q1
  ·
    refine g_acmp X2 hx (hb hby dc1_5) rfl rfl (same := true) (decide_eq_true (congrArg Value.ref hc5_4)) (by decide) (pc' := 8) (by decide) ?_
    have Cx : Fld Z h0 q1 "com/example/pathweave/pathweave/planner/Slots" "count" "I" (.int cn) := hc5_4 ▸ Cr
    refine g_aloadN X2 hx (hb hby dc1_8) rfl rfl ?_
    refine g_getF X2 hx hZ hown (hw _ (List.mem_of_getElem? (i := 86) rfl)) e3 Cx (hb hby dc1_9) ?_
    intro T5 X6 e7
    refine g_goto X6 hx (hb hby dc1_12) (by decide) (pc' := 22) (by decide) ?_
    refine g_ireturn X6 hx Bd.notSynchronized Bd.returns rfl (by simp) (hb hby dc1_22) (by decide) (by decide) ?_
    exact ⟨rfl, N0, e7⟩
  ·
    refine g_acmp X2 hx (hb hby dc1_5) rfl rfl (same := false) (decide_eq_false (fun q => hc5_4 (Value.ref.inj q))) (by decide) (pc' := 15) (by decide) ?_
    have ne_ro_q1 := hc5_4
    refine g_aloadN X2 hx (hb hby dc1_15) rfl rfl ?_
    refine g_getF X2 hx hZ hown (hw _ (List.mem_of_getElem? (i := 9) rfl)) e3 Gx (hb hby dc1_16) ?_
    intro T8 X9 e10
    refine g_callV X9 hx hZ hown (hw _ (List.mem_of_getElem? (i := 94) rfl)) (hw _ (List.mem_of_getElem? (i := 82) rfl)) (hw _ (List.mem_of_getElem? (i := 84) rfl)) (hw _ (List.mem_of_getElem? (i := 83) rfl)) (hw _ (List.mem_of_getElem? (i := 2) rfl)) (hw _ (List.mem_of_getElem? (i := 85) rfl)) (by decide) (rmc0 l Z a0 hw [] ro cn h0 n0 Z0 Er Gr Cr) e10 (W := 0) (by decide) (by decide) (by rw [hml]; rfl) ro Er [] [] (lenOf pdc1_0 rfl) rfl rfl (Nat.le_of_eq rfl) (hb hby dc1_19) (by decide) (by decide) ?_
    intro v15 T11 L14 X12 hQ13
    obtain ⟨rfl, N16, e17⟩ := hQ13
    have N18 := Fr.app N0 N16
    show Go p e below (Ret s (Qc1 Z q1 ro cn h0 n0) ({ frames := 1, cells := 0, slots := 0, locals := 16 } : Room).cells ({ frames := 1, cells := 0, slots := 0, locals := 16 } : Room).slots) (T11.setTop (mkF m 22 #[.val (.ref q1)] [(.int cn)]))
    refine g_ireturn X12 hx Bd.notSynchronized Bd.returns rfl (by simp) (hb hby dc1_22) (by decide) (by decide) ?_
    exact ⟨rfl, N18, e17⟩
theorem dn0__0 : decode prog_142_method_5_code 0 = .ok (.aload_n 0, 1) := by decide +kernel
theorem dn0__1 : decode prog_142_method_5_code 1 = .ok (.getfield 7, 3) := by decide +kernel
theorem dn0__4 : decode prog_142_method_5_code 4 = .ok (.aload_n 0, 1) := by decide +kernel
theorem dn0__5 : decode prog_142_method_5_code 5 = .ok (.if_acmp .ne 17, 3) := by decide +kernel
theorem dn0__8 : decode prog_142_method_5_code 8 = .ok (.aload_n 0, 1) := by decide +kernel
theorem dn0__9 : decode prog_142_method_5_code 9 = .ok (.dup, 1) := by decide +kernel
theorem dn0__10 : decode prog_142_method_5_code 10 = .ok (.getfield 39, 3) := by decide +kernel
theorem dn0__13 : decode prog_142_method_5_code 13 = .ok (.dup_x1, 1) := by decide +kernel
theorem dn0__14 : decode prog_142_method_5_code 14 = .ok (.iconst 1, 1) := by decide +kernel
theorem dn0__15 : decode prog_142_method_5_code 15 = .ok (.iadd, 1) := by decide +kernel
theorem dn0__16 : decode prog_142_method_5_code 16 = .ok (.putfield 39, 3) := by decide +kernel
theorem dn0__19 : decode prog_142_method_5_code 19 = .ok (.goto 10, 3) := by decide +kernel
theorem dn0__29 : decode prog_142_method_5_code 29 = .ok (.ireturn, 1) := by decide +kernel
theorem pnn0_ : plainName "com/example/pathweave/pathweave/planner/Slots" = true := by first | (simp [plainName, overriddenIn]; done) | decide +kernel
theorem efn0_ (m : MethodId) (z0 : Addr) : entryFrame m #[(.ref z0)] 1 = mkF m 0 #[.val (.ref z0)] [] := by first | (simp [entryFrame, mkF, argsToLocals, Value.category]; done) | rfl
def Qn0_ (Z : State) (ro : Addr) (cn : Int32) (h0 : Heap) (n0 : Nat) (v : Option Value) (h : Heap) (L : List Loc) : Prop := v = some (.int cn) ∧ Fr n0 L ∧ Keep h0 h [ro] ∧ Exa Z h ro "com/example/pathweave/pathweave/planner/Slots" ∧ Fld Z h ro "com/example/pathweave/pathweave/planner/Slots" "giver" "Lcom/example/pathweave/pathweave/planner/Slots;" (.ref ro) ∧ Fld Z h ro "com/example/pathweave/pathweave/planner/Slots" "count" "I" (.int (cn + 1))
set_option maxRecDepth 65536 in
set_option maxHeartbeats 40000000 in
theorem rmn0_ (l : Launch) (Z : State) (a0 : Array Value) (hw : ∀ d ∈ tables_1, d.before a0 Z = true) (ws : List Jvm.Cond) (ro : Addr) (cn : Int32) (h0 : Heap) (n0 : Nat) (Z0 : n0 ≤ h0.size) (Er : Exa Z h0 ro "com/example/pathweave/pathweave/planner/Slots") (Gr : Fld Z h0 ro "com/example/pathweave/pathweave/planner/Slots" "giver" "Lcom/example/pathweave/pathweave/planner/Slots;" (.ref ro)) (Cr : Fld Z h0 ro "com/example/pathweave/pathweave/planner/Slots" "count" "I" (.int cn)) (gr : n0 ≤ ro) :
    MetFree l (⟨"com/example/pathweave/pathweave/planner/Slots", "newSlot", "()I"⟩ : MethodName) (head1 (Jvm.Cond.code (⟨"com/example/pathweave/pathweave/planner/Slots", "newSlot", "()I"⟩ : MethodName) prog_142_method_5_code 1 (Option.some Jvm.ClassFile.FieldType.int) :: ws) ({ frames := 0, cells := 0, slots := 0, locals := 0 } : Room)) (fun a U => a = #[(.ref ro)] ∧ Z.Warmed39 U.vm ∧ U.heap = h0) (fun _ _ _ _ _ => True) (fun _ U o U' => ∃ v L, o = .returned v ∧ Qn0_ Z ro cn h0 n0 v U'.heap L ∧ FrameEnd U o U' L ({ frames := 0, cells := 0, slots := 0, locals := 0 } : Room).cells ({ frames := 0, cells := 0, slots := 0, locals := 0 } : Room).slots) := by
  refine MetFree.of_bodySF (plainFor_of_name pnn0_) hisR ?_
  intro p e s m args below meth c s₁ Bd hml0 hP hK
  obtain ⟨rfl, hZ, hh⟩ := hP
  have hx := Bd.exec
  have hby := Bd.bytes
  have hml : c.maxLocals = 1 := hml0
  have hown : s.vm.findClass "com/example/pathweave/pathweave/planner/Slots" = some m.cls := findClass_of_methodNamed Bd.named
  have hnm := (name_of_methodNamed Bd.named Bd.method).1
  have X0 : Stand p l e ({ frames := 0, cells := 0, slots := 0, locals := 0 } : Room) s m #[(.ref ro)] below meth c s₁ [] 0 0 := Stand.of_body Bd
  have e0 : s₁.heap = h0 := by rw [← hh, Bd.state]; rfl
  have N0 := Fr.nil n0
  show Go p e below (Ret s (Qn0_ Z ro cn h0 n0) ({ frames := 0, cells := 0, slots := 0, locals := 0 } : Room).cells ({ frames := 0, cells := 0, slots := 0, locals := 0 } : Room).slots) (s₁.setTop (entryFrame m #[(.ref ro)] 1))
  rw [efn0_ m ro]
  have K0 : Keep h0 h0 [ro] := Keep.refl _ _
  refine g_aloadN X0 hx (hb hby dn0__0) rfl rfl ?_
  refine g_getF X0 hx hZ hown (hw _ (List.mem_of_getElem? (i := 9) rfl)) e0 Gr (hb hby dn0__1) ?_
  intro T1 X2 e3
  refine g_aloadN X2 hx (hb hby dn0__4) rfl rfl ?_
  refine g_acmp X2 hx (hb hby dn0__5) rfl rfl (same := true) (decide_eq_true rfl) (by decide) (pc' := 8) (by decide) ?_
  refine g_aloadN X2 hx (hb hby dn0__8) rfl rfl ?_
  refine g_dup X2 hx (hb hby dn0__9) rfl ?_
  refine g_getF X2 hx hZ hown (hw _ (List.mem_of_getElem? (i := 86) rfl)) e3 Cr (hb hby dn0__10) ?_
  intro T4 X5 e6
  refine g_dup_x1 X5 hx (hb hby dn0__13) rfl rfl ?_
  refine g_iconst X5 hx (hb hby dn0__14) (v := (1 : Int32)) (by decide) ?_
  obtain ⟨c1, hc1⟩ : ∃ v : Int32, cn + (1 : Int32) = v := ⟨_, rfl⟩
  refine g_iadd X5 hx (hb hby dn0__15) hc1 ?_
  refine g_putF X5 hx hZ hown (hw _ (List.mem_of_getElem? (i := 86) rfl)) e6 Cr Er (Or.inl (hw _ (List.mem_of_getElem? (i := 87) rfl))) (hw _ (List.mem_of_getElem? (i := 1) rfl)) (ty := .int) (by decide) rfl rfl (hb hby dn0__16) ?_
  intro T7 h10 X8 e9 W11
  have F13 := Er.wr W11
  have F14 := Gr.other W11 (Or.inr (slot_ne (Or.inr (hw _ (List.mem_of_getElem? (i := 10) rfl))) (Or.inl (hw _ (List.mem_of_getElem? (i := 87) rfl))) (by decide) (t := (.object "com/example/pathweave/pathweave/planner/Slots")) (t' := .int) (by decide) (by decide)))
  have F15 := Cr.same W11
  have Z16 : n0 ≤ h10.size := by rw [W11.size]; exact Z0
  have K17 := Keep.wr K0 W11 (Or.inl (List.mem_singleton.mpr rfl))
  have N18 := Fr.snoc X8 N0 gr
  refine g_goto X8 hx (hb hby dn0__19) (by decide) (pc' := 29) (by decide) ?_
  refine g_ireturn X8 hx Bd.notSynchronized Bd.returns rfl (by simp) (hb hby dn0__29) (by decide) (by decide) ?_
  subst hc1
  rw [e9]
  exact ⟨rfl, N18, K17, F13, F14, F15⟩
theorem dn1__0 : decode prog_142_method_5_code 0 = .ok (.aload_n 0, 1) := by decide +kernel
theorem dn1__1 : decode prog_142_method_5_code 1 = .ok (.getfield 7, 3) := by decide +kernel
theorem dn1__4 : decode prog_142_method_5_code 4 = .ok (.aload_n 0, 1) := by decide +kernel
theorem dn1__5 : decode prog_142_method_5_code 5 = .ok (.if_acmp .ne 17, 3) := by decide +kernel
theorem dn1__22 : decode prog_142_method_5_code 22 = .ok (.aload_n 0, 1) := by decide +kernel
theorem dn1__23 : decode prog_142_method_5_code 23 = .ok (.getfield 7, 3) := by decide +kernel
theorem dn1__26 : decode prog_142_method_5_code 26 = .ok (.invokevirtual 43, 3) := by decide +kernel
theorem dn1__29 : decode prog_142_method_5_code 29 = .ok (.ireturn, 1) := by decide +kernel
theorem pnn1_ : plainName "com/example/pathweave/pathweave/planner/Slots" = true := by first | (simp [plainName, overriddenIn]; done) | decide +kernel
theorem pdn1__0 : parseMethodDescriptor "()I" = some ⟨[], some .int⟩ := by decide +kernel
theorem efn1_ (m : MethodId) (z0 : Addr) : entryFrame m #[(.ref z0)] 1 = mkF m 0 #[.val (.ref z0)] [] := by first | (simp [entryFrame, mkF, argsToLocals, Value.category]; done) | rfl
def Qn1_ (Z : State) (q1 : Addr) (ro : Addr) (cn : Int32) (h0 : Heap) (n0 : Nat) (v : Option Value) (h : Heap) (L : List Loc) : Prop := v = some (.int cn) ∧ Fr n0 L ∧ Keep h0 h [ro] ∧ Exa Z h ro "com/example/pathweave/pathweave/planner/Slots" ∧ Fld Z h ro "com/example/pathweave/pathweave/planner/Slots" "giver" "Lcom/example/pathweave/pathweave/planner/Slots;" (.ref ro) ∧ Fld Z h ro "com/example/pathweave/pathweave/planner/Slots" "count" "I" (.int (cn + 1))
set_option maxRecDepth 65536 in
set_option maxHeartbeats 40000000 in
theorem rmn1_ (l : Launch) (Z : State) (a0 : Array Value) (hw : ∀ d ∈ tables_1, d.before a0 Z = true) (ws : List Jvm.Cond) (q1 : Addr) (ro : Addr) (cn : Int32) (h0 : Heap) (n0 : Nat) (Z0 : n0 ≤ h0.size) (Gx : Fld Z h0 q1 "com/example/pathweave/pathweave/planner/Slots" "giver" "Lcom/example/pathweave/pathweave/planner/Slots;" (.ref ro)) (Er : Exa Z h0 ro "com/example/pathweave/pathweave/planner/Slots") (Gr : Fld Z h0 ro "com/example/pathweave/pathweave/planner/Slots" "giver" "Lcom/example/pathweave/pathweave/planner/Slots;" (.ref ro)) (Cr : Fld Z h0 ro "com/example/pathweave/pathweave/planner/Slots" "count" "I" (.int cn)) (gr : n0 ≤ ro) (ne_ro_q1 : ro ≠ q1) :
    MetFree l (⟨"com/example/pathweave/pathweave/planner/Slots", "newSlot", "()I"⟩ : MethodName) (head1 (Jvm.Cond.code (⟨"com/example/pathweave/pathweave/planner/Slots", "newSlot", "()I"⟩ : MethodName) prog_142_method_5_code 1 (Option.some Jvm.ClassFile.FieldType.int) :: ws) ({ frames := 1, cells := 0, slots := 0, locals := 16 } : Room)) (fun a U => a = #[(.ref q1)] ∧ Z.Warmed39 U.vm ∧ U.heap = h0) (fun _ _ _ _ _ => True) (fun _ U o U' => ∃ v L, o = .returned v ∧ Qn1_ Z q1 ro cn h0 n0 v U'.heap L ∧ FrameEnd U o U' L ({ frames := 1, cells := 0, slots := 0, locals := 16 } : Room).cells ({ frames := 1, cells := 0, slots := 0, locals := 16 } : Room).slots) := by
  refine MetFree.of_bodySF (plainFor_of_name pnn1_) hisR ?_
  intro p e s m args below meth c s₁ Bd hml0 hP hK
  obtain ⟨rfl, hZ, hh⟩ := hP
  have hx := Bd.exec
  have hby := Bd.bytes
  have hml : c.maxLocals = 1 := hml0
  have hown : s.vm.findClass "com/example/pathweave/pathweave/planner/Slots" = some m.cls := findClass_of_methodNamed Bd.named
  have hnm := (name_of_methodNamed Bd.named Bd.method).1
  have X0 : Stand p l e ({ frames := 1, cells := 0, slots := 0, locals := 16 } : Room) s m #[(.ref q1)] below meth c s₁ [] 0 0 := Stand.of_body Bd
  have e0 : s₁.heap = h0 := by rw [← hh, Bd.state]; rfl
  have N0 := Fr.nil n0
  show Go p e below (Ret s (Qn1_ Z q1 ro cn h0 n0) ({ frames := 1, cells := 0, slots := 0, locals := 16 } : Room).cells ({ frames := 1, cells := 0, slots := 0, locals := 16 } : Room).slots) (s₁.setTop (entryFrame m #[(.ref q1)] 1))
  rw [efn1_ m q1]
  refine g_aloadN X0 hx (hb hby dn1__0) rfl rfl ?_
  refine g_getF X0 hx hZ hown (hw _ (List.mem_of_getElem? (i := 9) rfl)) e0 Gx (hb hby dn1__1) ?_
  intro T1 X2 e3
  refine g_aloadN X2 hx (hb hby dn1__4) rfl rfl ?_
  refine g_acmp X2 hx (hb hby dn1__5) rfl rfl (same := false) (decide_eq_false (fun q => ne_ro_q1 (Value.ref.inj q))) (by decide) (pc' := 22) (by decide) ?_
  refine g_aloadN X2 hx (hb hby dn1__22) rfl rfl ?_
  refine g_getF X2 hx hZ hown (hw _ (List.mem_of_getElem? (i := 9) rfl)) e3 Gx (hb hby dn1__23) ?_
  intro T4 X5 e6
  refine g_callV X5 hx hZ hown (hw _ (List.mem_of_getElem? (i := 93) rfl)) (hw _ (List.mem_of_getElem? (i := 89) rfl)) (hw _ (List.mem_of_getElem? (i := 91) rfl)) (hw _ (List.mem_of_getElem? (i := 90) rfl)) (hw _ (List.mem_of_getElem? (i := 2) rfl)) (hw _ (List.mem_of_getElem? (i := 92) rfl)) (by decide) (rmn0_ l Z a0 hw [] ro cn h0 n0 Z0 Er Gr Cr gr) e6 (W := 0) (by decide) (by decide) (by rw [hml]; rfl) ro Er [] [] (lenOf pdn1__0 rfl) rfl rfl (Nat.le_of_eq rfl) (hb hby dn1__26) (by decide) (by decide) ?_
  intro v11 T7 L10 X8 hQ9
  obtain ⟨rfl, N12, K13, F14, F15, F16⟩ := hQ9
  have N17 := Fr.app N0 N12
  show Go p e below (Ret s (Qn1_ Z q1 ro cn h0 n0) ({ frames := 1, cells := 0, slots := 0, locals := 16 } : Room).cells ({ frames := 1, cells := 0, slots := 0, locals := 16 } : Room).slots) (T7.setTop (mkF m 29 #[.val (.ref q1)] [(.int cn)]))
  refine g_ireturn X8 hx Bd.notSynchronized Bd.returns rfl (by simp) (hb hby dn1__29) (by decide) (by decide) ?_
  exact ⟨rfl, N17, K13, F14, F15, F16⟩

theorem dn3__0 : decode prog_142_method_5_code 0 = .ok (.aload_n 0, 1) := by decide +kernel
theorem dn3__1 : decode prog_142_method_5_code 1 = .ok (.getfield 7, 3) := by decide +kernel
theorem dn3__4 : decode prog_142_method_5_code 4 = .ok (.aload_n 0, 1) := by decide +kernel
theorem dn3__5 : decode prog_142_method_5_code 5 = .ok (.if_acmp .ne 17, 3) := by decide +kernel
theorem dn3__8 : decode prog_142_method_5_code 8 = .ok (.aload_n 0, 1) := by decide +kernel
theorem dn3__9 : decode prog_142_method_5_code 9 = .ok (.dup, 1) := by decide +kernel
theorem dn3__10 : decode prog_142_method_5_code 10 = .ok (.getfield 39, 3) := by decide +kernel
theorem dn3__13 : decode prog_142_method_5_code 13 = .ok (.dup_x1, 1) := by decide +kernel
theorem dn3__14 : decode prog_142_method_5_code 14 = .ok (.iconst 1, 1) := by decide +kernel
theorem dn3__15 : decode prog_142_method_5_code 15 = .ok (.iadd, 1) := by decide +kernel
theorem dn3__16 : decode prog_142_method_5_code 16 = .ok (.putfield 39, 3) := by decide +kernel
theorem dn3__19 : decode prog_142_method_5_code 19 = .ok (.goto 10, 3) := by decide +kernel
theorem dn3__29 : decode prog_142_method_5_code 29 = .ok (.ireturn, 1) := by decide +kernel
theorem pnn3_ : plainName "com/example/pathweave/pathweave/planner/Slots" = true := by first | (simp [plainName, overriddenIn]; done) | decide +kernel
theorem efn3_ (m : MethodId) (z0 : Addr) : entryFrame m #[(.ref z0)] 1 = mkF m 0 #[.val (.ref z0)] [] := by first | (simp [entryFrame, mkF, argsToLocals, Value.category]; done) | rfl
def Qn3_ (Z : State) (ro : Addr) (cn : Int32) (h0 : Heap) (n0 : Nat) (v : Option Value) (h : Heap) (L : List Loc) : Prop := v = some (.int cn) ∧ Fr n0 L ∧ Keep h0 h [ro] ∧ Exa Z h ro "com/example/pathweave/pathweave/planner/Slots" ∧ Fld Z h ro "com/example/pathweave/pathweave/planner/Slots" "giver" "Lcom/example/pathweave/pathweave/planner/Slots;" (.ref ro) ∧ Fld Z h ro "com/example/pathweave/pathweave/planner/Slots" "count" "I" (.int (cn + 1))
set_option maxRecDepth 65536 in
set_option maxHeartbeats 40000000 in
theorem rmn3_ (l : Launch) (Z : State) (a0 : Array Value) (hw : ∀ d ∈ tables_1, d.before a0 Z = true) (ws : List Jvm.Cond) (ro : Addr) (cn : Int32) (h0 : Heap) (n0 : Nat) (Z0 : n0 ≤ h0.size) (Er : Exa Z h0 ro "com/example/pathweave/pathweave/planner/Slots") (Gr : Fld Z h0 ro "com/example/pathweave/pathweave/planner/Slots" "giver" "Lcom/example/pathweave/pathweave/planner/Slots;" (.ref ro)) (Cr : Fld Z h0 ro "com/example/pathweave/pathweave/planner/Slots" "count" "I" (.int cn)) (gr : n0 ≤ ro) :
    MetFree l (⟨"com/example/pathweave/pathweave/planner/Slots", "newSlot", "()I"⟩ : MethodName) (head1 (Jvm.Cond.code (⟨"com/example/pathweave/pathweave/planner/Slots", "newSlot", "()I"⟩ : MethodName) prog_142_method_5_code 1 (Option.some Jvm.ClassFile.FieldType.int) :: ws) ({ frames := 1, cells := 0, slots := 0, locals := 16 } : Room)) (fun a U => a = #[(.ref ro)] ∧ Z.Warmed39 U.vm ∧ U.heap = h0) (fun _ _ _ _ _ => True) (fun _ U o U' => ∃ v L, o = .returned v ∧ Qn3_ Z ro cn h0 n0 v U'.heap L ∧ FrameEnd U o U' L ({ frames := 1, cells := 0, slots := 0, locals := 16 } : Room).cells ({ frames := 1, cells := 0, slots := 0, locals := 16 } : Room).slots) := by
  refine MetFree.of_bodySF (plainFor_of_name pnn3_) hisR ?_
  intro p e s m args below meth c s₁ Bd hml0 hP hK
  obtain ⟨rfl, hZ, hh⟩ := hP
  have hx := Bd.exec
  have hby := Bd.bytes
  have hml : c.maxLocals = 1 := hml0
  have hown : s.vm.findClass "com/example/pathweave/pathweave/planner/Slots" = some m.cls := findClass_of_methodNamed Bd.named
  have hnm := (name_of_methodNamed Bd.named Bd.method).1
  have X0 : Stand p l e ({ frames := 1, cells := 0, slots := 0, locals := 16 } : Room) s m #[(.ref ro)] below meth c s₁ [] 0 0 := Stand.of_body Bd
  have e0 : s₁.heap = h0 := by rw [← hh, Bd.state]; rfl
  have N0 := Fr.nil n0
  show Go p e below (Ret s (Qn3_ Z ro cn h0 n0) ({ frames := 1, cells := 0, slots := 0, locals := 16 } : Room).cells ({ frames := 1, cells := 0, slots := 0, locals := 16 } : Room).slots) (s₁.setTop (entryFrame m #[(.ref ro)] 1))
  rw [efn3_ m ro]
  have K0 : Keep h0 h0 [ro] := Keep.refl _ _
  refine g_aloadN X0 hx (hb hby dn3__0) rfl rfl ?_
  refine g_getF X0 hx hZ hown (hw _ (List.mem_of_getElem? (i := 9) rfl)) e0 Gr (hb hby dn3__1) ?_
  intro T1 X2 e3
  refine g_aloadN X2 hx (hb hby dn3__4) rfl rfl ?_
  refine g_acmp X2 hx (hb hby dn3__5) rfl rfl (same := true) (decide_eq_true rfl) (by decide) (pc' := 8) (by decide) ?_
  refine g_aloadN X2 hx (hb hby dn3__8) rfl rfl ?_
  refine g_dup X2 hx (hb hby dn3__9) rfl ?_
  refine g_getF X2 hx hZ hown (hw _ (List.mem_of_getElem? (i := 86) rfl)) e3 Cr (hb hby dn3__10) ?_
  intro T4 X5 e6
  refine g_dup_x1 X5 hx (hb hby dn3__13) rfl rfl ?_
  refine g_iconst X5 hx (hb hby dn3__14) (v := (1 : Int32)) (by decide) ?_
  obtain ⟨c1, hc1⟩ : ∃ v : Int32, cn + (1 : Int32) = v := ⟨_, rfl⟩
  refine g_iadd X5 hx (hb hby dn3__15) hc1 ?_
  refine g_putF X5 hx hZ hown (hw _ (List.mem_of_getElem? (i := 86) rfl)) e6 Cr Er (Or.inl (hw _ (List.mem_of_getElem? (i := 87) rfl))) (hw _ (List.mem_of_getElem? (i := 1) rfl)) (ty := .int) (by decide) rfl rfl (hb hby dn3__16) ?_
  intro T7 h10 X8 e9 W11
  have F13 := Er.wr W11
  have F14 := Gr.other W11 (Or.inr (slot_ne (Or.inr (hw _ (List.mem_of_getElem? (i := 10) rfl))) (Or.inl (hw _ (List.mem_of_getElem? (i := 87) rfl))) (by decide) (t := (.object "com/example/pathweave/pathweave/planner/Slots")) (t' := .int) (by decide) (by decide)))
  have F15 := Cr.same W11
  have Z16 : n0 ≤ h10.size := by rw [W11.size]; exact Z0
  have K17 := Keep.wr K0 W11 (Or.inl (List.mem_singleton.mpr rfl))
  have N18 := Fr.snoc X8 N0 gr
  refine g_goto X8 hx (hb hby dn3__19) (by decide) (pc' := 29) (by decide) ?_
  refine g_ireturn X8 hx Bd.notSynchronized Bd.returns rfl (by simp) (hb hby dn3__29) (by decide) (by decide) ?_
  subst hc1
  rw [e9]
  exact ⟨rfl, N18, K17, F13, F14, F15⟩

theorem rmn2_ (l : Launch) (Z : State) (a0 : Array Value) (hw : ∀ d ∈ tables_1, d.before a0 Z = true) (ws : List Jvm.Cond) (q1 : Addr) (ro : Addr) (cn : Int32) (h0 : Heap) (n0 : Nat) (Z0 : n0 ≤ h0.size) (Gx : Fld Z h0 q1 "com/example/pathweave/pathweave/planner/Slots" "giver" "Lcom/example/pathweave/pathweave/planner/Slots;" (.ref ro)) (Er : Exa Z h0 ro "com/example/pathweave/pathweave/planner/Slots") (Gr : Fld Z h0 ro "com/example/pathweave/pathweave/planner/Slots" "giver" "Lcom/example/pathweave/pathweave/planner/Slots;" (.ref ro)) (Cr : Fld Z h0 ro "com/example/pathweave/pathweave/planner/Slots" "count" "I" (.int cn)) (gr : n0 ≤ ro) :
    MetFree l (⟨"com/example/pathweave/pathweave/planner/Slots", "newSlot", "()I"⟩ : MethodName) (head1 (Jvm.Cond.code (⟨"com/example/pathweave/pathweave/planner/Slots", "newSlot", "()I"⟩ : MethodName) prog_142_method_5_code 1 (Option.some Jvm.ClassFile.FieldType.int) :: ws) ({ frames := 1, cells := 0, slots := 0, locals := 16 } : Room)) (fun a U => a = #[.ref q1] ∧ Z.Warmed39 U.vm ∧ U.heap = h0) (fun _ _ _ _ _ => True) (fun _ U o U' => ∃ v L, o = .returned v ∧ Qn1_ Z q1 ro cn h0 n0 v U'.heap L ∧ FrameEnd U o U' L 0 0) := by
  by_cases q : ro = q1
  · subst q
    exact rmn3_ l Z a0 hw ws ro cn h0 n0 Z0 Er Gr Cr gr
  · exact rmn1_ l Z a0 hw ws q1 ro cn h0 n0 Z0 Gx Er Gr Cr gr q
theorem pn0 : plainName "com/example/pathweave/pathweave/planner/SlotsNewSlotPinLaw" = true := by first | (simp [plainName, overriddenIn]; done) | decide +kernel
theorem pd0_0 : parseMethodDescriptor "()V" = some ⟨[], none⟩ := by decide +kernel
theorem pd0_1 : parseMethodDescriptor "()Ljava/util/Map;" = some ⟨[], some (.object "java/util/Map")⟩ := by decide +kernel
theorem pd0_2 : parseMethodDescriptor "(Ljava/util/Map;)Lcom/example/pathweave/pathweave/planner/Slots;" = some ⟨[(.object "java/util/Map")], some (.object "com/example/pathweave/pathweave/planner/Slots")⟩ := by decide +kernel
theorem pd0_3 : parseMethodDescriptor "(ILcom/example/pathweave/pathweave/planner/Slots;Lcom/example/pathweave/pathweave/planner/Slots;Lcom/example/pathweave/pathweave/planner/Slots;)Lcom/example/pathweave/pathweave/planner/Slots;" = some ⟨[.int, (.object "com/example/pathweave/pathweave/planner/Slots"), (.object "com/example/pathweave/pathweave/planner/Slots"), (.object "com/example/pathweave/pathweave/planner/Slots")], some (.object "com/example/pathweave/pathweave/planner/Slots")⟩ := by decide +kernel
theorem pd0_4 : parseMethodDescriptor "()I" = some ⟨[], some .int⟩ := by decide +kernel
theorem ef0 (m : MethodId) (z0 : Int32) (z1 : Int32) (z2 : Int32) (z3 : Int32) (z4 : Int32) : entryFrame m #[(.int z0), (.int z1), (.int z2), (.int z3), (.int z4)] maxLocals = mkF m 0 #[.val (.int z0), .val (.int z1), .val (.int z2), .val (.int z3), .val (.int z4), .unset, .unset, .unset, .unset, .unset, .unset, .unset, .unset, .unset] [] := by first | (simp [entryFrame, mkF, argsToLocals, Value.category, maxLocals]; done) | rfl
def Q0 (Z : State) (q0 : Int32) (q1 : Int32) (q2 : Int32) (q3 : Int32) (q4 : Int32) (h0 : Heap) (n0 : Nat) (v : Option Value) (h : Heap) (L : List Loc) : Prop := v = some (.int 1) ∧ Fr n0 L
set_option maxRecDepth 65536 in
set_option maxHeartbeats 40000000 in
theorem rm0 (l : Launch) (Z : State) (a0 : Array Value) (hw : ∀ d ∈ tables_1, d.before a0 Z = true) (ws : List Jvm.Cond) (q0 : Int32) (q1 : Int32) (q2 : Int32) (q3 : Int32) (q4 : Int32) (h0 : Heap) (n0 : Nat) (Z0 : n0 ≤ h0.size) {em : Addr} (S0 : Sta Z h0 "java/util/ImmutableCollections" "EMPTY_MAP" "Ljava/util/ImmutableCollections$MapN;" (.ref em)) (Em : Exa Z h0 em "java/util/ImmutableCollections$MapN") (Fm : Fld Z h0 em "java/util/ImmutableCollections$MapN" "size" "I" (.int 0)) :
    MetFree l x (head1 (Jvm.Cond.code x code maxLocals ret :: ws) room_1) (fun a U => a = #[(.int q0), (.int q1), (.int q2), (.int q3), (.int q4)] ∧ Z.Warmed39 U.vm ∧ U.heap = h0) (fun _ _ _ _ _ => True) (fun _ U o U' => ∃ v L, o = .returned v ∧ Q0 Z q0 q1 q2 q3 q4 h0 n0 v U'.heap L ∧ FrameEnd U o U' L 24 192) := by
  refine MetFree.of_bodySF (plainFor_of_name pn0) hisR ?_
  intro p e s m args below meth c s₁ Bd hml0 hP hK
  obtain ⟨rfl, hZ, hh⟩ := hP
  have hx := Bd.exec
  have hby := Bd.bytes
  have hml : c.maxLocals = 14 := hml0
  have hown : s.vm.findClass "com/example/pathweave/pathweave/planner/SlotsNewSlotPinLaw" = some m.cls := findClass_of_methodNamed Bd.named
  have hnm := (name_of_methodNamed Bd.named Bd.method).1
  have X0 : Stand p l e room_1 s m #[(.int q0), (.int q1), (.int q2), (.int q3), (.int q4)] below meth c s₁ [] 0 0 := Stand.of_body Bd
  have e0 : s₁.heap = h0 := by rw [← hh, Bd.state]; rfl
  have N0 := Fr.nil n0
  show Go p e below (Ret s (Q0 Z q0 q1 q2 q3 q4 h0 n0) 24 192) (s₁.setTop (entryFrame m #[(.int q0), (.int q1), (.int q2), (.int q3), (.int q4)] maxLocals))
  rw [ef0 m q0 q1 q2 q3 q4]
  refine g_new X0 hx hZ hown (hw _ (List.mem_of_getElem? (i := 0) rfl)) (hw _ (List.mem_of_getElem? (i := 1) rfl)) (hw _ (List.mem_of_getElem? (i := 2) rfl)) e0 (hb hby at_0) (by decide) (by decide) ?_
  intro T1 h4 ro gro X2 e3 E5 F6 D7
  have ne_em_ro : em ≠ ro := fun q => absurd Em.lt (by rw [q, gro]; exact Nat.lt_irrefl _)
  have ge_ro : n0 ≤ ro := by rw [gro]; exact Z0
  have F9 := Em.ext E5
  have F10 := Fm.ext E5
  have F11 := S0.ext E5
  have Z12 : n0 ≤ h4.size := Nat.le_trans Z0 E5.1
  have F14 : Fld Z h4 ro "com/example/pathweave/pathweave/planner/Slots" "count" "I" (.int (0 : Int32)) := D7 (Or.inl (hw _ (List.mem_of_getElem? (i := 87) rfl))) (ty := .int) (by decide)
  refine g_dup X2 hx (hb hby at_3) rfl ?_
  refine g_init X2 hx hZ hown rfl (hw _ (List.mem_of_getElem? (i := 3) rfl)) (hw _ (List.mem_of_getElem? (i := 4) rfl)) (hw _ (List.mem_of_getElem? (i := 2) rfl)) (hw _ (List.mem_of_getElem? (i := 5) rfl)) (by decide) (rmi l Z a0 hw [] ro em h4 n0 Z12 F6 F14 ge_ro F11) e3 (W := 1) (by decide) (by decide) (by rw [hml]; rfl) ro [] [(.ref ro)] (lenOf pd0_0 rfl) rfl rfl (Nat.le_of_eq rfl) (hb hby at_4) (by decide) (by decide) ?_
  intro v20 T16 L19 X17 hQ18
  obtain ⟨rfl, N21, K22, F23, F24, F25, F26⟩ := hQ18
  have N27 := Fr.app N0 N21
  have F28 := F9.keep K22
  have F29 := F10.keep K22 (ninS ne_em_ro nin0)
  have F31 := F6.keep K22
  have Z33 : n0 ≤ T16.heap.size := Nat.le_trans Z12 K22.1
  show Go p e below (Ret s (Q0 Z q0 q1 q2 q3 q4 h0 n0) 24 192) (T16.setTop (mkF m 7 #[.val (.int q0), .val (.int q1), .val (.int q2), .val (.int q3), .val (.int q4), .unset, .unset, .unset, .unset, .unset, .unset, .unset, .unset, .unset] [(.ref ro)]))
  refine g_astore X17 hx (hb hby at_7) rfl (L' := #[.val (.int q0), .val (.int q1), .val (.int q2), .val (.int q3), .val (.int q4), .val (.ref ro), .unset, .unset, .unset, .unset, .unset, .unset, .unset, .unset]) rfl ?_
  refine g_aload X17 hx (hb hby at_9) rfl rfl ?_
  refine g_aload X17 hx (hb hby at_11) rfl rfl ?_
  refine g_callV X17 hx hZ hown (hw _ (List.mem_of_getElem? (i := 37) rfl)) (hw _ (List.mem_of_getElem? (i := 38) rfl)) (hw _ (List.mem_of_getElem? (i := 40) rfl)) (hw _ (List.mem_of_getElem? (i := 39) rfl)) (hw _ (List.mem_of_getElem? (i := 2) rfl)) (hw _ (List.mem_of_getElem? (i := 41) rfl)) (by decide) (rmu l Z a0 hw [] ro em T16.heap n0 Z33 F25) rfl (W := 1) (by decide) (by decide) (by rw [hml]; rfl) ro F23 [] [(.ref ro)] (lenOf pd0_1 rfl) rfl rfl (Nat.le_of_eq rfl) (hb hby at_13) (by decide) (by decide) ?_
  intro v42 T38 L41 X39 hQ40
  obtain ⟨rfl, N43, e44⟩ := hQ40
  have N45 := Fr.app N27 N43
  show Go p e below (Ret s (Q0 Z q0 q1 q2 q3 q4 h0 n0) 24 192) (T38.setTop (mkF m 16 #[.val (.int q0), .val (.int q1), .val (.int q2), .val (.int q3), .val (.int q4), .val (.ref ro), .unset, .unset, .unset, .unset, .unset, .unset, .unset, .unset] [(.ref em), (.ref ro)]))
  refine g_callV X39 hx hZ hown (hw _ (List.mem_of_getElem? (i := 42) rfl)) (hw _ (List.mem_of_getElem? (i := 43) rfl)) (hw _ (List.mem_of_getElem? (i := 45) rfl)) (hw _ (List.mem_of_getElem? (i := 44) rfl)) (hw _ (List.mem_of_getElem? (i := 2) rfl)) (hw _ (List.mem_of_getElem? (i := 46) rfl)) (by decide) (rmf l Z a0 hw [] ro em ro T16.heap n0 Z33 F24 F28 F29) e44 (W := 0) (by decide) (by decide) (by rw [hml]; rfl) ro F23 [(.ref em)] [] (lenOf pd0_2 rfl) rfl rfl (Nat.le_of_eq rfl) (hb hby at_16) (by decide) (by decide) ?_
  intro v50 T46 L49 X47 hQ48
  obtain ⟨su, rfl, N51, K52, g53, g54, F55, F56, F57⟩ := hQ48
  have N58 := Fr.app N45 N51
  have ne_em_su : em ≠ su := fun q => absurd F28.lt (by rw [q]; exact Nat.not_lt.mpr g53)
  have ne_ro_su : ro ≠ su := fun q => absurd F23.lt (by rw [q]; exact Nat.not_lt.mpr g53)
  have F59 := F28.keep K52
  have F60 := F29.keep K52 nin0
  have F61 := F23.keep K52
  have F62 := F24.keep K52 nin0
  have F63 := F25.keep K52 nin0
  have F64 := F26.keep K52 nin0
  have Z65 : n0 ≤ T46.heap.size := Nat.le_trans Z33 K52.1
  show Go p e below (Ret s (Q0 Z q0 q1 q2 q3 q4 h0 n0) 24 192) (T46.setTop (mkF m 19 #[.val (.int q0), .val (.int q1), .val (.int q2), .val (.int q3), .val (.int q4), .val (.ref ro), .unset, .unset, .unset, .unset, .unset, .unset, .unset, .unset] [(.ref su)]))
  refine g_astore X47 hx (hb hby at_19) rfl (L' := #[.val (.int q0), .val (.int q1), .val (.int q2), .val (.int q3), .val (.int q4), .val (.ref ro), .val (.ref su), .unset, .unset, .unset, .unset, .unset, .unset, .unset]) rfl ?_
  refine g_aload X47 hx (hb hby at_21) rfl rfl ?_
  refine g_aload X47 hx (hb hby at_23) rfl rfl ?_
  refine g_callV X47 hx hZ hown (hw _ (List.mem_of_getElem? (i := 37) rfl)) (hw _ (List.mem_of_getElem? (i := 38) rfl)) (hw _ (List.mem_of_getElem? (i := 40) rfl)) (hw _ (List.mem_of_getElem? (i := 39) rfl)) (hw _ (List.mem_of_getElem? (i := 2) rfl)) (hw _ (List.mem_of_getElem? (i := 41) rfl)) (by decide) (rmu l Z a0 hw [] su em T46.heap n0 Z65 F57) rfl (W := 1) (by decide) (by decide) (by rw [hml]; rfl) su F55 [] [(.ref su)] (lenOf pd0_1 rfl) rfl rfl (Nat.le_of_eq rfl) (hb hby at_25) (by decide) (by decide) ?_
  intro v73 T69 L72 X70 hQ71
  obtain ⟨rfl, N74, e75⟩ := hQ71
  have N76 := Fr.app N58 N74
  show Go p e below (Ret s (Q0 Z q0 q1 q2 q3 q4 h0 n0) 24 192) (T69.setTop (mkF m 28 #[.val (.int q0), .val (.int q1), .val (.int q2), .val (.int q3), .val (.int q4), .val (.ref ro), .val (.ref su), .unset, .unset, .unset, .unset, .unset, .unset, .unset] [(.ref em), (.ref su)]))
  refine g_callV X70 hx hZ hown (hw _ (List.mem_of_getElem? (i := 42) rfl)) (hw _ (List.mem_of_getElem? (i := 43) rfl)) (hw _ (List.mem_of_getElem? (i := 45) rfl)) (hw _ (List.mem_of_getElem? (i := 44) rfl)) (hw _ (List.mem_of_getElem? (i := 2) rfl)) (hw _ (List.mem_of_getElem? (i := 46) rfl)) (by decide) (rmf l Z a0 hw [] su em ro T46.heap n0 Z65 F56 F59 F60) e75 (W := 0) (by decide) (by decide) (by rw [hml]; rfl) su F55 [(.ref em)] [] (lenOf pd0_2 rfl) rfl rfl (Nat.le_of_eq rfl) (hb hby at_28) (by decide) (by decide) ?_
  intro v81 T77 L80 X78 hQ79
  obtain ⟨sv, rfl, N82, K83, g84, g85, F86, F87, F88⟩ := hQ79
  have N89 := Fr.app N76 N82
  have ne_em_sv : em ≠ sv := fun q => absurd F59.lt (by rw [q]; exact Nat.not_lt.mpr g84)
  have ne_ro_sv : ro ≠ sv := fun q => absurd F61.lt (by rw [q]; exact Nat.not_lt.mpr g84)
  have ne_su_sv : su ≠ sv := fun q => absurd F55.lt (by rw [q]; exact Nat.not_lt.mpr g84)
  have F90 := F59.keep K83
  have F91 := F60.keep K83 nin0
  have F92 := F61.keep K83
  have F93 := F62.keep K83 nin0
  have F94 := F63.keep K83 nin0
  have F95 := F64.keep K83 nin0
  have F96 := F55.keep K83
  have F97 := F56.keep K83 nin0
  have F98 := F57.keep K83 nin0
  have Z99 : n0 ≤ T77.heap.size := Nat.le_trans Z65 K83.1
  show Go p e below (Ret s (Q0 Z q0 q1 q2 q3 q4 h0 n0) 24 192) (T77.setTop (mkF m 31 #[.val (.int q0), .val (.int q1), .val (.int q2), .val (.int q3), .val (.int q4), .val (.ref ro), .val (.ref su), .unset, .unset, .unset, .unset, .unset, .unset, .unset] [(.ref sv)]))
  refine g_astore X78 hx (hb hby at_31) rfl (L' := #[.val (.int q0), .val (.int q1), .val (.int q2), .val (.int q3), .val (.int q4), .val (.ref ro), .val (.ref su), .val (.ref sv), .unset, .unset, .unset, .unset, .unset, .unset]) rfl ?_
  refine g_iload X78 hx (hb hby at_33) rfl ?_
  refine g_aload X78 hx (hb hby at_35) rfl rfl ?_
  refine g_aload X78 hx (hb hby at_37) rfl rfl ?_
  refine g_aload X78 hx (hb hby at_39) rfl rfl ?_
  refine g_callS X78 hx hZ hown (hw _ (List.mem_of_getElem? (i := 76) rfl)) (hw _ (List.mem_of_getElem? (i := 77) rfl)) (hw _ (List.mem_of_getElem? (i := 78) rfl)) (hw _ (List.mem_of_getElem? (i := 79) rfl)) (by decide) (rmk l Z a0 hw [] q4 ro su sv T77.heap n0 Z99) rfl (W := 0) (by decide) (by decide) (by rw [hml]; rfl) [(.int q4), (.ref ro), (.ref su), (.ref sv)] [] (lenOf pd0_3 rfl) rfl rfl (Nat.le_of_eq rfl) (hb hby at_41) (by decide) (by decide) ?_
  intro v107 T103 L106 X104 hQ105
  obtain ⟨x41, ⟨rfl, hx41⟩, N108, e109⟩ := hQ105
  have N110 := Fr.app N89 N108
  have F111 : Exa Z T77.heap x41 "com/example/pathweave/pathweave/planner/Slots" := by
    rcases hx41 with q | q | q <;> rw [q]
    · exact F92
    · exact F96
    · exact F86
  have F112 : Fld Z T77.heap x41 "com/example/pathweave/pathweave/planner/Slots" "giver" "Lcom/example/pathweave/pathweave/planner/Slots;" (.ref ro) := by
    rcases hx41 with q | q | q <;> rw [q]
    · exact F93
    · exact F97
    · exact F87
  show Go p e below (Ret s (Q0 Z q0 q1 q2 q3 q4 h0 n0) 24 192) (T103.setTop (mkF m 44 #[.val (.int q0), .val (.int q1), .val (.int q2), .val (.int q3), .val (.int q4), .val (.ref ro), .val (.ref su), .val (.ref sv), .unset, .unset, .unset, .unset, .unset, .unset] [(.ref x41)]))
  refine g_astore X104 hx (hb hby at_44) rfl (L' := #[.val (.int q0), .val (.int q1), .val (.int q2), .val (.int q3), .val (.int q4), .val (.ref ro), .val (.ref su), .val (.ref sv), .val (.ref x41), .unset, .unset, .unset, .unset, .unset]) rfl ?_
  refine g_aload X104 hx (hb hby at_46) rfl rfl ?_
  refine g_callV X104 hx hZ hown (hw _ (List.mem_of_getElem? (i := 81) rfl)) (hw _ (List.mem_of_getElem? (i := 82) rfl)) (hw _ (List.mem_of_getElem? (i := 84) rfl)) (hw _ (List.mem_of_getElem? (i := 83) rfl)) (hw _ (List.mem_of_getElem? (i := 2) rfl)) (hw _ (List.mem_of_getElem? (i := 85) rfl)) (by decide) (rmc1 l Z a0 hw [] x41 ro (0 : Int32) T77.heap n0 Z99 F112 F92 F93 F95) e109 (W := 0) (by decide) (by decide) (by rw [hml]; rfl) x41 F111 [] [] (lenOf pd0_4 rfl) rfl rfl (Nat.le_of_eq rfl) (hb hby at_48) (by decide) (by decide) ?_
  intro v117 T113 L116 X114 hQ115
  obtain ⟨rfl, N118, e119⟩ := hQ115
  have N120 := Fr.app N110 N118
  show Go p e below (Ret s (Q0 Z q0 q1 q2 q3 q4 h0 n0) 24 192) (T113.setTop (mkF m 51 #[.val (.int q0), .val (.int q1), .val (.int q2), .val (.int q3), .val (.int q4), .val (.ref ro), .val (.ref su), .val (.ref sv), .val (.ref x41), .unset, .unset, .unset, .unset, .unset] [(.int (0 : Int32))]))
  have hc51_121 : (0 : Int32) = (0 : Int32) := (by decide)
  refine g_ifNo X114 hx (hb hby at_51) (teq hc51_121).2 ?_
  refine g_iconst X114 hx (hb hby at_54) (v := (1 : Int32)) (by decide) ?_
  refine g_goto X114 hx (hb hby at_55) (by decide) (pc' := 59) (by decide) ?_
  refine g_istore X114 hx (hb hby at_59) (L' := #[.val (.int q0), .val (.int q1), .val (.int q2), .val (.int q3), .val (.int q4), .val (.ref ro), .val (.ref su), .val (.ref sv), .val (.ref x41), .val (.int (1 : Int32)), .unset, .unset, .unset, .unset]) rfl ?_
  refine g_iloadN X114 hx (hb hby at_61) rfl ?_
  refine g_aload X114 hx (hb hby at_62) rfl rfl ?_
  refine g_aload X114 hx (hb hby at_64) rfl rfl ?_
  refine g_aload X114 hx (hb hby at_66) rfl rfl ?_
  refine g_callS X114 hx hZ hown (hw _ (List.mem_of_getElem? (i := 76) rfl)) (hw _ (List.mem_of_getElem? (i := 77) rfl)) (hw _ (List.mem_of_getElem? (i := 78) rfl)) (hw _ (List.mem_of_getElem? (i := 79) rfl)) (by decide) (rmk l Z a0 hw [] q0 ro su sv T77.heap n0 Z99) e119 (W := 0) (by decide) (by decide) (by rw [hml]; rfl) [(.int q0), (.ref ro), (.ref su), (.ref sv)] [] (lenOf pd0_3 rfl) rfl rfl (Nat.le_of_eq rfl) (hb hby at_68) (by decide) (by decide) ?_
  intro v126 T122 L125 X123 hQ124
  obtain ⟨x68, ⟨rfl, hx68⟩, N127, e128⟩ := hQ124
  have N129 := Fr.app N120 N127
  have F130 : Exa Z T77.heap x68 "com/example/pathweave/pathweave/planner/Slots" := by
    rcases hx68 with q | q | q <;> rw [q]
    · exact F92
    · exact F96
    · exact F86
  have F131 : Fld Z T77.heap x68 "com/example/pathweave/pathweave/planner/Slots" "giver" "Lcom/example/pathweave/pathweave/planner/Slots;" (.ref ro) := by
    rcases hx68 with q | q | q <;> rw [q]
    · exact F93
    · exact F97
    · exact F87
  show Go p e below (Ret s (Q0 Z q0 q1 q2 q3 q4 h0 n0) 24 192) (T122.setTop (mkF m 71 #[.val (.int q0), .val (.int q1), .val (.int q2), .val (.int q3), .val (.int q4), .val (.ref ro), .val (.ref su), .val (.ref sv), .val (.ref x41), .val (.int (1 : Int32)), .unset, .unset, .unset, .unset] [(.ref x68)]))
  refine g_callV X123 hx hZ hown (hw _ (List.mem_of_getElem? (i := 88) rfl)) (hw _ (List.mem_of_getElem? (i := 89) rfl)) (hw _ (List.mem_of_getElem? (i := 91) rfl)) (hw _ (List.mem_of_getElem? (i := 90) rfl)) (hw _ (List.mem_of_getElem? (i := 2) rfl)) (hw _ (List.mem_of_getElem? (i := 92) rfl)) (by decide) (rmn2_ l Z a0 hw [] x68 ro (0 : Int32) T77.heap n0 Z99 F131 F92 F93 F95 ge_ro) e128 (W := 0) (by decide) (by decide) (by rw [hml]; rfl) x68 F130 [] [] (lenOf pd0_4 rfl) rfl rfl (Nat.le_of_eq rfl) (hb hby at_71) (by decide) (by decide) ?_
  intro v136 T132 L135 X133 hQ134
  obtain ⟨rfl, N137, K138, F139, F140, F141⟩ := hQ134
  have N142 := Fr.app N129 N137
  have F143 := F90.keep K138
  have F144 := F91.keep K138 (ninS ne_em_ro nin0)
  have F145 := F92.keep K138
  have F149 := F96.keep K138
  have F150 := F97.keep K138 (ninS ne_ro_su.symm nin0)
  have F151 := F98.keep K138 (ninS ne_ro_su.symm nin0)
  have F152 := F86.keep K138
  have F153 := F87.keep K138 (ninS ne_ro_sv.symm nin0)
  have F154 := F88.keep K138 (ninS ne_ro_sv.symm nin0)
  have Z155 : n0 ≤ T132.heap.size := Nat.le_trans Z99 K138.1
  show Go p e below (Ret s (Q0 Z q0 q1 q2 q3 q4 h0 n0) 24 192) (T132.setTop (mkF m 74 #[.val (.int q0), .val (.int q1), .val (.int q2), .val (.int q3), .val (.int q4), .val (.ref ro), .val (.ref su), .val (.ref sv), .val (.ref x41), .val (.int (1 : Int32)), .unset, .unset, .unset, .unset] [(.int (0 : Int32))]))
  refine g_istore X133 hx (hb hby at_74) (L' := #[.val (.int q0), .val (.int q1), .val (.int q2), .val (.int q3), .val (.int q4), .val (.ref ro), .val (.ref su), .val (.ref sv), .val (.ref x41), .val (.int (1 : Int32)), .val (.int (0 : Int32)), .unset, .unset, .unset]) rfl ?_
  refine g_iloadN X133 hx (hb hby at_76) rfl ?_
  refine g_aload X133 hx (hb hby at_77) rfl rfl ?_
  refine g_aload X133 hx (hb hby at_79) rfl rfl ?_
  refine g_aload X133 hx (hb hby at_81) rfl rfl ?_
  refine g_callS X133 hx hZ hown (hw _ (List.mem_of_getElem? (i := 76) rfl)) (hw _ (List.mem_of_getElem? (i := 77) rfl)) (hw _ (List.mem_of_getElem? (i := 78) rfl)) (hw _ (List.mem_of_getElem? (i := 79) rfl)) (by decide) (rmk l Z a0 hw [] q1 ro su sv T132.heap n0 Z155) rfl (W := 0) (by decide) (by decide) (by rw [hml]; rfl) [(.int q1), (.ref ro), (.ref su), (.ref sv)] [] (lenOf pd0_3 rfl) rfl rfl (Nat.le_of_eq rfl) (hb hby at_83) (by decide) (by decide) ?_
  intro v163 T159 L162 X160 hQ161
  obtain ⟨x83, ⟨rfl, hx83⟩, N164, e165⟩ := hQ161
  have N166 := Fr.app N142 N164
  have F167 : Exa Z T132.heap x83 "com/example/pathweave/pathweave/planner/Slots" := by
    rcases hx83 with q | q | q <;> rw [q]
    · exact F139
    · exact F149
    · exact F152
  have F168 : Fld Z T132.heap x83 "com/example/pathweave/pathweave/planner/Slots" "giver" "Lcom/example/pathweave/pathweave/planner/Slots;" (.ref ro) := by
    rcases hx83 with q | q | q <;> rw [q]
    · exact F140
    · exact F150
    · exact F153
  show Go p e below (Ret s (Q0 Z q0 q1 q2 q3 q4 h0 n0) 24 192) (T159.setTop (mkF m 86 #[.val (.int q0), .val (.int q1), .val (.int q2), .val (.int q3), .val (.int q4), .val (.ref ro), .val (.ref su), .val (.ref sv), .val (.ref x41), .val (.int (1 : Int32)), .val (.int (0 : Int32)), .unset, .unset, .unset] [(.ref x83)]))
  refine g_callV X160 hx hZ hown (hw _ (List.mem_of_getElem? (i := 88) rfl)) (hw _ (List.mem_of_getElem? (i := 89) rfl)) (hw _ (List.mem_of_getElem? (i := 91) rfl)) (hw _ (List.mem_of_getElem? (i := 90) rfl)) (hw _ (List.mem_of_getElem? (i := 2) rfl)) (hw _ (List.mem_of_getElem? (i := 92) rfl)) (by decide) (rmn2_ l Z a0 hw [] x83 ro (1 : Int32) T132.heap n0 Z155 F168 F139 F140 F141 ge_ro) e165 (W := 0) (by decide) (by decide) (by rw [hml]; rfl) x83 F167 [] [] (lenOf pd0_4 rfl) rfl rfl (Nat.le_of_eq rfl) (hb hby at_86) (by decide) (by decide) ?_
  intro v173 T169 L172 X170 hQ171
  obtain ⟨rfl, N174, K175, F176, F177, F178⟩ := hQ171
  have N179 := Fr.app N166 N174
  have F180 := F143.keep K175
  have F181 := F144.keep K175 (ninS ne_em_ro nin0)
  have F182 := F149.keep K175
  have F183 := F150.keep K175 (ninS ne_ro_su.symm nin0)
  have F184 := F151.keep K175 (ninS ne_ro_su.symm nin0)
  have F185 := F152.keep K175
  have F186 := F153.keep K175 (ninS ne_ro_sv.symm nin0)
  have F187 := F154.keep K175 (ninS ne_ro_sv.symm nin0)
  have F188 := F139.keep K175
  have Z191 : n0 ≤ T169.heap.size := Nat.le_trans Z155 K175.1
  show Go p e below (Ret s (Q0 Z q0 q1 q2 q3 q4 h0 n0) 24 192) (T169.setTop (mkF m 89 #[.val (.int q0), .val (.int q1), .val (.int q2), .val (.int q3), .val (.int q4), .val (.ref ro), .val (.ref su), .val (.ref sv), .val (.ref x41), .val (.int (1 : Int32)), .val (.int (0 : Int32)), .unset, .unset, .unset] [(.int (1 : Int32))]))
  refine g_istore X170 hx (hb hby at_89) (L' := #[.val (.int q0), .val (.int q1), .val (.int q2), .val (.int q3), .val (.int q4), .val (.ref ro), .val (.ref su), .val (.ref sv), .val (.ref x41), .val (.int (1 : Int32)), .val (.int (0 : Int32)), .val (.int (1 : Int32)), .unset, .unset]) rfl ?_
  refine g_iloadN X170 hx (hb hby at_91) rfl ?_
  refine g_aload X170 hx (hb hby at_92) rfl rfl ?_
  refine g_aload X170 hx (hb hby at_94) rfl rfl ?_
  refine g_aload X170 hx (hb hby at_96) rfl rfl ?_
  refine g_callS X170 hx hZ hown (hw _ (List.mem_of_getElem? (i := 76) rfl)) (hw _ (List.mem_of_getElem? (i := 77) rfl)) (hw _ (List.mem_of_getElem? (i := 78) rfl)) (hw _ (List.mem_of_getElem? (i := 79) rfl)) (by decide) (rmk l Z a0 hw [] q2 ro su sv T169.heap n0 Z191) rfl (W := 0) (by decide) (by decide) (by rw [hml]; rfl) [(.int q2), (.ref ro), (.ref su), (.ref sv)] [] (lenOf pd0_3 rfl) rfl rfl (Nat.le_of_eq rfl) (hb hby at_98) (by decide) (by decide) ?_
  intro v199 T195 L198 X196 hQ197
  obtain ⟨x98, ⟨rfl, hx98⟩, N200, e201⟩ := hQ197
  have N202 := Fr.app N179 N200
  have F203 : Exa Z T169.heap x98 "com/example/pathweave/pathweave/planner/Slots" := by
    rcases hx98 with q | q | q <;> rw [q]
    · exact F176
    · exact F182
    · exact F185
  have F204 : Fld Z T169.heap x98 "com/example/pathweave/pathweave/planner/Slots" "giver" "Lcom/example/pathweave/pathweave/planner/Slots;" (.ref ro) := by
    rcases hx98 with q | q | q <;> rw [q]
    · exact F177
    · exact F183
    · exact F186
  show Go p e below (Ret s (Q0 Z q0 q1 q2 q3 q4 h0 n0) 24 192) (T195.setTop (mkF m 101 #[.val (.int q0), .val (.int q1), .val (.int q2), .val (.int q3), .val (.int q4), .val (.ref ro), .val (.ref su), .val (.ref sv), .val (.ref x41), .val (.int (1 : Int32)), .val (.int (0 : Int32)), .val (.int (1 : Int32)), .unset, .unset] [(.ref x98)]))
  refine g_callV X196 hx hZ hown (hw _ (List.mem_of_getElem? (i := 88) rfl)) (hw _ (List.mem_of_getElem? (i := 89) rfl)) (hw _ (List.mem_of_getElem? (i := 91) rfl)) (hw _ (List.mem_of_getElem? (i := 90) rfl)) (hw _ (List.mem_of_getElem? (i := 2) rfl)) (hw _ (List.mem_of_getElem? (i := 92) rfl)) (by decide) (rmn2_ l Z a0 hw [] x98 ro (2 : Int32) T169.heap n0 Z191 F204 F176 F177 F178 ge_ro) e201 (W := 0) (by decide) (by decide) (by rw [hml]; rfl) x98 F203 [] [] (lenOf pd0_4 rfl) rfl rfl (Nat.le_of_eq rfl) (hb hby at_101) (by decide) (by decide) ?_
  intro v209 T205 L208 X206 hQ207
  obtain ⟨rfl, N210, K211, F212, F213, F214⟩ := hQ207
  have N215 := Fr.app N202 N210
  have F216 := F180.keep K211
  have F217 := F181.keep K211 (ninS ne_em_ro nin0)
  have F218 := F182.keep K211
  have F219 := F183.keep K211 (ninS ne_ro_su.symm nin0)
  have F220 := F184.keep K211 (ninS ne_ro_su.symm nin0)
  have F221 := F185.keep K211
  have F222 := F186.keep K211 (ninS ne_ro_sv.symm nin0)
  have F223 := F187.keep K211 (ninS ne_ro_sv.symm nin0)
  have F224 := F176.keep K211
  have Z227 : n0 ≤ T205.heap.size := Nat.le_trans Z191 K211.1
  show Go p e below (Ret s (Q0 Z q0 q1 q2 q3 q4 h0 n0) 24 192) (T205.setTop (mkF m 104 #[.val (.int q0), .val (.int q1), .val (.int q2), .val (.int q3), .val (.int q4), .val (.ref ro), .val (.ref su), .val (.ref sv), .val (.ref x41), .val (.int (1 : Int32)), .val (.int (0 : Int32)), .val (.int (1 : Int32)), .unset, .unset] [(.int (2 : Int32))]))
  refine g_istore X206 hx (hb hby at_104) (L' := #[.val (.int q0), .val (.int q1), .val (.int q2), .val (.int q3), .val (.int q4), .val (.ref ro), .val (.ref su), .val (.ref sv), .val (.ref x41), .val (.int (1 : Int32)), .val (.int (0 : Int32)), .val (.int (1 : Int32)), .val (.int (2 : Int32)), .unset]) rfl ?_
  refine g_iloadN X206 hx (hb hby at_106) rfl ?_
  refine g_aload X206 hx (hb hby at_107) rfl rfl ?_
  refine g_aload X206 hx (hb hby at_109) rfl rfl ?_
  refine g_aload X206 hx (hb hby at_111) rfl rfl ?_
  refine g_callS X206 hx hZ hown (hw _ (List.mem_of_getElem? (i := 76) rfl)) (hw _ (List.mem_of_getElem? (i := 77) rfl)) (hw _ (List.mem_of_getElem? (i := 78) rfl)) (hw _ (List.mem_of_getElem? (i := 79) rfl)) (by decide) (rmk l Z a0 hw [] q3 ro su sv T205.heap n0 Z227) rfl (W := 0) (by decide) (by decide) (by rw [hml]; rfl) [(.int q3), (.ref ro), (.ref su), (.ref sv)] [] (lenOf pd0_3 rfl) rfl rfl (Nat.le_of_eq rfl) (hb hby at_113) (by decide) (by decide) ?_
  intro v235 T231 L234 X232 hQ233
  obtain ⟨x113, ⟨rfl, hx113⟩, N236, e237⟩ := hQ233
  have N238 := Fr.app N215 N236
  have F239 : Exa Z T205.heap x113 "com/example/pathweave/pathweave/planner/Slots" := by
    rcases hx113 with q | q | q <;> rw [q]
    · exact F212
    · exact F218
    · exact F221
  have F240 : Fld Z T205.heap x113 "com/example/pathweave/pathweave/planner/Slots" "giver" "Lcom/example/pathweave/pathweave/planner/Slots;" (.ref ro) := by
    rcases hx113 with q | q | q <;> rw [q]
    · exact F213
    · exact F219
    · exact F222
  show Go p e below (Ret s (Q0 Z q0 q1 q2 q3 q4 h0 n0) 24 192) (T231.setTop (mkF m 116 #[.val (.int q0), .val (.int q1), .val (.int q2), .val (.int q3), .val (.int q4), .val (.ref ro), .val (.ref su), .val (.ref sv), .val (.ref x41), .val (.int (1 : Int32)), .val (.int (0 : Int32)), .val (.int (1 : Int32)), .val (.int (2 : Int32)), .unset] [(.ref x113)]))
  refine g_callV X232 hx hZ hown (hw _ (List.mem_of_getElem? (i := 88) rfl)) (hw _ (List.mem_of_getElem? (i := 89) rfl)) (hw _ (List.mem_of_getElem? (i := 91) rfl)) (hw _ (List.mem_of_getElem? (i := 90) rfl)) (hw _ (List.mem_of_getElem? (i := 2) rfl)) (hw _ (List.mem_of_getElem? (i := 92) rfl)) (by decide) (rmn2_ l Z a0 hw [] x113 ro (3 : Int32) T205.heap n0 Z227 F240 F212 F213 F214 ge_ro) e237 (W := 0) (by decide) (by decide) (by rw [hml]; rfl) x113 F239 [] [] (lenOf pd0_4 rfl) rfl rfl (Nat.le_of_eq rfl) (hb hby at_116) (by decide) (by decide) ?_
  intro v245 T241 L244 X242 hQ243
  obtain ⟨rfl, N246, K247, F248, F249, F250⟩ := hQ243
  have N251 := Fr.app N238 N246
  have F252 := F216.keep K247
  have F253 := F217.keep K247 (ninS ne_em_ro nin0)
  have F254 := F218.keep K247
  have F255 := F219.keep K247 (ninS ne_ro_su.symm nin0)
  have F256 := F220.keep K247 (ninS ne_ro_su.symm nin0)
  have F257 := F221.keep K247
  have F258 := F222.keep K247 (ninS ne_ro_sv.symm nin0)
  have F259 := F223.keep K247 (ninS ne_ro_sv.symm nin0)
  have F260 := F212.keep K247
  have Z263 : n0 ≤ T241.heap.size := Nat.le_trans Z227 K247.1
  show Go p e below (Ret s (Q0 Z q0 q1 q2 q3 q4 h0 n0) 24 192) (T241.setTop (mkF m 119 #[.val (.int q0), .val (.int q1), .val (.int q2), .val (.int q3), .val (.int q4), .val (.ref ro), .val (.ref su), .val (.ref sv), .val (.ref x41), .val (.int (1 : Int32)), .val (.int (0 : Int32)), .val (.int (1 : Int32)), .val (.int (2 : Int32)), .unset] [(.int (3 : Int32))]))
  refine g_istore X242 hx (hb hby at_119) (L' := #[.val (.int q0), .val (.int q1), .val (.int q2), .val (.int q3), .val (.int q4), .val (.ref ro), .val (.ref su), .val (.ref sv), .val (.ref x41), .val (.int (1 : Int32)), .val (.int (0 : Int32)), .val (.int (1 : Int32)), .val (.int (2 : Int32)), .val (.int (3 : Int32))]) rfl ?_
  refine g_iload X242 hx (hb hby at_121) rfl ?_
  have hc123_267 : ¬ ((1 : Int32) = (0 : Int32)) := (by decide)
  refine g_ifNo X242 hx (hb hby at_123) (feq hc123_267).1 ?_
  refine g_iload X242 hx (hb hby at_126) rfl ?_
  have hc128_268 : (0 : Int32) = (0 : Int32) := (by decide)
  refine g_ifNo X242 hx (hb hby at_128) (teq hc128_268).2 ?_
  refine g_iload X242 hx (hb hby at_131) rfl ?_
  refine g_iconst X242 hx (hb hby at_133) (v := (1 : Int32)) (by decide) ?_
  have hc134_269 : (1 : Int32) = (1 : Int32) := (by decide)
  refine g_icmpNo X242 hx (hb hby at_134) (teq hc134_269).2 ?_
  refine g_iload X242 hx (hb hby at_137) rfl ?_
  refine g_iconst X242 hx (hb hby at_139) (v := (2 : Int32)) (by decide) ?_
  have hc140_270 : (2 : Int32) = (2 : Int32) := (by decide)
  refine g_icmpNo X242 hx (hb hby at_140) (teq hc140_270).2 ?_
  refine g_iload X242 hx (hb hby at_143) rfl ?_
  refine g_iconst X242 hx (hb hby at_145) (v := (3 : Int32)) (by decide) ?_
  have hc146_271 : (3 : Int32) = (3 : Int32) := (by decide)
  refine g_icmpNo X242 hx (hb hby at_146) (teq hc146_271).2 ?_
  refine g_iconst X242 hx (hb hby at_149) (v := (1 : Int32)) (by decide) ?_
  refine g_goto X242 hx (hb hby at_150) (by decide) (pc' := 154) (by decide) ?_
  refine g_istore X242 hx (hb hby at_154) (L' := #[.val (.int q0), .val (.int q1), .val (.int q2), .val (.int q3), .val (.int q4), .val (.ref ro), .val (.ref su), .val (.ref sv), .val (.ref x41), .val (.int (1 : Int32)), .val (.int (0 : Int32)), .val (.int (1 : Int32)), .val (.int (2 : Int32)), .val (.int (3 : Int32))]) rfl ?_
  refine g_iload X242 hx (hb hby at_156) rfl ?_
  have hc158_272 : ¬ ((1 : Int32) = (0 : Int32)) := (by decide)
  refine g_ifNo X242 hx (hb hby at_158) (feq hc158_272).1 ?_
  have F273 : Exa Z T241.heap x41 "com/example/pathweave/pathweave/planner/Slots" := by
    rcases hx41 with q | q | q <;> rw [q]
    · exact F248
    · exact F254
    · exact F257
  have F274 : Fld Z T241.heap x41 "com/example/pathweave/pathweave/planner/Slots" "giver" "Lcom/example/pathweave/pathweave/planner/Slots;" (.ref ro) := by
    rcases hx41 with q | q | q <;> rw [q]
    · exact F249
    · exact F255
    · exact F258
  refine g_aload X242 hx (hb hby at_161) rfl rfl ?_
  refine g_callV X242 hx hZ hown (hw _ (List.mem_of_getElem? (i := 81) rfl)) (hw _ (List.mem_of_getElem? (i := 82) rfl)) (hw _ (List.mem_of_getElem? (i := 84) rfl)) (hw _ (List.mem_of_getElem? (i := 83) rfl)) (hw _ (List.mem_of_getElem? (i := 2) rfl)) (hw _ (List.mem_of_getElem? (i := 85) rfl)) (by decide) (rmc1 l Z a0 hw [] x41 ro (4 : Int32) T241.heap n0 Z263 F274 F248 F249 F250) rfl (W := 0) (by decide) (by decide) (by rw [hml]; rfl) x41 F273 [] [] (lenOf pd0_4 rfl) rfl rfl (Nat.le_of_eq rfl) (hb hby at_163) (by decide) (by decide) ?_
  intro v279 T275 L278 X276 hQ277
  obtain ⟨rfl, N280, e281⟩ := hQ277
  have N282 := Fr.app N251 N280
  show Go p e below (Ret s (Q0 Z q0 q1 q2 q3 q4 h0 n0) 24 192) (T275.setTop (mkF m 166 #[.val (.int q0), .val (.int q1), .val (.int q2), .val (.int q3), .val (.int q4), .val (.ref ro), .val (.ref su), .val (.ref sv), .val (.ref x41), .val (.int (1 : Int32)), .val (.int (0 : Int32)), .val (.int (1 : Int32)), .val (.int (2 : Int32)), .val (.int (3 : Int32))] [(.int (4 : Int32))]))
  refine g_iconst X276 hx (hb hby at_166) (v := (4 : Int32)) (by decide) ?_
  have hc167_283 : (4 : Int32) = (4 : Int32) := (by decide)
  refine g_icmpNo X276 hx (hb hby at_167) (teq hc167_283).2 ?_
  refine g_iconst X276 hx (hb hby at_170) (v := (1 : Int32)) (by decide) ?_
  refine g_goto X276 hx (hb hby at_171) (by decide) (pc' := 175) (by decide) ?_
  refine g_istore X276 hx (hb hby at_175) (L' := #[.val (.int q0), .val (.int q1), .val (.int q2), .val (.int q3), .val (.int q4), .val (.ref ro), .val (.ref su), .val (.ref sv), .val (.ref x41), .val (.int (1 : Int32)), .val (.int (0 : Int32)), .val (.int (1 : Int32)), .val (.int (2 : Int32)), .val (.int (3 : Int32))]) rfl ?_
  refine g_iload X276 hx (hb hby at_177) rfl ?_
  refine g_ireturn X276 hx Bd.notSynchronized Bd.returns rfl (by simp) (hb hby at_179) (by decide) (by decide) ?_
  exact ⟨rfl, N282⟩

theorem own_fld {s : State} {args : Array Value} {t : Term} {a : Addr} {C n : String} (ev : t.eval args s none [] s = some (.ref a)) (h : (Jvm.Cond.eq (.field t C n "I") (.int 0)).value args s none s [] = some true) : Fld s s.heap a C n "I" (.int 0) := by
  obtain ⟨x, y, e1, e2, -, k2⟩ := cmp_v (Or.inl h)
  cases (Term.int_eval 0).symm.trans e2
  obtain ⟨z, rfl⟩ : ∃ z, x = .int z := k2
  have q : z = 0 := gotT (Cond.eq_ints e1 (Term.int_eval 0)) h
  subst q
  refine Fld.start ?_
  simpa [Term.eval, ev] using e1
set_option maxRecDepth 65536 in
set_option maxHeartbeats 40000000 in
theorem comes_1 {Post : Tables → Env → Array Value → State → Outcome → State → Prop} (hpost : ∀ tb e args s v u, (limb_1_1.after args s (.returned v) u = true ∧ limb_1_2.after args s (.returned v) u = true ∧ True) → FrameEnd s (.returned v) u (Jvm.fieldLocs frame_1_writes args s ++ Jvm.arrayLocs frame_1_arrays args s ++ Jvm.staticLocs frame_1_statics s) 24 192 → Post tb e args s (.returned v) u) :
    ArmFor flags0 classFile x code maxLocals ret World_1 tables_1 room_1 Calls_1 rest_1 Pre_1 Post := by
  intro l hfl _ _ p e ha hc hk s m args below hf hA hF happ hP
  obtain ⟨hcalls, hrest, hpre⟩ := hP
  obtain ⟨-, -, -, hnamed, -, -, -, hat⟩ := (Spec.applies_iff hf).mp happ
  obtain ⟨hg, hn⟩ := and_e (Cond.before_iff.mp (show (Jvm.Cond.and given_1 narrow_1).before args s = true from hpre))
  obtain ⟨h1, g0⟩ := and_e hg
  obtain ⟨k0, g1⟩ := and_e g0
  obtain ⟨k1, g2⟩ := and_e g1
  obtain ⟨k2, g3⟩ := and_e g2
  obtain ⟨k3, g4⟩ := and_e g3
  obtain ⟨w0, w1, w2, w3, w4, rfl⟩ : ∃ w0 w1 w2 w3 w4 : Value, args = #[w0, w1, w2, w3, w4] := by
    have hs : args.size = 5 := by simpa [Cond.value, given_1] using h1
    obtain ⟨L⟩ := args
    match L, hs with
    | [w0, w1, w2, w3, w4], _ => exact ⟨w0, w1, w2, w3, w4, rfl⟩
  have hw := fun d (hd : d ∈ tables_1) => atoms_spec (ws := Jvm.Cond.code x code maxLocals ret :: tables_1) hat d (List.mem_cons_of_mem _ hd)
  have hfit : Fit s := fun {y c} hc i hi => by
    obtain ⟨ha, rfl⟩ := Array.getElem?_eq_some_iff.mp hc
    have q := List.all_eq_true.mp ((Array.all_eq_true_iff_forall_mem.mp hF) _ (Array.getElem_mem ha)) i (List.mem_range.mpr hi)
    simpa [Array.getElem?_eq_getElem hi] using q
  obtain ⟨i0, e0⟩ := is_v k0
  obtain rfl : w0 = (.int i0) := Option.some.inj e0
  obtain ⟨i1, e1⟩ := is_v k1
  obtain rfl : w1 = (.int i1) := Option.some.inj e1
  obtain ⟨i2, e2⟩ := is_v k2
  obtain rfl : w2 = (.int i2) := Option.some.inj e2
  obtain ⟨i3, e3⟩ := is_v k3
  obtain rfl : w3 = (.int i3) := Option.some.inj e3
  obtain ⟨i4, e4⟩ := is_v g4
  obtain rfl : w4 = (.int i4) := Option.some.inj e4
  have hr := Cond.before_iff.mp (show rest_1_c.before _ s = true from hrest)
  unfold rest_1_c at hr
  obtain ⟨r0, hr⟩ := and_e hr
  obtain ⟨r1, hr⟩ := and_e hr
  obtain ⟨r2, hr⟩ := and_e hr
  obtain ⟨r3, hr⟩ := and_e hr
  obtain ⟨r4, hr⟩ := and_e hr
  obtain ⟨r5, hr⟩ := and_e hr
  obtain ⟨r6, hr⟩ := and_e hr
  obtain ⟨em, ev⟩ := exa_v r2
  have Em := Exa.start ev r2
  have S0 := Sta.start ev (Or.inl (Cond.before_iff.mpr r1))
  have Fm := own_fld ev r6
  obtain ⟨n, o, h1, h2, h3, _, L, rfl, ⟨rfl, N⟩, hq⟩ := rm0 l s _ hw tables_1 i0 i1 i2 i3 i4 s.heap s.heap.size (Nat.le_refl _) S0 Em Fm p e ha hc hk s m _ below hf ((Spec.applies_iff_loose hf).mp happ).1 ⟨rfl, State.Warmed39.refl s, rfl⟩ trivial
  refine ⟨n, _, h1, h2, h3, hpost _ _ _ _ _ _ ⟨Cond.after_iff.mpr rfl, Cond.after_iff.mpr (eq_i res_at (Term.int_eval (1)) rfl), trivial⟩ ⟨hq.1, hq.2.1, (hq.2.2.sift fun y hy => Or.inr (N y hy)).mono (by decide) (by decide)⟩⟩
theorem main_1_1 : Claimed_1_1 := comes_1 fun _ _ _ _ _ _ h hF => ⟨h.1, hF⟩
theorem main_1_2 : Claimed_1_2 := comes_1 fun _ _ _ _ _ _ h hF => ⟨h.2.1, hF⟩
end Jvm.Pilot.@@N@@
namespace Jvm.Pilot.@@N@@
open Jvm Jvm.ClassFile Sem Op Lib Jvm.Free Jvm.Stand Jvm.Pilot.@@N@@.Jvm.D
/-! MADE BY PROGRAM (witnessworld.py) out of the Statement's table words and the real class files: 16 classes; the members and pool entries that the words name. The judged class is class 1, her method 2. -/
namespace start1
open Jvm.ClassFile
def u (s : String) : CpInfo := .utf8 (stringToUtf16 s)
/-- a pool by its gaps: so many unusable entries, then the entry; so many at the end -/
def gap : Nat → List CpInfo → List CpInfo
  | 0, r => r
  | n + 1, r => .unusable :: gap n r
def poolList (es : List (Nat × CpInfo)) (last : Nat) : List CpInfo := es.foldr (fun e r => gap e.1 (e.2 :: r)) (gap last [])
def pool (es : List (Nat × CpInfo)) (last : Nat) : Array CpInfo := ⟨poolList es last⟩
def fileOf (pool : Array CpInfo) (this : Nat) (attrs : Array Attribute := #[]) (ms : Array MethodInfo := #[]) (fl : Nat := 33) (sup : Nat := 0) (ifs : Array Nat := #[]) (fds : Array FieldInfo := #[]) : ClassFile where
  minorVersion := 0
  majorVersion := 65
  constantPool := pool
  accessFlags := fl
  thisClass := this
  superClass := sup
  interfaces := ifs
  fields := fds
  methods := ms
  attributes := attrs
def plain (name : String) (sup : Option ClassId) : Class where
  name := name
  kind := .ordinary
  loader := none
  accessFlags := 33
  super := sup
  interfaces := #[]
  cf := none
  fields := #[]
  methods := #[]
  instanceTypes := #[]
  staticTypes := #[]
  resolved := #[]
  callSites := []
  init := .initialized
  statics := none
  mirror := none

def pool0 : Array CpInfo := pool [(5, u "<init>"), (0, u "()V"), (1, .class_ 10), (1, u "java/lang/Object")] 113

def k0c0 : Code := { maxStack := 0, maxLocals := 1, code := object_method_1_code, exceptionTable := #[], attributes := #[] }
def k0m0 : Method := { name := "<init>", desc := "()V", sig := { parameters := [], returnType := none }, accessFlags := 1, code := some k0c0 }
/-- java/lang/Object -/
def k0 : Class := { plain "java/lang/Object" none with
  accessFlags := 33
  interfaces := #[]
  cf := some (fileOf pool0 8 #[] #[{ accessFlags := 1, nameIndex := 5, descriptorIndex := 6, attributes := #[] }] 33 0 #[] #[])
  fields := #[]
  methods := #[k0m0]
  instanceTypes := #[]
  staticTypes := #[]
  resolved := Array.replicate 124 none
  statics := none }

def pool1 : Array CpInfo := pool [(2, .class_ 4), (0, .nameAndType 5 6), (0, u "java/lang/Object"), (0, u "<init>"), (0, u "()V"), (0, .integer 2147483647), (0, .class_ 9), (0, u "com/example/pathweave/pathweave/planner/Slots"), (0, .methodref 8 3), (0, .methodref 8 12), (0, .nameAndType 13 14), (0, u "outer"), (0, u "()Ljava/util/Map;"), (0, .methodref 8 16), (0, .nameAndType 17 18), (0, u "forSubquery"), (0, u "(Ljava/util/Map;)Lcom/example/pathweave/pathweave/planner/Slots;"), (0, .methodref 20 21), (0, .class_ 22), (0, .nameAndType 23 24), (0, u "com/example/pathweave/pathweave/planner/SlotsNewSlotPinLaw"), (0, u "pick"), (0, u "(ILcom/example/pathweave/pathweave/planner/Slots;Lcom/example/pathweave/pathweave/planner/Slots;Lcom/example/pathweave/pathweave/planner/Slots;)Lcom/example/pathweave/pathweave/planner/Slots;"), (0, .methodref 8 26), (0, .nameAndType 27 28), (0, u "count"), (0, u "()I"), (0, .methodref 8 30), (0, .nameAndType 31 28), (0, u "newSlot"), (3, u "law"), (0, u "(IIIII)Z")] 2

def k1m0 : Method := { name := "<init>", desc := "()V", sig := { parameters := [], returnType := none }, accessFlags := 1, code := none }
def k1c1 : Code := { maxStack := 2, maxLocals := 5, code := method_2_code, exceptionTable := #[], attributes := #[] }
def k1m1 : Method := { name := "pick", desc := "(ILcom/example/pathweave/pathweave/planner/Slots;Lcom/example/pathweave/pathweave/planner/Slots;Lcom/example/pathweave/pathweave/planner/Slots;)Lcom/example/pathweave/pathweave/planner/Slots;", sig := { parameters := [.int, (.object "com/example/pathweave/pathweave/planner/Slots"), (.object "com/example/pathweave/pathweave/planner/Slots"), (.object "com/example/pathweave/pathweave/planner/Slots")], returnType := some (.object "com/example/pathweave/pathweave/planner/Slots") }, accessFlags := 10, code := some k1c1 }
def k1c2 : Code := { maxStack := 4, maxLocals := 14, code := code, exceptionTable := #[], attributes := #[] }
def k1m2 : Method := { name := "law", desc := "(IIIII)Z", sig := { parameters := [.int, .int, .int, .int, .int], returnType := some .boolean }, accessFlags := 9, code := some k1c2 }
/-- com/example/pathweave/pathweave/planner/SlotsNewSlotPinLaw -/
def k1 : Class := { plain "com/example/pathweave/pathweave/planner/SlotsNewSlotPinLaw" (some 0) with
  accessFlags := 49
  interfaces := #[]
  cf := some (fileOf pool1 20 #[] #[{ accessFlags := 1, nameIndex := 5, descriptorIndex := 6, attributes := #[] }, { accessFlags := 10, nameIndex := 23, descriptorIndex := 24, attributes := #[] }, { accessFlags := 9, nameIndex := 35, descriptorIndex := 36, attributes := #[] }] 49 2 #[] #[])
  fields := #[]
  methods := #[k1m0, k1m1, k1m2]
  instanceTypes := #[]
  staticTypes := #[]
  resolved := Array.replicate 39 none
  statics := none }

def pool2 : Array CpInfo := pool [(1, .methodref 2 3), (0, .class_ 4), (0, .nameAndType 5 6), (0, u "java/lang/Object"), (0, u "<init>"), (0, u "()V"), (0, .fieldref 8 9), (0, .class_ 10), (0, .nameAndType 11 12), (0, u "com/example/pathweave/pathweave/planner/Slots"), (0, u "giver"), (0, u "Lcom/example/pathweave/pathweave/planner/Slots;"), (0, .interfaceMethodref 14 15), (0, .class_ 16), (0, .nameAndType 17 18), (0, u "java/util/Map"), (0, u "of"), (0, u "()Ljava/util/Map;"), (0, .fieldref 8 20), (0, .nameAndType 21 22), (0, u "outer"), (0, u "Ljava/util/Map;"), (0, .class_ 24), (0, u "java/util/HashMap"), (0, .methodref 23 3), (0, .fieldref 8 27), (0, .nameAndType 28 22), (0, u "scope"), (0, .interfaceMethodref 14 30), (0, .nameAndType 31 32), (0, u "copyOf"), (0, u "(Ljava/util/Map;)Ljava/util/Map;"), (0, .methodref 23 34), (0, .nameAndType 5 35), (0, u "(Ljava/util/Map;)V"), (0, .methodref 8 37), (0, .nameAndType 5 38), (0, u "(Lcom/example/pathweave/pathweave/planner/Slots;Ljava/util/Map;)V"), (0, .fieldref 8 40), (0, .nameAndType 41 42), (0, u "count"), (0, u "I"), (0, .methodref 8 44), (0, .nameAndType 45 46), (0, u "newSlot"), (0, u "()I"), (30, .methodref 8 78), (0, .nameAndType 41 46), (9, u "forSubquery"), (0, u "(Ljava/util/Map;)Lcom/example/pathweave/pathweave/planner/Slots;")] 36

def k2c0 : Code := { maxStack := 3, maxLocals := 1, code := prog_142_method_1_code, exceptionTable := #[], attributes := #[] }
def k2m0 : Method := { name := "<init>", desc := "()V", sig := { parameters := [], returnType := none }, accessFlags := 0, code := some k2c0 }
def k2c1 : Code := { maxStack := 4, maxLocals := 3, code := prog_142_method_2_code, exceptionTable := #[], attributes := #[] }
def k2m1 : Method := { name := "<init>", desc := "(Lcom/example/pathweave/pathweave/planner/Slots;Ljava/util/Map;)V", sig := { parameters := [(.object "com/example/pathweave/pathweave/planner/Slots"), (.object "java/util/Map")], returnType := none }, accessFlags := 2, code := some k2c1 }
def k2c2 : Code := { maxStack := 4, maxLocals := 2, code := prog_142_method_3_code, exceptionTable := #[], attributes := #[] }
def k2m2 : Method := { name := "forSubquery", desc := "(Ljava/util/Map;)Lcom/example/pathweave/pathweave/planner/Slots;", sig := { parameters := [(.object "java/util/Map")], returnType := some (.object "com/example/pathweave/pathweave/planner/Slots") }, accessFlags := 0, code := some k2c2 }
def k2c3 : Code := { maxStack := 1, maxLocals := 1, code := prog_142_method_4_code, exceptionTable := #[], attributes := #[] }
def k2m3 : Method := { name := "outer", desc := "()Ljava/util/Map;", sig := { parameters := [], returnType := some (.object "java/util/Map") }, accessFlags := 0, code := some k2c3 }
def k2c4 : Code := { maxStack := 4, maxLocals := 1, code := prog_142_method_5_code, exceptionTable := #[], attributes := #[] }
def k2m4 : Method := { name := "newSlot", desc := "()I", sig := { parameters := [], returnType := some .int }, accessFlags := 0, code := some k2c4 }
def k2c5 : Code := { maxStack := 2, maxLocals := 1, code := prog_142_method_12_code, exceptionTable := #[], attributes := #[] }
def k2m5 : Method := { name := "count", desc := "()I", sig := { parameters := [], returnType := some .int }, accessFlags := 0, code := some k2c5 }
/-- com/example/pathweave/pathweave/planner/Slots -/
def k2 : Class := { plain "com/example/pathweave/pathweave/planner/Slots" (some 0) with
  accessFlags := 48
  interfaces := #[]
  cf := some (fileOf pool2 8 #[] #[{ accessFlags := 0, nameIndex := 5, descriptorIndex := 6, attributes := #[] }, { accessFlags := 2, nameIndex := 5, descriptorIndex := 38, attributes := #[] }, { accessFlags := 0, nameIndex := 88, descriptorIndex := 89, attributes := #[] }, { accessFlags := 0, nameIndex := 21, descriptorIndex := 18, attributes := #[] }, { accessFlags := 0, nameIndex := 45, descriptorIndex := 46, attributes := #[] }, { accessFlags := 0, nameIndex := 41, descriptorIndex := 46, attributes := #[] }] 48 2 #[] #[{ accessFlags := 18, nameIndex := 11, descriptorIndex := 12, attributes := #[] }, { accessFlags := 18, nameIndex := 21, descriptorIndex := 22, attributes := #[] }, { accessFlags := 2, nameIndex := 28, descriptorIndex := 22, attributes := #[] }, { accessFlags := 2, nameIndex := 41, descriptorIndex := 42, attributes := #[] }])
  fields := #[{ name := "giver", type := (.object "com/example/pathweave/pathweave/planner/Slots"), accessFlags := 18, slot := 0, constantValue := 0 }, { name := "outer", type := (.object "java/util/Map"), accessFlags := 18, slot := 1, constantValue := 0 }, { name := "scope", type := (.object "java/util/Map"), accessFlags := 2, slot := 2, constantValue := 0 }, { name := "count", type := .int, accessFlags := 2, slot := 3, constantValue := 0 }]
  methods := #[k2m0, k2m1, k2m2, k2m3, k2m4, k2m5]
  instanceTypes := #[(.object "com/example/pathweave/pathweave/planner/Slots"), (.object "java/util/Map"), (.object "java/util/Map"), .int]
  staticTypes := #[]
  resolved := Array.replicate 126 none
  statics := none }

def pool3 : Array CpInfo := pool [(2, .class_ 4), (1, u "java/util/Map"), (31, .class_ 37), (0, u "java/util/Map$Entry"), (43, .fieldref 82 83), (0, .class_ 84), (0, .nameAndType 85 86), (0, u "java/util/ImmutableCollections"), (0, u "EMPTY_MAP"), (0, u "Ljava/util/ImmutableCollections$MapN;"), (6, .class_ 94), (0, u "java/lang/Object"), (6, .class_ 102), (0, u "java/util/ImmutableCollections$AbstractImmutableMap"), (5, u "of"), (0, u "()Ljava/util/Map;"), (10, u "size"), (0, u "()I"), (128, u "copyOf"), (0, u "(Ljava/util/Map;)Ljava/util/Map;")] 11

def k3m0 : Method := { name := "size", desc := "()I", sig := { parameters := [], returnType := some .int }, accessFlags := 1025, code := none }
def k3c1 : Code := { maxStack := 1, maxLocals := 0, code := jdk_72_method_26_code, exceptionTable := #[], attributes := #[] }
def k3m1 : Method := { name := "of", desc := "()Ljava/util/Map;", sig := { parameters := [], returnType := some (.object "java/util/Map") }, accessFlags := 9, code := some k3c1 }
def k3c2 : Code := { maxStack := 2, maxLocals := 1, code := jdk_72_method_39_code, exceptionTable := #[], attributes := #[] }
def k3m2 : Method := { name := "copyOf", desc := "(Ljava/util/Map;)Ljava/util/Map;", sig := { parameters := [(.object "java/util/Map")], returnType := some (.object "java/util/Map") }, accessFlags := 9, code := some k3c2 }
/-- java/util/Map -/
def k3 : Class := { plain "java/util/Map" (some 0) with
  accessFlags := 1537
  interfaces := #[]
  cf := some (fileOf pool3 2 #[.nestMembers #[36]] #[{ accessFlags := 1025, nameIndex := 120, descriptorIndex := 121, attributes := #[] }, { accessFlags := 9, nameIndex := 108, descriptorIndex := 109, attributes := #[] }, { accessFlags := 9, nameIndex := 250, descriptorIndex := 251, attributes := #[] }] 1537 93 #[] #[])
  fields := #[]
  methods := #[k3m0, k3m1, k3m2]
  instanceTypes := #[]
  staticTypes := #[]
  resolved := Array.replicate 263 none
  statics := none }

def pool4 : Array CpInfo := pool [(2, .class_ 4), (1, u "java/lang/Object"), (0, u "<init>"), (0, u "()V"), (3, .class_ 11), (0, u "java/util/ImmutableCollections$List12"), (0, .class_ 13), (0, u "java/util/ImmutableCollections$ListN"), (3, u "Z"), (29, .class_ 49), (1, u "java/util/ImmutableCollections"), (0, u "$assertionsDisabled"), (5, u "[Ljava/lang/Object;"), (5, u "EMPTY_LIST"), (0, u "Ljava/util/ImmutableCollections$ListN;"), (8, u "EMPTY_LIST_NULLS"), (22, u "SALT32L"), (0, u "J"), (2, u "REVERSE"), (6, u "archivedObjects"), (2, u "EMPTY"), (0, u "Ljava/lang/Object;"), (0, .class_ 112), (0, u "java/util/ImmutableCollections$SetN"), (5, u "EMPTY_SET"), (0, u "Ljava/util/ImmutableCollections$SetN;"), (0, .class_ 121), (0, u "java/util/ImmutableCollections$MapN"), (3, u "EMPTY_MAP"), (0, u "Ljava/util/ImmutableCollections$MapN;"), (4, u "EXPAND_FACTOR"), (0, u "I"), (36, .class_ 170), (0, u "java/util/ImmutableCollections$MapN$MapNIterator"), (0, .class_ 172), (0, u "java/util/ImmutableCollections$MapN$1"), (0, .class_ 174), (0, u "java/util/ImmutableCollections$Map1"), (0, .class_ 176), (0, u "java/util/ImmutableCollections$AbstractImmutableMap"), (0, .class_ 178), (0, u "java/util/ImmutableCollections$SetN$SetNIterator"), (0, .class_ 180), (0, u "java/util/ImmutableCollections$Set12"), (0, .class_ 182), (0, u "java/util/ImmutableCollections$Set12$1"), (0, .class_ 184), (0, u "java/util/ImmutableCollections$AbstractImmutableSet"), (0, .class_ 186), (0, u "java/util/ImmutableCollections$SubList"), (0, .class_ 188), (0, u "java/util/ImmutableCollections$ListItr"), (0, .class_ 190), (0, u "java/util/ImmutableCollections$AbstractImmutableList"), (0, .class_ 192), (0, u "java/util/ImmutableCollections$AbstractImmutableCollection"), (0, .class_ 194), (0, u "java/util/ImmutableCollections$Access"), (0, .class_ 196), (0, u "java/util/ImmutableCollections$Access$1")] 16

def k4m0 : Method := { name := "<init>", desc := "()V", sig := { parameters := [], returnType := none }, accessFlags := 2, code := none }
/-- java/util/ImmutableCollections -/
def k4 : Class := { plain "java/util/ImmutableCollections" (some 0) with
  accessFlags := 32
  interfaces := #[]
  cf := some (fileOf pool4 47 #[.nestMembers #[120, 169, 171, 173, 175, 111, 177, 179, 181, 183, 12, 10, 185, 187, 189, 191, 193, 195]] #[{ accessFlags := 2, nameIndex := 5, descriptorIndex := 6, attributes := #[] }] 32 2 #[] #[{ accessFlags := 26, nameIndex := 95, descriptorIndex := 96, attributes := #[] }, { accessFlags := 26, nameIndex := 99, descriptorIndex := 17, attributes := #[] }, { accessFlags := 10, nameIndex := 106, descriptorIndex := 56, attributes := #[] }, { accessFlags := 26, nameIndex := 109, descriptorIndex := 110, attributes := #[] }, { accessFlags := 24, nameIndex := 62, descriptorIndex := 63, attributes := #[] }, { accessFlags := 24, nameIndex := 72, descriptorIndex := 63, attributes := #[] }, { accessFlags := 24, nameIndex := 118, descriptorIndex := 119, attributes := #[] }, { accessFlags := 24, nameIndex := 125, descriptorIndex := 126, attributes := #[] }, { accessFlags := 24, nameIndex := 131, descriptorIndex := 132, attributes := #[] }, { accessFlags := 4120, nameIndex := 50, descriptorIndex := 17, attributes := #[] }])
  fields := #[{ name := "SALT32L", type := .long, accessFlags := 26, slot := 0, constantValue := 0 }, { name := "REVERSE", type := .boolean, accessFlags := 26, slot := 1, constantValue := 0 }, { name := "archivedObjects", type := (.array (.object "java/lang/Object")), accessFlags := 10, slot := 2, constantValue := 0 }, { name := "EMPTY", type := (.object "java/lang/Object"), accessFlags := 26, slot := 3, constantValue := 0 }, { name := "EMPTY_LIST", type := (.object "java/util/ImmutableCollections$ListN"), accessFlags := 24, slot := 4, constantValue := 0 }, { name := "EMPTY_LIST_NULLS", type := (.object "java/util/ImmutableCollections$ListN"), accessFlags := 24, slot := 5, constantValue := 0 }, { name := "EMPTY_SET", type := (.object "java/util/ImmutableCollections$SetN"), accessFlags := 24, slot := 6, constantValue := 0 }, { name := "EMPTY_MAP", type := (.object "java/util/ImmutableCollections$MapN"), accessFlags := 24, slot := 7, constantValue := 0 }, { name := "EXPAND_FACTOR", type := .int, accessFlags := 24, slot := 8, constantValue := 0 }, { name := "$assertionsDisabled", type := .boolean, accessFlags := 4120, slot := 9, constantValue := 0 }]
  methods := #[k4m0]
  instanceTypes := #[]
  staticTypes := #[.long, .boolean, (.array (.object "java/lang/Object")), (.object "java/lang/Object"), (.object "java/util/ImmutableCollections$ListN"), (.object "java/util/ImmutableCollections$ListN"), (.object "java/util/ImmutableCollections$SetN"), (.object "java/util/ImmutableCollections$MapN"), .int, .boolean]
  resolved := Array.replicate 213 none
  statics := some 0 }

def pool5 : Array CpInfo := pool [(1, .methodref 2 3), (0, .class_ 4), (0, .nameAndType 5 6), (0, u "java/lang/Object"), (0, u "<init>"), (0, u "()V"), (1, .class_ 10), (1, u "java/util/AbstractMap"), (42, .class_ 54), (0, u "java/util/Map"), (9, u "keySet"), (0, u "Ljava/util/Set;"), (0, .class_ 67), (0, u "java/util/AbstractMap$1"), (5, u "values"), (0, u "Ljava/util/Collection;"), (0, .class_ 76), (0, u "java/util/AbstractMap$2"), (104, .class_ 182), (0, u "java/util/AbstractMap$ViewCollection"), (0, .class_ 184), (0, u "java/util/AbstractMap$SimpleImmutableEntry"), (0, .class_ 186), (0, u "java/util/AbstractMap$SimpleEntry"), (0, .class_ 188), (0, u "java/util/AbstractMap$2$1"), (0, .class_ 190), (0, u "java/util/AbstractMap$1$1")] 5

def k5c0 : Code := { maxStack := 1, maxLocals := 1, code := jdk_71_method_1_code, exceptionTable := #[], attributes := #[] }
def k5m0 : Method := { name := "<init>", desc := "()V", sig := { parameters := [], returnType := none }, accessFlags := 4, code := some k5c0 }
/-- java/util/AbstractMap -/
def k5 : Class := { plain "java/util/AbstractMap" (some 0) with
  accessFlags := 1057
  interfaces := #[3]
  cf := some (fileOf pool5 8 #[.nestMembers #[181, 183, 185, 75, 187, 66, 189]] #[{ accessFlags := 4, nameIndex := 5, descriptorIndex := 6, attributes := #[] }] 1057 2 #[53] #[{ accessFlags := 128, nameIndex := 64, descriptorIndex := 65, attributes := #[] }, { accessFlags := 128, nameIndex := 73, descriptorIndex := 74, attributes := #[] }])
  fields := #[{ name := "keySet", type := (.object "java/util/Set"), accessFlags := 128, slot := 0, constantValue := 0 }, { name := "values", type := (.object "java/util/Collection"), accessFlags := 128, slot := 1, constantValue := 0 }]
  methods := #[k5m0]
  instanceTypes := #[(.object "java/util/Set"), (.object "java/util/Collection")]
  staticTypes := #[]
  resolved := Array.replicate 196 none
  statics := none }

def pool6 : Array CpInfo := pool [(1, .class_ 2), (0, u "java/lang/Cloneable"), (0, .class_ 4), (0, u "java/lang/Object")] 2

/-- java/lang/Cloneable -/
def k6 : Class := { plain "java/lang/Cloneable" (some 0) with
  accessFlags := 1537
  interfaces := #[]
  cf := some (fileOf pool6 1 #[] #[] 1537 3 #[] #[])
  fields := #[]
  methods := #[]
  instanceTypes := #[]
  staticTypes := #[]
  resolved := Array.replicate 7 none
  statics := none }

def pool7 : Array CpInfo := pool [(1, .class_ 2), (0, u "java/io/Serializable"), (0, .class_ 4), (0, u "java/lang/Object")] 2

/-- java/io/Serializable -/
def k7 : Class := { plain "java/io/Serializable" (some 0) with
  accessFlags := 1537
  interfaces := #[]
  cf := some (fileOf pool7 1 #[] #[] 1537 3 #[] #[])
  fields := #[]
  methods := #[]
  instanceTypes := #[]
  staticTypes := #[]
  resolved := Array.replicate 7 none
  statics := none }

def pool8 : Array CpInfo := pool [(6, u "()I"), (33, .class_ 41), (0, u "java/util/HashMap"), (1, .methodref 44 45), (0, .class_ 46), (0, .nameAndType 47 48), (0, u "java/util/AbstractMap"), (0, u "<init>"), (0, u "()V"), (32, .fieldref 40 82), (0, .nameAndType 83 84), (0, u "loadFactor"), (0, u "F"), (5, u "threshold"), (0, u "I"), (0, .float 1061158912), (3, .methodref 40 97), (0, .nameAndType 98 99), (0, u "putMapEntries"), (0, u "(Ljava/util/Map;Z)V"), (0, .interfaceMethodref 101 102), (0, .class_ 103), (0, .nameAndType 104 6), (0, u "java/util/Map"), (0, u "size"), (2, u "table"), (0, u "[Ljava/util/HashMap$Node;"), (14, u "entrySet"), (39, .class_ 165), (1, u "java/util/HashMap$Node"), (14, .class_ 181), (0, u "java/util/HashMap$TreeNode"), (22, u "modCount"), (37, u "Ljava/util/Set;"), (0, .class_ 244), (0, u "java/util/HashMap$KeySet"), (18, .class_ 264), (0, u "java/util/HashMap$Values"), (3, .class_ 269), (0, u "java/util/HashMap$EntrySet"), (76, .class_ 348), (1, u "java/util/HashMap$UnsafeHolder"), (43, .class_ 393), (0, u "java/lang/Cloneable"), (0, .class_ 395), (0, u "java/io/Serializable"), (0, u "serialVersionUID"), (0, u "J"), (3, u "DEFAULT_INITIAL_CAPACITY"), (1, u "MAXIMUM_CAPACITY"), (0, u "DEFAULT_LOAD_FACTOR"), (0, u "TREEIFY_THRESHOLD"), (1, u "UNTREEIFY_THRESHOLD"), (1, u "MIN_TREEIFY_CAPACITY"), (36, u "(Ljava/util/Map;)V"), (149, .class_ 597), (0, u "java/util/HashMap$EntrySpliterator"), (0, .class_ 599), (0, u "java/util/HashMap$ValueSpliterator"), (0, .class_ 601), (0, u "java/util/HashMap$KeySpliterator"), (0, .class_ 603), (0, u "java/util/HashMap$HashMapSpliterator"), (0, .class_ 605), (0, u "java/util/HashMap$EntryIterator"), (0, .class_ 607), (0, u "java/util/HashMap$ValueIterator"), (0, .class_ 609), (0, u "java/util/HashMap$KeyIterator"), (0, .class_ 611), (0, u "java/util/HashMap$HashIterator")] 17

def k8c0 : Code := { maxStack := 2, maxLocals := 1, code := jdk_69_method_7_code, exceptionTable := #[], attributes := #[] }
def k8m0 : Method := { name := "<init>", desc := "()V", sig := { parameters := [], returnType := none }, accessFlags := 1, code := some k8c0 }
def k8c1 : Code := { maxStack := 3, maxLocals := 2, code := jdk_69_method_8_code, exceptionTable := #[], attributes := #[] }
def k8m1 : Method := { name := "<init>", desc := "(Ljava/util/Map;)V", sig := { parameters := [(.object "java/util/Map")], returnType := none }, accessFlags := 1, code := some k8c1 }
def k8c2 : Code := { maxStack := 6, maxLocals := 8, code := jdk_69_method_9_code, exceptionTable := #[], attributes := #[] }
def k8m2 : Method := { name := "putMapEntries", desc := "(Ljava/util/Map;Z)V", sig := { parameters := [(.object "java/util/Map"), .boolean], returnType := none }, accessFlags := 16, code := some k8c2 }
/-- java/util/HashMap -/
def k8 : Class := { plain "java/util/HashMap" (some 5) with
  accessFlags := 33
  interfaces := #[3, 6, 7]
  cf := some (fileOf pool8 40 #[.nestMembers #[180, 596, 598, 600, 602, 604, 606, 608, 610, 346, 268, 263, 243, 163]] #[{ accessFlags := 1, nameIndex := 47, descriptorIndex := 48, attributes := #[] }, { accessFlags := 1, nameIndex := 47, descriptorIndex := 446, attributes := #[] }, { accessFlags := 16, nameIndex := 98, descriptorIndex := 99, attributes := #[] }] 33 44 #[101, 392, 394] #[{ accessFlags := 26, nameIndex := 396, descriptorIndex := 397, attributes := #[] }, { accessFlags := 24, nameIndex := 401, descriptorIndex := 91, attributes := #[] }, { accessFlags := 24, nameIndex := 403, descriptorIndex := 91, attributes := #[] }, { accessFlags := 24, nameIndex := 404, descriptorIndex := 84, attributes := #[] }, { accessFlags := 24, nameIndex := 405, descriptorIndex := 91, attributes := #[] }, { accessFlags := 24, nameIndex := 407, descriptorIndex := 91, attributes := #[] }, { accessFlags := 24, nameIndex := 409, descriptorIndex := 91, attributes := #[] }, { accessFlags := 128, nameIndex := 107, descriptorIndex := 108, attributes := #[] }, { accessFlags := 128, nameIndex := 123, descriptorIndex := 242, attributes := #[] }, { accessFlags := 128, nameIndex := 104, descriptorIndex := 91, attributes := #[] }, { accessFlags := 128, nameIndex := 204, descriptorIndex := 91, attributes := #[] }, { accessFlags := 0, nameIndex := 90, descriptorIndex := 91, attributes := #[] }, { accessFlags := 16, nameIndex := 83, descriptorIndex := 84, attributes := #[] }])
  fields := #[{ name := "serialVersionUID", type := .long, accessFlags := 26, slot := 0, constantValue := 0 }, { name := "DEFAULT_INITIAL_CAPACITY", type := .int, accessFlags := 24, slot := 1, constantValue := 0 }, { name := "MAXIMUM_CAPACITY", type := .int, accessFlags := 24, slot := 2, constantValue := 0 }, { name := "DEFAULT_LOAD_FACTOR", type := .float, accessFlags := 24, slot := 3, constantValue := 0 }, { name := "TREEIFY_THRESHOLD", type := .int, accessFlags := 24, slot := 4, constantValue := 0 }, { name := "UNTREEIFY_THRESHOLD", type := .int, accessFlags := 24, slot := 5, constantValue := 0 }, { name := "MIN_TREEIFY_CAPACITY", type := .int, accessFlags := 24, slot := 6, constantValue := 0 }, { name := "table", type := (.array (.object "java/util/HashMap$Node")), accessFlags := 128, slot := 2, constantValue := 0 }, { name := "entrySet", type := (.object "java/util/Set"), accessFlags := 128, slot := 3, constantValue := 0 }, { name := "size", type := .int, accessFlags := 128, slot := 4, constantValue := 0 }, { name := "modCount", type := .int, accessFlags := 128, slot := 5, constantValue := 0 }, { name := "threshold", type := .int, accessFlags := 0, slot := 6, constantValue := 0 }, { name := "loadFactor", type := .float, accessFlags := 16, slot := 7, constantValue := 0 }]
  methods := #[k8m0, k8m1, k8m2]
  instanceTypes := #[(.object "java/util/Set"), (.object "java/util/Collection"), (.array (.object "java/util/HashMap$Node")), (.object "java/util/Set"), .int, .int, .int, .float]
  staticTypes := #[.long, .int, .int, .float, .int, .int, .int]
  resolved := Array.replicate 629 none
  statics := none }

def pool9 : Array CpInfo := pool [(2, .class_ 4), (1, u "java/util/AbstractMap"), (0, u "<init>"), (0, u "()V"), (1, .class_ 10), (1, u "java/util/ImmutableCollections"), (3, .class_ 16), (1, u "java/util/ImmutableCollections$AbstractImmutableMap"), (2, .class_ 20), (0, u "java/io/Serializable")] 66

def k9m0 : Method := { name := "<init>", desc := "()V", sig := { parameters := [], returnType := none }, accessFlags := 0, code := none }
/-- java/util/ImmutableCollections$AbstractImmutableMap -/
def k9 : Class := { plain "java/util/ImmutableCollections$AbstractImmutableMap" (some 5) with
  accessFlags := 1056
  interfaces := #[7]
  cf := some (fileOf pool9 14 #[.nestHost 8] #[{ accessFlags := 0, nameIndex := 5, descriptorIndex := 6, attributes := #[] }] 1056 2 #[19] #[])
  fields := #[]
  methods := #[k9m0]
  instanceTypes := #[(.object "java/util/Set"), (.object "java/util/Collection")]
  staticTypes := #[]
  resolved := Array.replicate 87 none
  statics := none }

def pool10 : Array CpInfo := pool [(1, .class_ 2), (0, u "java/util/ImmutableCollections"), (1, .class_ 6), (1, u "java/util/ImmutableCollections$AbstractImmutableMap"), (9, .fieldref 17 18), (0, .class_ 19), (0, .nameAndType 20 21), (0, u "java/util/ImmutableCollections$MapN"), (0, u "size"), (0, u "I"), (4, u "table"), (0, u "[Ljava/lang/Object;"), (36, u "()I")] 84

def k10c0 : Code := { maxStack := 1, maxLocals := 1, code := jdk_2605_method_6_code, exceptionTable := #[], attributes := #[] }
def k10m0 : Method := { name := "size", desc := "()I", sig := { parameters := [], returnType := some .int }, accessFlags := 1, code := some k10c0 }
/-- java/util/ImmutableCollections$MapN -/
def k10 : Class := { plain "java/util/ImmutableCollections$MapN" (some 9) with
  accessFlags := 48
  interfaces := #[]
  cf := some (fileOf pool10 17 #[.nestHost 1] #[{ accessFlags := 1, nameIndex := 20, descriptorIndex := 64, attributes := #[] }] 48 4 #[] #[{ accessFlags := 16, nameIndex := 26, descriptorIndex := 27, attributes := #[] }, { accessFlags := 16, nameIndex := 20, descriptorIndex := 21, attributes := #[] }])
  fields := #[{ name := "table", type := (.array (.object "java/lang/Object")), accessFlags := 16, slot := 2, constantValue := 0 }, { name := "size", type := .int, accessFlags := 16, slot := 3, constantValue := 0 }]
  methods := #[k10m0]
  instanceTypes := #[(.object "java/util/Set"), (.object "java/util/Collection"), (.array (.object "java/lang/Object")), .int]
  staticTypes := #[]
  resolved := Array.replicate 149 none
  statics := none }

/-- the primitive byte -/
def k11 : Class := { plain "byte" none with kind := .primitive 'B', accessFlags := 0x411 }
/-- [B -/
def k12 : Class := { plain "[B" (some 0) with kind := .array 11 .byte, interfaces := #[6, 7], accessFlags := 1041 }

/-- the primitive int -/
def k13 : Class := { plain "int" none with kind := .primitive 'I', accessFlags := 0x411 }
/-- [I -/
def k14 : Class := { plain "[I" (some 0) with kind := .array 13 .int, interfaces := #[6, 7], accessFlags := 1041 }

/-- [Ljava/lang/Object; -/
def k15 : Class := { plain "[Ljava/lang/Object;" (some 0) with kind := .array 0 (.object "java/lang/Object"), interfaces := #[6, 7], accessFlags := 1041 }

def heap : Heap := #[{ cls := 4, slots := #[.long 0, .int 0, .null, .null, .null, .null, .null, .ref 2, .int 0, .int 0], vm := .statics 4 },
  { cls := 15, slots := #[], vm := .none },
  { cls := 10, slots := #[.null, .null, .ref 1, .int 0], vm := .none }]
def classes : Array Class := #[k0, k1, k2, k3, k4, k5, k6, k7, k8, k9, k10, k11, k12, k13, k14, k15]
def interned : List (Array UInt16 × Addr) := []
def slotsUsed : Nat := 14
def theMethod : MethodId := ⟨1, 2⟩
def args0 : Array Value := #[.int 5, .int 7, .int 0, .int 1, .int 2]
def aboutOver (below : List Frame) : State where
  vm := { classes := classes, interned := interned.toArray }
  heap := heap
  slotsUsed := slotsUsed
  threads := #[{ frames := .invoking theMethod args0 :: below }]
def below0 : List Frame := [.native { method := ⟨0, 0⟩, args := #[] }]
def about1 : State := aboutOver below0
def p0 : Program := .bare "" "" ""
def e0 : Env := launch0.env 0 0 0
theorem w_frames : about1.frames = Frame.invoking theMethod args0 :: below0 := rfl
set_option maxRecDepth 65536 in
theorem w_args : argsFit about1.vm theMethod args0 = true := by decide +kernel
set_option maxRecDepth 65536 in
theorem w_heap : heapFits about1 = true := by decide +kernel
set_option maxRecDepth 65536 in
theorem w_runnable : about1.curStatus? = some .runnable := by decide +kernel
set_option maxRecDepth 65536 in
theorem w_alone : about1.alone = true := by decide +kernel
set_option maxRecDepth 65536 in
theorem w_named : about1.methodNamed? x = some theMethod := by decide +kernel
set_option maxRecDepth 65536 in
theorem w_hears : about1.hears theMethod below0 = true := by decide +kernel
set_option maxRecDepth 65536 in
theorem w_ripe : about1.ripe theMethod args0 below0 = true := by decide +kernel
theorem w_running : about1.status = .running := rfl
set_option maxRecDepth 65536 in
theorem w_room : about1.hasRoom e0.platform room_1 = true :=
  launch0.hasRoom_least _ room_1 (by decide +kernel) (by decide +kernel) (by decide +kernel) (by decide +kernel) (by decide +kernel) (by decide +kernel)
theorem allAtoms_all (ts : List Jvm.Cond) (a : Array Jvm.Value) (st : Jvm.State) : (allAtoms ts).before a st = ts.all (fun c => c.before a st) := by
  induction ts with
  | nil => rfl
  | cons c t ih =>
    show (Jvm.Cond.and c (allAtoms t)).before a st = _
    rw [Jvm.Cond.before_and, ih, List.all_cons]
def words1 : List Jvm.Cond := Jvm.Cond.code x code maxLocals ret :: tables_1
/-- a 'code' word, met by the world's own term for the bytes: nothing is compared byte by byte -/
theorem code_word {y : MethodName} {bytes : ByteArray} {mx : Nat} {rt : Option FieldType} {a : Array Value} {s : State} {m : MethodId} {meth : Method} {c : Code} (h1 : s.methodNamed? y = some m) (h2 : s.vm.method? m = some meth) (h3 : meth.code = some c) (h4 : c.code = bytes)
    (h5 : (c.maxLocals == mx && c.exceptionTable.isEmpty && decide (c.maxStack ≤ mostOperands) && decide (meth.sig.returnType = rt) && !meth.locks && decide (parseMethodDescriptor y.desc = some meth.sig)) = true) : (Jvm.Cond.code y bytes mx rt).before a s = true := by
  simp only [Bool.and_eq_true, beq_iff_eq, Bool.not_eq_true', decide_eq_true_eq] at h5
  obtain ⟨⟨⟨⟨⟨g1, g2⟩, g3⟩, g4⟩, g5⟩, g6⟩ := h5
  simp [Cond.before, Cond.holds, Cond.value, h1, h2, h3, h4, g1, g2, g3, g4, g5, g6]
def isCode : Jvm.Cond → Bool
  | .code _ _ _ _ => true
  | _ => false
theorem all_split {L : List Jvm.Cond} {P : Jvm.Cond → Bool} (h1 : L.all (fun c => isCode c || P c) = true) (h2 : ∀ c ∈ L.filter isCode, P c = true) : L.all P = true := by
  refine List.all_eq_true.mpr fun c hc => ?_
  have h := List.all_eq_true.mp h1 c hc
  rcases Bool.eq_false_or_eq_true (isCode c) with hi | hi
  · exact h2 c (List.mem_filter.mpr ⟨hc, hi⟩)
  · simpa [hi] using h
set_option maxRecDepth 65536 in
theorem w_c0 : (Jvm.Cond.code x code maxLocals ret).before args0 about1 = true := code_word (m := ⟨1, 2⟩) (meth := k1m2) (c := k1c2) (by decide +kernel) rfl rfl rfl (by decide +kernel)
set_option maxRecDepth 65536 in
theorem w_c1 : (Jvm.Cond.code ({ cls := "com/example/pathweave/pathweave/planner/Slots", name := "<init>", desc := "()V" } : Jvm.MethodName) prog_142_method_1_code (1 : Nat) (Option.none : Option Jvm.ClassFile.FieldType)).before args0 about1 = true := code_word (m := ⟨2, 0⟩) (meth := k2m0) (c := k2c0) (by decide +kernel) rfl rfl rfl (by decide +kernel)
set_option maxRecDepth 65536 in
theorem w_c2 : (Jvm.Cond.code ({ cls := "java/lang/Object", name := "<init>", desc := "()V" } : Jvm.MethodName) object_method_1_code (1 : Nat) (Option.none : Option Jvm.ClassFile.FieldType)).before args0 about1 = true := code_word (m := ⟨0, 0⟩) (meth := k0m0) (c := k0c0) (by decide +kernel) rfl rfl rfl (by decide +kernel)
set_option maxRecDepth 65536 in
theorem w_c3 : (Jvm.Cond.code ({ cls := "java/util/Map", name := "of", desc := "()Ljava/util/Map;" } : Jvm.MethodName) jdk_72_method_26_code (0 : Nat) (Option.some (Jvm.ClassFile.FieldType.object "java/util/Map"))).before args0 about1 = true := code_word (m := ⟨3, 1⟩) (meth := k3m1) (c := k3c1) (by decide +kernel) rfl rfl rfl (by decide +kernel)
set_option maxRecDepth 65536 in
theorem w_c4 : (Jvm.Cond.code ({ cls := "java/util/HashMap", name := "<init>", desc := "()V" } : Jvm.MethodName) jdk_69_method_7_code (1 : Nat) (Option.none : Option Jvm.ClassFile.FieldType)).before args0 about1 = true := code_word (m := ⟨8, 0⟩) (meth := k8m0) (c := k8c0) (by decide +kernel) rfl rfl rfl (by decide +kernel)
set_option maxRecDepth 65536 in
theorem w_c5 : (Jvm.Cond.code ({ cls := "java/util/AbstractMap", name := "<init>", desc := "()V" } : Jvm.MethodName) jdk_71_method_1_code (1 : Nat) (Option.none : Option Jvm.ClassFile.FieldType)).before args0 about1 = true := code_word (m := ⟨5, 0⟩) (meth := k5m0) (c := k5c0) (by decide +kernel) rfl rfl rfl (by decide +kernel)
set_option maxRecDepth 65536 in
theorem w_c6 : (Jvm.Cond.code ({ cls := "com/example/pathweave/pathweave/planner/Slots", name := "outer", desc := "()Ljava/util/Map;" } : Jvm.MethodName) prog_142_method_4_code (1 : Nat) (Option.some (Jvm.ClassFile.FieldType.object "java/util/Map"))).before args0 about1 = true := code_word (m := ⟨2, 3⟩) (meth := k2m3) (c := k2c3) (by decide +kernel) rfl rfl rfl (by decide +kernel)
set_option maxRecDepth 65536 in
theorem w_c7 : (Jvm.Cond.code ({ cls := "com/example/pathweave/pathweave/planner/Slots", name := "forSubquery", desc := "(Ljava/util/Map;)Lcom/example/pathweave/pathweave/planner/Slots;" } : Jvm.MethodName) prog_142_method_3_code (2 : Nat) (Option.some (Jvm.ClassFile.FieldType.object "com/example/pathweave/pathweave/planner/Slots"))).before args0 about1 = true := code_word (m := ⟨2, 2⟩) (meth := k2m2) (c := k2c2) (by decide +kernel) rfl rfl rfl (by decide +kernel)
set_option maxRecDepth 65536 in
theorem w_c8 : (Jvm.Cond.code ({ cls := "com/example/pathweave/pathweave/planner/Slots", name := "<init>", desc := "(Lcom/example/pathweave/pathweave/planner/Slots;Ljava/util/Map;)V" } : Jvm.MethodName) prog_142_method_2_code (3 : Nat) (Option.none : Option Jvm.ClassFile.FieldType)).before args0 about1 = true := code_word (m := ⟨2, 1⟩) (meth := k2m1) (c := k2c1) (by decide +kernel) rfl rfl rfl (by decide +kernel)
set_option maxRecDepth 65536 in
theorem w_c9 : (Jvm.Cond.code ({ cls := "java/util/Map", name := "copyOf", desc := "(Ljava/util/Map;)Ljava/util/Map;" } : Jvm.MethodName) jdk_72_method_39_code (1 : Nat) (Option.some (Jvm.ClassFile.FieldType.object "java/util/Map"))).before args0 about1 = true := code_word (m := ⟨3, 2⟩) (meth := k3m2) (c := k3c2) (by decide +kernel) rfl rfl rfl (by decide +kernel)
set_option maxRecDepth 65536 in
theorem w_c10 : (Jvm.Cond.code ({ cls := "java/util/HashMap", name := "<init>", desc := "(Ljava/util/Map;)V" } : Jvm.MethodName) jdk_69_method_8_code (2 : Nat) (Option.none : Option Jvm.ClassFile.FieldType)).before args0 about1 = true := code_word (m := ⟨8, 1⟩) (meth := k8m1) (c := k8c1) (by decide +kernel) rfl rfl rfl (by decide +kernel)
set_option maxRecDepth 65536 in
theorem w_c11 : (Jvm.Cond.code ({ cls := "java/util/HashMap", name := "putMapEntries", desc := "(Ljava/util/Map;Z)V" } : Jvm.MethodName) jdk_69_method_9_code (8 : Nat) (Option.none : Option Jvm.ClassFile.FieldType)).before args0 about1 = true := code_word (m := ⟨8, 2⟩) (meth := k8m2) (c := k8c2) (by decide +kernel) rfl rfl rfl (by decide +kernel)
set_option maxRecDepth 65536 in
theorem w_c12 : (Jvm.Cond.code ({ cls := "java/util/ImmutableCollections$MapN", name := "size", desc := "()I" } : Jvm.MethodName) jdk_2605_method_6_code (1 : Nat) (Option.some Jvm.ClassFile.FieldType.int)).before args0 about1 = true := code_word (m := ⟨10, 0⟩) (meth := k10m0) (c := k10c0) (by decide +kernel) rfl rfl rfl (by decide +kernel)
set_option maxRecDepth 65536 in
theorem w_c13 : (Jvm.Cond.code ({ cls := "com/example/pathweave/pathweave/planner/SlotsNewSlotPinLaw", name := "pick", desc := "(ILcom/example/pathweave/pathweave/planner/Slots;Lcom/example/pathweave/pathweave/planner/Slots;Lcom/example/pathweave/pathweave/planner/Slots;)Lcom/example/pathweave/pathweave/planner/Slots;" } : Jvm.MethodName) method_2_code (5 : Nat) (Option.some (Jvm.ClassFile.FieldType.object "com/example/pathweave/pathweave/planner/Slots"))).before args0 about1 = true := code_word (m := ⟨1, 1⟩) (meth := k1m1) (c := k1c1) (by decide +kernel) rfl rfl rfl (by decide +kernel)
set_option maxRecDepth 65536 in
theorem w_c14 : (Jvm.Cond.code ({ cls := "com/example/pathweave/pathweave/planner/Slots", name := "count", desc := "()I" } : Jvm.MethodName) prog_142_method_12_code (1 : Nat) (Option.some Jvm.ClassFile.FieldType.int)).before args0 about1 = true := code_word (m := ⟨2, 5⟩) (meth := k2m5) (c := k2c5) (by decide +kernel) rfl rfl rfl (by decide +kernel)
set_option maxRecDepth 65536 in
theorem w_c15 : (Jvm.Cond.code ({ cls := "com/example/pathweave/pathweave/planner/Slots", name := "newSlot", desc := "()I" } : Jvm.MethodName) prog_142_method_5_code (1 : Nat) (Option.some Jvm.ClassFile.FieldType.int)).before args0 about1 = true := code_word (m := ⟨2, 4⟩) (meth := k2m4) (c := k2c4) (by decide +kernel) rfl rfl rfl (by decide +kernel)
def codes1 : List Jvm.Cond := [Jvm.Cond.code x code maxLocals ret, Jvm.Cond.code ({ cls := "com/example/pathweave/pathweave/planner/Slots", name := "<init>", desc := "()V" } : Jvm.MethodName) prog_142_method_1_code (1 : Nat) (Option.none : Option Jvm.ClassFile.FieldType), Jvm.Cond.code ({ cls := "java/lang/Object", name := "<init>", desc := "()V" } : Jvm.MethodName) object_method_1_code (1 : Nat) (Option.none : Option Jvm.ClassFile.FieldType), Jvm.Cond.code ({ cls := "java/util/Map", name := "of", desc := "()Ljava/util/Map;" } : Jvm.MethodName) jdk_72_method_26_code (0 : Nat) (Option.some (Jvm.ClassFile.FieldType.object "java/util/Map")), Jvm.Cond.code ({ cls := "java/util/HashMap", name := "<init>", desc := "()V" } : Jvm.MethodName) jdk_69_method_7_code (1 : Nat) (Option.none : Option Jvm.ClassFile.FieldType), Jvm.Cond.code ({ cls := "java/util/AbstractMap", name := "<init>", desc := "()V" } : Jvm.MethodName) jdk_71_method_1_code (1 : Nat) (Option.none : Option Jvm.ClassFile.FieldType), Jvm.Cond.code ({ cls := "com/example/pathweave/pathweave/planner/Slots", name := "outer", desc := "()Ljava/util/Map;" } : Jvm.MethodName) prog_142_method_4_code (1 : Nat) (Option.some (Jvm.ClassFile.FieldType.object "java/util/Map")), Jvm.Cond.code ({ cls := "com/example/pathweave/pathweave/planner/Slots", name := "forSubquery", desc := "(Ljava/util/Map;)Lcom/example/pathweave/pathweave/planner/Slots;" } : Jvm.MethodName) prog_142_method_3_code (2 : Nat) (Option.some (Jvm.ClassFile.FieldType.object "com/example/pathweave/pathweave/planner/Slots")), Jvm.Cond.code ({ cls := "com/example/pathweave/pathweave/planner/Slots", name := "<init>", desc := "(Lcom/example/pathweave/pathweave/planner/Slots;Ljava/util/Map;)V" } : Jvm.MethodName) prog_142_method_2_code (3 : Nat) (Option.none : Option Jvm.ClassFile.FieldType), Jvm.Cond.code ({ cls := "java/util/Map", name := "copyOf", desc := "(Ljava/util/Map;)Ljava/util/Map;" } : Jvm.MethodName) jdk_72_method_39_code (1 : Nat) (Option.some (Jvm.ClassFile.FieldType.object "java/util/Map")), Jvm.Cond.code ({ cls := "java/util/HashMap", name := "<init>", desc := "(Ljava/util/Map;)V" } : Jvm.MethodName) jdk_69_method_8_code (2 : Nat) (Option.none : Option Jvm.ClassFile.FieldType), Jvm.Cond.code ({ cls := "java/util/HashMap", name := "putMapEntries", desc := "(Ljava/util/Map;Z)V" } : Jvm.MethodName) jdk_69_method_9_code (8 : Nat) (Option.none : Option Jvm.ClassFile.FieldType), Jvm.Cond.code ({ cls := "java/util/ImmutableCollections$MapN", name := "size", desc := "()I" } : Jvm.MethodName) jdk_2605_method_6_code (1 : Nat) (Option.some Jvm.ClassFile.FieldType.int), Jvm.Cond.code ({ cls := "com/example/pathweave/pathweave/planner/SlotsNewSlotPinLaw", name := "pick", desc := "(ILcom/example/pathweave/pathweave/planner/Slots;Lcom/example/pathweave/pathweave/planner/Slots;Lcom/example/pathweave/pathweave/planner/Slots;)Lcom/example/pathweave/pathweave/planner/Slots;" } : Jvm.MethodName) method_2_code (5 : Nat) (Option.some (Jvm.ClassFile.FieldType.object "com/example/pathweave/pathweave/planner/Slots")), Jvm.Cond.code ({ cls := "com/example/pathweave/pathweave/planner/Slots", name := "count", desc := "()I" } : Jvm.MethodName) prog_142_method_12_code (1 : Nat) (Option.some Jvm.ClassFile.FieldType.int), Jvm.Cond.code ({ cls := "com/example/pathweave/pathweave/planner/Slots", name := "newSlot", desc := "()I" } : Jvm.MethodName) prog_142_method_5_code (1 : Nat) (Option.some Jvm.ClassFile.FieldType.int)]
set_option maxRecDepth 65536 in
theorem codes_eq : words1.filter isCode = codes1 := rfl
theorem w_codes : ∀ c ∈ words1.filter isCode, c.before args0 about1 = true := by
  rw [codes_eq]
  intro c hc
  simp only [codes1, List.mem_cons, List.not_mem_nil, or_false] at hc
  rcases hc with rfl | rfl | rfl | rfl | rfl | rfl | rfl | rfl | rfl | rfl | rfl | rfl | rfl | rfl | rfl | rfl
  · exact w_c0
  · exact w_c1
  · exact w_c2
  · exact w_c3
  · exact w_c4
  · exact w_c5
  · exact w_c6
  · exact w_c7
  · exact w_c8
  · exact w_c9
  · exact w_c10
  · exact w_c11
  · exact w_c12
  · exact w_c13
  · exact w_c14
  · exact w_c15
set_option maxRecDepth 65536 in
theorem w_t1 : (words1.take 24).all (fun c => isCode c || c.before args0 about1) = true := by decide +kernel
set_option maxRecDepth 65536 in
theorem w_t2 : ((words1.drop 24).take 24).all (fun c => isCode c || c.before args0 about1) = true := by decide +kernel
set_option maxRecDepth 65536 in
theorem w_t3 : (((words1.drop 24).drop 24).take 24).all (fun c => isCode c || c.before args0 about1) = true := by decide +kernel
set_option maxRecDepth 65536 in
theorem w_t4 : (((words1.drop 24).drop 24).drop 24).all (fun c => isCode c || c.before args0 about1) = true := by decide +kernel
theorem w_tables : (allAtoms (Jvm.Cond.code x code maxLocals ret :: tables_1)).before args0 about1 = true := by
  rw [allAtoms_all]
  show words1.all (fun c => c.before args0 about1) = true
  refine all_split ?_ w_codes
  rw [← List.take_append_drop 24 words1, List.all_append, w_t1, ← List.take_append_drop 24 (words1.drop 24), List.all_append, w_t2, ← List.take_append_drop 24 ((words1.drop 24).drop 24), List.all_append, w_t3, w_t4]
  rfl
set_option maxRecDepth 65536 in
theorem w_rest : rest_1_c.before args0 about1 = true := by decide +kernel
set_option maxRecDepth 65536 in
theorem w_case : (Jvm.Cond.and given_1 narrow_1).before args0 about1 = true := by decide +kernel
theorem w_applies : (headSpec (Jvm.Cond.code x code maxLocals ret :: tables_1) room_1).applies x e0.platform about1 = true :=
  (Spec.applies_iff w_frames).mpr ⟨w_running, w_runnable, w_alone, w_named, w_hears, w_ripe, w_room, w_tables⟩
theorem atStart : AtStart classFile x code maxLocals ret World_1 tables_1 room_1 Calls_1 rest_1 Pre_1 launch0 p0 e0 about1 theMethod args0 below0 :=
  ⟨lists_1, trivial, launch0.admits_env _ _ _, launch0.least_env, fairChoices_fair.cas, fairChoices_fair.clock, w_frames, w_args, w_heap, w_applies, trivial, w_rest, w_case⟩
end start1
theorem witness_1 : WitnessClaimed_1 := ⟨start1.p0, start1.e0, start1.about1, start1.theMethod, start1.args0, start1.below0, start1.atStart⟩
end Jvm.Pilot.@@N@@
