import JvmDerived
import JvmDerived.Pilot.@@N@@Statement
import JvmDerived.Pilot.@@N@@Code
set_option linter.unusedVariables false
set_option linter.unusedSimpArgs false
namespace Jvm.Pilot.@@N@@
open Jvm Jvm.ClassFile Sem Op Lib Jvm.Free Jvm.Stand Jvm.LawKit Jvm.RoadKit Jvm.Free.Fl Bundle Jvm.Pilot.@@N@@.Jvm.D
set_option maxRecDepth 65536
set_option maxHeartbeats 40000000
theorem mi {α : Type} {l : List α} {a : α} (i : Nat) (h : l[i]? = some a) : a ∈ l := List.mem_of_getElem? h
section OwnG
variable {p : Program} {l : Launch} {e : Env} {R : Room} {s : State} {m : MethodId} {args : Array Value} {below : List Frame} {meth : Method} {c : Code} {T : State} {locs : List Loc} {cells slots : Nat} {Z : State} {a0 : Array Value} {h : Heap} {B : ByteArray} {pc pc' : Nat} {L L' : Array Slot} {rest : List Value} {F : Outcome → State → Prop}
def Gt (tb : Tables) (e : Env) (below : List Frame) (F : Outcome → State → Prop) (S : State) : Prop := ∃ s₂ o, Steps tb e below S s₂ ∧ s₂.status = .running ∧ Ended s₂ below o ∧ F o s₂
theorem Gt.go {tb : Tables} {S S' : State} (k : Gt tb e below F S') (q : ∀ t, Steps tb e below S' t → Steps tb e below S t) : Gt tb e below F S := by
  obtain ⟨a, o, h1, h2⟩ := k; exact ⟨a, o, q _ h1, h2⟩
theorem own_join {tb : Tables} {S S' : State} (q : ∀ F', Gt tb e below F' S' → Gt tb e below F' S) (k : Gt tb e below F S') : Gt tb e below F S := q F k
theorem own_cast {tb : Tables} {g g' : JFrame} (q : g = g') (k : Gt tb e below F (T.setTop g')) : Gt tb e below F (T.setTop g) := q ▸ k
theorem own_iadd (X : Stand p l e R s m args below meth c T locs cells slots) (hx : p.tables.exec = Jvm.exec) (hby : c.code = B) {x y v : Int32} (hv : x + y = v) (hd : decode B pc = .ok (.iadd, 1)) (hp : pc + 1 = pc') (k : Gt p.tables e below F (T.setTop (mkF m pc' L (.int v :: rest)))) : Gt p.tables e below F (T.setTop (mkF m pc L (.int y :: .int x :: rest))) := by
  subst hp; exact (by subst hv; exact k.go fun t q => XS.iadd X.here hx rfl (hb hby hd) rfl q)
theorem own_isub (X : Stand p l e R s m args below meth c T locs cells slots) (hx : p.tables.exec = Jvm.exec) (hby : c.code = B) {x y v : Int32} (hv : x - y = v) (hd : decode B pc = .ok (.isub, 1)) (hp : pc + 1 = pc') (k : Gt p.tables e below F (T.setTop (mkF m pc' L (.int v :: rest)))) : Gt p.tables e below F (T.setTop (mkF m pc L (.int y :: .int x :: rest))) := by
  subst hp; exact (by subst hv; exact k.go fun t q => XS.isub X.here hx rfl (hb hby hd) rfl q)
theorem own_iand (X : Stand p l e R s m args below meth c T locs cells slots) (hx : p.tables.exec = Jvm.exec) (hby : c.code = B) {x y v : Int32} (hv : x &&& y = v) (hd : decode B pc = .ok (.iand, 1)) (hp : pc + 1 = pc') (k : Gt p.tables e below F (T.setTop (mkF m pc' L (.int v :: rest)))) : Gt p.tables e below F (T.setTop (mkF m pc L (.int y :: .int x :: rest))) := by
  subst hp; exact (by subst hv; exact k.go fun t q => XS.iand X.here hx rfl (hb hby hd) rfl q)
theorem own_ixor (X : Stand p l e R s m args below meth c T locs cells slots) (hx : p.tables.exec = Jvm.exec) (hby : c.code = B) {x y v : Int32} (hv : x ^^^ y = v) (hd : decode B pc = .ok (.ixor, 1)) (hp : pc + 1 = pc') (k : Gt p.tables e below F (T.setTop (mkF m pc' L (.int v :: rest)))) : Gt p.tables e below F (T.setTop (mkF m pc L (.int y :: .int x :: rest))) := by
  subst hp; exact (by subst hv; exact k.go fun t q => XS.ixor X.here hx rfl (hb hby hd) rfl q)
theorem own_iushr (X : Stand p l e R s m args below meth c T locs cells slots) (hx : p.tables.exec = Jvm.exec) (hby : c.code = B) {x y v : Int32} (hv : (x.toUInt32 >>> (y &&& 31).toUInt32).toInt32 = v) (hd : decode B pc = .ok (.iushr, 1)) (hp : pc + 1 = pc') (k : Gt p.tables e below F (T.setTop (mkF m pc' L (.int v :: rest)))) : Gt p.tables e below F (T.setTop (mkF m pc L (.int y :: .int x :: rest))) := by
  subst hp; exact (by subst hv; exact k.go fun t q => XS.iushr X.here hx rfl (hb hby hd) rfl q)
theorem own_ladd (X : Stand p l e R s m args below meth c T locs cells slots) (hx : p.tables.exec = Jvm.exec) (hby : c.code = B) {x y v : Int64} (hv : x + y = v) (hd : decode B pc = .ok (.ladd, 1)) (hp : pc + 1 = pc') (k : Gt p.tables e below F (T.setTop (mkF m pc' L (.long v :: rest)))) : Gt p.tables e below F (T.setTop (mkF m pc L (.long y :: .long x :: rest))) := by
  subst hp; exact (by subst hv; exact k.go fun t q => XS.ladd X.here hx rfl (hb hby hd) rfl q)
theorem own_lsub (X : Stand p l e R s m args below meth c T locs cells slots) (hx : p.tables.exec = Jvm.exec) (hby : c.code = B) {x y v : Int64} (hv : x - y = v) (hd : decode B pc = .ok (.lsub, 1)) (hp : pc + 1 = pc') (k : Gt p.tables e below F (T.setTop (mkF m pc' L (.long v :: rest)))) : Gt p.tables e below F (T.setTop (mkF m pc L (.long y :: .long x :: rest))) := by
  subst hp; exact (by subst hv; exact k.go fun t q => XS.lsub X.here hx rfl (hb hby hd) rfl q)
theorem own_lmul (X : Stand p l e R s m args below meth c T locs cells slots) (hx : p.tables.exec = Jvm.exec) (hby : c.code = B) {x y v : Int64} (hv : x * y = v) (hd : decode B pc = .ok (.lmul, 1)) (hp : pc + 1 = pc') (k : Gt p.tables e below F (T.setTop (mkF m pc' L (.long v :: rest)))) : Gt p.tables e below F (T.setTop (mkF m pc L (.long y :: .long x :: rest))) := by
  subst hp; exact (by subst hv; exact k.go fun t q => XS.lmul X.here hx rfl (hb hby hd) rfl q)
theorem own_irem (X : Stand p l e R s m args below meth c T locs cells slots) (hx : p.tables.exec = Jvm.exec) (hby : c.code = B) {x y v : Int32} (hy : y ≠ 0) (hv : x % y = v) (hd : decode B pc = .ok (.irem, 1)) (hp : pc + 1 = pc') (k : Gt p.tables e below F (T.setTop (mkF m pc' L (.int v :: rest)))) : Gt p.tables e below F (T.setTop (mkF m pc L (.int y :: .int x :: rest))) := by
  subst hp; exact (by subst hv; exact k.go fun t q => iremM X hx rfl (hb hby hd) rfl hy q)
theorem own_ldiv (X : Stand p l e R s m args below meth c T locs cells slots) (hx : p.tables.exec = Jvm.exec) (hby : c.code = B) {x y v : Int64} (hy : y ≠ 0) (hv : x / y = v) (hd : decode B pc = .ok (.ldiv, 1)) (hp : pc + 1 = pc') (k : Gt p.tables e below F (T.setTop (mkF m pc' L (.long v :: rest)))) : Gt p.tables e below F (T.setTop (mkF m pc L (.long y :: .long x :: rest))) := by
  subst hp; exact (by subst hv; exact k.go fun t q => XS.ldiv X.here hx rfl (hb hby hd) rfl hy q)
theorem own_i2b (X : Stand p l e R s m args below meth c T locs cells slots) (hx : p.tables.exec = Jvm.exec) (hby : c.code = B) {x v : Int32} (hv : x.toInt8.toInt32 = v) (hd : decode B pc = .ok (.i2b, 1)) (hp : pc + 1 = pc') (k : Gt p.tables e below F (T.setTop (mkF m pc' L (.int v :: rest)))) : Gt p.tables e below F (T.setTop (mkF m pc L (.int x :: rest))) := by
  subst hp; exact (by subst hv; exact k.go fun t q => XS.i2b X.here hx rfl (hb hby hd) rfl q)
theorem own_i2l (X : Stand p l e R s m args below meth c T locs cells slots) (hx : p.tables.exec = Jvm.exec) (hby : c.code = B) {x : Int32} {v : Int64} (hv : x.toInt64 = v) (hd : decode B pc = .ok (.i2l, 1)) (hp : pc + 1 = pc') (k : Gt p.tables e below F (T.setTop (mkF m pc' L (.long v :: rest)))) : Gt p.tables e below F (T.setTop (mkF m pc L (.int x :: rest))) := by
  subst hp; exact (by subst hv; exact k.go fun t q => XS.i2l X.here hx rfl (hb hby hd) rfl q)
theorem own_iload (X : Stand p l e R s m args below meth c T locs cells slots) (hx : p.tables.exec = Jvm.exec) (hby : c.code = B) {i : Nat} {v : Int32} (hl : L[i]? = some (.val (.int v))) (hd : decode B pc = .ok (.iload i, 2)) (hp : pc + 2 = pc') (k : Gt p.tables e below F (T.setTop (mkF m pc' L (.int v :: rest)))) : Gt p.tables e below F (T.setTop (mkF m pc L rest)) := by
  subst hp; exact k.go fun t q => XS.iload X.here hx rfl (hb hby hd) hl q
theorem own_iloadN (X : Stand p l e R s m args below meth c T locs cells slots) (hx : p.tables.exec = Jvm.exec) (hby : c.code = B) {i : Fin 4} {v : Int32} (hl : L[i.val]? = some (.val (.int v))) (hd : decode B pc = .ok (.iload_n i, 1)) (hp : pc + 1 = pc') (k : Gt p.tables e below F (T.setTop (mkF m pc' L (.int v :: rest)))) : Gt p.tables e below F (T.setTop (mkF m pc L rest)) := by
  subst hp; exact k.go fun t q => XS.iloadN X.here hx rfl (hb hby hd) hl q
theorem own_lload (X : Stand p l e R s m args below meth c T locs cells slots) (hx : p.tables.exec = Jvm.exec) (hby : c.code = B) {i : Nat} {v : Int64} (hl : L[i]? = some (.val (.long v))) (hd : decode B pc = .ok (.lload i, 2)) (hp : pc + 2 = pc') (k : Gt p.tables e below F (T.setTop (mkF m pc' L (.long v :: rest)))) : Gt p.tables e below F (T.setTop (mkF m pc L rest)) := by
  subst hp; exact k.go fun t q => XS.lload X.here hx rfl (hb hby hd) hl q
theorem own_lloadN (X : Stand p l e R s m args below meth c T locs cells slots) (hx : p.tables.exec = Jvm.exec) (hby : c.code = B) {i : Fin 4} {v : Int64} (hl : L[i.val]? = some (.val (.long v))) (hd : decode B pc = .ok (.lload_n i, 1)) (hp : pc + 1 = pc') (k : Gt p.tables e below F (T.setTop (mkF m pc' L (.long v :: rest)))) : Gt p.tables e below F (T.setTop (mkF m pc L rest)) := by
  subst hp; exact k.go fun t q => XS.lloadN X.here hx rfl (hb hby hd) hl q
theorem own_dload (X : Stand p l e R s m args below meth c T locs cells slots) (hx : p.tables.exec = Jvm.exec) (hby : c.code = B) {i : Nat} {v : UInt64} (hl : L[i]? = some (.val (.double v))) (hd : decode B pc = .ok (.dload i, 2)) (hp : pc + 2 = pc') (k : Gt p.tables e below F (T.setTop (mkF m pc' L (.double v :: rest)))) : Gt p.tables e below F (T.setTop (mkF m pc L rest)) := by
  subst hp; exact k.go fun t q => XS.dload X.here hx rfl (hb hby hd) hl q
theorem own_aload (X : Stand p l e R s m args below meth c T locs cells slots) (hx : p.tables.exec = Jvm.exec) (hby : c.code = B) {i : Nat} {v : Value} (hl : L[i]? = some (.val v)) (hr : v.isRef = true) (hd : decode B pc = .ok (.aload i, 2)) (hp : pc + 2 = pc') (k : Gt p.tables e below F (T.setTop (mkF m pc' L (v :: rest)))) : Gt p.tables e below F (T.setTop (mkF m pc L rest)) := by
  subst hp; exact k.go fun t q => XS.aload X.here hx rfl (hb hby hd) hl hr q
theorem own_aloadN (X : Stand p l e R s m args below meth c T locs cells slots) (hx : p.tables.exec = Jvm.exec) (hby : c.code = B) {i : Fin 4} {v : Value} (hl : L[i.val]? = some (.val v)) (hr : v.isRef = true) (hd : decode B pc = .ok (.aload_n i, 1)) (hp : pc + 1 = pc') (k : Gt p.tables e below F (T.setTop (mkF m pc' L (v :: rest)))) : Gt p.tables e below F (T.setTop (mkF m pc L rest)) := by
  subst hp; exact k.go fun t q => XS.aloadN X.here hx rfl (hb hby hd) hl hr q
theorem own_istore (X : Stand p l e R s m args below meth c T locs cells slots) (hx : p.tables.exec = Jvm.exec) (hby : c.code = B) {i : Nat} {v : Int32} (hl : storeLocals L i (.int v) = some L') (hd : decode B pc = .ok (.istore i, 2)) (hp : pc + 2 = pc') (k : Gt p.tables e below F (T.setTop (mkF m pc' L' rest))) : Gt p.tables e below F (T.setTop (mkF m pc L (.int v :: rest))) := by
  subst hp; exact k.go fun t q => XS.istore X.here hx rfl (hb hby hd) rfl hl q
theorem own_istoreN (X : Stand p l e R s m args below meth c T locs cells slots) (hx : p.tables.exec = Jvm.exec) (hby : c.code = B) {i : Fin 4} {v : Int32} (hl : storeLocals L i.val (.int v) = some L') (hd : decode B pc = .ok (.istore_n i, 1)) (hp : pc + 1 = pc') (k : Gt p.tables e below F (T.setTop (mkF m pc' L' rest))) : Gt p.tables e below F (T.setTop (mkF m pc L (.int v :: rest))) := by
  subst hp; exact k.go fun t q => XS.istoreN X.here hx rfl (hb hby hd) rfl hl q
theorem own_lstore (X : Stand p l e R s m args below meth c T locs cells slots) (hx : p.tables.exec = Jvm.exec) (hby : c.code = B) {i : Nat} {v : Int64} (hl : storeLocals L i (.long v) = some L') (hd : decode B pc = .ok (.lstore i, 2)) (hp : pc + 2 = pc') (k : Gt p.tables e below F (T.setTop (mkF m pc' L' rest))) : Gt p.tables e below F (T.setTop (mkF m pc L (.long v :: rest))) := by
  subst hp; exact k.go fun t q => XS.lstore X.here hx rfl (hb hby hd) rfl hl q
theorem own_lstoreN (X : Stand p l e R s m args below meth c T locs cells slots) (hx : p.tables.exec = Jvm.exec) (hby : c.code = B) {i : Fin 4} {v : Int64} (hl : storeLocals L i.val (.long v) = some L') (hd : decode B pc = .ok (.lstore_n i, 1)) (hp : pc + 1 = pc') (k : Gt p.tables e below F (T.setTop (mkF m pc' L' rest))) : Gt p.tables e below F (T.setTop (mkF m pc L (.long v :: rest))) := by
  subst hp; exact k.go fun t q => XS.lstoreN X.here hx rfl (hb hby hd) rfl hl q
theorem own_dstore (X : Stand p l e R s m args below meth c T locs cells slots) (hx : p.tables.exec = Jvm.exec) (hby : c.code = B) {i : Nat} {v : UInt64} (hl : storeLocals L i (.double v) = some L') (hd : decode B pc = .ok (.dstore i, 2)) (hp : pc + 2 = pc') (k : Gt p.tables e below F (T.setTop (mkF m pc' L' rest))) : Gt p.tables e below F (T.setTop (mkF m pc L (.double v :: rest))) := by
  subst hp; exact k.go fun t q => XS.dstore X.here hx rfl (hb hby hd) rfl hl q
theorem own_astore (X : Stand p l e R s m args below meth c T locs cells slots) (hx : p.tables.exec = Jvm.exec) (hby : c.code = B) {i : Nat} {v : Value} (hr : v.isRef = true) (hl : storeLocals L i v = some L') (hd : decode B pc = .ok (.astore i, 2)) (hp : pc + 2 = pc') (k : Gt p.tables e below F (T.setTop (mkF m pc' L' rest))) : Gt p.tables e below F (T.setTop (mkF m pc L (v :: rest))) := by
  subst hp; exact k.go fun t q => XS.astore X.here hx rfl (hb hby hd) rfl hr hl q
theorem own_astoreN (X : Stand p l e R s m args below meth c T locs cells slots) (hx : p.tables.exec = Jvm.exec) (hby : c.code = B) {i : Fin 4} {v : Value} (hr : v.isRef = true) (hl : storeLocals L i.val v = some L') (hd : decode B pc = .ok (.astore_n i, 1)) (hp : pc + 1 = pc') (k : Gt p.tables e below F (T.setTop (mkF m pc' L' rest))) : Gt p.tables e below F (T.setTop (mkF m pc L (v :: rest))) := by
  subst hp; exact k.go fun t q => XS.astoreN X.here hx rfl (hb hby hd) rfl hr hl q
theorem own_iinc (X : Stand p l e R s m args below meth c T locs cells slots) (hx : p.tables.exec = Jvm.exec) (hby : c.code = B) {i : Nat} {cst : Int} {x : Int32} (hl : L[i]? = some (.val (.int x))) (hl' : storeLocals L i (.int (x + Int32.ofInt cst)) = some L') (hd : decode B pc = .ok (.iinc i cst, 3)) (hp : pc + 3 = pc') (k : Gt p.tables e below F (T.setTop (mkF m pc' L' rest))) : Gt p.tables e below F (T.setTop (mkF m pc L rest)) := by
  subst hp; exact k.go fun t q => XS.iinc X.here hx rfl (hb hby hd) hl hl' q
theorem own_iconst (X : Stand p l e R s m args below meth c T locs cells slots) (hx : p.tables.exec = Jvm.exec) (hby : c.code = B) {i : Int} {v : Int32} (hv : Int32.ofInt i = v) (hd : decode B pc = .ok (.iconst i, 1)) (hp : pc + 1 = pc') (k : Gt p.tables e below F (T.setTop (mkF m pc' L (.int v :: rest)))) : Gt p.tables e below F (T.setTop (mkF m pc L rest)) := by
  subst hp; exact (by subst hv; exact k.go fun t q => XS.iconst X.here hx rfl (hb hby hd) q)
theorem own_bipush (X : Stand p l e R s m args below meth c T locs cells slots) (hx : p.tables.exec = Jvm.exec) (hby : c.code = B) {i : Int} {v : Int32} (hv : (Int8.ofInt i).toInt32 = v) (hd : decode B pc = .ok (.bipush i, 2)) (hp : pc + 2 = pc') (k : Gt p.tables e below F (T.setTop (mkF m pc' L (.int v :: rest)))) : Gt p.tables e below F (T.setTop (mkF m pc L rest)) := by
  subst hp; exact (by subst hv; exact k.go fun t q => XS.bipush X.here hx rfl (hb hby hd) q)
theorem own_sipush (X : Stand p l e R s m args below meth c T locs cells slots) (hx : p.tables.exec = Jvm.exec) (hby : c.code = B) {i : Int} {v : Int32} (hv : (Int16.ofInt i).toInt32 = v) (hd : decode B pc = .ok (.sipush i, 3)) (hp : pc + 3 = pc') (k : Gt p.tables e below F (T.setTop (mkF m pc' L (.int v :: rest)))) : Gt p.tables e below F (T.setTop (mkF m pc L rest)) := by
  subst hp; exact (by subst hv; exact k.go fun t q => XS.sipush X.here hx rfl (hb hby hd) q)
theorem own_lconst (X : Stand p l e R s m args below meth c T locs cells slots) (hx : p.tables.exec = Jvm.exec) (hby : c.code = B) {i : Fin 2} {v : Int64} (hv : Int64.ofNat i = v) (hd : decode B pc = .ok (.lconst i, 1)) (hp : pc + 1 = pc') (k : Gt p.tables e below F (T.setTop (mkF m pc' L (.long v :: rest)))) : Gt p.tables e below F (T.setTop (mkF m pc L rest)) := by
  subst hp; exact (by subst hv; exact k.go fun t q => XS.lconst X.here hx rfl (hb hby hd) q)
theorem own_aconst (X : Stand p l e R s m args below meth c T locs cells slots) (hx : p.tables.exec = Jvm.exec) (hby : c.code = B)  (hd : decode B pc = .ok (.aconst_null, 1)) (hp : pc + 1 = pc') (k : Gt p.tables e below F (T.setTop (mkF m pc' L (.null :: rest)))) : Gt p.tables e below F (T.setTop (mkF m pc L rest)) := by
  subst hp; exact k.go fun t q => XS.aconstNull X.here hx rfl (hb hby hd) q
theorem own_dconst1 (X : Stand p l e R s m args below meth c T locs cells slots) (hx : p.tables.exec = Jvm.exec) (hby : c.code = B) {v : UInt64} (hv : FP.dconst1 = v) (hd : decode B pc = .ok (.dconst 1, 1)) (hp : pc + 1 = pc') (k : Gt p.tables e below F (T.setTop (mkF m pc' L (.double v :: rest)))) : Gt p.tables e below F (T.setTop (mkF m pc L rest)) := by
  subst hp; exact k.go fun t q => XS.dconst1 X.here hx rfl (hb hby hd) hv q
theorem own_dsub (X : Stand p l e R s m args below meth c T locs cells slots) (hx : p.tables.exec = Jvm.exec) (hby : c.code = B) {x y v : UInt64} (hn : NoNaN64 (FP.dsub x y)) (hv : FP.dsub x y = v) (hd : decode B pc = .ok (.dsub, 1)) (hp : pc + 1 = pc') (k : Gt p.tables e below F (T.setTop (mkF m pc' L (.double v :: rest)))) : Gt p.tables e below F (T.setTop (mkF m pc L (.double y :: .double x :: rest))) := by
  subst hp; exact k.go fun t q => XS.dsubS X.here hx rfl (hb hby hd) rfl hn hv q
theorem own_ddiv (X : Stand p l e R s m args below meth c T locs cells slots) (hx : p.tables.exec = Jvm.exec) (hby : c.code = B) {x y v : UInt64} (hn : NoNaN64 (FP.ddiv x y)) (hv : FP.ddiv x y = v) (hd : decode B pc = .ok (.ddiv, 1)) (hp : pc + 1 = pc') (k : Gt p.tables e below F (T.setTop (mkF m pc' L (.double v :: rest)))) : Gt p.tables e below F (T.setTop (mkF m pc L (.double y :: .double x :: rest))) := by
  subst hp; exact k.go fun t q => XS.ddivS X.here hx rfl (hb hby hd) rfl hn hv q
theorem own_dcmp (X : Stand p l e R s m args below meth c T locs cells slots) (hx : p.tables.exec = Jvm.exec) (hby : c.code = B) {o : CmpOp} {x y : UInt64} {v : Int32} (hv : cmpValue (FP.dcmp x y) o = v) (hd : decode B pc = .ok (.dcmp o, 1)) (hp : pc + 1 = pc') (k : Gt p.tables e below F (T.setTop (mkF m pc' L (.int v :: rest)))) : Gt p.tables e below F (T.setTop (mkF m pc L (.double y :: .double x :: rest))) := by
  subst hp; exact k.go fun t q => XS.dcmpS X.here hx rfl (hb hby hd) rfl hv q
theorem own_i2d (X : Stand p l e R s m args below meth c T locs cells slots) (hx : p.tables.exec = Jvm.exec) (hby : c.code = B) {x : Int32} {v : UInt64} (hv : FP.i2d x = v) (hd : decode B pc = .ok (.i2d, 1)) (hp : pc + 1 = pc') (k : Gt p.tables e below F (T.setTop (mkF m pc' L (.double v :: rest)))) : Gt p.tables e below F (T.setTop (mkF m pc L (.int x :: rest))) := by
  subst hp; exact k.go fun t q => XS.i2dS X.here hx rfl (hb hby hd) rfl hv q
theorem own_l2d (X : Stand p l e R s m args below meth c T locs cells slots) (hx : p.tables.exec = Jvm.exec) (hby : c.code = B) {x : Int64} {v : UInt64} (hv : FP.l2d x = v) (hd : decode B pc = .ok (.l2d, 1)) (hp : pc + 1 = pc') (k : Gt p.tables e below F (T.setTop (mkF m pc' L (.double v :: rest)))) : Gt p.tables e below F (T.setTop (mkF m pc L (.long x :: rest))) := by
  subst hp; exact k.go fun t q => XS.l2dS X.here hx rfl (hb hby hd) rfl hv q
theorem own_dup (X : Stand p l e R s m args below meth c T locs cells slots) (hx : p.tables.exec = Jvm.exec) (hby : c.code = B) {x : Value} (hc : x.category = 1) (hd : decode B pc = .ok (.dup, 1)) (hp : pc + 1 = pc') (k : Gt p.tables e below F (T.setTop (mkF m pc' L (x :: x :: rest)))) : Gt p.tables e below F (T.setTop (mkF m pc L (x :: rest))) := by
  subst hp; exact k.go fun t q => XS.dup X.here hx rfl (hb hby hd) rfl hc q
theorem own_pop (X : Stand p l e R s m args below meth c T locs cells slots) (hx : p.tables.exec = Jvm.exec) (hby : c.code = B) {x : Value} (hc : x.category = 1) (hd : decode B pc = .ok (.pop, 1)) (hp : pc + 1 = pc') (k : Gt p.tables e below F (T.setTop (mkF m pc' L rest))) : Gt p.tables e below F (T.setTop (mkF m pc L (x :: rest))) := by
  subst hp; exact k.go fun t q => XS.pop X.here hx rfl (hb hby hd) rfl hc q
theorem own_dupX1 (X : Stand p l e R s m args below meth c T locs cells slots) (hx : p.tables.exec = Jvm.exec) (hby : c.code = B) {x y : Value} (hc : x.category = 1) (hc' : y.category = 1) (hd : decode B pc = .ok (.dup_x1, 1)) (hp : pc + 1 = pc') (k : Gt p.tables e below F (T.setTop (mkF m pc' L (x :: y :: x :: rest)))) : Gt p.tables e below F (T.setTop (mkF m pc L (x :: y :: rest))) := by
  subst hp; exact k.go fun t q => XS.dupX1 X.here hx rfl (hb hby hd) rfl hc hc' q
theorem own_goto (X : Stand p l e R s m args below meth c T locs cells slots) (hx : p.tables.exec = Jvm.exec) (hby : c.code = B) {o : Int} (hd : decode B pc = .ok (.goto o, 3)) (ho : 0 ≤ (pc : Int) + o) (hp : ((pc : Int) + o).toNat = pc') (k : Gt p.tables e below F (T.setTop (mkF m pc' L rest))) : Gt p.tables e below F (T.setTop (mkF m pc L rest)) :=
  k.go fun t q => XS.goto X.here hx rfl rfl (hb hby hd) ho hp q
theorem own_ifT (X : Stand p l e R s m args below meth c T locs cells slots) (hx : p.tables.exec = Jvm.exec) (hby : c.code = B) {cd : ClassFile.Cond} {x : Int32} {o : Int} (hd : decode B pc = .ok (.ifCond cd o, 3)) (hc : ifCond.holds cd x = true) (ho : 0 ≤ (pc : Int) + o) (hp : ((pc : Int) + o).toNat = pc') (k : Gt p.tables e below F (T.setTop (mkF m pc' L rest))) : Gt p.tables e below F (T.setTop (mkF m pc L (.int x :: rest))) :=
  k.go fun t q => XS.ifYes X.here hx rfl rfl (hb hby hd) rfl hc ho hp q
theorem own_ifF (X : Stand p l e R s m args below meth c T locs cells slots) (hx : p.tables.exec = Jvm.exec) (hby : c.code = B) {cd : ClassFile.Cond} {x : Int32} {o : Int} (hd : decode B pc = .ok (.ifCond cd o, 3)) (hc : ifCond.holds cd x = false) (hp : pc + 3 = pc') (k : Gt p.tables e below F (T.setTop (mkF m pc' L rest))) : Gt p.tables e below F (T.setTop (mkF m pc L (.int x :: rest))) := by
  subst hp; exact k.go fun t q => XS.ifNo X.here hx rfl (hb hby hd) rfl hc q
theorem own_icT (X : Stand p l e R s m args below meth c T locs cells slots) (hx : p.tables.exec = Jvm.exec) (hby : c.code = B) {cd : ClassFile.Cond} {x y : Int32} {o : Int} (hd : decode B pc = .ok (.if_icmp cd o, 3)) (hc : if_icmp.holds cd x y = true) (ho : 0 ≤ (pc : Int) + o) (hp : ((pc : Int) + o).toNat = pc') (k : Gt p.tables e below F (T.setTop (mkF m pc' L rest))) : Gt p.tables e below F (T.setTop (mkF m pc L (.int y :: .int x :: rest))) :=
  k.go fun t q => XS.icmpYes X.here hx rfl rfl (hb hby hd) rfl hc ho hp q
theorem own_icF (X : Stand p l e R s m args below meth c T locs cells slots) (hx : p.tables.exec = Jvm.exec) (hby : c.code = B) {cd : ClassFile.Cond} {x y : Int32} {o : Int} (hd : decode B pc = .ok (.if_icmp cd o, 3)) (hc : if_icmp.holds cd x y = false) (hp : pc + 3 = pc') (k : Gt p.tables e below F (T.setTop (mkF m pc' L rest))) : Gt p.tables e below F (T.setTop (mkF m pc L (.int y :: .int x :: rest))) := by
  subst hp; exact k.go fun t q => XS.icmpNo X.here hx rfl (hb hby hd) rfl hc q
theorem own_ifnullT (X : Stand p l e R s m args below meth c T locs cells slots) (hx : p.tables.exec = Jvm.exec) (hby : c.code = B) {o : Int} (hd : decode B pc = .ok (.ifnull o, 3)) (ho : 0 ≤ (pc : Int) + o) (hp : ((pc : Int) + o).toNat = pc') (k : Gt p.tables e below F (T.setTop (mkF m pc' L rest))) : Gt p.tables e below F (T.setTop (mkF m pc L (.null :: rest))) :=
  k.go fun t q => XS.ifnullYes X.here hx rfl rfl (hb hby hd) rfl ho hp q
theorem own_ifnullF (X : Stand p l e R s m args below meth c T locs cells slots) (hx : p.tables.exec = Jvm.exec) (hby : c.code = B) {o : Int} {b : Addr} (hd : decode B pc = .ok (.ifnull o, 3)) (hp : pc + 3 = pc') (k : Gt p.tables e below F (T.setTop (mkF m pc' L rest))) : Gt p.tables e below F (T.setTop (mkF m pc L (.ref b :: rest))) := by
  subst hp; exact k.go fun t q => XS.ifnullNo X.here hx rfl (hb hby hd) rfl q
theorem own_ifnonnullT (X : Stand p l e R s m args below meth c T locs cells slots) (hx : p.tables.exec = Jvm.exec) (hby : c.code = B) {o : Int} {b : Addr} (hd : decode B pc = .ok (.ifnonnull o, 3)) (ho : 0 ≤ (pc : Int) + o) (hp : ((pc : Int) + o).toNat = pc') (k : Gt p.tables e below F (T.setTop (mkF m pc' L rest))) : Gt p.tables e below F (T.setTop (mkF m pc L (.ref b :: rest))) :=
  k.go fun t q => XS.ifnonnullYes X.here hx rfl rfl (hb hby hd) rfl ho hp q
theorem own_ifnonnullF (X : Stand p l e R s m args below meth c T locs cells slots) (hx : p.tables.exec = Jvm.exec) (hby : c.code = B) {o : Int} (hd : decode B pc = .ok (.ifnonnull o, 3)) (hp : pc + 3 = pc') (k : Gt p.tables e below F (T.setTop (mkF m pc' L rest))) : Gt p.tables e below F (T.setTop (mkF m pc L (.null :: rest))) := by
  subst hp; exact k.go fun t q => XS.ifnonnullNo X.here hx rfl (hb hby hd) rfl q
theorem own_acmp (X : Stand p l e R s m args below meth c T locs cells slots) (hx : p.tables.exec = Jvm.exec) (hby : c.code = B) {cd : ACond} {x y : Value} (h1 : x.isRef = true) (h2 : y.isRef = true) {o : Int} {same : Bool} (hd : decode B pc = .ok (.if_acmp cd o, 3)) (hq : decide (x = y) = same) (ho : 0 ≤ (pc : Int) + o) (hp : pc' = if acV cd same = true then ((pc : Int) + o).toNat else pc + 3) (k : Gt p.tables e below F (T.setTop (mkF m pc' L rest))) : Gt p.tables e below F (T.setTop (mkF m pc L (y :: x :: rest))) :=
  k.go fun t q => Jvm.RoadKit.acmp X hx rfl h1 h2 rfl (hb hby hd) rfl hq ho hp q
theorem own_ldcI (X : Stand p l e R s m args below meth c T locs cells slots) (hx : p.tables.exec = Jvm.exec) (hby : c.code = B) (hZ : Z.Warmed39 s.vm) {own : String} {i : Nat} {v : Int32} (hown : s.vm.findClass own = some m.cls) (w : (Jvm.Cond.constant own i v).before a0 Z = true) (hd : decode B pc = .ok (.ldc i, 2)) (hp : pc + 2 = pc') (k : Gt p.tables e below F (T.setTop (mkF m pc' L (.int v :: rest)))) : Gt p.tables e below F (T.setTop (mkF m pc L rest)) := by
  subst hp; exact k.go (X.ldcInt hx hown (mvT hZ w) (g := mkF m pc L rest) rfl (hb hby hd))
theorem own_ldc2L (X : Stand p l e R s m args below meth c T locs cells slots) (hx : p.tables.exec = Jvm.exec) (hby : c.code = B) (hZ : Z.Warmed39 s.vm) {own : String} {i : Nat} {v : Int64} (hown : s.vm.findClass own = some m.cls) (w : (Jvm.Cond.constantLong own i v).before a0 Z = true) (hd : decode B pc = .ok (.ldc2_w i, 3)) (hp : pc + 3 = pc') (k : Gt p.tables e below F (T.setTop (mkF m pc' L (.long v :: rest)))) : Gt p.tables e below F (T.setTop (mkF m pc L rest)) := by
  subst hp; exact k.go (X.ldc2Long hx hown (mvT hZ w) (g := mkF m pc L rest) rfl (hb hby hd))
theorem own_ldc2D (X : Stand p l e R s m args below meth c T locs cells slots) (hx : p.tables.exec = Jvm.exec) (hby : c.code = B) (hZ : Z.Warmed39 s.vm) {own : String} {i : Nat} {v : UInt64} (hown : s.vm.findClass own = some m.cls) (w : (Jvm.Cond.constantDouble own i v).before a0 Z = true) (hd : decode B pc = .ok (.ldc2_w i, 3)) (hp : pc + 3 = pc') (k : Gt p.tables e below F (T.setTop (mkF m pc' L (.double v :: rest)))) : Gt p.tables e below F (T.setTop (mkF m pc L rest)) := by
  subst hp; exact k.go (X.ldc2DoubleC hx hown (mvT hZ w) (g := mkF m pc L rest) rfl (hb hby hd))
theorem own_getF (X : Stand p l e R s m args below meth c T locs cells slots) (hx : p.tables.exec = Jvm.exec) (hby : c.code = B) (hZ : Z.Warmed39 s.vm) {own R0 O n d host : String} {index : Nat} (hown : s.vm.findClass own = some m.cls) (w : (Jvm.Cond.fieldLink own index R0 n d).before a0 Z = true ∨ (Jvm.Cond.fieldLinkNest own index R0 n d host).before a0 Z = true) (via : Via Z R0 O n d) (eT : T.heap = h) {a : Addr} {v : Value} (Ff : Fld Z h a O n d v) (hd : decode B pc = .ok (.getfield index, 3)) (hp : pc + 3 = pc') (k : ∀ T', Stand p l e R s m args below meth c T' locs cells slots → T'.heap = h → Gt p.tables e below F (T'.setTop (mkF m pc' L (v :: rest)))) : Gt p.tables e below F (T.setTop (mkF m pc L (.ref a :: rest))) := by
  subst hp; obtain ⟨T', X', e', st⟩ := getF X hx hZ hown w via eT Ff (g := mkF m pc L (.ref a :: rest)) rfl rfl (hb hby hd); exact (k T' X' e').go st
theorem own_getS (X : Stand p l e R s m args below meth c T locs cells slots) (hx : p.tables.exec = Jvm.exec) (hby : c.code = B) (hZ : Z.Warmed39 s.vm) {own R0 O n d host : String} {index : Nat} (hown : s.vm.findClass own = some m.cls) (w : (Jvm.Cond.fieldLink own index R0 n d).before a0 Z = true ∨ (Jvm.Cond.fieldLinkNest own index R0 n d host).before a0 Z = true) (via : Via Z R0 O n d) (eT : T.heap = h) {v : Value} (Ff : Sta Z h O n d v) (hd : decode B pc = .ok (.getstatic index, 3)) (hp : pc + 3 = pc') (k : ∀ T', Stand p l e R s m args below meth c T' locs cells slots → T'.heap = h → Gt p.tables e below F (T'.setTop (mkF m pc' L (v :: rest)))) : Gt p.tables e below F (T.setTop (mkF m pc L rest)) := by
  subst hp; obtain ⟨T', X', e', st⟩ := getS2 X hx hZ hown w via eT Ff (g := mkF m pc L rest) rfl (hb hby hd); exact (k T' X' e').go st
theorem own_putF (X : Stand p l e R s m args below meth c T locs cells slots) (hx : p.tables.exec = Jvm.exec) (hby : c.code = B) (hZ : Z.Warmed39 s.vm) {own R0 O n d host C : String} {index kk : Nat} {ty : FieldType} (hown : s.vm.findClass own = some m.cls) (w : (Jvm.Cond.fieldLink own index R0 n d).before a0 Z = true ∨ (Jvm.Cond.fieldLinkNest own index R0 n d host).before a0 Z = true) (via : Via Z R0 O n d) (eT : T.heap = h) {a : Addr} {v old : Value} (Ff : Fld Z h a O n d old) (E : Exa Z h a C) (La : (Jvm.Cond.lays C O n d).before a0 Z = true ∨ ((Jvm.Cond.laysFinal C O n d).before a0 Z = true ∧ own = O ∧ meth.name = "<init>")) (wi : (Jvm.Cond.instantiable C kk).before a0 Z = true) (hty : parseFieldDescriptor d = some ty) (hn : narrow ty v = v) (hf : fits ty v = true) (hd : decode B pc = .ok (.putfield index, 3)) (hp : pc + 3 = pc') (k : ∀ T' h', Stand p l e R s m args below meth c T' (locs ++ [⟨a, Jvm.RoadKit.slotOf Z O n d⟩]) cells slots → T'.heap = h' → Wr h h' a (Jvm.RoadKit.slotOf Z O n d) v → Gt p.tables e below F (T'.setTop (mkF m pc' L rest))) : Gt p.tables e below F (T.setTop (mkF m pc L (v :: .ref a :: rest))) := by
  subst hp; obtain ⟨T', h', X', e', W, st⟩ := putF X hx hZ hown w via eT Ff E La wi hty hn hf (g := mkF m pc L (v :: .ref a :: rest)) rfl rfl (hb hby hd); exact (k T' h' X' e' W).go st
theorem own_newO (X : Stand p l e R s m args below meth c T locs cells slots) (hx : p.tables.exec = Jvm.exec) (hby : c.code = B) (hZ : Z.Warmed39 s.vm) {own C : String} {index n : Nat} (hown : s.vm.findClass own = some m.cls) (w : (Jvm.Cond.classLink own index C).before a0 Z = true) (wi : (Jvm.Cond.instantiable C n).before a0 Z = true) (wz : (Jvm.Cond.initialized C).before a0 Z = true) (eT : T.heap = h) (hd : decode B pc = .ok (.new index, 3)) (hp : pc + 3 = pc') (hc : cells + 1 ≤ R.cells) (hl : slots + n ≤ R.slots) (k : ∀ T' h' a, Stand p l e R s m args below meth c T' locs (cells + 1) (slots + n) → T'.heap = h' → Ext h h' → h.size = a → Exa Z h' a C → (∀ {O nm d : String} {ty : FieldType}, Laid Z a0 C O nm d → parseFieldDescriptor d = some ty → Fld Z h' a O nm d (defaultValue ty)) → Gt p.tables e below F (T'.setTop (mkF m pc' L (.ref a :: rest)))) : Gt p.tables e below F (T.setTop (mkF m pc L rest)) := by
  subst hp; obtain ⟨T', h', X', e', E', A', D', -, st⟩ := newO X hx hZ hown w wi wz eT (g := mkF m pc L rest) rfl (hb hby hd) hc hl; exact (k T' h' _ X' e' E' rfl A' D').go st
theorem own_initO (X : Stand p l e R s m args below meth c T locs cells slots) (hx : p.tables.exec = Jvm.exec) (hby : c.code = B) (hZ : Z.Warmed39 s.vm) {own : String} {idx : Nat} (hown : s.vm.findClass own = some m.cls) (w1 : (Jvm.Cond.methodLink own idx Lib.objectInit).before a0 Z = true) (w2 : (Jvm.Cond.instanceMethod Lib.objectInit).before a0 Z = true) (w3 : (Jvm.Cond.code Lib.objectInit ⟨#[0xb1]⟩ 1 none).before a0 Z = true) (eT : T.heap = h) (hsize : L.size = c.maxLocals) {a : Addr} (hd : decode B pc = .ok (.invokespecial idx, 3)) (hp : pc + 3 = pc') (hf : 1 ≤ R.frames) {W : Nat} (hW : (rest.map fun v => v.category).sum ≤ W) (hl : W + 12 ≤ R.locals) (k : ∀ T', Stand p l e R s m args below meth c T' locs cells slots → T'.heap = h → Gt p.tables e below F (T'.setTop (mkF m pc' L rest))) : Gt p.tables e below F (T.setTop (mkF m pc L (.ref a :: rest))) := by
  subst hp; obtain ⟨T', X', e', st⟩ := initO X hx hZ hown w1 w2 w3 eT (g := mkF m pc L (.ref a :: rest)) rfl hsize rfl (hb hby hd) hf (W := W) (by show 2 * 0 + _ ≤ _; rw [Nat.mul_zero, Nat.zero_add]; exact hW) hl; exact (k T' X' e').go st
theorem own_special (X : Stand p l e R s m args below meth c T locs cells slots) (hx : p.tables.exec = Jvm.exec) (hby : c.code = B) (hZ : Z.Warmed39 s.vm) {own : String} {index : Nat} {y : MethodName} {bytes : ByteArray} {maxL : Nat} {ret : Option FieldType} {rm : Room} {as' : Array Value} {Q : Option Value → Heap → List Loc → Prop} (hy1 : y.name = "<init>") (hown : s.vm.findClass own = some m.cls) (w1 : (Jvm.Cond.methodLink own index y).before a0 Z = true) (w2 : (Jvm.Cond.instanceMethod y).before a0 Z = true) (hret : ret = none) (w3 : (Jvm.Cond.code y bytes maxL ret).before a0 Z = true) (w4 : (Jvm.Cond.initialized y.cls).before a0 Z = true) (hy : y.cls ≠ "java/lang/invoke/MethodHandle" ∧ y.cls ≠ "java/lang/invoke/VarHandle") (hM : MetFree l y (head1 [Jvm.Cond.code y bytes maxL ret] rm) (fun a U => a = as' ∧ Z.Warmed39 U.vm ∧ U.heap = h) (fun _ _ _ _ _ => True) (fun _ U o U' => ∃ v L, o = .returned v ∧ Q v U'.heap L ∧ FrameEnd U o U' L rm.cells rm.slots)) (eT : T.heap = h) (hsize : L.size = c.maxLocals) {a : Addr} {argsL : List Value} (has : as' = (.ref a :: argsL).toArray) (hlen : ∀ sig, parseMethodDescriptor y.desc = some sig → argsL.length = sig.parameters.length) {st : List Value} (hst : st = argsL.reverse ++ .ref a :: rest) (hd : decode B pc = .ok (.invokespecial index, 3)) (hp : pc + 3 = pc') (hf : rm.frames + 1 ≤ R.frames) {W : Nat} (hW : (rest.map fun v => v.category).sum ≤ W) (hl : W + (maxL + 11) + rm.locals ≤ R.locals) (hc : cells + rm.cells ≤ R.cells) (hs : slots + rm.slots ≤ R.slots) (k : ∀ T' h' L' v, Stand p l e R s m args below meth c T' (locs ++ L') (cells + rm.cells) (slots + rm.slots) → T'.heap = h' → Q v h' L' → Gt p.tables e below F (T'.setTop (mkF m pc' L (v.toList ++ rest)))) : Gt p.tables e below F (T.setTop (mkF m pc L st)) := by
  subst hp hret has hst
  obtain ⟨v, vm1, ⟨T', L1, k1, n1⟩, -, X', ⟨Lc, hQ, l1, l2, l3⟩, st⟩ := X.specialBack hx (y := y) hy1 hown (mvT hZ w1) (mvT hZ w2) (mvT hZ w3) hy (backOf (W := W) hM hZ w3 w4 hf hl) (g := mkF m pc L (argsL.reverse ++ .ref a :: rest)) rfl hsize (Steps.refl _) (a := a) (argsL := argsL) (rest := rest) hlen rfl (by show 2 * 0 + _ ≤ _; rw [Nat.mul_zero, Nat.zero_add]; exact hW) (hb hby hd) (fun _ _ => ⟨rfl, eT, hc, hs⟩)
  dsimp only [Pt.U, Pt.locs, Pt.cells, Pt.slots] at X' l1 l2 l3 st hQ
  subst l1 l2 l3
  exact (k T' _ Lc v X' rfl hQ).go fun t q => st.trans q
theorem own_virtual (X : Stand p l e R s m args below meth c T locs cells slots) (hx : p.tables.exec = Jvm.exec) (hby : c.code = B) (hZ : Z.Warmed39 s.vm) {own : String} {index : Nat} {y : MethodName} {bytes : ByteArray} {maxL : Nat} {ret : Option FieldType} {rm : Room} {as' : Array Value} {Q : Option Value → Heap → List Loc → Prop} {C : String} {y' : MethodName} (hown : s.vm.findClass own = some m.cls) (w1 : (Jvm.Cond.methodLink own index y').before a0 Z = true) (w2 : (Jvm.Cond.declares y').before a0 Z = true) (hnf : NotFace s y') (w5 : (Jvm.Cond.selects C y' y).before a0 Z = true) (w6 : (Jvm.Cond.instanceMethod y).before a0 Z = true) (w3 : (Jvm.Cond.code y bytes maxL ret).before a0 Z = true) (w4 : (Jvm.Cond.initialized y.cls).before a0 Z = true) (hy : y'.cls ≠ "java/lang/invoke/MethodHandle" ∧ y'.cls ≠ "java/lang/invoke/VarHandle") (hM : MetFree l y (head1 [Jvm.Cond.code y bytes maxL ret] rm) (fun a U => a = as' ∧ Z.Warmed39 U.vm ∧ U.heap = h) (fun _ _ _ _ _ => True) (fun _ U o U' => ∃ v L, o = .returned v ∧ Q v U'.heap L ∧ FrameEnd U o U' L rm.cells rm.slots)) (eT : T.heap = h) (hsize : L.size = c.maxLocals) {a : Addr} (E : Exa Z h a C) {argsL : List Value} (has : as' = (.ref a :: argsL).toArray) (hlen : ∀ sig, parseMethodDescriptor y'.desc = some sig → argsL.length = sig.parameters.length) {st : List Value} (hst : st = argsL.reverse ++ .ref a :: rest) (hd : decode B pc = .ok (.invokevirtual index, 3)) (hp : pc + 3 = pc') (hf : rm.frames + 1 ≤ R.frames) {W : Nat} (hW : (rest.map fun v => v.category).sum ≤ W) (hl : W + (maxL + 11) + rm.locals ≤ R.locals) (hc : cells + rm.cells ≤ R.cells) (hs : slots + rm.slots ≤ R.slots) (k : ∀ T' h' L' v, Stand p l e R s m args below meth c T' (locs ++ L') (cells + rm.cells) (slots + rm.slots) → T'.heap = h' → Q v h' L' → Gt p.tables e below F (T'.setTop (mkF m pc' L (v.toList ++ rest)))) : Gt p.tables e below F (T.setTop (mkF m pc L st)) := by
  subst hp has hst
  obtain ⟨cq, kq, qa, qb, qc⟩ := isOf hZ eT E
  obtain ⟨v, vm1, ⟨T', L1, k1, n1⟩, -, X', ⟨Lc, hQ, l1, l2, l3⟩, st⟩ := X.virtualBack hx (y := y') (z := y) hown (mvT hZ w1) (mvT hZ w2) hnf (mvT hZ w5) (mvT hZ w6) hy (backOf (W := W) hM hZ w3 w4 hf hl) qa qc (g := mkF m pc L (argsL.reverse ++ .ref a :: rest)) rfl hsize (Steps.refl _) (argsL := argsL) (rest := rest) hlen rfl (by show 2 * 0 + _ ≤ _; rw [Nat.mul_zero, Nat.zero_add]; exact hW) (hb hby hd) (fun _ _ => ⟨rfl, eT, hc, hs⟩)
  dsimp only [Pt.U, Pt.locs, Pt.cells, Pt.slots] at X' l1 l2 l3 st hQ
  subst l1 l2 l3
  exact (k T' _ Lc v X' rfl hQ).go fun t q => st.trans q
theorem own_static (X : Stand p l e R s m args below meth c T locs cells slots) (hx : p.tables.exec = Jvm.exec) (hby : c.code = B) (hZ : Z.Warmed39 s.vm) {own : String} {index : Nat} {y : MethodName} {bytes : ByteArray} {maxL : Nat} {ret : Option FieldType} {rm : Room} {as' : Array Value} {Q : Option Value → Heap → List Loc → Prop} (hown : s.vm.findClass own = some m.cls) (w1 : (Jvm.Cond.methodLink own index y).before a0 Z = true) (w2 : (Jvm.Cond.static y).before a0 Z = true) (w3 : (Jvm.Cond.code y bytes maxL ret).before a0 Z = true) (w4 : (Jvm.Cond.initialized y.cls).before a0 Z = true) (hy : y.cls ≠ "java/lang/invoke/MethodHandle" ∧ y.cls ≠ "java/lang/invoke/VarHandle") (hM : MetFree l y (head1 [Jvm.Cond.code y bytes maxL ret] rm) (fun a U => a = as' ∧ Z.Warmed39 U.vm ∧ U.heap = h) (fun _ _ _ _ _ => True) (fun _ U o U' => ∃ v L, o = .returned v ∧ Q v U'.heap L ∧ FrameEnd U o U' L rm.cells rm.slots)) (eT : T.heap = h) (hsize : L.size = c.maxLocals) {argsL : List Value} (has : as' = argsL.toArray) (hlen : ∀ sig, parseMethodDescriptor y.desc = some sig → argsL.length = sig.parameters.length) {st : List Value} (hst : st = argsL.reverse ++ rest) (hd : decode B pc = .ok (.invokestatic index, 3)) (hp : pc + 3 = pc') (hf : rm.frames + 1 ≤ R.frames) {W : Nat} (hW : (rest.map fun v => v.category).sum ≤ W) (hl : W + (maxL + 11) + rm.locals ≤ R.locals) (hc : cells + rm.cells ≤ R.cells) (hs : slots + rm.slots ≤ R.slots) (k : ∀ T' h' L' v, Stand p l e R s m args below meth c T' (locs ++ L') (cells + rm.cells) (slots + rm.slots) → T'.heap = h' → Q v h' L' → Gt p.tables e below F (T'.setTop (mkF m pc' L (v.toList ++ rest)))) : Gt p.tables e below F (T.setTop (mkF m pc L st)) := by
  subst hp has hst
  obtain ⟨v, vm1, ⟨T', L1, k1, n1⟩, -, X', ⟨Lc, hQ, l1, l2, l3⟩, st⟩ := Jvm.LawKit.callS X hx (y := y) hown (mvT hZ w1) (mvT hZ w2) (mvT hZ w4) (mvT hZ w3) hy (backOf (W := W) hM hZ w3 w4 hf hl) (g := mkF m pc L (argsL.reverse ++ rest)) rfl hsize (argsL := argsL) (rest := rest) hlen rfl (by show 2 * 0 + _ ≤ _; rw [Nat.mul_zero, Nat.zero_add]; exact hW) (hb hby hd) (fun _ _ => ⟨rfl, eT, hc, hs⟩)
  dsimp only [Pt.U, Pt.locs, Pt.cells, Pt.slots] at X' l1 l2 l3 st hQ
  subst l1 l2 l3
  exact (k T' _ Lc v X' rfl hQ).go fun t q => st _ q
theorem own_private (X : Stand p l e R s m args below meth c T locs cells slots) (hx : p.tables.exec = Jvm.exec) (hby : c.code = B) (hZ : Z.Warmed39 s.vm) {own : String} {index : Nat} {y : MethodName} {bytes : ByteArray} {maxL : Nat} {ret : Option FieldType} {rm : Room} {as' : Array Value} {Q : Option Value → Heap → List Loc → Prop} (hown : s.vm.findClass own = some m.cls) (w1 : (Jvm.Cond.methodLink own index y).before a0 Z = true) (w2 : (Jvm.Cond.instanceMethod y).before a0 Z = true) {ni : Nat} (w5 : (Jvm.Cond.instantiable y.cls ni).before a0 Z = true) (w6 : (Jvm.Cond.privateMethod y).before a0 Z = true) (w3 : (Jvm.Cond.code y bytes maxL ret).before a0 Z = true) (w4 : (Jvm.Cond.initialized y.cls).before a0 Z = true) (hy : y.cls ≠ "java/lang/invoke/MethodHandle" ∧ y.cls ≠ "java/lang/invoke/VarHandle") (hM : MetFree l y (head1 [Jvm.Cond.code y bytes maxL ret] rm) (fun a U => a = as' ∧ Z.Warmed39 U.vm ∧ U.heap = h) (fun _ _ _ _ _ => True) (fun _ U o U' => ∃ v L, o = .returned v ∧ Q v U'.heap L ∧ FrameEnd U o U' L rm.cells rm.slots)) (eT : T.heap = h) (hsize : L.size = c.maxLocals) {a : Addr} (E : Exa Z h a y.cls) {argsL : List Value} (has : as' = (.ref a :: argsL).toArray) (hlen : ∀ sig, parseMethodDescriptor y.desc = some sig → argsL.length = sig.parameters.length) {st : List Value} (hst : st = argsL.reverse ++ .ref a :: rest) (hd : decode B pc = .ok (.invokevirtual index, 3)) (hp : pc + 3 = pc') (hf : rm.frames + 1 ≤ R.frames) {W : Nat} (hW : (rest.map fun v => v.category).sum ≤ W) (hl : W + (maxL + 11) + rm.locals ≤ R.locals) (hc : cells + rm.cells ≤ R.cells) (hs : slots + rm.slots ≤ R.slots) (k : ∀ T' h' L' v, Stand p l e R s m args below meth c T' (locs ++ L') (cells + rm.cells) (slots + rm.slots) → T'.heap = h' → Q v h' L' → Gt p.tables e below F (T'.setTop (mkF m pc' L (v.toList ++ rest)))) : Gt p.tables e below F (T.setTop (mkF m pc L st)) := by
  subst hp has hst
  obtain ⟨cq, q1, q2⟩ := E.cell
  obtain ⟨cI, kI, i1, i2, -, i3, -⟩ := Cond.instantiable_spec (mv (s := s) (args := args) hZ w5)
  have hpr := Cond.privateMethod_at (mvP (s := s) hZ w6 (args := #[]))
  have hsel := Jvm.Stand.selects_self_of_private i1 i2 (Bool.or_eq_false_iff.mp i3).1 hpr (mvT (s := s) (args := args) hZ w2) hy
  obtain ⟨v, vm1, ⟨T', L1, k1, n1⟩, -, X', ⟨Lc, hQ, l1, l2, l3⟩, st⟩ := X.privateBack hx (y := y) hown (mvT hZ w1) (mvT hZ w2) hsel hpr (mvT hZ w3) hy (backOf (W := W) hM hZ w3 w4 hf hl) (g := mkF m pc L (argsL.reverse ++ .ref a :: rest)) rfl hsize (Steps.refl _) (a := a) (by rw [eT]; exact q1) q2 (argsL := argsL) (rest := rest) hlen rfl (by show 2 * 0 + _ ≤ _; rw [Nat.mul_zero, Nat.zero_add]; exact hW) (hb hby hd) (fun _ _ => ⟨rfl, eT, hc, hs⟩)
  dsimp only [Pt.U, Pt.locs, Pt.cells, Pt.slots] at X' l1 l2 l3 st hQ
  subst l1 l2 l3
  exact (k T' _ Lc v X' rfl hQ).go fun t q => st.trans q
theorem own_retV (X : Stand p l e R s m args below meth c T locs cells slots) (hx : p.tables.exec = Jvm.exec) (hby : c.code = B) (hlocks : meth.locks = false) {Q : Option Value → Heap → List Loc → Prop} {kc ks : Nat} (hret : meth.sig.returnType = none) (hd : decode B pc = .ok (.return_, 1)) (hc : cells ≤ kc) (hs : slots ≤ ks) (eT : T.heap = h) (hq : Q none h locs) : Gt p.tables e below (fun o U' => ∃ v Lc, o = .returned v ∧ Q v U'.heap Lc ∧ FrameEnd s o U' Lc kc ks) (T.setTop (mkF m pc L [])) := by
  subst eT
  obtain ⟨fs, hr, hrun, hended, hW, hsame⟩ := X.leave (v := none) (fun _ => rfl) hlocks
  exact ⟨_, _, X.returnOut hx hret (hb hby hd) hr, hrun, hended, _, _, rfl, hq, ⟨_, rfl⟩, hW, hsame.mono hc hs⟩
theorem own_retI (X : Stand p l e R s m args below meth c T locs cells slots) (hx : p.tables.exec = Jvm.exec) (hby : c.code = B) (hlocks : meth.locks = false) {Q : Option Value → Heap → List Loc → Prop} {kc ks : Nat} (hret : meth.sig.returnType = some .int) {z : Int32} (hd : decode B pc = .ok (.ireturn, 1)) (hc : cells ≤ kc) (hs : slots ≤ ks) (eT : T.heap = h) (hq : Q (some (.int z)) h locs) : Gt p.tables e below (fun o U' => ∃ v Lc, o = .returned v ∧ Q v U'.heap Lc ∧ FrameEnd s o U' Lc kc ks) (T.setTop (mkF m pc L (.int z :: rest))) := by
  subst eT
  obtain ⟨fs, hr, hrun, hended, hW, hsame⟩ := X.leave (v := (some (.int z))) (fun h => by rw [hret] at h; cases h) hlocks
  exact ⟨_, _, retOut X hx hret rfl (Or.inl ⟨rfl, Or.inl rfl, z, rfl⟩) (hb hby hd) hr, hrun, hended, _, _, rfl, hq, ⟨_, rfl⟩, hW, hsame.mono hc hs⟩
theorem own_retL (X : Stand p l e R s m args below meth c T locs cells slots) (hx : p.tables.exec = Jvm.exec) (hby : c.code = B) (hlocks : meth.locks = false) {Q : Option Value → Heap → List Loc → Prop} {kc ks : Nat} (hret : meth.sig.returnType = some .long) {z : Int64} (hd : decode B pc = .ok (.lreturn, 1)) (hc : cells ≤ kc) (hs : slots ≤ ks) (eT : T.heap = h) (hq : Q (some (.long z)) h locs) : Gt p.tables e below (fun o U' => ∃ v Lc, o = .returned v ∧ Q v U'.heap Lc ∧ FrameEnd s o U' Lc kc ks) (T.setTop (mkF m pc L (.long z :: rest))) := by
  subst eT
  obtain ⟨fs, hr, hrun, hended, hW, hsame⟩ := X.leave (v := (some (.long z))) (fun h => by rw [hret] at h; cases h) hlocks
  exact ⟨_, _, retOut X hx hret rfl (Or.inr (Or.inl ⟨rfl, rfl, z, rfl⟩)) (hb hby hd) hr, hrun, hended, _, _, rfl, hq, ⟨_, rfl⟩, hW, hsame.mono hc hs⟩
theorem own_retD (X : Stand p l e R s m args below meth c T locs cells slots) (hx : p.tables.exec = Jvm.exec) (hby : c.code = B) (hlocks : meth.locks = false) {Q : Option Value → Heap → List Loc → Prop} {kc ks : Nat} (hret : meth.sig.returnType = some .double) {z : UInt64} (hd : decode B pc = .ok (.dreturn, 1)) (hc : cells ≤ kc) (hs : slots ≤ ks) (eT : T.heap = h) (hq : Q (some (.double z)) h locs) : Gt p.tables e below (fun o U' => ∃ v Lc, o = .returned v ∧ Q v U'.heap Lc ∧ FrameEnd s o U' Lc kc ks) (T.setTop (mkF m pc L (.double z :: rest))) := by
  subst eT
  obtain ⟨fs, hr, hrun, hended, hW, hsame⟩ := X.leave (v := (some (.double z))) (fun h => by rw [hret] at h; cases h) hlocks
  exact ⟨_, _, retOut X hx hret rfl (Or.inr (Or.inr (Or.inl ⟨rfl, rfl, z, rfl⟩))) (hb hby hd) hr, hrun, hended, _, _, rfl, hq, ⟨_, rfl⟩, hW, hsame.mono hc hs⟩
theorem own_retZ (X : Stand p l e R s m args below meth c T locs cells slots) (hx : p.tables.exec = Jvm.exec) (hby : c.code = B) (hlocks : meth.locks = false) {Q : Option Value → Heap → List Loc → Prop} {kc ks : Nat} (hret : meth.sig.returnType = some .boolean) {z : Int32} (hz : z = 0 ∨ z = 1) (hd : decode B pc = .ok (.ireturn, 1)) (hc : cells ≤ kc) (hs : slots ≤ ks) (eT : T.heap = h) (hq : Q (some (.int z)) h locs) : Gt p.tables e below (fun o U' => ∃ v Lc, o = .returned v ∧ Q v U'.heap Lc ∧ FrameEnd s o U' Lc kc ks) (T.setTop (mkF m pc L (.int z :: rest))) := by
  subst eT
  obtain ⟨fs, hr, hrun, hended, hW, hsame⟩ := X.leave (v := (some (.int z))) (fun h => by rw [hret] at h; cases h) hlocks
  exact ⟨_, _, retOut X hx hret (by rcases hz with rfl | rfl <;> rfl) (Or.inl ⟨rfl, Or.inr (Or.inl rfl), z, rfl⟩) (hb hby hd) hr, hrun, hended, _, _, rfl, hq, ⟨_, rfl⟩, hW, hsame.mono hc hs⟩
theorem own_retA (X : Stand p l e R s m args below meth c T locs cells slots) (hx : p.tables.exec = Jvm.exec) (hby : c.code = B) (hlocks : meth.locks = false) {Q : Option Value → Heap → List Loc → Prop} {kc ks : Nat} {t : FieldType} (hret : meth.sig.returnType = some t) (ht : t.isReference = true) {z : Value} (hz : z.isRef = true) (hd : decode B pc = .ok (.areturn, 1)) (hc : cells ≤ kc) (hs : slots ≤ ks) (eT : T.heap = h) (hq : Q (some z) h locs) : Gt p.tables e below (fun o U' => ∃ v Lc, o = .returned v ∧ Q v U'.heap Lc ∧ FrameEnd s o U' Lc kc ks) (T.setTop (mkF m pc L (z :: rest))) := by
  subst eT
  obtain ⟨fs, hr, hrun, hended, hW, hsame⟩ := X.leave (v := (some z)) (fun h => by rw [hret] at h; cases h) hlocks
  exact ⟨_, _, retOut X hx hret (by rcases ref_cases hz with rfl | ⟨a, rfl⟩ <;> cases t <;> simp_all [narrow, FieldType.isReference]) (Or.inr (Or.inr (Or.inr (Or.inr ⟨rfl, ht, hz⟩)))) (hb hby hd) hr, hrun, hended, _, _, rfl, hq, ⟨_, rfl⟩, hW, hsame.mono hc hs⟩
end OwnG
section OwnA
variable {p : Program} {l : Launch} {e : Env} {R : Room} {s : State} {m : MethodId} {args : Array Value} {below : List Frame} {meth : Method} {c : Code} {T : State} {locs : List Loc} {cells slots : Nat} {Z : State} {a0 : Array Value} {h h' : Heap} {B : ByteArray} {pc pc' : Nat} {L L' : Array Slot} {rest : List Value} {F : Outcome → State → Prop} {a b : Addr} {ty : FieldType} {vs : List Value} {P : ClassId → Prop} {sl : Nat} {v : Value} {ws : List Addr}
def tr (_ : ClassId) : Prop := True
/-- an array at a of kind ty whose components are the list vs, of a class with P -/
def Ary (P : ClassId → Prop) (Z : State) (h : Heap) (a : Addr) (ty : FieldType) (vs : List Value) : Prop := ∃ c : Cell, Arr Z h a c ty ∧ P c.cls ∧ c.slots.toList = vs ∧ vs.length < 2 ^ 31
theorem Ary.lt (V : Ary P Z h a ty vs) : a < h.size := by obtain ⟨c, A, -⟩ := V; exact A.lt
theorem Ary.ext (V : Ary P Z h a ty vs) (E : Ext h h') : Ary P Z h' a ty vs := by obtain ⟨c, A, r⟩ := V; exact ⟨c, A.ext E, r⟩
theorem Ary.other (V : Ary P Z h b ty vs) (W : Wr h h' a sl v) (q : b ≠ a) : Ary P Z h' b ty vs := by obtain ⟨c, A, r⟩ := V; exact ⟨c, A.other W q, r⟩
theorem Ary.keep (V : Ary P Z h a ty vs) (K : Keep h h' ws) (q : a ∉ ws) : Ary P Z h' a ty vs := by obtain ⟨c, A, r⟩ := V; exact ⟨c, ⟨K.2.1 a c A.1 q, A.2⟩, r⟩
theorem Ary.set (V : Ary P Z h a ty vs) (W : Wr h h' a sl v) : Ary P Z h' a ty (vs.set sl v) := by
  obtain ⟨c, A, q, r, t⟩ := V
  refine ⟨_, A.same W, q, ?_, by rw [List.length_set]; exact t⟩
  show (c.slots.setIfInBounds sl v).toList = _
  rw [Array.toList_setIfInBounds, r]
theorem Ary.size {cl : Cell} (r : cl.slots.toList = vs) : cl.slots.size = vs.length := by rw [← r]; simp
theorem Ary.inb {cl : Cell} {i : Int32} (r : cl.slots.toList = vs) (hi : ¬ i < 0) (hl : i.toNatClampNeg < vs.length) : ¬ (i < 0 ∨ cl.slots.size ≤ i.toNatClampNeg) := by
  rw [Ary.size r]; intro q; rcases q with q | q
  · exact hi q
  · omega
theorem Ary.at {cl : Cell} {i : Nat} (r : cl.slots.toList = vs) (hg : vs[i]? = some v) : cl.slots[i]? = some v := by
  rw [← hg, ← r]; simp
theorem own_alen (X : Stand p l e R s m args below meth c T locs cells slots) (hx : p.tables.exec = Jvm.exec) (hby : c.code = B) (hZ : Z.Warmed39 s.vm) (eT : T.heap = h) (V : Ary P Z h a ty vs) {z : Int32} (hz : vs.length.toInt32 = z) (hd : decode B pc = .ok (.arraylength, 1)) (hp : pc + 1 = pc') (k : Gt p.tables e below F (T.setTop (mkF m pc' L (.int z :: rest)))) : Gt p.tables e below F (T.setTop (mkF m pc L (.ref a :: rest))) := by
  subst hp hz
  obtain ⟨cl, A, -, r, t⟩ := V
  refine k.go fun t q => X.arraylength hx (by rw [eT]; exact A.1) (State.isArrayOf_alike hZ.alike A.2.1) (g := mkF m pc L (.ref a :: rest)) rfl rfl (hb hby hd) _ ?_
  rw [Ary.size r]; exact q
theorem own_iaload (X : Stand p l e R s m args below meth c T locs cells slots) (hx : p.tables.exec = Jvm.exec) (hby : c.code = B) (hZ : Z.Warmed39 s.vm) (eT : T.heap = h) (V : Ary P Z h a .int vs) {i : Int32} (hi : ¬ i < 0) (hg : vs[i.toNatClampNeg]? = some v) (hd : decode B pc = .ok (.iaload, 1)) (hp : pc + 1 = pc') (k : Gt p.tables e below F (T.setTop (mkF m pc' L (v :: rest)))) : Gt p.tables e below F (T.setTop (mkF m pc L (.int i :: .ref a :: rest))) := by
  subst hp
  obtain ⟨cl, A, -, r, t⟩ := V
  exact k.go fun t q => X.iaload hx (by rw [eT]; exact A.1) (State.isArrayOf_alike hZ.alike A.2.1) A.2.2 (Ary.inb r hi (List.getElem?_eq_some_iff.mp hg).1) (Ary.at r hg) (g := mkF m pc L (.int i :: .ref a :: rest)) rfl rfl (hb hby hd) _ q
theorem own_aaload (X : Stand p l e R s m args below meth c T locs cells slots) (hx : p.tables.exec = Jvm.exec) (hby : c.code = B) (hZ : Z.Warmed39 s.vm) (eT : T.heap = h) (V : Ary P Z h a ty vs) (hty : ty.isReference = true) {i : Int32} (hi : ¬ i < 0) (hg : vs[i.toNatClampNeg]? = some v) (hd : decode B pc = .ok (.aaload, 1)) (hp : pc + 1 = pc') (k : Gt p.tables e below F (T.setTop (mkF m pc' L (v :: rest)))) : Gt p.tables e below F (T.setTop (mkF m pc L (.int i :: .ref a :: rest))) := by
  subst hp
  obtain ⟨cl, A, -, r, t⟩ := V
  exact k.go fun t q => X.aaload hx (by rw [eT]; exact A.1) (State.isArrayOf_alike hZ.alike A.2.1) hty A.2.2 (Ary.inb r hi (List.getElem?_eq_some_iff.mp hg).1) (Ary.at r hg) (g := mkF m pc L (.int i :: .ref a :: rest)) rfl rfl (hb hby hd) _ q
theorem own_iastore (X : Stand p l e R s m args below meth c T locs cells slots) (hx : p.tables.exec = Jvm.exec) (hby : c.code = B) (hZ : Z.Warmed39 s.vm) (eT : T.heap = h) (V : Ary P Z h a .int vs) {i x : Int32} {n : Nat} (hi : ¬ i < 0) (hn : i.toNatClampNeg = n) (hl : n < vs.length) (hd : decode B pc = .ok (.iastore, 1)) (hp : pc + 1 = pc') (k : ∀ T' h', Stand p l e R s m args below meth c T' (locs ++ [⟨a, n⟩]) cells slots → T'.heap = h' → Wr h h' a n (.int x) → Gt p.tables e below F (T'.setTop (mkF m pc' L rest))) : Gt p.tables e below F (T.setTop (mkF m pc L (.int x :: .int i :: .ref a :: rest))) := by
  subst hp hn
  obtain ⟨cl, A, -, r, t⟩ := V
  obtain ⟨T', h', X', e', W, st⟩ := stI X hx hZ eT A (Ary.inb r hi hl) (g := mkF m pc L (.int x :: .int i :: .ref a :: rest)) rfl rfl (hb hby hd)
  exact (k T' h' X' e' W).go st
def ovO (Z : State) (C : String) (k : ClassId) : Prop := Ovr Z k C
theorem own_aastoreO (X : Stand p l e R s m args below meth c T locs cells slots) (hx : p.tables.exec = Jvm.exec) (hby : c.code = B) (hZ : Z.Warmed39 s.vm) (eT : T.heap = h) {C : String} (V : Ary (ovO Z C) Z h a (.object C) vs) {i : Int32} {x : Addr} {n : Nat} (E : Exa Z h x C) (hi : ¬ i < 0) (hn : i.toNatClampNeg = n) (hl : n < vs.length) (hd : decode B pc = .ok (.aastore, 1)) (hp : pc + 1 = pc') (k : ∀ T' h', Stand p l e R s m args below meth c T' (locs ++ [⟨a, n⟩]) cells slots → T'.heap = h' → Wr h h' a n (.ref x) → Gt p.tables e below F (T'.setTop (mkF m pc' L rest))) : Gt p.tables e below F (T.setTop (mkF m pc L (.ref x :: .int i :: .ref a :: rest))) := by
  subst hp hn
  obtain ⟨cl, A, O, r, t⟩ := V
  obtain ⟨T', h', X', e', W, st⟩ := stR X hx hZ eT A (Ary.inb r hi hl) rfl (Sto.of A O (Ins.self E)) (g := mkF m pc L (.ref x :: .int i :: .ref a :: rest)) rfl rfl (hb hby hd)
  exact (k T' h' X' e' W).go st
theorem own_newP (X : Stand p l e R s m args below meth c T locs cells slots) (hx : p.tables.exec = Jvm.exec) (hby : c.code = B) (hZ : Z.Warmed39 s.vm) {aty : ArrayType} (w : (Jvm.Cond.arrayClass (newarray.typeOf aty)).before a0 Z = true) (eT : T.heap = h) (hd : decode B pc = .ok (.newarray aty, 2)) (hp : pc + 2 = pc') {n : Int32} (hn : ¬ n < 0) {N : Nat} (hN : n.toNatClampNeg = N) {cap : Nat} (hcap : N ≤ cap) (hbb : cap * 8 ≤ 536870912) (hc : cells + 1 ≤ R.cells) (hl : slots + cap ≤ R.slots) {ad : String} (had : "[" ++ (newarray.typeOf aty).toString = ad)
    (k : ∀ T' h' a, Stand p l e R s m args below meth c T' locs (cells + 1) (slots + cap) → T'.heap = h' → Ext h h' → h.size = a → Exa Z h' a ad → Ary tr Z h' a (newarray.typeOf aty) (List.replicate N (defaultValue (newarray.typeOf aty))) → Gt p.tables e below F (T'.setTop (mkF m pc' L (.ref a :: rest)))) : Gt p.tables e below F (T.setTop (mkF m pc L (.int n :: rest))) := by
  subst hp hN
  obtain ⟨T', h', cA, X', e', E', A', Ex, st⟩ := newPE X hx hZ w eT (g := mkF m pc L (.int n :: rest)) rfl (hb hby hd) rfl hn hcap hbb hc hl had
  exact (k T' h' _ X' e' E' rfl Ex ⟨_, A', trivial, by simp [newA], by rw [List.length_replicate]; exact (back32 hn).2⟩).go st
theorem own_newRO (X : Stand p l e R s m args below meth c T locs cells slots) (hx : p.tables.exec = Jvm.exec) (hby : c.code = B) (hZ : Z.Warmed39 s.vm) {own C : String} {index : Nat} (hown : s.vm.findClass own = some m.cls) (w1 : (Jvm.Cond.classLink own index C).before a0 Z = true) (w2 : (Jvm.Cond.arrayOver (.object C)).before a0 Z = true) (eT : T.heap = h) (hd : decode B pc = .ok (.anewarray index, 3)) (hp : pc + 3 = pc') {n : Int32} (hn : ¬ n < 0) {N : Nat} (hN : n.toNatClampNeg = N) {cap : Nat} (hcap : N ≤ cap) (hbb : cap * 8 ≤ 536870912) (hc : cells + 1 ≤ R.cells) (hl : slots + cap ≤ R.slots) {ad : String} (had : "[" ++ (FieldType.object C).toString = ad)
    (k : ∀ T' h' a, Stand p l e R s m args below meth c T' locs (cells + 1) (slots + cap) → T'.heap = h' → Ext h h' → h.size = a → Exa Z h' a ad → Ary (ovO Z C) Z h' a (.object C) (List.replicate N .null) → Gt p.tables e below F (T'.setTop (mkF m pc' L (.ref a :: rest)))) : Gt p.tables e below F (T.setTop (mkF m pc L (.int n :: rest))) := by
  subst hp hN
  obtain ⟨T', h', cA, X', e', E', A', Ex, O, st⟩ := newRE X hx hZ hown w1 w2 eT (g := mkF m pc L (.int n :: rest)) rfl (hb hby hd) rfl hn hcap hbb hc hl had
  exact (k T' h' _ X' e' E' rfl Ex ⟨_, A', O, by simp [newA, defaultValue], by rw [List.length_replicate]; exact (back32 hn).2⟩).go st
end OwnA
section OwnL
end OwnL
section OwnC
variable {x y : UInt64} {i j : Int64} {a b : Int32}
abbrev dlt (x y : UInt64) : Prop := FP.dcmp x y = some .lt
abbrev dgt (x y : UInt64) : Prop := FP.dcmp x y = some .gt
abbrev deq (x y : UInt64) : Prop := FP.dcmp x y = some .eq
abbrev dle (x y : UInt64) : Prop := FP.dcmp x y = some .lt ∨ FP.dcmp x y = some .eq
abbrev dge (x y : UInt64) : Prop := FP.dcmp x y = some .gt ∨ FP.dcmp x y = some .eq
theorem own_dl_ne_p (h : deq x y) : ifCond.holds .ne (cmpValue (FP.dcmp x y) .l) = false := by
  unfold deq at h; revert h; generalize FP.dcmp x y = o; rcases o with _ | (_ | _ | _) <;> decide
theorem own_dl_ne_n (h : ¬ deq x y) : ifCond.holds .ne (cmpValue (FP.dcmp x y) .l) = true := by
  unfold deq at h; revert h; generalize FP.dcmp x y = o; rcases o with _ | (_ | _ | _) <;> decide
theorem own_i0_lt_n (h : ¬ a < 0) : ifCond.holds .lt a = false := (if0 _ _).trans (flt h).1
theorem own_i0_eq_p (h : a = 0) : ifCond.holds .eq a = true := (if0 _ _).trans (teq h).1
theorem own_i0_eq_n (h : ¬ a = 0) : ifCond.holds .eq a = false := (if0 _ _).trans (feq h).1
theorem own_i0_ne_p (h : a = 0) : ifCond.holds .ne a = false := (if0 _ _).trans (teq h).2
theorem own_i0_ne_n (h : ¬ a = 0) : ifCond.holds .ne a = true := (if0 _ _).trans (feq h).2
theorem own_ic_lt_p (h : a < b) : if_icmp.holds .lt a b = true := (tlt h).1
theorem own_ic_lt_n (h : ¬ a < b) : if_icmp.holds .lt a b = false := (flt h).1
theorem own_ic_ge_p (h : a < b) : if_icmp.holds .ge a b = false := (tlt h).2.1
theorem own_ic_ge_n (h : ¬ a < b) : if_icmp.holds .ge a b = true := (flt h).2.1
theorem own_ic_gt_p (h : b < a) : if_icmp.holds .gt a b = true := (tlt h).2.2.1
theorem own_ic_gt_n (h : ¬ b < a) : if_icmp.holds .gt a b = false := (flt h).2.2.1
theorem own_ic_le_n (h : ¬ b < a) : if_icmp.holds .le a b = true := (flt h).2.2.2
theorem own_ic_eq_p (h : a = b) : if_icmp.holds .eq a b = true := (teq h).1
theorem own_ic_ne_p (h : a = b) : if_icmp.holds .ne a b = false := (teq h).2
theorem own_ic_ne_n (h : ¬ a = b) : if_icmp.holds .ne a b = true := (feq h).2
end OwnC
section OwnM
variable {p : Program} {l : Launch} {e : Env} {R : Room} {s : State} {m : MethodId} {args : Array Value} {below : List Frame} {meth : Method} {c : Code} {T : State} {locs : List Loc} {cells slots : Nat} {Z : State} {a0 : Array Value} {h h' : Heap} {B : ByteArray} {pc pc' : Nat} {L L' : Array Slot} {rest : List Value} {F : Outcome → State → Prop} {a b : Addr} {ty : FieldType} {vs : List Value} {P : ClassId → Prop} {sl : Nat} {v : Value} {ws : List Addr}
theorem own_bastore (X : Stand p l e R s m args below meth c T locs cells slots) (hx : p.tables.exec = Jvm.exec) (hby : c.code = B) (hZ : Z.Warmed39 s.vm) (eT : T.heap = h) (V : Ary P Z h a .byte vs) {i x : Int32} {n : Nat} (hi : ¬ i < 0) (hn : i.toNatClampNeg = n) (hl : n < vs.length) (hd : decode B pc = .ok (.bastore, 1)) (hp : pc + 1 = pc') (k : ∀ T' h', Stand p l e R s m args below meth c T' (locs ++ [⟨a, n⟩]) cells slots → T'.heap = h' → Wr h h' a n (.int (nar .byte x)) → Gt p.tables e below F (T'.setTop (mkF m pc' L rest))) : Gt p.tables e below F (T.setTop (mkF m pc L (.int x :: .int i :: .ref a :: rest))) := by
  subst hp hn
  obtain ⟨cl, A, -, r, t⟩ := V
  obtain ⟨T', h', X', e', W, st⟩ := stB X hx hZ eT A (Ary.inb r hi hl) (g := mkF m pc L (.int x :: .int i :: .ref a :: rest)) rfl rfl (hb hby hd)
  exact (k T' h' X' e' W).go st
theorem own_baload (X : Stand p l e R s m args below meth c T locs cells slots) (hx : p.tables.exec = Jvm.exec) (hby : c.code = B) (hZ : Z.Warmed39 s.vm) (eT : T.heap = h) (V : Ary P Z h a .byte vs) {i : Int32} (hi : ¬ i < 0) (hg : vs[i.toNatClampNeg]? = some v) (hd : decode B pc = .ok (.baload, 1)) (hp : pc + 1 = pc') (k : Gt p.tables e below F (T.setTop (mkF m pc' L (v :: rest)))) : Gt p.tables e below F (T.setTop (mkF m pc L (.int i :: .ref a :: rest))) := by
  subst hp
  obtain ⟨cl, A, -, r, t⟩ := V
  exact k.go fun t q => X.baloadBytes hx (by rw [eT]; exact A.1) (State.isArrayOf_alike hZ.alike A.2.1) A.2.2 (Ary.inb r hi (List.getElem?_eq_some_iff.mp hg).1) (Ary.at r hg) (g := mkF m pc L (.int i :: .ref a :: rest)) rfl rfl (hb hby hd) _ q
theorem own_ldcF (X : Stand p l e R s m args below meth c T locs cells slots) (hx : p.tables.exec = Jvm.exec) (hby : c.code = B) (hZ : Z.Warmed39 s.vm) {own : String} {i : Nat} {w : UInt32} (hown : s.vm.findClass own = some m.cls) (wd : (Jvm.Cond.constantFloat own i w).before a0 Z = true) (hd : decode B pc = .ok (.ldc i, 2)) (hp : pc + 2 = pc') (k : Gt p.tables e below F (T.setTop (mkF m pc' L (.float w :: rest)))) : Gt p.tables e below F (T.setTop (mkF m pc L rest)) := by
  subst hp; exact k.go (X.ldcFloatC hx hown (mvT hZ wd) (g := mkF m pc L rest) rfl (hb hby hd))
theorem own_lsw (X : Stand p l e R s m args below meth c T locs cells slots) (hx : p.tables.exec = Jvm.exec) (hby : c.code = B) {df : Int} {prs : Array (Int × Int)} {len : Nat} {x : Int32} {i off : Int} (hd : decode B pc = .ok (.lookupswitch df prs, len)) (h1 : (prs.toList.zip (prs.toList.drop 1)).all (fun (a, next) => a.1 < next.1) = true) (h2 : prs.find? (·.1 == x.toInt) = some (i, off)) (h3 : 0 ≤ (pc : Int) + off) (hp : ((pc : Int) + off).toNat = pc') (k : Gt p.tables e below F (T.setTop (mkF m pc' L rest))) : Gt p.tables e below F (T.setTop (mkF m pc L (.int x :: rest))) := by
  subst hp; exact k.go fun t q => X.lookupswitchHit hx (g := mkF m pc L (.int x :: rest)) rfl rfl (hb hby hd) h1 h2 h3 t q
theorem own_instY (X : Stand p l e R s m args below meth c T locs cells slots) (hx : p.tables.exec = Jvm.exec) (hby : c.code = B) (hZ : Z.Warmed39 s.vm) {own C : String} {index : Nat} (hown : s.vm.findClass own = some m.cls) (w : (Jvm.Cond.classLink own index C).before a0 Z = true) (eT : T.heap = h) (Ff : Ins Z h a C true) (hd : decode B pc = .ok (.instanceof index, 3)) (hp : pc + 3 = pc') (k : ∀ T', Stand p l e R s m args below meth c T' locs cells slots → T'.heap = h → Gt p.tables e below F (T'.setTop (mkF m pc' L (.int 1 :: rest)))) : Gt p.tables e below F (T.setTop (mkF m pc L (.ref a :: rest))) := by
  subst hp; obtain ⟨T', X', e', st⟩ := instY X hx hZ hown w eT Ff (g := mkF m pc L (.ref a :: rest)) rfl rfl (hb hby hd); exact (k T' X' e').go st
theorem own_castY (X : Stand p l e R s m args below meth c T locs cells slots) (hx : p.tables.exec = Jvm.exec) (hby : c.code = B) (hZ : Z.Warmed39 s.vm) {own C : String} {index : Nat} (hown : s.vm.findClass own = some m.cls) (w : (Jvm.Cond.classLink own index C).before a0 Z = true) (eT : T.heap = h) (Ff : Ins Z h a C true) (hd : decode B pc = .ok (.checkcast index, 3)) (hp : pc + 3 = pc') (k : ∀ T', Stand p l e R s m args below meth c T' locs cells slots → T'.heap = h → Gt p.tables e below F (T'.setTop (mkF m pc' L (.ref a :: rest)))) : Gt p.tables e below F (T.setTop (mkF m pc L (.ref a :: rest))) := by
  subst hp; obtain ⟨T', X', e', st⟩ := castY X hx hZ hown w eT Ff (g := mkF m pc L (.ref a :: rest)) rfl rfl (hb hby hd); exact (k T' X' e').go st
theorem own_face {r n d : String} (hy : r ≠ "java/lang/invoke/MethodHandle" ∧ r ≠ "java/lang/invoke/VarHandle") : ((Jvm.Cond.interfaceMethod r r n d).onTables && (Jvm.Cond.interfaceMethod r r n d).keepsFace) = true := by
  show (true && (false || ((r == r && r != "java/lang/invoke/MethodHandle") && r != "java/lang/invoke/VarHandle"))) = true
  simp [hy.1, hy.2]
theorem own_iface (X : Stand p l e R s m args below meth c T locs cells slots) (hx : p.tables.exec = Jvm.exec) (hby : c.code = B) (hZ : Z.Warmed39 s.vm) {own : String} {index : Nat} {y : MethodName} {bytes : ByteArray} {maxL : Nat} {ret : Option FieldType} {rm : Room} {as' : Array Value} {Q : Option Value → Heap → List Loc → Prop} {C : String} {y' : MethodName} (hown : s.vm.findClass own = some m.cls) (w1 : (Jvm.Cond.methodLink own index y').before a0 Z = true) (w2 : (Jvm.Cond.declares y').before a0 Z = true) (w7 : (Jvm.Cond.interfaceMethod y'.cls y'.cls y'.name y'.desc).before a0 Z = true) (w5 : (Jvm.Cond.selects C y' y).before a0 Z = true) (w6 : (Jvm.Cond.instanceMethod y).before a0 Z = true) (w8 : (Jvm.Cond.publicMethod y).before a0 Z = true) (w9 : (Jvm.Cond.unhidden C y'.name y'.desc).before a0 Z = true) (wc : (Jvm.Cond.castable C y'.cls).before a0 Z = true) (w3 : (Jvm.Cond.code y bytes maxL ret).before a0 Z = true) (w4 : (Jvm.Cond.initialized y.cls).before a0 Z = true) (hy : y'.cls ≠ "java/lang/invoke/MethodHandle" ∧ y'.cls ≠ "java/lang/invoke/VarHandle") (hM : MetFree l y (head1 [Jvm.Cond.code y bytes maxL ret] rm) (fun a U => a = as' ∧ Z.Warmed39 U.vm ∧ U.heap = h) (fun _ _ _ _ _ => True) (fun _ U o U' => ∃ v L, o = .returned v ∧ Q v U'.heap L ∧ FrameEnd U o U' L rm.cells rm.slots)) (eT : T.heap = h) (hsize : L.size = c.maxLocals) {a : Addr} (E : Exa Z h a C) {argsL : List Value} (has : as' = (.ref a :: argsL).toArray) (hlen : ∀ sig, parseMethodDescriptor y'.desc = some sig → argsL.length = sig.parameters.length) {ct : Nat} {st : List Value} (hst : st = argsL.reverse ++ .ref a :: rest) (hd : decode B pc = .ok (.invokeinterface index ct, 5)) (hp : pc + 5 = pc') (hf : rm.frames + 1 ≤ R.frames) {W : Nat} (hW : (rest.map fun v => v.category).sum ≤ W) (hl : W + (maxL + 11) + rm.locals ≤ R.locals) (hc : cells + rm.cells ≤ R.cells) (hs : slots + rm.slots ≤ R.slots) (k : ∀ T' h' L' v, Stand p l e R s m args below meth c T' (locs ++ L') (cells + rm.cells) (slots + rm.slots) → T'.heap = h' → Q v h' L' → Gt p.tables e below F (T'.setTop (mkF m pc' L (v.toList ++ rest)))) : Gt p.tables e below F (T.setTop (mkF m pc L st)) := by
  subst hp has hst
  obtain ⟨cq, kq, qa, qb, qc⟩ := isOf hZ eT E
  obtain ⟨v, vm1, ⟨T', L1, k1, n1⟩, -, X', ⟨Lc, hQ, l1, l2, l3⟩, st⟩ := X.interfaceBack hx (xi := y') (y := y) hown (mvT hZ w1) (mvT hZ w2) (mvT hZ w7 (own_face hy)) (mvT hZ w5) (mvT hZ w6) (mvT hZ w8) (mvT hZ w9) (mvT hZ wc) hy (backOf (W := W) hM hZ w3 w4 hf hl) qa qb qc (g := mkF m pc L (argsL.reverse ++ .ref a :: rest)) rfl hsize (Steps.refl _) (argsL := argsL) (rest := rest) hlen rfl (by show 2 * 0 + _ ≤ _; rw [Nat.mul_zero, Nat.zero_add]; exact hW) (hb hby hd) (fun _ _ => ⟨rfl, eT, hc, hs⟩)
  dsimp only [Pt.U, Pt.locs, Pt.cells, Pt.slots] at X' l1 l2 l3 st hQ
  subst l1 l2 l3
  exact (k T' _ Lc v X' rfl hQ).go fun t q => st.trans q
theorem own_skn {C n d : String} {w : Value} {ws : List Addr} (Ff : Sta Z h C n d w) (K : Keep h h' ws) (q : ∀ x ∈ ws, ∃ D, Exa Z h x D) : Sta Z h' C n d w := by
  obtain ⟨cf, i, k, f, st, cell, h1, h2, h3, h4, h5, h6, h7⟩ := Ff
  refine ⟨cf, i, k, f, st, cell, h1, h2, h3, h4, K.2.1 st cell h5 (fun hm => ?_), h6, h7⟩
  obtain ⟨D, cell', k', e1, -, -, e4, -⟩ := q st hm
  cases h5.symm.trans e1
  rw [h6] at e4; cases e4
theorem own_sk0 : ∀ x ∈ ([] : List Addr), ∃ D, Exa Z h x D := fun _ q => nomatch q
theorem own_skS {x : Addr} {C : String} {ws : List Addr} (E : Exa Z h x C) (r : ∀ y ∈ ws, ∃ D, Exa Z h y D) : ∀ y ∈ x :: ws, ∃ D, Exa Z h y D := fun y q => by
  rcases List.mem_cons.mp q with rfl | q
  · exact ⟨C, E⟩
  · exact r y q
theorem own_cloneI (X : Stand p l e R s m args below meth c T locs cells slots) (hx : p.tables.exec = Jvm.exec) (hby : c.code = B) (hZ : Z.Warmed39 s.vm) {own ad : String} {index : Nat} (hown : s.vm.findClass own = some m.cls)
    (w1 : (Jvm.Cond.methodLink own index ⟨ad, "clone", "()Ljava/lang/Object;"⟩).before a0 Z = true) (w2 : (Jvm.Cond.sameMethod ad "java/lang/Object" "clone" "()Ljava/lang/Object;").before a0 Z = true) (w3 : (Jvm.Cond.native ⟨"java/lang/Object", "clone", "()Ljava/lang/Object;"⟩).before a0 Z = true)
    (w4 : (Jvm.Cond.instanceMethod ⟨"java/lang/Object", "clone", "()Ljava/lang/Object;"⟩).before a0 Z = true) (w5 : (Jvm.Cond.selects ad ⟨ad, "clone", "()Ljava/lang/Object;"⟩ ⟨"java/lang/Object", "clone", "()Ljava/lang/Object;"⟩).before a0 Z = true) (w6 : (Jvm.Cond.castable ad "java/lang/Cloneable").before a0 Z = true)
    (eT : T.heap = h) (V : Ary tr Z h a .int vs) (E : Exa Z h a ad) {z : Int32} (hz : z.toNatClampNeg = vs.length) (hz0 : ¬ z < 0) (hfit : ∀ i, i < vs.length → fits .int (vs.getD i (.int 0)) = true) (hsize : L.size = c.maxLocals) (hd : decode B pc = .ok (.invokevirtual index, 3)) (hp : pc + 3 = pc')
    (hf : 1 ≤ R.frames) {W cap : Nat} (hW : (rest.map fun v => v.category).sum ≤ W) (hl : W + 14 ≤ R.locals) (hcap : vs.length ≤ cap) (hc : cells + 1 ≤ R.cells) (hsl : slots + cap ≤ R.slots)
    (k : ∀ T' h' b, Stand p l e R s m args below meth c T' locs (cells + 1) (slots + cap) → T'.heap = h' → Ext h h' → h.size = b → Exa Z h' b ad → Ary tr Z h' b .int vs → Gt p.tables e below F (T'.setTop (mkF m pc' L (.ref b :: rest)))) : Gt p.tables e below F (T.setTop (mkF m pc L (.ref a :: rest))) := by
  subst hp
  obtain ⟨cl, A, -, r, t⟩ := V
  have sz := Ary.size r
  have F0 : Arh Z h a cl.cls .int z [] vs (.int 0) := by
    refine ⟨cl, A, rfl, by rw [sz, hz], hz0, fun i hi => ?_, fun i hi => hfit i (sz ▸ hi)⟩
    refine Ary.at r ?_
    show vs[i]? = some (vs.getD i (.int 0))
    rw [List.getD_eq_getElem?_getD, List.getElem?_eq_getElem (sz ▸ hi)]; rfl
  obtain ⟨T', h', X', e', E', F1, Ex, st⟩ := cloneH X hx hZ hown w1 w2 w3 w4 w5 w6 eT F0 E (g := mkF m pc L (.ref a :: rest)) rfl hsize rfl (hb hby hd) hf (W := W) (cap := cap) (by show 2 * 0 + _ ≤ _; rw [Nat.mul_zero, Nat.zero_add]; exact hW) hl (by rw [hz]; exact hcap) hc hsl
  refine (k T' h' _ X' e' E' rfl Ex ?_).go st
  obtain ⟨c2, A2, -, s2, -, g2, -⟩ := F1
  rw [hz] at s2
  refine ⟨c2, A2, trivial, List.ext_getElem? fun i => ?_, t⟩
  by_cases hi : i < vs.length
  · rw [Array.getElem?_toList, g2 i (by rw [s2]; exact hi), List.getElem?_eq_getElem hi]
    show some (vs.getD i (.int 0)) = _
    rw [List.getD_eq_getElem?_getD, List.getElem?_eq_getElem hi]; rfl
  · rw [List.getElem?_eq_none (by rw [Array.length_toList, s2]; omega), List.getElem?_eq_none (by omega)]
end OwnM
section OwnF
open Jvm.FP.Core (val64 zval zmag b64 one64 DFin DZero good_b64 val64_fits inUnits signed sgn)
/-- the value in units of 2^-1074 -/
abbrev zv (x : UInt64) : Int := zval b64 (val64 x)
def uu : Int := ((one64 : Nat) : Int)
theorem uu_pos : 0 < uu := by have := FP.Core.one64_pos; show (0 : Int) < ((one64 : Nat) : Int); omega
theorem own_add_le {x y V : UInt64} (hx : DFin x) (hy : DFin y) (hV : val64 V ≠ .nan) (h : zv x + zv y ≤ zv V) : zv (FP.dadd x y) ≤ zv V := by
  show zval b64 (val64 (FP.Core.dadd x y)) ≤ _
  rw [FP.Core.val64_dadd]; exact FP.Core.sum_le good_b64 hx hy (val64_fits x) (val64_fits y) (val64_fits V) hV h
theorem own_add_ge {x y V : UInt64} (hx : DFin x) (hy : DFin y) (hV : val64 V ≠ .nan) (h : zv V ≤ zv x + zv y) : zv V ≤ zv (FP.dadd x y) := by
  show _ ≤ zval b64 (val64 (FP.Core.dadd x y))
  rw [FP.Core.val64_dadd]; exact FP.Core.sum_ge good_b64 hx hy (val64_fits x) (val64_fits y) (val64_fits V) hV h
theorem own_qm : b64.qmin = -1074 := by decide
/-- a quotient's two sides in whole units -/
theorem own_div_units {c d : Nat} {q r : Int} (hq : -1074 ≤ q) (hr : -1074 ≤ r) (hr2 : r ≤ 971) (v : Nat) :
    ∃ k : Nat, 0 < k ∧ inUnits c (q - r) (-2148) * k = inUnits c q (-1074) * one64 * 2 ^ 1074 ∧ (v * 2 ^ (1074 : Nat) * d) * k = v * inUnits d r (-1074) * 2 ^ 1074 := by
  refine ⟨2 ^ (r + 1074).toNat, Nat.two_pow_pos _, ?_, ?_⟩
  · unfold inUnits one64
    rw [Nat.mul_assoc, ← Nat.pow_add, Nat.mul_assoc, Nat.mul_assoc, ← Nat.pow_add, ← Nat.pow_add, show (q - r - -2148).toNat + (r + 1074).toNat = (q - -1074).toNat + (1074 + 1074) by omega]
  · unfold inUnits
    rw [show (r - -1074).toNat = (r + 1074).toNat by omega]
    generalize 2 ^ (1074 : Nat) = w
    generalize 2 ^ (r + 1074).toNat = u
    simp only [Nat.mul_comm, Nat.mul_left_comm, Nat.mul_assoc]
theorem own_div_mag_le {x y V : UInt64} (hx : DFin x) (hy : DFin y) (hz : ¬ DZero y) (hV : val64 V ≠ .nan) (h : zmag b64 (val64 x) * one64 ≤ zmag b64 (val64 V) * zmag b64 (val64 y)) : zmag b64 (val64 (FP.ddiv x y)) ≤ zmag b64 (val64 V) := by
  show zmag b64 (val64 (FP.Core.ddiv x y)) ≤ _
  obtain ⟨s, c, q, ex⟩ := hx
  obtain ⟨t, d, r, ey⟩ := hy
  have fx := val64_fits x; have fy := val64_fits y
  rw [ex] at fx; rw [ey] at fy
  have hd : d ≠ 0 := fun e => hz ⟨t, r, by rw [ey, e]⟩
  rw [FP.Core.val64_ddiv, ex, ey]
  rw [ex, ey] at h
  show zmag b64 (if d = 0 then _ else FP.Core.roundRatio b64 (s != t) c d (q - r)) ≤ _
  rw [if_neg hd]
  have b1 : -1074 ≤ q := own_qm ▸ fx.2.1
  have b2 : -1074 ≤ r := own_qm ▸ fy.2.1
  have b3 : r ≤ 971 := fy.2.2.1
  refine FP.Core.zmag_roundRatio_le good_b64 (Nat.pos_of_ne_zero hd) (val64_fits V) hV (e0 := -2148) (by rw [own_qm]; decide) (by omega) ?_
  obtain ⟨k, hk, k1, k2⟩ := own_div_units (c := c) (d := d) b1 b2 b3 (zmag b64 (val64 V))
  rw [show (b64.qmin - -2148).toNat = 1074 by rw [own_qm]; decide]
  refine Nat.le_of_mul_le_mul_right ?_ hk
  rw [k1, k2]
  exact Nat.mul_le_mul_right _ (by have := h; simp only [zmag, own_qm] at this; exact this)
theorem own_div_mag_ge {x y V : UInt64} (hx : DFin x) (hy : DFin y) (hz : ¬ DZero y) (h : zmag b64 (val64 V) * zmag b64 (val64 y) ≤ zmag b64 (val64 x) * one64) : zmag b64 (val64 V) ≤ zmag b64 (val64 (FP.ddiv x y)) := by
  show _ ≤ zmag b64 (val64 (FP.Core.ddiv x y))
  obtain ⟨s, c, q, ex⟩ := hx
  obtain ⟨t, d, r, ey⟩ := hy
  have fx := val64_fits x; have fy := val64_fits y
  rw [ex] at fx; rw [ey] at fy
  have hd : d ≠ 0 := fun e => hz ⟨t, r, by rw [ey, e]⟩
  rw [FP.Core.val64_ddiv, ex, ey]
  rw [ex, ey] at h
  show _ ≤ zmag b64 (if d = 0 then _ else FP.Core.roundRatio b64 (s != t) c d (q - r))
  rw [if_neg hd]
  have b1 : -1074 ≤ q := own_qm ▸ fx.2.1
  have b2 : -1074 ≤ r := own_qm ▸ fy.2.1
  have b3 : r ≤ 971 := fy.2.2.1
  refine FP.Core.zmag_roundRatio_ge good_b64 (Nat.pos_of_ne_zero hd) (val64_fits V) (e0 := -2148) (by rw [own_qm]; decide) (by omega) ?_
  obtain ⟨k, hk, k1, k2⟩ := own_div_units (c := c) (d := d) b1 b2 b3 (zmag b64 (val64 V))
  rw [show (b64.qmin - -2148).toNat = 1074 by rw [own_qm]; decide]
  refine Nat.le_of_mul_le_mul_right ?_ hk
  rw [k1, k2]
  exact Nat.mul_le_mul_right _ (by have := h; simp only [zmag, own_qm] at this; exact this)
theorem own_sgn_div {x y : UInt64} (hx : DFin x) (hy : DFin y) (hz : ¬ DZero y) : sgn (val64 (FP.ddiv x y)) = (sgn (val64 x) != sgn (val64 y)) := by
  show sgn (val64 (FP.Core.ddiv x y)) = _
  obtain ⟨s, c, q, ex⟩ := hx
  obtain ⟨t, d, r, ey⟩ := hy
  have hd : d ≠ 0 := fun e => hz ⟨t, r, by rw [ey, e]⟩
  rw [FP.Core.val64_ddiv, ex, ey]
  show sgn (if d = 0 then _ else FP.Core.roundRatio b64 (s != t) c d (q - r)) = _
  rw [if_neg hd, FP.Core.sgn_roundRatio]; rfl
theorem own_notz {y : UInt64} (hy : DFin y) (h : 0 < zv y) : ¬ DZero y := fun q => by have := q.zval; unfold zv at h; omega
theorem own_possg {y : UInt64} (h : 0 < zv y) : sgn (val64 y) = false ∧ ((zmag b64 (val64 y) : Nat) : Int) = zv y := by
  unfold zv zval at *
  cases e : sgn (val64 y) <;> rw [e] at h <;> simp only [signed, if_true, Bool.false_eq_true, if_false] at h ⊢
  · exact ⟨trivial, trivial⟩
  · omega
theorem own_div_le {x y V : UInt64} (hx : DFin x) (hy : DFin y) (h0 : 0 < zv y) (hV : val64 V ≠ .nan) (h : zv x * uu ≤ zv V * zv y) : zv (FP.ddiv x y) ≤ zv V := by
  have hz := own_notz hy h0
  obtain ⟨s1, s2⟩ := own_possg h0
  have sd := own_sgn_div hx hy hz
  have L := own_div_mag_le (V := V) hx hy hz hV
  have G := own_div_mag_ge (V := V) hx hy hz
  rw [← s2] at h
  have hy0 : 0 < zmag b64 (val64 y) := by omega
  unfold zv zval at h ⊢
  rw [sd, s1]
  have u0 := FP.Core.one64_pos
  have e : uu = ((one64 : Nat) : Int) := rfl
  rw [e] at h
  generalize zmag b64 (val64 y) = my at *
  generalize zmag b64 (val64 x) = mx at *
  generalize zmag b64 (val64 V) = mv at *
  generalize zmag b64 (val64 (FP.ddiv x y)) = md at *
  generalize one64 = u at *
  have p1 : ((mx : Nat) : Int) * ((u : Nat) : Int) = ((mx * u : Nat) : Int) := (Int.natCast_mul ..).symm
  have p2 : ((mv : Nat) : Int) * ((my : Nat) : Int) = ((mv * my : Nat) : Int) := (Int.natCast_mul ..).symm
  have z1 : mv * my = 0 → mv = 0 := fun q => by rcases Nat.mul_eq_zero.mp q with q | q <;> omega
  generalize sgn (val64 x) = sx at h ⊢
  generalize sgn (val64 V) = sV at h ⊢
  cases sx <;> cases sV <;> simp only [signed, if_true, Bool.false_eq_true, if_false, Int.neg_mul, p1, p2, bne_self_eq_false, Bool.bne_false] at h ⊢
  · have := L (by omega); omega
  · have := L (by omega); have := z1 (by omega); omega
  · omega
  · have := G (by omega); omega
theorem own_div_ge {x y V : UInt64} (hx : DFin x) (hy : DFin y) (h0 : 0 < zv y) (hV : val64 V ≠ .nan) (h : zv V * zv y ≤ zv x * uu) : zv V ≤ zv (FP.ddiv x y) := by
  have hz := own_notz hy h0
  obtain ⟨s1, s2⟩ := own_possg h0
  have sd := own_sgn_div hx hy hz
  have L := own_div_mag_le (V := V) hx hy hz hV
  have G := own_div_mag_ge (V := V) hx hy hz
  rw [← s2] at h
  have hy0 : 0 < zmag b64 (val64 y) := by omega
  unfold zv zval at h ⊢
  rw [sd, s1]
  have u0 := FP.Core.one64_pos
  have e : uu = ((one64 : Nat) : Int) := rfl
  rw [e] at h
  generalize zmag b64 (val64 y) = my at *
  generalize zmag b64 (val64 x) = mx at *
  generalize zmag b64 (val64 V) = mv at *
  generalize zmag b64 (val64 (FP.ddiv x y)) = md at *
  generalize one64 = u at *
  have p1 : ((mx : Nat) : Int) * ((u : Nat) : Int) = ((mx * u : Nat) : Int) := (Int.natCast_mul ..).symm
  have p2 : ((mv : Nat) : Int) * ((my : Nat) : Int) = ((mv * my : Nat) : Int) := (Int.natCast_mul ..).symm
  have z1 : mv * my = 0 → mv = 0 := fun q => by rcases Nat.mul_eq_zero.mp q with q | q <;> omega
  generalize sgn (val64 x) = sx at h ⊢
  generalize sgn (val64 V) = sV at h ⊢
  cases sx <;> cases sV <;> simp only [signed, if_true, Bool.false_eq_true, if_false, Int.neg_mul, p1, p2, bne_self_eq_false, Bool.bne_false] at h ⊢
  · have := G (by omega); omega
  · omega
  · have := L (by omega); have := z1 (by omega); omega
  · have := L (by omega); omega
theorem own_bits_of_zv {x : UInt64} (hn : val64 x ≠ .nan) {V : UInt64} (hV : DFin V) (h : zv x = zv V) : DFin x := by
  have q := hV.zval_lt
  cases e : val64 x with
  | nan => exact absurd e hn
  | fin s c r => exact ⟨s, c, r, e⟩
  | inf s =>
    exfalso
    have a1 : (zv x).natAbs = zmag b64 (val64 x) := by unfold zv zval; cases sgn (val64 x) <;> simp [signed]
    have a2 : (zv V).natAbs = zmag b64 (val64 V) := by unfold zv zval; cases sgn (val64 V) <;> simp [signed]
    rw [h, a2, e] at a1
    rw [a1] at q
    exact Nat.lt_irrefl _ q
/-- every n / 2^k of at most 53 digits is a double -/
theorem own_rep (n : Int) (k : Nat) (h1 : n.natAbs < 9007199254740992) (hk : k ≤ 1074) : ∃ V : UInt64, DFin V ∧ zv V * ((2 ^ k : Nat) : Int) = n * uu := by
  obtain ⟨c', q', e1, e2⟩ := FP.Core.round_exact good_b64 (decide (n < 0)) (c := n.natAbs) (q := -(k : Int)) (by exact h1) (by rw [own_qm]; omega) (by have h971 : b64.qmax = 971 := (by decide); omega)
  have f := FP.Core.round_fits good_b64 (.fin (decide (n < 0)) n.natAbs (-(k : Int)))
  refine ⟨FP.Core.of64 (FP.Core.round b64 (.fin (decide (n < 0)) n.natAbs (-(k : Int)))), ⟨decide (n < 0), c', q', by rw [FP.Core.val64_of64 f, e1]⟩, ?_⟩
  unfold zv
  rw [FP.Core.val64_of64 f, e1]
  show signed (decide (n < 0)) (inUnits c' q' b64.qmin) * _ = _
  rw [e2]
  unfold inUnits
  rw [FP.Core.signed_mul, Int.mul_assoc, ← Int.natCast_mul, ← Nat.pow_add, show (-(k : Int) - b64.qmin).toNat + k = 1074 by rw [own_qm]; omega]
  have s0 : signed (decide (n < 0)) n.natAbs = n := by
    unfold signed
    by_cases q : n < 0 <;> simp [q] <;> omega
  rw [s0]; rfl
/-- x is the number n / 2^k -/
def Dy (x : UInt64) (n : Int) (k : Nat) : Prop := DFin x ∧ zv x * ((2 ^ k : Nat) : Int) = n * uu
theorem Dy.fin {x : UInt64} {n : Int} {k : Nat} (D : Dy x n k) : DFin x := D.1
theorem Dy.nn {x : UInt64} {n : Int} {k : Nat} (D : Dy x n k) : NoNaN64 x := Fl.val64_no.mpr D.1.ne_nan
theorem own_pk (k : Nat) : 0 < ((2 ^ k : Nat) : Int) := by have := Nat.two_pow_pos k; omega
theorem own_mid {a b c d : Int} {k : Nat} (h1 : a * ((2 ^ k : Nat) : Int) = c) (h2 : b * ((2 ^ k : Nat) : Int) = d) : (a ≤ b ↔ c ≤ d) ∧ (a < b ↔ c < d) ∧ (a = b ↔ c = d) := by
  have p := own_pk k
  subst h1 h2
  generalize ((2 ^ k : Nat) : Int) = w at *
  exact ⟨(Int.mul_le_mul_right p).symm, (Int.mul_lt_mul_right p).symm, ⟨fun q => by rw [q], fun q => Int.eq_of_mul_eq_mul_right (by omega) q⟩⟩
theorem Dy.cmp {x y : UInt64} {n m : Int} {k : Nat} (A : Dy x n k) (B : Dy y m k) : FP.dcmp x y = some (compare n m) := by
  show FP.Core.dcmp x y = _
  rw [FP.Core.dcmp_zval A.1.ne_nan B.1.ne_nan]
  congr 1
  obtain ⟨-, q2, q3⟩ := own_mid A.2 B.2
  have u := uu_pos
  refine FP.Core.compare_congr (q2.trans ⟨fun q => ?_, fun q => Int.mul_lt_mul_of_pos_right q u⟩) (q3.trans ⟨fun q => Int.eq_of_mul_eq_mul_right (by omega) q, fun q => by rw [q]⟩)
  exact Int.lt_of_mul_lt_mul_right q (Int.le_of_lt u)
theorem Dy.lt {x y : UInt64} {n m : Int} {k : Nat} (A : Dy x n k) (B : Dy y m k) : FP.dcmp x y = some .lt ↔ n < m := by
  rw [A.cmp B, Option.some.injEq, FP.Core.compare_lt_iff]
theorem Dy.gt {x y : UInt64} {n m : Int} {k : Nat} (A : Dy x n k) (B : Dy y m k) : FP.dcmp x y = some .gt ↔ m < n := by
  rw [A.cmp B, Option.some.injEq, FP.Core.compare_gt_iff]
theorem Dy.eq {x y : UInt64} {n m : Int} {k : Nat} (A : Dy x n k) (B : Dy y m k) : FP.dcmp x y = some .eq ↔ n = m := by
  rw [A.cmp B, Option.some.injEq, FP.Core.compare_eq_iff]
theorem Dy.of_zv {x V : UInt64} {n : Int} {k : Nat} (hn : val64 x ≠ .nan) (hV : DFin V) (e : zv V * ((2 ^ k : Nat) : Int) = n * uu) (h1 : zv x ≤ zv V) (h2 : zv V ≤ zv x) : Dy x n k := by
  have q : zv x = zv V := by omega
  exact ⟨own_bits_of_zv hn hV q, by rw [q]; exact e⟩
theorem own_nn_add {x y : UInt64} (hx : DFin x) (hy : DFin y) : val64 (FP.dadd x y) ≠ .nan := Fl.val64_no.mp (Fl.noNaN64_no.mpr (FP.Core.dadd_out hx.notNaN hy))
theorem own_nn_div {x y : UInt64} (hx : DFin x) (hy : DFin y) (hz : ¬ DZero y) : val64 (FP.ddiv x y) ≠ .nan := Fl.val64_no.mp (Fl.noNaN64_no.mpr (FP.Core.ddiv_out hx.notNaN hy hz))
theorem Dy.add {x y : UInt64} {n m : Int} {k : Nat} (A : Dy x n k) (B : Dy y m k) (hb : (n + m).natAbs < 9007199254740992) (hk : k ≤ 1074) : Dy (FP.dadd x y) (n + m) k := by
  obtain ⟨V, fV, eV⟩ := own_rep (n + m) k hb hk
  have e : (zv x + zv y) * ((2 ^ k : Nat) : Int) = (n + m) * uu := by rw [Int.add_mul, A.2, B.2, Int.add_mul]
  obtain ⟨-, -, q⟩ := own_mid e eV
  have q := q.mpr rfl
  exact Dy.of_zv (own_nn_add A.1 B.1) fV eV (own_add_le A.1 B.1 fV.ne_nan (by omega)) (own_add_ge A.1 B.1 fV.ne_nan (by omega))
theorem own_alg3 {X Y V K J I n m r u : Int} (a : X * K = n * u) (b : Y * J = m * u) (e : V * I = r * u) : X * u * (K * (J * I)) = n * (J * I) * (u * u) ∧ V * Y * (K * (J * I)) = r * m * K * (u * u) := by
  constructor
  · calc X * u * (K * (J * I)) = (X * K) * u * (J * I) := by ac_rfl
      _ = n * u * u * (J * I) := by rw [a]
      _ = n * (J * I) * (u * u) := by ac_rfl
  · calc V * Y * (K * (J * I)) = (V * I) * (Y * J) * K := by ac_rfl
      _ = (r * u) * (m * u) * K := by rw [e, b]
      _ = r * m * K * (u * u) := by ac_rfl
theorem Dy.pos {y : UInt64} {m : Int} {j : Nat} (B : Dy y m j) (hm : 0 < m) : 0 < zv y := by
  have p := own_pk j
  have b := B.2
  have : 0 < m * uu := Int.mul_pos hm uu_pos
  rw [← b] at this
  exact Int.lt_of_mul_lt_mul_right (by rw [Int.zero_mul]; exact this) (Int.le_of_lt p)
/-- an exact quotient -/
theorem Dy.div {x y : UInt64} {n m r : Int} {k j i : Nat} (A : Dy x n k) (B : Dy y m j) (hm : 0 < m) (hq : n * ((2 ^ (j + i) : Nat) : Int) = r * m * ((2 ^ k : Nat) : Int)) (hb : r.natAbs < 9007199254740992) (hi : i ≤ 1074) : Dy (FP.ddiv x y) r i := by
  obtain ⟨V, fV, eV⟩ := own_rep r i hb hi
  have h0 := B.pos hm
  have e : zv x * uu = zv V * zv y := by
    have pk := own_pk k; have pj := own_pk j; have pi := own_pk i
    rw [Nat.pow_add, Int.natCast_mul] at hq
    obtain ⟨a1, a2⟩ := own_alg3 A.2 B.2 eV
    refine Int.eq_of_mul_eq_mul_right (a := ((2 ^ k : Nat) : Int) * (((2 ^ j : Nat) : Int) * ((2 ^ i : Nat) : Int))) (Int.ne_of_gt (Int.mul_pos pk (Int.mul_pos pj pi))) ?_
    rw [a1, a2, hq]
  exact Dy.of_zv (own_nn_div A.1 B.1 (own_notz B.1 h0)) fV eV (own_div_le A.1 B.1 h0 fV.ne_nan (by omega)) (own_div_ge A.1 B.1 h0 fV.ne_nan (by omega))
theorem own_dy_int {x : UInt64} {i : Int} (h : FP.Core.DInt i x) : Dy x i 0 := by
  have z := FP.Core.DInt_zval h
  have n := FP.Core.DInt_ne_nan h
  refine ⟨?_, by rw [show ((2 ^ 0 : Nat) : Int) = 1 from rfl, Int.mul_one]; exact z⟩
  unfold FP.Core.DInt at h
  cases e : val64 x with
  | nan => exact absurd e n
  | inf s => rw [e] at h; exact h.elim
  | fin s c q => exact ⟨s, c, q, e⟩
theorem dy_i2d (a : Int32) : Dy (FP.i2d a) a.toInt 0 := own_dy_int (FP.Core.i2d_int a)
end OwnF
theorem pn_com_example_prior3_prior3_eval_JudgedRankingPresPinLaw : plainName "com/example/prior3/prior3/eval/JudgedRankingPresPinLaw" = true := by first | (simp [plainName, overriddenIn]; done) | decide +kernel
theorem pn_java_util_ArrayList : plainName "java/util/ArrayList" = true := by first | (simp [plainName, overriddenIn]; done) | decide +kernel
theorem pn_java_util_AbstractList : plainName "java/util/AbstractList" = true := by first | (simp [plainName, overriddenIn]; done) | decide +kernel
theorem pn_java_util_AbstractCollection : plainName "java/util/AbstractCollection" = true := by first | (simp [plainName, overriddenIn]; done) | decide +kernel
theorem pn_java_util_HashSet : plainName "java/util/HashSet" = true := by first | (simp [plainName, overriddenIn]; done) | decide +kernel
theorem pn_java_util_AbstractSet : plainName "java/util/AbstractSet" = true := by first | (simp [plainName, overriddenIn]; done) | decide +kernel
theorem pn_java_util_HashMap : plainName "java/util/HashMap" = true := by first | (simp [plainName, overriddenIn]; done) | decide +kernel
theorem pn_java_util_AbstractMap : plainName "java/util/AbstractMap" = true := by first | (simp [plainName, overriddenIn]; done) | decide +kernel
theorem pn_java_lang_String : plainName "java/lang/String" = true := by first | (simp [plainName, overriddenIn]; done) | decide +kernel
theorem pn_java_lang_StringLatin1 : plainName "java/lang/StringLatin1" = true := by first | (simp [plainName, overriddenIn]; done) | decide +kernel
theorem pn_java_util_HashMap_Node : plainName "java/util/HashMap$Node" = true := by first | (simp [plainName, overriddenIn]; done) | decide +kernel
theorem pn_com_example_prior3_prior3_eval_JudgedRanking : plainName "com/example/prior3/prior3/eval/JudgedRanking" = true := by first | (simp [plainName, overriddenIn]; done) | decide +kernel
theorem pn_java_util_Arrays : plainName "java/util/Arrays" = true := by first | (simp [plainName, overriddenIn]; done) | decide +kernel
theorem pn_java_util_Objects : plainName "java/util/Objects" = true := by first | (simp [plainName, overriddenIn]; done) | decide +kernel
theorem pn_jdk_internal_util_Preconditions : plainName "jdk/internal/util/Preconditions" = true := by first | (simp [plainName, overriddenIn]; done) | decide +kernel
theorem d1_0 : decode method_3_code 0 = .ok (.iload_n 0, 1) := by decide +kernel
theorem d1_1 : decode method_3_code 1 = .ok (.ifCond .eq 7, 3) := by decide +kernel
theorem d1_4 : decode method_3_code 4 = .ok (.iconst 1, 1) := by decide +kernel
theorem d1_5 : decode method_3_code 5 = .ok (.goto 4, 3) := by decide +kernel
theorem d1_8 : decode method_3_code 8 = .ok (.iconst 0, 1) := by decide +kernel
theorem d1_9 : decode method_3_code 9 = .ok (.ireturn, 1) := by decide +kernel
theorem d2_0 : decode jdk_29_method_65_code 0 = .ok (.iload_n 0, 1) := by decide +kernel
theorem d2_1 : decode jdk_29_method_65_code 1 = .ok (.iload_n 1, 1) := by decide +kernel
theorem d2_2 : decode jdk_29_method_65_code 2 = .ok (.if_icmp .lt 7, 3) := by decide +kernel
theorem d2_5 : decode jdk_29_method_65_code 5 = .ok (.iload_n 0, 1) := by decide +kernel
theorem d2_6 : decode jdk_29_method_65_code 6 = .ok (.goto 4, 3) := by decide +kernel
theorem d2_9 : decode jdk_29_method_65_code 9 = .ok (.iload_n 1, 1) := by decide +kernel
theorem d2_10 : decode jdk_29_method_65_code 10 = .ok (.ireturn, 1) := by decide +kernel
theorem d3_0 : decode jdk_38_method_2_code 0 = .ok (.aload_n 0, 1) := by decide +kernel
theorem d3_1 : decode jdk_38_method_2_code 1 = .ok (.invokespecial 1, 3) := by decide +kernel
theorem d3_4 : decode jdk_38_method_2_code 4 = .ok (.aload_n 0, 1) := by decide +kernel
theorem d3_5 : decode jdk_38_method_2_code 5 = .ok (.getstatic 39, 3) := by decide +kernel
theorem d3_8 : decode jdk_38_method_2_code 8 = .ok (.putfield 9, 3) := by decide +kernel
theorem d3_11 : decode jdk_38_method_2_code 11 = .ok (.return_, 1) := by decide +kernel
theorem d4_0 : decode jdk_39_method_1_code 0 = .ok (.aload_n 0, 1) := by decide +kernel
theorem d4_1 : decode jdk_39_method_1_code 1 = .ok (.invokespecial 1, 3) := by decide +kernel
theorem d4_4 : decode jdk_39_method_1_code 4 = .ok (.aload_n 0, 1) := by decide +kernel
theorem d4_5 : decode jdk_39_method_1_code 5 = .ok (.iconst 0, 1) := by decide +kernel
theorem d4_6 : decode jdk_39_method_1_code 6 = .ok (.putfield 7, 3) := by decide +kernel
theorem d4_9 : decode jdk_39_method_1_code 9 = .ok (.return_, 1) := by decide +kernel
theorem d5_0 : decode jdk_22_method_1_code 0 = .ok (.aload_n 0, 1) := by decide +kernel
theorem d5_1 : decode jdk_22_method_1_code 1 = .ok (.invokespecial 1, 3) := by decide +kernel
theorem d5_4 : decode jdk_22_method_1_code 4 = .ok (.return_, 1) := by decide +kernel
theorem d7_0 : decode jdk_93_method_1_code 0 = .ok (.aload_n 0, 1) := by decide +kernel
theorem d7_1 : decode jdk_93_method_1_code 1 = .ok (.invokespecial 1, 3) := by decide +kernel
theorem d7_4 : decode jdk_93_method_1_code 4 = .ok (.aload_n 0, 1) := by decide +kernel
theorem d7_5 : decode jdk_93_method_1_code 5 = .ok (.new 7, 3) := by decide +kernel
theorem d7_8 : decode jdk_93_method_1_code 8 = .ok (.dup, 1) := by decide +kernel
theorem d7_9 : decode jdk_93_method_1_code 9 = .ok (.invokespecial 9, 3) := by decide +kernel
theorem d7_12 : decode jdk_93_method_1_code 12 = .ok (.putfield 10, 3) := by decide +kernel
theorem d7_15 : decode jdk_93_method_1_code 15 = .ok (.return_, 1) := by decide +kernel
theorem d8_0 : decode jdk_91_method_1_code 0 = .ok (.aload_n 0, 1) := by decide +kernel
theorem d8_1 : decode jdk_91_method_1_code 1 = .ok (.invokespecial 1, 3) := by decide +kernel
theorem d8_4 : decode jdk_91_method_1_code 4 = .ok (.return_, 1) := by decide +kernel
theorem d9_0 : decode jdk_69_method_7_code 0 = .ok (.aload_n 0, 1) := by decide +kernel
theorem d9_1 : decode jdk_69_method_7_code 1 = .ok (.invokespecial 43, 3) := by decide +kernel
theorem d9_4 : decode jdk_69_method_7_code 4 = .ok (.aload_n 0, 1) := by decide +kernel
theorem d9_5 : decode jdk_69_method_7_code 5 = .ok (.ldc 92, 2) := by decide +kernel
theorem d9_7 : decode jdk_69_method_7_code 7 = .ok (.putfield 81, 3) := by decide +kernel
theorem d9_10 : decode jdk_69_method_7_code 10 = .ok (.return_, 1) := by decide +kernel
theorem d10_0 : decode jdk_71_method_1_code 0 = .ok (.aload_n 0, 1) := by decide +kernel
theorem d10_1 : decode jdk_71_method_1_code 1 = .ok (.invokespecial 1, 3) := by decide +kernel
theorem d10_4 : decode jdk_71_method_1_code 4 = .ok (.return_, 1) := by decide +kernel
theorem d11_0 : decode jdk_42_method_139_code 0 = .ok (.getstatic 38, 3) := by decide +kernel
theorem d11_3 : decode jdk_42_method_139_code 3 = .ok (.ifCond .eq 23, 3) := by decide +kernel
theorem d11_6 : decode jdk_42_method_139_code 6 = .ok (.iload_n 0, 1) := by decide +kernel
theorem d11_7 : decode jdk_42_method_139_code 7 = .ok (.invokestatic 1015, 3) := by decide +kernel
theorem d11_10 : decode jdk_42_method_139_code 10 = .ok (.ifCond .eq 16, 3) := by decide +kernel
theorem d11_13 : decode jdk_42_method_139_code 13 = .ok (.new 10, 3) := by decide +kernel
theorem d11_16 : decode jdk_42_method_139_code 16 = .ok (.dup, 1) := by decide +kernel
theorem d11_17 : decode jdk_42_method_139_code 17 = .ok (.iload_n 0, 1) := by decide +kernel
theorem d11_18 : decode jdk_42_method_139_code 18 = .ok (.invokestatic 1018, 3) := by decide +kernel
theorem d11_21 : decode jdk_42_method_139_code 21 = .ok (.iconst 0, 1) := by decide +kernel
theorem d11_22 : decode jdk_42_method_139_code 22 = .ok (.invokespecial 209, 3) := by decide +kernel
theorem d11_25 : decode jdk_42_method_139_code 25 = .ok (.areturn, 1) := by decide +kernel
theorem d12_0 : decode jdk_43_method_3_code 0 = .ok (.iload_n 0, 1) := by decide +kernel
theorem d12_1 : decode jdk_43_method_3_code 1 = .ok (.sipush 255, 3) := by decide +kernel
theorem d12_4 : decode jdk_43_method_3_code 4 = .ok (.if_icmp .gt 7, 3) := by decide +kernel
theorem d12_7 : decode jdk_43_method_3_code 7 = .ok (.iconst 1, 1) := by decide +kernel
theorem d12_8 : decode jdk_43_method_3_code 8 = .ok (.goto 4, 3) := by decide +kernel
theorem d12_12 : decode jdk_43_method_3_code 12 = .ok (.ireturn, 1) := by decide +kernel
theorem d13_0 : decode jdk_43_method_46_code 0 = .ok (.iconst 1, 1) := by decide +kernel
theorem d13_1 : decode jdk_43_method_46_code 1 = .ok (.newarray .byte, 2) := by decide +kernel
theorem d13_3 : decode jdk_43_method_46_code 3 = .ok (.dup, 1) := by decide +kernel
theorem d13_4 : decode jdk_43_method_46_code 4 = .ok (.iconst 0, 1) := by decide +kernel
theorem d13_5 : decode jdk_43_method_46_code 5 = .ok (.iload_n 0, 1) := by decide +kernel
theorem d13_6 : decode jdk_43_method_46_code 6 = .ok (.i2b, 1) := by decide +kernel
theorem d13_7 : decode jdk_43_method_46_code 7 = .ok (.bastore, 1) := by decide +kernel
theorem d13_8 : decode jdk_43_method_46_code 8 = .ok (.areturn, 1) := by decide +kernel
theorem d14_0 : decode jdk_42_method_151_code 0 = .ok (.aload_n 0, 1) := by decide +kernel
theorem d14_1 : decode jdk_42_method_151_code 1 = .ok (.invokespecial 1, 3) := by decide +kernel
theorem d14_4 : decode jdk_42_method_151_code 4 = .ok (.aload_n 0, 1) := by decide +kernel
theorem d14_5 : decode jdk_42_method_151_code 5 = .ok (.aload_n 1, 1) := by decide +kernel
theorem d14_6 : decode jdk_42_method_151_code 6 = .ok (.putfield 9, 3) := by decide +kernel
theorem d14_9 : decode jdk_42_method_151_code 9 = .ok (.aload_n 0, 1) := by decide +kernel
theorem d14_10 : decode jdk_42_method_151_code 10 = .ok (.iload_n 2, 1) := by decide +kernel
theorem d14_11 : decode jdk_42_method_151_code 11 = .ok (.putfield 15, 3) := by decide +kernel
theorem d14_14 : decode jdk_42_method_151_code 14 = .ok (.return_, 1) := by decide +kernel
theorem d15_0 : decode jdk_93_method_10_code 0 = .ok (.aload_n 0, 1) := by decide +kernel
theorem d15_1 : decode jdk_93_method_10_code 1 = .ok (.getfield 10, 3) := by decide +kernel
theorem d15_4 : decode jdk_93_method_10_code 4 = .ok (.aload_n 1, 1) := by decide +kernel
theorem d15_5 : decode jdk_93_method_10_code 5 = .ok (.getstatic 64, 3) := by decide +kernel
theorem d15_8 : decode jdk_93_method_10_code 8 = .ok (.invokevirtual 68, 3) := by decide +kernel
theorem d15_11 : decode jdk_93_method_10_code 11 = .ok (.ifnonnull 7, 3) := by decide +kernel
theorem d15_14 : decode jdk_93_method_10_code 14 = .ok (.iconst 1, 1) := by decide +kernel
theorem d15_15 : decode jdk_93_method_10_code 15 = .ok (.goto 4, 3) := by decide +kernel
theorem d15_19 : decode jdk_93_method_10_code 19 = .ok (.ireturn, 1) := by decide +kernel
theorem d16_0 : decode jdk_69_method_15_code 0 = .ok (.aload_n 0, 1) := by decide +kernel
theorem d16_1 : decode jdk_69_method_15_code 1 = .ok (.aload_n 1, 1) := by decide +kernel
theorem d16_2 : decode jdk_69_method_15_code 2 = .ok (.invokestatic 149, 3) := by decide +kernel
theorem d16_5 : decode jdk_69_method_15_code 5 = .ok (.aload_n 1, 1) := by decide +kernel
theorem d16_6 : decode jdk_69_method_15_code 6 = .ok (.aload_n 2, 1) := by decide +kernel
theorem d16_7 : decode jdk_69_method_15_code 7 = .ok (.iconst 0, 1) := by decide +kernel
theorem d16_8 : decode jdk_69_method_15_code 8 = .ok (.iconst 1, 1) := by decide +kernel
theorem d16_9 : decode jdk_69_method_15_code 9 = .ok (.invokevirtual 152, 3) := by decide +kernel
theorem d16_12 : decode jdk_69_method_15_code 12 = .ok (.areturn, 1) := by decide +kernel
theorem d17_0 : decode jdk_69_method_1_code 0 = .ok (.aload_n 0, 1) := by decide +kernel
theorem d17_1 : decode jdk_69_method_1_code 1 = .ok (.ifnonnull 7, 3) := by decide +kernel
theorem d17_8 : decode jdk_69_method_1_code 8 = .ok (.aload_n 0, 1) := by decide +kernel
theorem d17_9 : decode jdk_69_method_1_code 9 = .ok (.invokevirtual 1, 3) := by decide +kernel
theorem d17_12 : decode jdk_69_method_1_code 12 = .ok (.dup, 1) := by decide +kernel
theorem d17_13 : decode jdk_69_method_1_code 13 = .ok (.istore_n 1, 1) := by decide +kernel
theorem d17_14 : decode jdk_69_method_1_code 14 = .ok (.iload_n 1, 1) := by decide +kernel
theorem d17_15 : decode jdk_69_method_1_code 15 = .ok (.bipush 16, 2) := by decide +kernel
theorem d17_17 : decode jdk_69_method_1_code 17 = .ok (.iushr, 1) := by decide +kernel
theorem d17_18 : decode jdk_69_method_1_code 18 = .ok (.ixor, 1) := by decide +kernel
theorem d17_19 : decode jdk_69_method_1_code 19 = .ok (.ireturn, 1) := by decide +kernel
theorem d18_0 : decode jdk_42_method_78_code 0 = .ok (.aload_n 0, 1) := by decide +kernel
theorem d18_1 : decode jdk_42_method_78_code 1 = .ok (.getfield 19, 3) := by decide +kernel
theorem d18_4 : decode jdk_42_method_78_code 4 = .ok (.istore_n 1, 1) := by decide +kernel
theorem d18_5 : decode jdk_42_method_78_code 5 = .ok (.iload_n 1, 1) := by decide +kernel
theorem d18_6 : decode jdk_42_method_78_code 6 = .ok (.ifCond .ne 52, 3) := by decide +kernel
theorem d18_9 : decode jdk_42_method_78_code 9 = .ok (.aload_n 0, 1) := by decide +kernel
theorem d18_10 : decode jdk_42_method_78_code 10 = .ok (.getfield 23, 3) := by decide +kernel
theorem d18_13 : decode jdk_42_method_78_code 13 = .ok (.ifCond .ne 45, 3) := by decide +kernel
theorem d18_16 : decode jdk_42_method_78_code 16 = .ok (.aload_n 0, 1) := by decide +kernel
theorem d18_17 : decode jdk_42_method_78_code 17 = .ok (.invokevirtual 492, 3) := by decide +kernel
theorem d18_20 : decode jdk_42_method_78_code 20 = .ok (.ifCond .eq 13, 3) := by decide +kernel
theorem d18_23 : decode jdk_42_method_78_code 23 = .ok (.aload_n 0, 1) := by decide +kernel
theorem d18_24 : decode jdk_42_method_78_code 24 = .ok (.getfield 9, 3) := by decide +kernel
theorem d18_27 : decode jdk_42_method_78_code 27 = .ok (.invokestatic 628, 3) := by decide +kernel
theorem d18_30 : decode jdk_42_method_78_code 30 = .ok (.goto 10, 3) := by decide +kernel
theorem d18_40 : decode jdk_42_method_78_code 40 = .ok (.istore_n 1, 1) := by decide +kernel
theorem d18_41 : decode jdk_42_method_78_code 41 = .ok (.iload_n 1, 1) := by decide +kernel
theorem d18_42 : decode jdk_42_method_78_code 42 = .ok (.ifCond .ne 11, 3) := by decide +kernel
theorem d18_53 : decode jdk_42_method_78_code 53 = .ok (.aload_n 0, 1) := by decide +kernel
theorem d18_54 : decode jdk_42_method_78_code 54 = .ok (.iload_n 1, 1) := by decide +kernel
theorem d18_55 : decode jdk_42_method_78_code 55 = .ok (.putfield 19, 3) := by decide +kernel
theorem d18_58 : decode jdk_42_method_78_code 58 = .ok (.iload_n 1, 1) := by decide +kernel
theorem d18_59 : decode jdk_42_method_78_code 59 = .ok (.ireturn, 1) := by decide +kernel
theorem d19_0 : decode jdk_42_method_154_code 0 = .ok (.getstatic 38, 3) := by decide +kernel
theorem d19_3 : decode jdk_42_method_154_code 3 = .ok (.ifCond .eq 14, 3) := by decide +kernel
theorem d19_6 : decode jdk_42_method_154_code 6 = .ok (.aload_n 0, 1) := by decide +kernel
theorem d19_7 : decode jdk_42_method_154_code 7 = .ok (.getfield 15, 3) := by decide +kernel
theorem d19_10 : decode jdk_42_method_154_code 10 = .ok (.ifCond .ne 7, 3) := by decide +kernel
theorem d19_13 : decode jdk_42_method_154_code 13 = .ok (.iconst 1, 1) := by decide +kernel
theorem d19_14 : decode jdk_42_method_154_code 14 = .ok (.goto 4, 3) := by decide +kernel
theorem d19_18 : decode jdk_42_method_154_code 18 = .ok (.ireturn, 1) := by decide +kernel
theorem d20_0 : decode jdk_43_method_21_code 0 = .ok (.aload_n 0, 1) := by decide +kernel
theorem d20_1 : decode jdk_43_method_21_code 1 = .ok (.arraylength, 1) := by decide +kernel
theorem d20_2 : decode jdk_43_method_21_code 2 = .ok (.lookupswitch 40 #[(0, 26), (1, 30)], 26) := by decide +kernel
theorem d20_32 : decode jdk_43_method_21_code 32 = .ok (.aload_n 0, 1) := by decide +kernel
theorem d20_33 : decode jdk_43_method_21_code 33 = .ok (.iconst 0, 1) := by decide +kernel
theorem d20_34 : decode jdk_43_method_21_code 34 = .ok (.baload, 1) := by decide +kernel
theorem d20_35 : decode jdk_43_method_21_code 35 = .ok (.sipush 255, 3) := by decide +kernel
theorem d20_38 : decode jdk_43_method_21_code 38 = .ok (.iand, 1) := by decide +kernel
theorem d20_39 : decode jdk_43_method_21_code 39 = .ok (.goto 12, 3) := by decide +kernel
theorem d20_51 : decode jdk_43_method_21_code 51 = .ok (.ireturn, 1) := by decide +kernel
theorem d21_0 : decode jdk_69_method_16_code 0 = .ok (.aload_n 0, 1) := by decide +kernel
theorem d21_1 : decode jdk_69_method_16_code 1 = .ok (.getfield 105, 3) := by decide +kernel
theorem d21_4 : decode jdk_69_method_16_code 4 = .ok (.dup, 1) := by decide +kernel
theorem d21_5 : decode jdk_69_method_16_code 5 = .ok (.astore 6, 2) := by decide +kernel
theorem d21_7 : decode jdk_69_method_16_code 7 = .ok (.ifnull 12, 3) := by decide +kernel
theorem d21_10 : decode jdk_69_method_16_code 10 = .ok (.aload 6, 2) := by decide +kernel
theorem d21_12 : decode jdk_69_method_16_code 12 = .ok (.arraylength, 1) := by decide +kernel
theorem d21_13 : decode jdk_69_method_16_code 13 = .ok (.dup, 1) := by decide +kernel
theorem d21_14 : decode jdk_69_method_16_code 14 = .ok (.istore 8, 2) := by decide +kernel
theorem d21_16 : decode jdk_69_method_16_code 16 = .ok (.ifCond .ne 13, 3) := by decide +kernel
theorem d21_19 : decode jdk_69_method_16_code 19 = .ok (.aload_n 0, 1) := by decide +kernel
theorem d21_20 : decode jdk_69_method_16_code 20 = .ok (.invokevirtual 117, 3) := by decide +kernel
theorem d21_23 : decode jdk_69_method_16_code 23 = .ok (.dup, 1) := by decide +kernel
theorem d21_24 : decode jdk_69_method_16_code 24 = .ok (.astore 6, 2) := by decide +kernel
theorem d21_26 : decode jdk_69_method_16_code 26 = .ok (.arraylength, 1) := by decide +kernel
theorem d21_27 : decode jdk_69_method_16_code 27 = .ok (.istore 8, 2) := by decide +kernel
theorem d21_29 : decode jdk_69_method_16_code 29 = .ok (.aload 6, 2) := by decide +kernel
theorem d21_31 : decode jdk_69_method_16_code 31 = .ok (.iload 8, 2) := by decide +kernel
theorem d21_33 : decode jdk_69_method_16_code 33 = .ok (.iconst 1, 1) := by decide +kernel
theorem d21_34 : decode jdk_69_method_16_code 34 = .ok (.isub, 1) := by decide +kernel
theorem d21_35 : decode jdk_69_method_16_code 35 = .ok (.iload_n 1, 1) := by decide +kernel
theorem d21_36 : decode jdk_69_method_16_code 36 = .ok (.iand, 1) := by decide +kernel
theorem d21_37 : decode jdk_69_method_16_code 37 = .ok (.dup, 1) := by decide +kernel
theorem d21_38 : decode jdk_69_method_16_code 38 = .ok (.istore 9, 2) := by decide +kernel
theorem d21_40 : decode jdk_69_method_16_code 40 = .ok (.aaload, 1) := by decide +kernel
theorem d21_41 : decode jdk_69_method_16_code 41 = .ok (.dup, 1) := by decide +kernel
theorem d21_42 : decode jdk_69_method_16_code 42 = .ok (.astore 7, 2) := by decide +kernel
theorem d21_44 : decode jdk_69_method_16_code 44 = .ok (.ifnonnull 19, 3) := by decide +kernel
theorem d21_47 : decode jdk_69_method_16_code 47 = .ok (.aload 6, 2) := by decide +kernel
theorem d21_49 : decode jdk_69_method_16_code 49 = .ok (.iload 9, 2) := by decide +kernel
theorem d21_51 : decode jdk_69_method_16_code 51 = .ok (.aload_n 0, 1) := by decide +kernel
theorem d21_52 : decode jdk_69_method_16_code 52 = .ok (.iload_n 1, 1) := by decide +kernel
theorem d21_53 : decode jdk_69_method_16_code 53 = .ok (.aload_n 2, 1) := by decide +kernel
theorem d21_54 : decode jdk_69_method_16_code 54 = .ok (.aload_n 3, 1) := by decide +kernel
theorem d21_55 : decode jdk_69_method_16_code 55 = .ok (.aconst_null, 1) := by decide +kernel
theorem d21_56 : decode jdk_69_method_16_code 56 = .ok (.invokevirtual 186, 3) := by decide +kernel
theorem d21_59 : decode jdk_69_method_16_code 59 = .ok (.aastore, 1) := by decide +kernel
theorem d21_60 : decode jdk_69_method_16_code 60 = .ok (.goto 199, 3) := by decide +kernel
theorem d21_259 : decode jdk_69_method_16_code 259 = .ok (.aload_n 0, 1) := by decide +kernel
theorem d21_260 : decode jdk_69_method_16_code 260 = .ok (.dup, 1) := by decide +kernel
theorem d21_261 : decode jdk_69_method_16_code 261 = .ok (.getfield 202, 3) := by decide +kernel
theorem d21_264 : decode jdk_69_method_16_code 264 = .ok (.iconst 1, 1) := by decide +kernel
theorem d21_265 : decode jdk_69_method_16_code 265 = .ok (.iadd, 1) := by decide +kernel
theorem d21_266 : decode jdk_69_method_16_code 266 = .ok (.putfield 202, 3) := by decide +kernel
theorem d21_269 : decode jdk_69_method_16_code 269 = .ok (.aload_n 0, 1) := by decide +kernel
theorem d21_270 : decode jdk_69_method_16_code 270 = .ok (.dup, 1) := by decide +kernel
theorem d21_271 : decode jdk_69_method_16_code 271 = .ok (.getfield 156, 3) := by decide +kernel
theorem d21_274 : decode jdk_69_method_16_code 274 = .ok (.iconst 1, 1) := by decide +kernel
theorem d21_275 : decode jdk_69_method_16_code 275 = .ok (.iadd, 1) := by decide +kernel
theorem d21_276 : decode jdk_69_method_16_code 276 = .ok (.dup_x1, 1) := by decide +kernel
theorem d21_277 : decode jdk_69_method_16_code 277 = .ok (.putfield 156, 3) := by decide +kernel
theorem d21_280 : decode jdk_69_method_16_code 280 = .ok (.aload_n 0, 1) := by decide +kernel
theorem d21_281 : decode jdk_69_method_16_code 281 = .ok (.getfield 88, 3) := by decide +kernel
theorem d21_284 : decode jdk_69_method_16_code 284 = .ok (.if_icmp .le 8, 3) := by decide +kernel
theorem d21_292 : decode jdk_69_method_16_code 292 = .ok (.aload_n 0, 1) := by decide +kernel
theorem d21_293 : decode jdk_69_method_16_code 293 = .ok (.iload 5, 2) := by decide +kernel
theorem d21_295 : decode jdk_69_method_16_code 295 = .ok (.invokevirtual 205, 3) := by decide +kernel
theorem d21_298 : decode jdk_69_method_16_code 298 = .ok (.aconst_null, 1) := by decide +kernel
theorem d21_299 : decode jdk_69_method_16_code 299 = .ok (.areturn, 1) := by decide +kernel
theorem d22_0 : decode jdk_69_method_17_code 0 = .ok (.aload_n 0, 1) := by decide +kernel
theorem d22_1 : decode jdk_69_method_17_code 1 = .ok (.getfield 105, 3) := by decide +kernel
theorem d22_4 : decode jdk_69_method_17_code 4 = .ok (.astore_n 1, 1) := by decide +kernel
theorem d22_5 : decode jdk_69_method_17_code 5 = .ok (.aload_n 1, 1) := by decide +kernel
theorem d22_6 : decode jdk_69_method_17_code 6 = .ok (.ifnonnull 7, 3) := by decide +kernel
theorem d22_9 : decode jdk_69_method_17_code 9 = .ok (.iconst 0, 1) := by decide +kernel
theorem d22_10 : decode jdk_69_method_17_code 10 = .ok (.goto 5, 3) := by decide +kernel
theorem d22_15 : decode jdk_69_method_17_code 15 = .ok (.istore_n 2, 1) := by decide +kernel
theorem d22_16 : decode jdk_69_method_17_code 16 = .ok (.aload_n 0, 1) := by decide +kernel
theorem d22_17 : decode jdk_69_method_17_code 17 = .ok (.getfield 88, 3) := by decide +kernel
theorem d22_20 : decode jdk_69_method_17_code 20 = .ok (.istore_n 3, 1) := by decide +kernel
theorem d22_21 : decode jdk_69_method_17_code 21 = .ok (.iconst 0, 1) := by decide +kernel
theorem d22_22 : decode jdk_69_method_17_code 22 = .ok (.istore 5, 2) := by decide +kernel
theorem d22_24 : decode jdk_69_method_17_code 24 = .ok (.iload_n 2, 1) := by decide +kernel
theorem d22_25 : decode jdk_69_method_17_code 25 = .ok (.ifCond .le 42, 3) := by decide +kernel
theorem d22_67 : decode jdk_69_method_17_code 67 = .ok (.iload_n 3, 1) := by decide +kernel
theorem d22_68 : decode jdk_69_method_17_code 68 = .ok (.ifCond .le 9, 3) := by decide +kernel
theorem d22_77 : decode jdk_69_method_17_code 77 = .ok (.bipush 16, 2) := by decide +kernel
theorem d22_79 : decode jdk_69_method_17_code 79 = .ok (.istore 4, 2) := by decide +kernel
theorem d22_81 : decode jdk_69_method_17_code 81 = .ok (.bipush 12, 2) := by decide +kernel
theorem d22_83 : decode jdk_69_method_17_code 83 = .ok (.istore 5, 2) := by decide +kernel
theorem d22_85 : decode jdk_69_method_17_code 85 = .ok (.iload 5, 2) := by decide +kernel
theorem d22_87 : decode jdk_69_method_17_code 87 = .ok (.ifCond .ne 38, 3) := by decide +kernel
theorem d22_125 : decode jdk_69_method_17_code 125 = .ok (.aload_n 0, 1) := by decide +kernel
theorem d22_126 : decode jdk_69_method_17_code 126 = .ok (.iload 5, 2) := by decide +kernel
theorem d22_128 : decode jdk_69_method_17_code 128 = .ok (.putfield 88, 3) := by decide +kernel
theorem d22_131 : decode jdk_69_method_17_code 131 = .ok (.iload 4, 2) := by decide +kernel
theorem d22_133 : decode jdk_69_method_17_code 133 = .ok (.anewarray 163, 3) := by decide +kernel
theorem d22_136 : decode jdk_69_method_17_code 136 = .ok (.astore 6, 2) := by decide +kernel
theorem d22_138 : decode jdk_69_method_17_code 138 = .ok (.aload_n 0, 1) := by decide +kernel
theorem d22_139 : decode jdk_69_method_17_code 139 = .ok (.aload 6, 2) := by decide +kernel
theorem d22_141 : decode jdk_69_method_17_code 141 = .ok (.putfield 105, 3) := by decide +kernel
theorem d22_144 : decode jdk_69_method_17_code 144 = .ok (.aload_n 1, 1) := by decide +kernel
theorem d22_145 : decode jdk_69_method_17_code 145 = .ok (.ifnull 208, 3) := by decide +kernel
theorem d22_353 : decode jdk_69_method_17_code 353 = .ok (.aload 6, 2) := by decide +kernel
theorem d22_355 : decode jdk_69_method_17_code 355 = .ok (.areturn, 1) := by decide +kernel
theorem d23_0 : decode jdk_69_method_46_code 0 = .ok (.new 163, 3) := by decide +kernel
theorem d23_3 : decode jdk_69_method_46_code 3 = .ok (.dup, 1) := by decide +kernel
theorem d23_4 : decode jdk_69_method_46_code 4 = .ok (.iload_n 1, 1) := by decide +kernel
theorem d23_5 : decode jdk_69_method_46_code 5 = .ok (.aload_n 2, 1) := by decide +kernel
theorem d23_6 : decode jdk_69_method_46_code 6 = .ok (.aload_n 3, 1) := by decide +kernel
theorem d23_7 : decode jdk_69_method_46_code 7 = .ok (.aload 4, 2) := by decide +kernel
theorem d23_9 : decode jdk_69_method_46_code 9 = .ok (.invokespecial 375, 3) := by decide +kernel
theorem d23_12 : decode jdk_69_method_46_code 12 = .ok (.areturn, 1) := by decide +kernel
theorem d24_0 : decode jdk_70_method_1_code 0 = .ok (.aload_n 0, 1) := by decide +kernel
theorem d24_1 : decode jdk_70_method_1_code 1 = .ok (.invokespecial 1, 3) := by decide +kernel
theorem d24_4 : decode jdk_70_method_1_code 4 = .ok (.aload_n 0, 1) := by decide +kernel
theorem d24_5 : decode jdk_70_method_1_code 5 = .ok (.iload_n 1, 1) := by decide +kernel
theorem d24_6 : decode jdk_70_method_1_code 6 = .ok (.putfield 7, 3) := by decide +kernel
theorem d24_9 : decode jdk_70_method_1_code 9 = .ok (.aload_n 0, 1) := by decide +kernel
theorem d24_10 : decode jdk_70_method_1_code 10 = .ok (.aload_n 2, 1) := by decide +kernel
theorem d24_11 : decode jdk_70_method_1_code 11 = .ok (.putfield 13, 3) := by decide +kernel
theorem d24_14 : decode jdk_70_method_1_code 14 = .ok (.aload_n 0, 1) := by decide +kernel
theorem d24_15 : decode jdk_70_method_1_code 15 = .ok (.aload_n 3, 1) := by decide +kernel
theorem d24_16 : decode jdk_70_method_1_code 16 = .ok (.putfield 17, 3) := by decide +kernel
theorem d24_19 : decode jdk_70_method_1_code 19 = .ok (.aload_n 0, 1) := by decide +kernel
theorem d24_20 : decode jdk_70_method_1_code 20 = .ok (.aload 4, 2) := by decide +kernel
theorem d24_22 : decode jdk_70_method_1_code 22 = .ok (.putfield 20, 3) := by decide +kernel
theorem d24_25 : decode jdk_70_method_1_code 25 = .ok (.return_, 1) := by decide +kernel
theorem d25_0 : decode jdk_69_method_52_code 0 = .ok (.return_, 1) := by decide +kernel
theorem d26_0 : decode prog_53_method_1_code 0 = .ok (.aload_n 0, 1) := by decide +kernel
theorem d26_1 : decode prog_53_method_1_code 1 = .ok (.invokespecial 1, 3) := by decide +kernel
theorem d26_4 : decode prog_53_method_1_code 4 = .ok (.aload_n 2, 1) := by decide +kernel
theorem d26_5 : decode prog_53_method_1_code 5 = .ok (.invokeinterface 7 1, 5) := by decide +kernel
theorem d26_10 : decode prog_53_method_1_code 10 = .ok (.ifCond .eq 13, 3) := by decide +kernel
theorem d26_23 : decode prog_53_method_1_code 23 = .ok (.aload_n 1, 1) := by decide +kernel
theorem d26_24 : decode prog_53_method_1_code 24 = .ok (.invokeinterface 20 1, 5) := by decide +kernel
theorem d26_29 : decode prog_53_method_1_code 29 = .ok (.aload_n 2, 1) := by decide +kernel
theorem d26_30 : decode prog_53_method_1_code 30 = .ok (.invokeinterface 26 1, 5) := by decide +kernel
theorem d26_35 : decode prog_53_method_1_code 35 = .ok (.invokestatic 27, 3) := by decide +kernel
theorem d26_38 : decode prog_53_method_1_code 38 = .ok (.newarray .int, 2) := by decide +kernel
theorem d26_40 : decode prog_53_method_1_code 40 = .ok (.astore_n 3, 1) := by decide +kernel
theorem d26_41 : decode prog_53_method_1_code 41 = .ok (.iconst 0, 1) := by decide +kernel
theorem d26_42 : decode prog_53_method_1_code 42 = .ok (.istore 4, 2) := by decide +kernel
theorem d26_44 : decode prog_53_method_1_code 44 = .ok (.iconst 0, 1) := by decide +kernel
theorem d26_45 : decode prog_53_method_1_code 45 = .ok (.istore 5, 2) := by decide +kernel
theorem d26_47 : decode prog_53_method_1_code 47 = .ok (.iload 5, 2) := by decide +kernel
theorem d26_49 : decode prog_53_method_1_code 49 = .ok (.aload_n 1, 1) := by decide +kernel
theorem d26_50 : decode prog_53_method_1_code 50 = .ok (.invokeinterface 20 1, 5) := by decide +kernel
theorem d26_55 : decode prog_53_method_1_code 55 = .ok (.if_icmp .ge 44, 3) := by decide +kernel
theorem d26_58 : decode prog_53_method_1_code 58 = .ok (.iload 4, 2) := by decide +kernel
theorem d26_60 : decode prog_53_method_1_code 60 = .ok (.aload_n 3, 1) := by decide +kernel
theorem d26_61 : decode prog_53_method_1_code 61 = .ok (.arraylength, 1) := by decide +kernel
theorem d26_62 : decode prog_53_method_1_code 62 = .ok (.if_icmp .ge 37, 3) := by decide +kernel
theorem d26_65 : decode prog_53_method_1_code 65 = .ok (.aload_n 2, 1) := by decide +kernel
theorem d26_66 : decode prog_53_method_1_code 66 = .ok (.aload_n 1, 1) := by decide +kernel
theorem d26_67 : decode prog_53_method_1_code 67 = .ok (.iload 5, 2) := by decide +kernel
theorem d26_69 : decode prog_53_method_1_code 69 = .ok (.invokeinterface 33 2, 5) := by decide +kernel
theorem d26_74 : decode prog_53_method_1_code 74 = .ok (.invokeinterface 37 2, 5) := by decide +kernel
theorem d26_79 : decode prog_53_method_1_code 79 = .ok (.ifCond .eq 14, 3) := by decide +kernel
theorem d26_82 : decode prog_53_method_1_code 82 = .ok (.aload_n 3, 1) := by decide +kernel
theorem d26_83 : decode prog_53_method_1_code 83 = .ok (.iload 4, 2) := by decide +kernel
theorem d26_85 : decode prog_53_method_1_code 85 = .ok (.iinc 4 1, 3) := by decide +kernel
theorem d26_88 : decode prog_53_method_1_code 88 = .ok (.iload 5, 2) := by decide +kernel
theorem d26_90 : decode prog_53_method_1_code 90 = .ok (.iconst 1, 1) := by decide +kernel
theorem d26_91 : decode prog_53_method_1_code 91 = .ok (.iadd, 1) := by decide +kernel
theorem d26_92 : decode prog_53_method_1_code 92 = .ok (.iastore, 1) := by decide +kernel
theorem d26_93 : decode prog_53_method_1_code 93 = .ok (.iinc 5 1, 3) := by decide +kernel
theorem d26_96 : decode prog_53_method_1_code 96 = .ok (.goto (-49), 3) := by decide +kernel
theorem d26_99 : decode prog_53_method_1_code 99 = .ok (.aload_n 0, 1) := by decide +kernel
theorem d26_100 : decode prog_53_method_1_code 100 = .ok (.aload_n 3, 1) := by decide +kernel
theorem d26_101 : decode prog_53_method_1_code 101 = .ok (.iload 4, 2) := by decide +kernel
theorem d26_103 : decode prog_53_method_1_code 103 = .ok (.invokestatic 41, 3) := by decide +kernel
theorem d26_106 : decode prog_53_method_1_code 106 = .ok (.putfield 47, 3) := by decide +kernel
theorem d26_109 : decode prog_53_method_1_code 109 = .ok (.aload_n 0, 1) := by decide +kernel
theorem d26_110 : decode prog_53_method_1_code 110 = .ok (.aload_n 2, 1) := by decide +kernel
theorem d26_111 : decode prog_53_method_1_code 111 = .ok (.invokeinterface 26 1, 5) := by decide +kernel
theorem d26_116 : decode prog_53_method_1_code 116 = .ok (.putfield 53, 3) := by decide +kernel
theorem d26_119 : decode prog_53_method_1_code 119 = .ok (.return_, 1) := by decide +kernel
theorem d27_0 : decode jdk_93_method_8_code 0 = .ok (.aload_n 0, 1) := by decide +kernel
theorem d27_1 : decode jdk_93_method_8_code 1 = .ok (.getfield 10, 3) := by decide +kernel
theorem d27_4 : decode jdk_93_method_8_code 4 = .ok (.invokevirtual 56, 3) := by decide +kernel
theorem d27_7 : decode jdk_93_method_8_code 7 = .ok (.ireturn, 1) := by decide +kernel
theorem d28_0 : decode jdk_69_method_11_code 0 = .ok (.aload_n 0, 1) := by decide +kernel
theorem d28_1 : decode jdk_69_method_11_code 1 = .ok (.getfield 156, 3) := by decide +kernel
theorem d28_4 : decode jdk_69_method_11_code 4 = .ok (.ifCond .ne 7, 3) := by decide +kernel
theorem d28_11 : decode jdk_69_method_11_code 11 = .ok (.iconst 0, 1) := by decide +kernel
theorem d28_12 : decode jdk_69_method_11_code 12 = .ok (.ireturn, 1) := by decide +kernel
theorem d29_0 : decode jdk_38_method_8_code 0 = .ok (.aload_n 0, 1) := by decide +kernel
theorem d29_1 : decode jdk_38_method_8_code 1 = .ok (.getfield 48, 3) := by decide +kernel
theorem d29_4 : decode jdk_38_method_8_code 4 = .ok (.ireturn, 1) := by decide +kernel
theorem d30_0 : decode jdk_93_method_7_code 0 = .ok (.aload_n 0, 1) := by decide +kernel
theorem d30_1 : decode jdk_93_method_7_code 1 = .ok (.getfield 10, 3) := by decide +kernel
theorem d30_4 : decode jdk_93_method_7_code 4 = .ok (.invokevirtual 55, 3) := by decide +kernel
theorem d30_7 : decode jdk_93_method_7_code 7 = .ok (.ireturn, 1) := by decide +kernel
theorem d31_0 : decode jdk_69_method_10_code 0 = .ok (.aload_n 0, 1) := by decide +kernel
theorem d31_1 : decode jdk_69_method_10_code 1 = .ok (.getfield 156, 3) := by decide +kernel
theorem d31_4 : decode jdk_69_method_10_code 4 = .ok (.ireturn, 1) := by decide +kernel
theorem d32_0 : decode jdk_29_method_69_code 0 = .ok (.iload_n 0, 1) := by decide +kernel
theorem d32_1 : decode jdk_29_method_69_code 1 = .ok (.iload_n 1, 1) := by decide +kernel
theorem d32_2 : decode jdk_29_method_69_code 2 = .ok (.if_icmp .gt 7, 3) := by decide +kernel
theorem d32_5 : decode jdk_29_method_69_code 5 = .ok (.iload_n 0, 1) := by decide +kernel
theorem d32_6 : decode jdk_29_method_69_code 6 = .ok (.goto 4, 3) := by decide +kernel
theorem d32_9 : decode jdk_29_method_69_code 9 = .ok (.iload_n 1, 1) := by decide +kernel
theorem d32_10 : decode jdk_29_method_69_code 10 = .ok (.ireturn, 1) := by decide +kernel
theorem d33_0 : decode jdk_65_method_123_code 0 = .ok (.iload_n 1, 1) := by decide +kernel
theorem d33_1 : decode jdk_65_method_123_code 1 = .ok (.aload_n 0, 1) := by decide +kernel
theorem d33_2 : decode jdk_65_method_123_code 2 = .ok (.arraylength, 1) := by decide +kernel
theorem d33_3 : decode jdk_65_method_123_code 3 = .ok (.if_icmp .ne 11, 3) := by decide +kernel
theorem d33_6 : decode jdk_65_method_123_code 6 = .ok (.aload_n 0, 1) := by decide +kernel
theorem d33_7 : decode jdk_65_method_123_code 7 = .ok (.invokevirtual 316, 3) := by decide +kernel
theorem d33_10 : decode jdk_65_method_123_code 10 = .ok (.checkcast 317, 3) := by decide +kernel
theorem d33_13 : decode jdk_65_method_123_code 13 = .ok (.areturn, 1) := by decide +kernel
theorem d33_14 : decode jdk_65_method_123_code 14 = .ok (.iload_n 1, 1) := by decide +kernel
theorem d33_15 : decode jdk_65_method_123_code 15 = .ok (.newarray .int, 2) := by decide +kernel
theorem d33_17 : decode jdk_65_method_123_code 17 = .ok (.astore_n 2, 1) := by decide +kernel
theorem d33_18 : decode jdk_65_method_123_code 18 = .ok (.aload_n 0, 1) := by decide +kernel
theorem d33_19 : decode jdk_65_method_123_code 19 = .ok (.iconst 0, 1) := by decide +kernel
theorem d33_20 : decode jdk_65_method_123_code 20 = .ok (.aload_n 2, 1) := by decide +kernel
theorem d33_21 : decode jdk_65_method_123_code 21 = .ok (.iconst 0, 1) := by decide +kernel
theorem d33_22 : decode jdk_65_method_123_code 22 = .ok (.aload_n 0, 1) := by decide +kernel
theorem d33_23 : decode jdk_65_method_123_code 23 = .ok (.arraylength, 1) := by decide +kernel
theorem d33_24 : decode jdk_65_method_123_code 24 = .ok (.iload_n 1, 1) := by decide +kernel
theorem d33_25 : decode jdk_65_method_123_code 25 = .ok (.invokestatic 304, 3) := by decide +kernel
theorem d33_28 : decode jdk_65_method_123_code 28 = .ok (.invokestatic 150, 3) := by decide +kernel
theorem d33_31 : decode jdk_65_method_123_code 31 = .ok (.aload_n 2, 1) := by decide +kernel
theorem d33_32 : decode jdk_65_method_123_code 32 = .ok (.areturn, 1) := by decide +kernel
theorem d34_0 : decode prog_53_method_7_code 0 = .ok (.aload_n 0, 1) := by decide +kernel
theorem d34_1 : decode prog_53_method_7_code 1 = .ok (.iload_n 1, 1) := by decide +kernel
theorem d34_2 : decode prog_53_method_7_code 2 = .ok (.invokevirtual 57, 3) := by decide +kernel
theorem d34_5 : decode prog_53_method_7_code 5 = .ok (.istore_n 2, 1) := by decide +kernel
theorem d34_6 : decode prog_53_method_7_code 6 = .ok (.lconst 0, 1) := by decide +kernel
theorem d34_7 : decode prog_53_method_7_code 7 = .ok (.lstore_n 3, 1) := by decide +kernel
theorem d34_8 : decode prog_53_method_7_code 8 = .ok (.iconst 0, 1) := by decide +kernel
theorem d34_9 : decode prog_53_method_7_code 9 = .ok (.istore 5, 2) := by decide +kernel
theorem d34_11 : decode prog_53_method_7_code 11 = .ok (.iload 5, 2) := by decide +kernel
theorem d34_13 : decode prog_53_method_7_code 13 = .ok (.iload_n 2, 1) := by decide +kernel
theorem d34_14 : decode prog_53_method_7_code 14 = .ok (.if_icmp .ge 20, 3) := by decide +kernel
theorem d34_17 : decode prog_53_method_7_code 17 = .ok (.lload_n 3, 1) := by decide +kernel
theorem d34_18 : decode prog_53_method_7_code 18 = .ok (.aload_n 0, 1) := by decide +kernel
theorem d34_19 : decode prog_53_method_7_code 19 = .ok (.getfield 47, 3) := by decide +kernel
theorem d34_22 : decode prog_53_method_7_code 22 = .ok (.iload 5, 2) := by decide +kernel
theorem d34_24 : decode prog_53_method_7_code 24 = .ok (.iaload, 1) := by decide +kernel
theorem d34_25 : decode prog_53_method_7_code 25 = .ok (.i2l, 1) := by decide +kernel
theorem d34_26 : decode prog_53_method_7_code 26 = .ok (.ladd, 1) := by decide +kernel
theorem d34_27 : decode prog_53_method_7_code 27 = .ok (.lstore_n 3, 1) := by decide +kernel
theorem d34_28 : decode prog_53_method_7_code 28 = .ok (.iinc 5 1, 3) := by decide +kernel
theorem d34_31 : decode prog_53_method_7_code 31 = .ok (.goto (-20), 3) := by decide +kernel
theorem d34_34 : decode prog_53_method_7_code 34 = .ok (.iload_n 2, 1) := by decide +kernel
theorem d34_35 : decode prog_53_method_7_code 35 = .ok (.iconst 1, 1) := by decide +kernel
theorem d34_36 : decode prog_53_method_7_code 36 = .ok (.iadd, 1) := by decide +kernel
theorem d34_37 : decode prog_53_method_7_code 37 = .ok (.istore 5, 2) := by decide +kernel
theorem d34_39 : decode prog_53_method_7_code 39 = .ok (.iload 5, 2) := by decide +kernel
theorem d34_41 : decode prog_53_method_7_code 41 = .ok (.aload_n 0, 1) := by decide +kernel
theorem d34_42 : decode prog_53_method_7_code 42 = .ok (.getfield 53, 3) := by decide +kernel
theorem d34_45 : decode prog_53_method_7_code 45 = .ok (.if_icmp .gt 18, 3) := by decide +kernel
theorem d34_48 : decode prog_53_method_7_code 48 = .ok (.lload_n 3, 1) := by decide +kernel
theorem d34_49 : decode prog_53_method_7_code 49 = .ok (.iload_n 1, 1) := by decide +kernel
theorem d34_50 : decode prog_53_method_7_code 50 = .ok (.i2l, 1) := by decide +kernel
theorem d34_51 : decode prog_53_method_7_code 51 = .ok (.iload 5, 2) := by decide +kernel
theorem d34_53 : decode prog_53_method_7_code 53 = .ok (.i2l, 1) := by decide +kernel
theorem d34_54 : decode prog_53_method_7_code 54 = .ok (.ladd, 1) := by decide +kernel
theorem d34_55 : decode prog_53_method_7_code 55 = .ok (.ladd, 1) := by decide +kernel
theorem d34_56 : decode prog_53_method_7_code 56 = .ok (.lstore_n 3, 1) := by decide +kernel
theorem d34_57 : decode prog_53_method_7_code 57 = .ok (.iinc 5 1, 3) := by decide +kernel
theorem d34_60 : decode prog_53_method_7_code 60 = .ok (.goto (-21), 3) := by decide +kernel
theorem d34_63 : decode prog_53_method_7_code 63 = .ok (.lload_n 3, 1) := by decide +kernel
theorem d34_64 : decode prog_53_method_7_code 64 = .ok (.l2d, 1) := by decide +kernel
theorem d34_65 : decode prog_53_method_7_code 65 = .ok (.aload_n 0, 1) := by decide +kernel
theorem d34_66 : decode prog_53_method_7_code 66 = .ok (.getfield 53, 3) := by decide +kernel
theorem d34_69 : decode prog_53_method_7_code 69 = .ok (.i2d, 1) := by decide +kernel
theorem d34_70 : decode prog_53_method_7_code 70 = .ok (.ddiv, 1) := by decide +kernel
theorem d34_71 : decode prog_53_method_7_code 71 = .ok (.dstore 5, 2) := by decide +kernel
theorem d34_73 : decode prog_53_method_7_code 73 = .ok (.dconst 1, 1) := by decide +kernel
theorem d34_74 : decode prog_53_method_7_code 74 = .ok (.dload 5, 2) := by decide +kernel
theorem d34_76 : decode prog_53_method_7_code 76 = .ok (.aload_n 0, 1) := by decide +kernel
theorem d34_77 : decode prog_53_method_7_code 77 = .ok (.getfield 53, 3) := by decide +kernel
theorem d34_80 : decode prog_53_method_7_code 80 = .ok (.iconst 1, 1) := by decide +kernel
theorem d34_81 : decode prog_53_method_7_code 81 = .ok (.iadd, 1) := by decide +kernel
theorem d34_82 : decode prog_53_method_7_code 82 = .ok (.i2d, 1) := by decide +kernel
theorem d34_83 : decode prog_53_method_7_code 83 = .ok (.ldc2_w 61, 3) := by decide +kernel
theorem d34_86 : decode prog_53_method_7_code 86 = .ok (.ddiv, 1) := by decide +kernel
theorem d34_87 : decode prog_53_method_7_code 87 = .ok (.dsub, 1) := by decide +kernel
theorem d34_88 : decode prog_53_method_7_code 88 = .ok (.iload_n 1, 1) := by decide +kernel
theorem d34_89 : decode prog_53_method_7_code 89 = .ok (.i2d, 1) := by decide +kernel
theorem d34_90 : decode prog_53_method_7_code 90 = .ok (.ddiv, 1) := by decide +kernel
theorem d34_91 : decode prog_53_method_7_code 91 = .ok (.dsub, 1) := by decide +kernel
theorem d34_92 : decode prog_53_method_7_code 92 = .ok (.dreturn, 1) := by decide +kernel
theorem d35_0 : decode prog_53_method_8_code 0 = .ok (.iconst 0, 1) := by decide +kernel
theorem d35_1 : decode prog_53_method_8_code 1 = .ok (.istore_n 2, 1) := by decide +kernel
theorem d35_2 : decode prog_53_method_8_code 2 = .ok (.iload_n 2, 1) := by decide +kernel
theorem d35_3 : decode prog_53_method_8_code 3 = .ok (.aload_n 0, 1) := by decide +kernel
theorem d35_4 : decode prog_53_method_8_code 4 = .ok (.getfield 47, 3) := by decide +kernel
theorem d35_7 : decode prog_53_method_8_code 7 = .ok (.arraylength, 1) := by decide +kernel
theorem d35_8 : decode prog_53_method_8_code 8 = .ok (.if_icmp .ge 19, 3) := by decide +kernel
theorem d35_11 : decode prog_53_method_8_code 11 = .ok (.aload_n 0, 1) := by decide +kernel
theorem d35_12 : decode prog_53_method_8_code 12 = .ok (.getfield 47, 3) := by decide +kernel
theorem d35_15 : decode prog_53_method_8_code 15 = .ok (.iload_n 2, 1) := by decide +kernel
theorem d35_16 : decode prog_53_method_8_code 16 = .ok (.iaload, 1) := by decide +kernel
theorem d35_17 : decode prog_53_method_8_code 17 = .ok (.iload_n 1, 1) := by decide +kernel
theorem d35_18 : decode prog_53_method_8_code 18 = .ok (.if_icmp .gt 9, 3) := by decide +kernel
theorem d35_21 : decode prog_53_method_8_code 21 = .ok (.iinc 2 1, 3) := by decide +kernel
theorem d35_24 : decode prog_53_method_8_code 24 = .ok (.goto (-22), 3) := by decide +kernel
theorem d35_27 : decode prog_53_method_8_code 27 = .ok (.iload_n 2, 1) := by decide +kernel
theorem d35_28 : decode prog_53_method_8_code 28 = .ok (.ireturn, 1) := by decide +kernel
theorem d36_0 : decode method_4_code 0 = .ok (.iload_n 0, 1) := by decide +kernel
theorem d36_1 : decode method_4_code 1 = .ok (.ifCond .eq 12, 3) := by decide +kernel
theorem d36_4 : decode method_4_code 4 = .ok (.iload_n 1, 1) := by decide +kernel
theorem d36_5 : decode method_4_code 5 = .ok (.iload_n 2, 1) := by decide +kernel
theorem d36_6 : decode method_4_code 6 = .ok (.if_icmp .gt 7, 3) := by decide +kernel
theorem d36_9 : decode method_4_code 9 = .ok (.iconst 1, 1) := by decide +kernel
theorem d36_10 : decode method_4_code 10 = .ok (.goto 4, 3) := by decide +kernel
theorem d36_13 : decode method_4_code 13 = .ok (.iconst 0, 1) := by decide +kernel
theorem d36_14 : decode method_4_code 14 = .ok (.ireturn, 1) := by decide +kernel
theorem d37_0 : decode method_5_code 0 = .ok (.iload_n 0, 1) := by decide +kernel
theorem d37_1 : decode method_5_code 1 = .ok (.ifCond .eq 13, 3) := by decide +kernel
theorem d37_4 : decode method_5_code 4 = .ok (.iload_n 1, 1) := by decide +kernel
theorem d37_5 : decode method_5_code 5 = .ok (.iload_n 2, 1) := by decide +kernel
theorem d37_6 : decode method_5_code 6 = .ok (.if_icmp .gt 8, 3) := by decide +kernel
theorem d37_9 : decode method_5_code 9 = .ok (.iload_n 1, 1) := by decide +kernel
theorem d37_10 : decode method_5_code 10 = .ok (.i2l, 1) := by decide +kernel
theorem d37_11 : decode method_5_code 11 = .ok (.goto 4, 3) := by decide +kernel
theorem d37_14 : decode method_5_code 14 = .ok (.lconst 0, 1) := by decide +kernel
theorem d37_15 : decode method_5_code 15 = .ok (.lreturn, 1) := by decide +kernel
theorem d38_0 : decode jdk_38_method_25_code 0 = .ok (.aload_n 0, 1) := by decide +kernel
theorem d38_1 : decode jdk_38_method_25_code 1 = .ok (.dup, 1) := by decide +kernel
theorem d38_2 : decode jdk_38_method_25_code 2 = .ok (.getfield 63, 3) := by decide +kernel
theorem d38_5 : decode jdk_38_method_25_code 5 = .ok (.iconst 1, 1) := by decide +kernel
theorem d38_6 : decode jdk_38_method_25_code 6 = .ok (.iadd, 1) := by decide +kernel
theorem d38_7 : decode jdk_38_method_25_code 7 = .ok (.putfield 63, 3) := by decide +kernel
theorem d38_10 : decode jdk_38_method_25_code 10 = .ok (.aload_n 0, 1) := by decide +kernel
theorem d38_11 : decode jdk_38_method_25_code 11 = .ok (.aload_n 1, 1) := by decide +kernel
theorem d38_12 : decode jdk_38_method_25_code 12 = .ok (.aload_n 0, 1) := by decide +kernel
theorem d38_13 : decode jdk_38_method_25_code 13 = .ok (.getfield 9, 3) := by decide +kernel
theorem d38_16 : decode jdk_38_method_25_code 16 = .ok (.aload_n 0, 1) := by decide +kernel
theorem d38_17 : decode jdk_38_method_25_code 17 = .ok (.getfield 48, 3) := by decide +kernel
theorem d38_20 : decode jdk_38_method_25_code 20 = .ok (.invokevirtual 131, 3) := by decide +kernel
theorem d38_23 : decode jdk_38_method_25_code 23 = .ok (.iconst 1, 1) := by decide +kernel
theorem d38_24 : decode jdk_38_method_25_code 24 = .ok (.ireturn, 1) := by decide +kernel
theorem d39_0 : decode jdk_38_method_24_code 0 = .ok (.iload_n 3, 1) := by decide +kernel
theorem d39_1 : decode jdk_38_method_24_code 1 = .ok (.aload_n 2, 1) := by decide +kernel
theorem d39_2 : decode jdk_38_method_24_code 2 = .ok (.arraylength, 1) := by decide +kernel
theorem d39_3 : decode jdk_38_method_24_code 3 = .ok (.if_icmp .ne 8, 3) := by decide +kernel
theorem d39_6 : decode jdk_38_method_24_code 6 = .ok (.aload_n 0, 1) := by decide +kernel
theorem d39_7 : decode jdk_38_method_24_code 7 = .ok (.invokevirtual 129, 3) := by decide +kernel
theorem d39_10 : decode jdk_38_method_24_code 10 = .ok (.astore_n 2, 1) := by decide +kernel
theorem d39_11 : decode jdk_38_method_24_code 11 = .ok (.aload_n 2, 1) := by decide +kernel
theorem d39_12 : decode jdk_38_method_24_code 12 = .ok (.iload_n 3, 1) := by decide +kernel
theorem d39_13 : decode jdk_38_method_24_code 13 = .ok (.aload_n 1, 1) := by decide +kernel
theorem d39_14 : decode jdk_38_method_24_code 14 = .ok (.aastore, 1) := by decide +kernel
theorem d39_15 : decode jdk_38_method_24_code 15 = .ok (.aload_n 0, 1) := by decide +kernel
theorem d39_16 : decode jdk_38_method_24_code 16 = .ok (.iload_n 3, 1) := by decide +kernel
theorem d39_17 : decode jdk_38_method_24_code 17 = .ok (.iconst 1, 1) := by decide +kernel
theorem d39_18 : decode jdk_38_method_24_code 18 = .ok (.iadd, 1) := by decide +kernel
theorem d39_19 : decode jdk_38_method_24_code 19 = .ok (.putfield 48, 3) := by decide +kernel
theorem d39_22 : decode jdk_38_method_24_code 22 = .ok (.return_, 1) := by decide +kernel
theorem d40_0 : decode jdk_38_method_7_code 0 = .ok (.aload_n 0, 1) := by decide +kernel
theorem d40_1 : decode jdk_38_method_7_code 1 = .ok (.aload_n 0, 1) := by decide +kernel
theorem d40_2 : decode jdk_38_method_7_code 2 = .ok (.getfield 48, 3) := by decide +kernel
theorem d40_5 : decode jdk_38_method_7_code 5 = .ok (.iconst 1, 1) := by decide +kernel
theorem d40_6 : decode jdk_38_method_7_code 6 = .ok (.iadd, 1) := by decide +kernel
theorem d40_7 : decode jdk_38_method_7_code 7 = .ok (.invokevirtual 69, 3) := by decide +kernel
theorem d40_10 : decode jdk_38_method_7_code 10 = .ok (.areturn, 1) := by decide +kernel
theorem d41_0 : decode jdk_38_method_6_code 0 = .ok (.aload_n 0, 1) := by decide +kernel
theorem d41_1 : decode jdk_38_method_6_code 1 = .ok (.getfield 9, 3) := by decide +kernel
theorem d41_4 : decode jdk_38_method_6_code 4 = .ok (.arraylength, 1) := by decide +kernel
theorem d41_5 : decode jdk_38_method_6_code 5 = .ok (.istore_n 2, 1) := by decide +kernel
theorem d41_6 : decode jdk_38_method_6_code 6 = .ok (.iload_n 2, 1) := by decide +kernel
theorem d41_7 : decode jdk_38_method_6_code 7 = .ok (.ifCond .gt 13, 3) := by decide +kernel
theorem d41_10 : decode jdk_38_method_6_code 10 = .ok (.aload_n 0, 1) := by decide +kernel
theorem d41_11 : decode jdk_38_method_6_code 11 = .ok (.getfield 9, 3) := by decide +kernel
theorem d41_14 : decode jdk_38_method_6_code 14 = .ok (.getstatic 39, 3) := by decide +kernel
theorem d41_17 : decode jdk_38_method_6_code 17 = .ok (.if_acmp .eq 28, 3) := by decide +kernel
theorem d41_45 : decode jdk_38_method_6_code 45 = .ok (.aload_n 0, 1) := by decide +kernel
theorem d41_46 : decode jdk_38_method_6_code 46 = .ok (.bipush 10, 2) := by decide +kernel
theorem d41_48 : decode jdk_38_method_6_code 48 = .ok (.iload_n 1, 1) := by decide +kernel
theorem d41_49 : decode jdk_38_method_6_code 49 = .ok (.invokestatic 79, 3) := by decide +kernel
theorem d41_52 : decode jdk_38_method_6_code 52 = .ok (.anewarray 7, 3) := by decide +kernel
theorem d41_55 : decode jdk_38_method_6_code 55 = .ok (.dup_x1, 1) := by decide +kernel
theorem d41_56 : decode jdk_38_method_6_code 56 = .ok (.putfield 9, 3) := by decide +kernel
theorem d41_59 : decode jdk_38_method_6_code 59 = .ok (.areturn, 1) := by decide +kernel
theorem d42_0 : decode jdk_38_method_20_code 0 = .ok (.iload_n 1, 1) := by decide +kernel
theorem d42_1 : decode jdk_38_method_20_code 1 = .ok (.aload_n 0, 1) := by decide +kernel
theorem d42_2 : decode jdk_38_method_20_code 2 = .ok (.getfield 48, 3) := by decide +kernel
theorem d42_5 : decode jdk_38_method_20_code 5 = .ok (.invokestatic 118, 3) := by decide +kernel
theorem d42_8 : decode jdk_38_method_20_code 8 = .ok (.pop, 1) := by decide +kernel
theorem d42_9 : decode jdk_38_method_20_code 9 = .ok (.aload_n 0, 1) := by decide +kernel
theorem d42_10 : decode jdk_38_method_20_code 10 = .ok (.iload_n 1, 1) := by decide +kernel
theorem d42_11 : decode jdk_38_method_20_code 11 = .ok (.invokevirtual 123, 3) := by decide +kernel
theorem d42_14 : decode jdk_38_method_20_code 14 = .ok (.areturn, 1) := by decide +kernel
theorem d43_0 : decode jdk_31_method_17_code 0 = .ok (.iload_n 0, 1) := by decide +kernel
theorem d43_1 : decode jdk_31_method_17_code 1 = .ok (.iload_n 1, 1) := by decide +kernel
theorem d43_2 : decode jdk_31_method_17_code 2 = .ok (.aconst_null, 1) := by decide +kernel
theorem d43_3 : decode jdk_31_method_17_code 3 = .ok (.invokestatic 105, 3) := by decide +kernel
theorem d43_6 : decode jdk_31_method_17_code 6 = .ok (.ireturn, 1) := by decide +kernel
theorem d44_0 : decode jdk_41_method_11_code 0 = .ok (.iload_n 0, 1) := by decide +kernel
theorem d44_1 : decode jdk_41_method_11_code 1 = .ok (.ifCond .lt 8, 3) := by decide +kernel
theorem d44_4 : decode jdk_41_method_11_code 4 = .ok (.iload_n 0, 1) := by decide +kernel
theorem d44_5 : decode jdk_41_method_11_code 5 = .ok (.iload_n 1, 1) := by decide +kernel
theorem d44_6 : decode jdk_41_method_11_code 6 = .ok (.if_icmp .lt 10, 3) := by decide +kernel
theorem d44_16 : decode jdk_41_method_11_code 16 = .ok (.iload_n 0, 1) := by decide +kernel
theorem d44_17 : decode jdk_41_method_11_code 17 = .ok (.ireturn, 1) := by decide +kernel
theorem d45_0 : decode jdk_38_method_18_code 0 = .ok (.aload_n 0, 1) := by decide +kernel
theorem d45_1 : decode jdk_38_method_18_code 1 = .ok (.getfield 9, 3) := by decide +kernel
theorem d45_4 : decode jdk_38_method_18_code 4 = .ok (.iload_n 1, 1) := by decide +kernel
theorem d45_5 : decode jdk_38_method_18_code 5 = .ok (.aaload, 1) := by decide +kernel
theorem d45_6 : decode jdk_38_method_18_code 6 = .ok (.areturn, 1) := by decide +kernel
theorem d46_0 : decode jdk_93_method_9_code 0 = .ok (.aload_n 0, 1) := by decide +kernel
theorem d46_1 : decode jdk_93_method_9_code 1 = .ok (.getfield 10, 3) := by decide +kernel
theorem d46_4 : decode jdk_93_method_9_code 4 = .ok (.aload_n 1, 1) := by decide +kernel
theorem d46_5 : decode jdk_93_method_9_code 5 = .ok (.invokevirtual 60, 3) := by decide +kernel
theorem d46_8 : decode jdk_93_method_9_code 8 = .ok (.ireturn, 1) := by decide +kernel
theorem d47_0 : decode jdk_69_method_14_code 0 = .ok (.aload_n 0, 1) := by decide +kernel
theorem d47_1 : decode jdk_69_method_14_code 1 = .ok (.aload_n 1, 1) := by decide +kernel
theorem d47_2 : decode jdk_69_method_14_code 2 = .ok (.invokevirtual 158, 3) := by decide +kernel
theorem d47_5 : decode jdk_69_method_14_code 5 = .ok (.ifnull 7, 3) := by decide +kernel
theorem d47_8 : decode jdk_69_method_14_code 8 = .ok (.iconst 1, 1) := by decide +kernel
theorem d47_9 : decode jdk_69_method_14_code 9 = .ok (.goto 4, 3) := by decide +kernel
theorem d47_12 : decode jdk_69_method_14_code 12 = .ok (.iconst 0, 1) := by decide +kernel
theorem d47_13 : decode jdk_69_method_14_code 13 = .ok (.ireturn, 1) := by decide +kernel
theorem d48_0 : decode jdk_69_method_13_code 0 = .ok (.aload_n 0, 1) := by decide +kernel
theorem d48_1 : decode jdk_69_method_13_code 1 = .ok (.getfield 105, 3) := by decide +kernel
theorem d48_4 : decode jdk_69_method_13_code 4 = .ok (.dup, 1) := by decide +kernel
theorem d48_5 : decode jdk_69_method_13_code 5 = .ok (.astore_n 2, 1) := by decide +kernel
theorem d48_6 : decode jdk_69_method_13_code 6 = .ok (.ifnull 142, 3) := by decide +kernel
theorem d48_9 : decode jdk_69_method_13_code 9 = .ok (.aload_n 2, 1) := by decide +kernel
theorem d48_10 : decode jdk_69_method_13_code 10 = .ok (.arraylength, 1) := by decide +kernel
theorem d48_11 : decode jdk_69_method_13_code 11 = .ok (.dup, 1) := by decide +kernel
theorem d48_12 : decode jdk_69_method_13_code 12 = .ok (.istore 5, 2) := by decide +kernel
theorem d48_14 : decode jdk_69_method_13_code 14 = .ok (.ifCond .le 134, 3) := by decide +kernel
theorem d48_17 : decode jdk_69_method_13_code 17 = .ok (.aload_n 2, 1) := by decide +kernel
theorem d48_18 : decode jdk_69_method_13_code 18 = .ok (.iload 5, 2) := by decide +kernel
theorem d48_20 : decode jdk_69_method_13_code 20 = .ok (.iconst 1, 1) := by decide +kernel
theorem d48_21 : decode jdk_69_method_13_code 21 = .ok (.isub, 1) := by decide +kernel
theorem d48_22 : decode jdk_69_method_13_code 22 = .ok (.aload_n 1, 1) := by decide +kernel
theorem d48_23 : decode jdk_69_method_13_code 23 = .ok (.invokestatic 149, 3) := by decide +kernel
theorem d48_26 : decode jdk_69_method_13_code 26 = .ok (.dup, 1) := by decide +kernel
theorem d48_27 : decode jdk_69_method_13_code 27 = .ok (.istore 6, 2) := by decide +kernel
theorem d48_29 : decode jdk_69_method_13_code 29 = .ok (.iand, 1) := by decide +kernel
theorem d48_30 : decode jdk_69_method_13_code 30 = .ok (.aaload, 1) := by decide +kernel
theorem d48_31 : decode jdk_69_method_13_code 31 = .ok (.dup, 1) := by decide +kernel
theorem d48_32 : decode jdk_69_method_13_code 32 = .ok (.astore_n 3, 1) := by decide +kernel
theorem d48_33 : decode jdk_69_method_13_code 33 = .ok (.ifnull 115, 3) := by decide +kernel
theorem d48_36 : decode jdk_69_method_13_code 36 = .ok (.aload_n 3, 1) := by decide +kernel
theorem d48_37 : decode jdk_69_method_13_code 37 = .ok (.getfield 168, 3) := by decide +kernel
theorem d48_40 : decode jdk_69_method_13_code 40 = .ok (.iload 6, 2) := by decide +kernel
theorem d48_42 : decode jdk_69_method_13_code 42 = .ok (.if_icmp .ne 29, 3) := by decide +kernel
theorem d48_45 : decode jdk_69_method_13_code 45 = .ok (.aload_n 3, 1) := by decide +kernel
theorem d48_46 : decode jdk_69_method_13_code 46 = .ok (.getfield 170, 3) := by decide +kernel
theorem d48_49 : decode jdk_69_method_13_code 49 = .ok (.dup, 1) := by decide +kernel
theorem d48_50 : decode jdk_69_method_13_code 50 = .ok (.astore 7, 2) := by decide +kernel
theorem d48_52 : decode jdk_69_method_13_code 52 = .ok (.aload_n 1, 1) := by decide +kernel
theorem d48_53 : decode jdk_69_method_13_code 53 = .ok (.if_acmp .eq 16, 3) := by decide +kernel
theorem d48_56 : decode jdk_69_method_13_code 56 = .ok (.aload_n 1, 1) := by decide +kernel
theorem d48_57 : decode jdk_69_method_13_code 57 = .ok (.ifnull 14, 3) := by decide +kernel
theorem d48_60 : decode jdk_69_method_13_code 60 = .ok (.aload_n 1, 1) := by decide +kernel
theorem d48_61 : decode jdk_69_method_13_code 61 = .ok (.aload 7, 2) := by decide +kernel
theorem d48_63 : decode jdk_69_method_13_code 63 = .ok (.invokevirtual 173, 3) := by decide +kernel
theorem d48_66 : decode jdk_69_method_13_code 66 = .ok (.ifCond .eq 5, 3) := by decide +kernel
theorem d48_69 : decode jdk_69_method_13_code 69 = .ok (.aload_n 3, 1) := by decide +kernel
theorem d48_70 : decode jdk_69_method_13_code 70 = .ok (.areturn, 1) := by decide +kernel
theorem d48_148 : decode jdk_69_method_13_code 148 = .ok (.aconst_null, 1) := by decide +kernel
theorem d48_149 : decode jdk_69_method_13_code 149 = .ok (.areturn, 1) := by decide +kernel
theorem d49_0 : decode jdk_42_method_66_code 0 = .ok (.aload_n 0, 1) := by decide +kernel
theorem d49_1 : decode jdk_42_method_66_code 1 = .ok (.aload_n 1, 1) := by decide +kernel
theorem d49_2 : decode jdk_42_method_66_code 2 = .ok (.if_acmp .ne 5, 3) := by decide +kernel
theorem d49_7 : decode jdk_42_method_66_code 7 = .ok (.aload_n 1, 1) := by decide +kernel
theorem d49_8 : decode jdk_42_method_66_code 8 = .ok (.instanceof 10, 3) := by decide +kernel
theorem d49_11 : decode jdk_42_method_66_code 11 = .ok (.ifCond .eq 43, 3) := by decide +kernel
theorem d49_14 : decode jdk_42_method_66_code 14 = .ok (.aload_n 1, 1) := by decide +kernel
theorem d49_15 : decode jdk_42_method_66_code 15 = .ok (.checkcast 10, 3) := by decide +kernel
theorem d49_18 : decode jdk_42_method_66_code 18 = .ok (.astore_n 2, 1) := by decide +kernel
theorem d49_19 : decode jdk_42_method_66_code 19 = .ok (.getstatic 38, 3) := by decide +kernel
theorem d49_22 : decode jdk_42_method_66_code 22 = .ok (.ifCond .eq 14, 3) := by decide +kernel
theorem d49_25 : decode jdk_42_method_66_code 25 = .ok (.aload_n 0, 1) := by decide +kernel
theorem d49_26 : decode jdk_42_method_66_code 26 = .ok (.getfield 15, 3) := by decide +kernel
theorem d49_29 : decode jdk_42_method_66_code 29 = .ok (.aload_n 2, 1) := by decide +kernel
theorem d49_30 : decode jdk_42_method_66_code 30 = .ok (.getfield 15, 3) := by decide +kernel
theorem d49_33 : decode jdk_42_method_66_code 33 = .ok (.if_icmp .ne 21, 3) := by decide +kernel
theorem d49_36 : decode jdk_42_method_66_code 36 = .ok (.aload_n 0, 1) := by decide +kernel
theorem d49_37 : decode jdk_42_method_66_code 37 = .ok (.getfield 9, 3) := by decide +kernel
theorem d49_40 : decode jdk_42_method_66_code 40 = .ok (.aload_n 2, 1) := by decide +kernel
theorem d49_41 : decode jdk_42_method_66_code 41 = .ok (.getfield 9, 3) := by decide +kernel
theorem d49_44 : decode jdk_42_method_66_code 44 = .ok (.invokestatic 541, 3) := by decide +kernel
theorem d49_47 : decode jdk_42_method_66_code 47 = .ok (.ifCond .eq 7, 3) := by decide +kernel
theorem d49_50 : decode jdk_42_method_66_code 50 = .ok (.iconst 1, 1) := by decide +kernel
theorem d49_51 : decode jdk_42_method_66_code 51 = .ok (.goto 4, 3) := by decide +kernel
theorem d49_55 : decode jdk_42_method_66_code 55 = .ok (.ireturn, 1) := by decide +kernel
theorem d50_0 : decode jdk_43_method_13_code 0 = .ok (.aload_n 0, 1) := by decide +kernel
theorem d50_1 : decode jdk_43_method_13_code 1 = .ok (.arraylength, 1) := by decide +kernel
theorem d50_2 : decode jdk_43_method_13_code 2 = .ok (.aload_n 1, 1) := by decide +kernel
theorem d50_3 : decode jdk_43_method_13_code 3 = .ok (.arraylength, 1) := by decide +kernel
theorem d50_4 : decode jdk_43_method_13_code 4 = .ok (.if_icmp .ne 30, 3) := by decide +kernel
theorem d50_7 : decode jdk_43_method_13_code 7 = .ok (.iconst 0, 1) := by decide +kernel
theorem d50_8 : decode jdk_43_method_13_code 8 = .ok (.istore_n 2, 1) := by decide +kernel
theorem d50_9 : decode jdk_43_method_13_code 9 = .ok (.iload_n 2, 1) := by decide +kernel
theorem d50_10 : decode jdk_43_method_13_code 10 = .ok (.aload_n 0, 1) := by decide +kernel
theorem d50_11 : decode jdk_43_method_13_code 11 = .ok (.arraylength, 1) := by decide +kernel
theorem d50_12 : decode jdk_43_method_13_code 12 = .ok (.if_icmp .ge 20, 3) := by decide +kernel
theorem d50_15 : decode jdk_43_method_13_code 15 = .ok (.aload_n 0, 1) := by decide +kernel
theorem d50_16 : decode jdk_43_method_13_code 16 = .ok (.iload_n 2, 1) := by decide +kernel
theorem d50_17 : decode jdk_43_method_13_code 17 = .ok (.baload, 1) := by decide +kernel
theorem d50_18 : decode jdk_43_method_13_code 18 = .ok (.aload_n 1, 1) := by decide +kernel
theorem d50_19 : decode jdk_43_method_13_code 19 = .ok (.iload_n 2, 1) := by decide +kernel
theorem d50_20 : decode jdk_43_method_13_code 20 = .ok (.baload, 1) := by decide +kernel
theorem d50_21 : decode jdk_43_method_13_code 21 = .ok (.if_icmp .eq 5, 3) := by decide +kernel
theorem d50_26 : decode jdk_43_method_13_code 26 = .ok (.iinc 2 1, 3) := by decide +kernel
theorem d50_29 : decode jdk_43_method_13_code 29 = .ok (.goto (-20), 3) := by decide +kernel
theorem d50_32 : decode jdk_43_method_13_code 32 = .ok (.iconst 1, 1) := by decide +kernel
theorem d50_33 : decode jdk_43_method_13_code 33 = .ok (.ireturn, 1) := by decide +kernel
theorem pd_0 : parseMethodDescriptor "()V" = some ⟨[], none⟩ := by decide +kernel
theorem pd_1 : parseMethodDescriptor "(C)Z" = some ⟨[.char], some .boolean⟩ := by decide +kernel
theorem pd_2 : parseMethodDescriptor "(C)[B" = some ⟨[.char], some (.array .byte)⟩ := by decide +kernel
theorem pd_3 : parseMethodDescriptor "([BB)V" = some ⟨[(.array .byte), .byte], none⟩ := by decide +kernel
theorem pd_4 : parseMethodDescriptor "()Z" = some ⟨[], some .boolean⟩ := by decide +kernel
theorem pd_5 : parseMethodDescriptor "([B)I" = some ⟨[(.array .byte)], some .int⟩ := by decide +kernel
theorem pd_6 : parseMethodDescriptor "()I" = some ⟨[], some .int⟩ := by decide +kernel
theorem pd_7 : parseMethodDescriptor "(ILjava/lang/Object;Ljava/lang/Object;Ljava/util/HashMap$Node;)V" = some ⟨[.int, (.object "java/lang/Object"), (.object "java/lang/Object"), (.object "java/util/HashMap$Node")], none⟩ := by decide +kernel
theorem pd_8 : parseMethodDescriptor "()[Ljava/util/HashMap$Node;" = some ⟨[], some (.array (.object "java/util/HashMap$Node"))⟩ := by decide +kernel
theorem pd_9 : parseMethodDescriptor "(ILjava/lang/Object;Ljava/lang/Object;Ljava/util/HashMap$Node;)Ljava/util/HashMap$Node;" = some ⟨[.int, (.object "java/lang/Object"), (.object "java/lang/Object"), (.object "java/util/HashMap$Node")], some (.object "java/util/HashMap$Node")⟩ := by decide +kernel
theorem pd_10 : parseMethodDescriptor "(Z)V" = some ⟨[.boolean], none⟩ := by decide +kernel
theorem pd_11 : parseMethodDescriptor "(Ljava/lang/Object;)I" = some ⟨[(.object "java/lang/Object")], some .int⟩ := by decide +kernel
theorem pd_12 : parseMethodDescriptor "(ILjava/lang/Object;Ljava/lang/Object;ZZ)Ljava/lang/Object;" = some ⟨[.int, (.object "java/lang/Object"), (.object "java/lang/Object"), .boolean, .boolean], some (.object "java/lang/Object")⟩ := by decide +kernel
theorem pd_13 : parseMethodDescriptor "(Ljava/lang/Object;Ljava/lang/Object;)Ljava/lang/Object;" = some ⟨[(.object "java/lang/Object"), (.object "java/lang/Object")], some (.object "java/lang/Object")⟩ := by decide +kernel
theorem pd_14 : parseMethodDescriptor "([B[B)Z" = some ⟨[(.array .byte), (.array .byte)], some .boolean⟩ := by decide +kernel
theorem pd_15 : parseMethodDescriptor "(Ljava/lang/Object;)Z" = some ⟨[(.object "java/lang/Object")], some .boolean⟩ := by decide +kernel
theorem pd_16 : parseMethodDescriptor "(Ljava/lang/Object;)Ljava/util/HashMap$Node;" = some ⟨[(.object "java/lang/Object")], some (.object "java/util/HashMap$Node")⟩ := by decide +kernel
theorem pd_17 : parseMethodDescriptor "(IILjava/util/function/BiFunction;)I" = some ⟨[.int, .int, (.object "java/util/function/BiFunction")], some .int⟩ := by decide +kernel
theorem pd_18 : parseMethodDescriptor "(II)I" = some ⟨[.int, .int], some .int⟩ := by decide +kernel
theorem pd_19 : parseMethodDescriptor "(I)Ljava/lang/Object;" = some ⟨[.int], some (.object "java/lang/Object")⟩ := by decide +kernel
theorem pd_20 : parseMethodDescriptor "(I)[Ljava/lang/Object;" = some ⟨[.int], some (.array (.object "java/lang/Object"))⟩ := by decide +kernel
theorem pd_21 : parseMethodDescriptor "()[Ljava/lang/Object;" = some ⟨[], some (.array (.object "java/lang/Object"))⟩ := by decide +kernel
theorem pd_22 : parseMethodDescriptor "(Ljava/lang/Object;[Ljava/lang/Object;I)V" = some ⟨[(.object "java/lang/Object"), (.array (.object "java/lang/Object")), .int], none⟩ := by decide +kernel
theorem pd_23 : parseMethodDescriptor "([II)[I" = some ⟨[(.array .int), .int], some (.array .int)⟩ := by decide +kernel
theorem pd_24 : parseMethodDescriptor "(I)I" = some ⟨[.int], some .int⟩ := by decide +kernel
theorem pd_25 : parseMethodDescriptor "(Ljava/util/List;Ljava/util/Set;)V" = some ⟨[(.object "java/util/List"), (.object "java/util/Set")], none⟩ := by decide +kernel
theorem pd_26 : parseMethodDescriptor "(I)D" = some ⟨[.int], some .double⟩ := by decide +kernel
theorem pd_27 : parseMethodDescriptor "(ZII)I" = some ⟨[.boolean, .int, .int], some .int⟩ := by decide +kernel
theorem pd_28 : parseMethodDescriptor "(ZII)J" = some ⟨[.boolean, .int, .int], some .long⟩ := by decide +kernel
theorem pd_29 : parseMethodDescriptor "(C)Ljava/lang/String;" = some ⟨[.char], some (.object "java/lang/String")⟩ := by decide +kernel
theorem pd_30 : parseMethodDescriptor "(Z)I" = some ⟨[.boolean], some .int⟩ := by decide +kernel
theorem own_c4611686018427387904 : Dy (4611686018427387904 : UInt64) (2) 0 := ⟨⟨false, 4503599627370496, -51, by decide +kernel⟩, by decide +kernel⟩
theorem own_c4607182418800017408 : Dy (4607182418800017408 : UInt64) (1) 0 := ⟨⟨false, 4503599627370496, -52, by decide +kernel⟩, by decide +kernel⟩

theorem own_nf {s : State} {args : Array Value} {C : String} {y0 z y : MethodName} (hsel : (Jvm.Cond.selects C y0 z).before args s = true) (hc : z.cls = y.cls) : NotFace s y := fun r0 h0 => by
  obtain ⟨c2, r2, m2, q1, q2, q3, q4, kP, hkP, hkPi⟩ := Cond.selects_spec hsel
  have a := findClass_of_methodNamed q3
  have b := findClass_of_methodNamed h0
  rw [hc] at a
  have e : m2.cls = r0.cls := Option.some.inj (a.symm.trans b)
  exact ⟨kP, e ▸ hkP, hkPi⟩
theorem own_n16 {i : Nat} (h : i < 16) : (List.replicate 16 Value.null)[i]? = some Value.null := by rw [List.getElem?_replicate, if_pos h]

section OwnL
variable {p : Program} {l : Launch} {e : Env} {R : Room} {s : State} {m : MethodId} {args : Array Value} {below : List Frame} {meth : Method} {c : Code} {T : State} {locs : List Loc} {cells slots : Nat} {Z : State} {a0 : Array Value} {h h' : Heap} {ws : List Addr} {x y : Addr} {C D : String} {Ds : List String} {n0 n1 n1' : Nat}
theorem own_lift (X : Stand p l e R s m args below meth c T locs cells slots) {cells' slots' : Nat} (hc : cells ≤ cells') (hs : slots ≤ slots') : Stand p l e R s m args below meth c T locs cells' slots' := { X with same := X.same.mono hc hs }
def Cl (Z : State) (h : Heap) (ws : List Addr) (Ds : List String) : Prop := ∀ w ∈ ws, ∃ D, D ∈ Ds ∧ Exa Z h w D
theorem Cl.nil : Cl Z h [] Ds := fun _ q => nomatch q
theorem Cl.cons (E : Exa Z h x D) (q : D ∈ Ds) (r : Cl Z h ws Ds) : Cl Z h (x :: ws) Ds := fun w k => by
  rcases List.mem_cons.mp k with rfl | k
  · exact ⟨D, q, E⟩
  · exact r w k
theorem Cl.nin (c : Cl Z h ws Ds) (E : Exa Z h x C) (q : C ∉ Ds) : x ∉ ws := fun k => by
  obtain ⟨D, hD, F⟩ := c x k
  exact Exa.ne E F (fun e => q (e ▸ hD)) rfl
theorem Cl.sta (c : Cl Z h ws Ds) {n d : String} {v : Value} (S : Sta Z h C n d v) (K : Keep h h' ws) : Sta Z h' C n d v := own_skn S K fun x k => by
  obtain ⟨D, -, F⟩ := c x k
  exact ⟨D, F⟩
def STR (Z : State) (h : Heap) (s vb : Addr) (b : Int32) : Prop := Exa Z h s "java/lang/String" ∧ Fld Z h s "java/lang/String" "value" "[B" (.ref vb) ∧ Fld Z h s "java/lang/String" "coder" "B" (.int (0 : Int32)) ∧ Exa Z h vb "[B" ∧ Ary tr Z h vb .byte [.int b]
theorem STR.keep {s vb : Addr} {b : Int32} (S : STR Z h s vb b) (K : Keep h h' ws) (q : s ∉ ws) (q' : vb ∉ ws) : STR Z h' s vb b := ⟨S.1.keep K, S.2.1.keep K q, S.2.2.1.keep K q, S.2.2.2.1.keep K, S.2.2.2.2.keep K q'⟩
def STH (Z : State) (h : Heap) (s : Addr) : Prop := Fld Z h s "java/lang/String" "hash" "I" (.int (0 : Int32)) ∧ Fld Z h s "java/lang/String" "hashIsZero" "Z" (.int (0 : Int32))
theorem STH.keep {s : Addr} (S : STH Z h s) (K : Keep h h' ws) (q : s ∉ ws) : STH Z h' s := ⟨S.1.keep K q, S.2.keep K q⟩
/-- the sign in a table's place i -/
def bt (i : Nat) : Int32 := if i ≤ 5 then Int32.ofNat (96 + i) else Int32.ofNat (112 + i)
def b2n (b : Bool) : Nat := if b then 1 else 0
def cnt (P : Nat → Bool) : Nat := b2n (P 0) + b2n (P 1) + b2n (P 2) + b2n (P 3) + b2n (P 4) + b2n (P 5) + b2n (P 6) + b2n (P 7) + b2n (P 8) + b2n (P 9) + b2n (P 10) + b2n (P 11) + b2n (P 12) + b2n (P 13) + b2n (P 14) + b2n (P 15)
def upd (P : Nat → Bool) (i : Nat) : Nat → Bool := fun j => if j = i then true else P j
theorem upd_self {P : Nat → Bool} {i : Nat} : upd P i i = true := if_pos rfl
theorem upd_ne {P : Nat → Bool} {i j : Nat} (q : j ≠ i) : upd P i j = P j := if_neg q
theorem cnt_upd {P : Nat → Bool} : ∀ {i : Nat}, i < 16 → P i = false → cnt (upd P i) = cnt P + 1 := by
  intro i hi hP
  rcases i with _ | _ | _ | _ | _ | _ | _ | _ | _ | _ | _ | _ | _ | _ | _ | _ | i
  all_goals first
    | ((try simp only [Nat.zero_add, Nat.reduceAdd] at hP); simp [cnt, upd, hP, b2n]; omega)
    | ((try simp only [Nat.zero_add, Nat.reduceAdd] at hP); simp [cnt, upd, hP, b2n]; done)
    | (exfalso; omega)
def ENT1 (Z : State) (h : Heap) (n1 i : Nat) (nd ks vb : Addr) : Prop := (Exa Z h nd "java/util/HashMap$Node") ∧ (Fld Z h nd "java/util/HashMap$Node" "hash" "I" (.int (bt i))) ∧ (Fld Z h nd "java/util/HashMap$Node" "key" "Ljava/lang/Object;" (.ref ks)) ∧ (STR Z h ks vb (bt i)) ∧ (n1 ≤ ks)
theorem ENT1.eN {Z : State} {h : Heap} {n1 i : Nat} {nd ks vb : Addr} (S_ : ENT1 Z h n1 i nd ks vb) : Exa Z h nd "java/util/HashMap$Node" := S_.1
theorem ENT1.fh {Z : State} {h : Heap} {n1 i : Nat} {nd ks vb : Addr} (S_ : ENT1 Z h n1 i nd ks vb) : Fld Z h nd "java/util/HashMap$Node" "hash" "I" (.int (bt i)) := S_.2.1
theorem ENT1.fk {Z : State} {h : Heap} {n1 i : Nat} {nd ks vb : Addr} (S_ : ENT1 Z h n1 i nd ks vb) : Fld Z h nd "java/util/HashMap$Node" "key" "Ljava/lang/Object;" (.ref ks) := S_.2.2.1
theorem ENT1.st {Z : State} {h : Heap} {n1 i : Nat} {nd ks vb : Addr} (S_ : ENT1 Z h n1 i nd ks vb) : STR Z h ks vb (bt i) := S_.2.2.2.1
theorem ENT1.g {Z : State} {h : Heap} {n1 i : Nat} {nd ks vb : Addr} (S_ : ENT1 Z h n1 i nd ks vb) : n1 ≤ ks := S_.2.2.2.2
theorem ENT1.keep {i : Nat} {nd ks vb : Addr} (E : ENT1 Z h n1 i nd ks vb) (K : Keep h h' ws) (q1 : nd ∉ ws) (q2 : ks ∉ ws) (q3 : vb ∉ ws) : ENT1 Z h' n1 i nd ks vb := ⟨E.eN.keep K, E.fh.keep K q1, E.fk.keep K q1, E.st.keep K q2 q3, E.g⟩
def SET1 (Z : State) (h : Heap) (n0 n1 : Nat) (hs hm tb : Addr) (P : Nat → Bool) (tl : List Value) : Prop := (Exa Z h hs "java/util/HashSet") ∧ (Fld Z h hs "java/util/HashSet" "map" "Ljava/util/HashMap;" (.ref hm)) ∧ (Exa Z h hm "java/util/HashMap") ∧ (Fld Z h hm "java/util/HashMap" "table" "[Ljava/util/HashMap$Node;" (.ref tb)) ∧ (Fld Z h hm "java/util/HashMap" "threshold" "I" (.int (12 : Int32))) ∧ (Fld Z h hm "java/util/HashMap" "size" "I" (.int (Int32.ofNat (cnt P)))) ∧ (∃ mc : Int32, Fld Z h hm "java/util/HashMap" "modCount" "I" (.int mc)) ∧ (∃ lf : UInt32, Fld Z h hm "java/util/HashMap" "loadFactor" "F" (.float lf)) ∧ (Exa Z h tb "[Ljava/util/HashMap$Node;") ∧ (Ary (ovO Z "java/util/HashMap$Node") Z h tb (.object "java/util/HashMap$Node") tl) ∧ (tl.length = 16) ∧ (n0 ≤ hm) ∧ (n0 ≤ tb) ∧ (∀ i, i < 16 → (P i = true → ∃ nd ks vb, tl[i]? = some (.ref nd) ∧ ENT1 Z h n1 i nd ks vb) ∧ (P i = false → tl[i]? = some .null))
theorem SET1.eS {Z : State} {h : Heap} {n0 n1 : Nat} {hs hm tb : Addr} {P : Nat → Bool} {tl : List Value} (S_ : SET1 Z h n0 n1 hs hm tb P tl) : Exa Z h hs "java/util/HashSet" := S_.1
theorem SET1.fM {Z : State} {h : Heap} {n0 n1 : Nat} {hs hm tb : Addr} {P : Nat → Bool} {tl : List Value} (S_ : SET1 Z h n0 n1 hs hm tb P tl) : Fld Z h hs "java/util/HashSet" "map" "Ljava/util/HashMap;" (.ref hm) := S_.2.1
theorem SET1.eM {Z : State} {h : Heap} {n0 n1 : Nat} {hs hm tb : Addr} {P : Nat → Bool} {tl : List Value} (S_ : SET1 Z h n0 n1 hs hm tb P tl) : Exa Z h hm "java/util/HashMap" := S_.2.2.1
theorem SET1.fT {Z : State} {h : Heap} {n0 n1 : Nat} {hs hm tb : Addr} {P : Nat → Bool} {tl : List Value} (S_ : SET1 Z h n0 n1 hs hm tb P tl) : Fld Z h hm "java/util/HashMap" "table" "[Ljava/util/HashMap$Node;" (.ref tb) := S_.2.2.2.1
theorem SET1.fH {Z : State} {h : Heap} {n0 n1 : Nat} {hs hm tb : Addr} {P : Nat → Bool} {tl : List Value} (S_ : SET1 Z h n0 n1 hs hm tb P tl) : Fld Z h hm "java/util/HashMap" "threshold" "I" (.int (12 : Int32)) := S_.2.2.2.2.1
theorem SET1.fZ {Z : State} {h : Heap} {n0 n1 : Nat} {hs hm tb : Addr} {P : Nat → Bool} {tl : List Value} (S_ : SET1 Z h n0 n1 hs hm tb P tl) : Fld Z h hm "java/util/HashMap" "size" "I" (.int (Int32.ofNat (cnt P))) := S_.2.2.2.2.2.1
theorem SET1.fC {Z : State} {h : Heap} {n0 n1 : Nat} {hs hm tb : Addr} {P : Nat → Bool} {tl : List Value} (S_ : SET1 Z h n0 n1 hs hm tb P tl) : ∃ mc : Int32, Fld Z h hm "java/util/HashMap" "modCount" "I" (.int mc) := S_.2.2.2.2.2.2.1
theorem SET1.fL {Z : State} {h : Heap} {n0 n1 : Nat} {hs hm tb : Addr} {P : Nat → Bool} {tl : List Value} (S_ : SET1 Z h n0 n1 hs hm tb P tl) : ∃ lf : UInt32, Fld Z h hm "java/util/HashMap" "loadFactor" "F" (.float lf) := S_.2.2.2.2.2.2.2.1
theorem SET1.eT {Z : State} {h : Heap} {n0 n1 : Nat} {hs hm tb : Addr} {P : Nat → Bool} {tl : List Value} (S_ : SET1 Z h n0 n1 hs hm tb P tl) : Exa Z h tb "[Ljava/util/HashMap$Node;" := S_.2.2.2.2.2.2.2.2.1
theorem SET1.vT {Z : State} {h : Heap} {n0 n1 : Nat} {hs hm tb : Addr} {P : Nat → Bool} {tl : List Value} (S_ : SET1 Z h n0 n1 hs hm tb P tl) : Ary (ovO Z "java/util/HashMap$Node") Z h tb (.object "java/util/HashMap$Node") tl := S_.2.2.2.2.2.2.2.2.2.1
theorem SET1.ln {Z : State} {h : Heap} {n0 n1 : Nat} {hs hm tb : Addr} {P : Nat → Bool} {tl : List Value} (S_ : SET1 Z h n0 n1 hs hm tb P tl) : tl.length = 16 := S_.2.2.2.2.2.2.2.2.2.2.1
theorem SET1.gM {Z : State} {h : Heap} {n0 n1 : Nat} {hs hm tb : Addr} {P : Nat → Bool} {tl : List Value} (S_ : SET1 Z h n0 n1 hs hm tb P tl) : n0 ≤ hm := S_.2.2.2.2.2.2.2.2.2.2.2.1
theorem SET1.gT {Z : State} {h : Heap} {n0 n1 : Nat} {hs hm tb : Addr} {P : Nat → Bool} {tl : List Value} (S_ : SET1 Z h n0 n1 hs hm tb P tl) : n0 ≤ tb := S_.2.2.2.2.2.2.2.2.2.2.2.2.1
theorem SET1.en {Z : State} {h : Heap} {n0 n1 : Nat} {hs hm tb : Addr} {P : Nat → Bool} {tl : List Value} (S_ : SET1 Z h n0 n1 hs hm tb P tl) : ∀ i, i < 16 → (P i = true → ∃ nd ks vb, tl[i]? = some (.ref nd) ∧ ENT1 Z h n1 i nd ks vb) ∧ (P i = false → tl[i]? = some .null) := S_.2.2.2.2.2.2.2.2.2.2.2.2.2
def SET0 (Z : State) (h : Heap) (n0 : Nat) (hs hm : Addr) : Prop := (Exa Z h hs "java/util/HashSet") ∧ (Fld Z h hs "java/util/HashSet" "map" "Ljava/util/HashMap;" (.ref hm)) ∧ (Exa Z h hm "java/util/HashMap") ∧ (Fld Z h hm "java/util/HashMap" "table" "[Ljava/util/HashMap$Node;" .null) ∧ (Fld Z h hm "java/util/HashMap" "threshold" "I" (.int (0 : Int32))) ∧ (Fld Z h hm "java/util/HashMap" "size" "I" (.int (0 : Int32))) ∧ (Fld Z h hm "java/util/HashMap" "modCount" "I" (.int (0 : Int32))) ∧ (∃ lf : UInt32, Fld Z h hm "java/util/HashMap" "loadFactor" "F" (.float lf)) ∧ (n0 ≤ hm)
theorem SET0.eS {Z : State} {h : Heap} {n0 : Nat} {hs hm : Addr} (S_ : SET0 Z h n0 hs hm) : Exa Z h hs "java/util/HashSet" := S_.1
theorem SET0.fM {Z : State} {h : Heap} {n0 : Nat} {hs hm : Addr} (S_ : SET0 Z h n0 hs hm) : Fld Z h hs "java/util/HashSet" "map" "Ljava/util/HashMap;" (.ref hm) := S_.2.1
theorem SET0.eM {Z : State} {h : Heap} {n0 : Nat} {hs hm : Addr} (S_ : SET0 Z h n0 hs hm) : Exa Z h hm "java/util/HashMap" := S_.2.2.1
theorem SET0.fT {Z : State} {h : Heap} {n0 : Nat} {hs hm : Addr} (S_ : SET0 Z h n0 hs hm) : Fld Z h hm "java/util/HashMap" "table" "[Ljava/util/HashMap$Node;" .null := S_.2.2.2.1
theorem SET0.fH {Z : State} {h : Heap} {n0 : Nat} {hs hm : Addr} (S_ : SET0 Z h n0 hs hm) : Fld Z h hm "java/util/HashMap" "threshold" "I" (.int (0 : Int32)) := S_.2.2.2.2.1
theorem SET0.fZ {Z : State} {h : Heap} {n0 : Nat} {hs hm : Addr} (S_ : SET0 Z h n0 hs hm) : Fld Z h hm "java/util/HashMap" "size" "I" (.int (0 : Int32)) := S_.2.2.2.2.2.1
theorem SET0.fC {Z : State} {h : Heap} {n0 : Nat} {hs hm : Addr} (S_ : SET0 Z h n0 hs hm) : Fld Z h hm "java/util/HashMap" "modCount" "I" (.int (0 : Int32)) := S_.2.2.2.2.2.2.1
theorem SET0.fL {Z : State} {h : Heap} {n0 : Nat} {hs hm : Addr} (S_ : SET0 Z h n0 hs hm) : ∃ lf : UInt32, Fld Z h hm "java/util/HashMap" "loadFactor" "F" (.float lf) := S_.2.2.2.2.2.2.2.1
theorem SET0.gM {Z : State} {h : Heap} {n0 : Nat} {hs hm : Addr} (S_ : SET0 Z h n0 hs hm) : n0 ≤ hm := S_.2.2.2.2.2.2.2.2
def clsS : List String := ["java/util/HashSet", "java/util/HashMap", "[Ljava/util/HashMap$Node;", "java/util/HashMap$Node", "java/lang/String", "[B"]
theorem SET1.keep {hs hm tb : Addr} {P : Nat → Bool} {tl : List Value} (S : SET1 Z h n0 n1 hs hm tb P tl) (K : Keep h h' ws) (q : ∀ x C, Exa Z h x C → C ∈ clsS → (C = "java/lang/String" → n1 ≤ x) → x ∉ ws) : SET1 Z h' n0 n1 hs hm tb P tl := by
  have qS := q _ _ S.eS (by decide) (fun k => absurd k (by decide))
  have qM := q _ _ S.eM (by decide) (fun k => absurd k (by decide))
  have qT := q _ _ S.eT (by decide) (fun k => absurd k (by decide))
  refine ⟨S.eS.keep K, S.fM.keep K qS, S.eM.keep K, S.fT.keep K qM, S.fH.keep K qM, S.fZ.keep K qM, ?_, ?_, S.eT.keep K, S.vT.keep K qT, S.ln, S.gM, S.gT, fun i hi => ⟨fun hP => ?_, (S.en i hi).2⟩⟩
  · obtain ⟨mc, k⟩ := S.fC; exact ⟨mc, k.keep K qM⟩
  · obtain ⟨lf, k⟩ := S.fL; exact ⟨lf, k.keep K qM⟩
  · obtain ⟨nd, ks, vb, k, E⟩ := (S.en i hi).1 hP
    exact ⟨nd, ks, vb, k, E.keep K (q _ _ E.eN (by decide) (fun k => absurd k (by decide))) (q _ _ E.st.1 (by decide) (fun _ => E.g)) (q _ _ E.st.2.2.2.1 (by decide) (fun k => absurd k (by decide)))⟩
theorem SET0.keep {hs hm : Addr} (S : SET0 Z h n0 hs hm) (K : Keep h h' ws) (q : ∀ x C, Exa Z h x C → C ∈ clsS → (C = "java/lang/String" → n1 ≤ x) → x ∉ ws) : SET0 Z h' n0 hs hm := by
  have qS := q _ _ S.eS (by decide) (fun k => absurd k (by decide))
  have qM := q _ _ S.eM (by decide) (fun k => absurd k (by decide))
  refine ⟨S.eS.keep K, S.fM.keep K qS, S.eM.keep K, S.fT.keep K qM, S.fH.keep K qM, S.fZ.keep K qM, S.fC.keep K qM, ?_, S.gM⟩
  obtain ⟨lf, k⟩ := S.fL; exact ⟨lf, k.keep K qM⟩
theorem own_ofs (a : Nat) : Int32.ofNat a + (1 : Int32) = Int32.ofNat (a + 1) := by
  rw [Int32.ofNat_add]; rfl
theorem SET1.add {hs hm tb : Addr} {P : Nat → Bool} {tl : List Value} (S : SET1 Z h n0 n1 hs hm tb P tl) {i : Nat} (hi : i < 16) (hP : P i = false) (K : Keep h h' [hm, tb]) {nd ks vb : Addr} {mc : Int32} {lf : UInt32}
    (eM : Exa Z h' hm "java/util/HashMap") (fL : Fld Z h' hm "java/util/HashMap" "loadFactor" "F" (.float lf)) (fT : Fld Z h' hm "java/util/HashMap" "table" "[Ljava/util/HashMap$Node;" (.ref tb)) (fH : Fld Z h' hm "java/util/HashMap" "threshold" "I" (.int (12 : Int32))) (fC : Fld Z h' hm "java/util/HashMap" "modCount" "I" (.int mc)) (fZ : Fld Z h' hm "java/util/HashMap" "size" "I" (.int (Int32.ofNat (cnt P) + (1 : Int32))))
    (eT : Exa Z h' tb "[Ljava/util/HashMap$Node;") (vT : Ary (ovO Z "java/util/HashMap$Node") Z h' tb (.object "java/util/HashMap$Node") (tl.set i (.ref nd))) (en : ENT1 Z h' n1 i nd ks vb) : SET1 Z h' n0 n1 hs hm tb (upd P i) (tl.set i (.ref nd)) := by
  have cl : Cl Z h [hm, tb] ["java/util/HashMap", "[Ljava/util/HashMap$Node;"] := Cl.cons S.eM (by decide) (Cl.cons S.eT (by decide) Cl.nil)
  refine ⟨S.eS.keep K, S.fM.keep K (cl.nin S.eS (by decide)), eM, fT, fH, ?_, ⟨_, fC⟩, ⟨_, fL⟩, eT, vT, by rw [List.length_set]; exact S.ln, S.gM, S.gT, fun j hj => ?_⟩
  · rw [cnt_upd hi hP, ← own_ofs]; exact fZ
  · by_cases q : j = i
    · subst q
      rw [upd_self]
      exact ⟨fun _ => ⟨nd, ks, vb, List.getElem?_set_self (by rw [S.ln]; exact hi), en⟩, fun k => nomatch k⟩
    · rw [upd_ne q, List.getElem?_set_ne (Ne.symm q)]
      refine ⟨fun k => ?_, (S.en j hj).2⟩
      obtain ⟨nd', ks', vb', k', E⟩ := (S.en j hj).1 k
      exact ⟨nd', ks', vb', k', E.keep K (cl.nin E.eN (by decide)) (cl.nin E.st.1 (by decide)) (cl.nin E.st.2.2.2.1 (by decide))⟩
theorem own_cnt0 {P : Nat → Bool} (h : ∀ i, P i = false) : cnt P = 0 := by simp [cnt, h, b2n]
theorem SET0.add {hs hm : Addr} {P : Nat → Bool} (S : SET0 Z h n0 hs hm) (hall : ∀ i, P i = false) {i : Nat} (hi : i < 16) (K : Keep h h' [hm]) {tb nd ks vb : Addr} {mc : Int32} {lf : UInt32} (gT : n0 ≤ tb)
    (eM : Exa Z h' hm "java/util/HashMap") (fL : Fld Z h' hm "java/util/HashMap" "loadFactor" "F" (.float lf)) (fT : Fld Z h' hm "java/util/HashMap" "table" "[Ljava/util/HashMap$Node;" (.ref tb)) (fH : Fld Z h' hm "java/util/HashMap" "threshold" "I" (.int (12 : Int32))) (fC : Fld Z h' hm "java/util/HashMap" "modCount" "I" (.int mc)) (fZ : Fld Z h' hm "java/util/HashMap" "size" "I" (.int (1 : Int32)))
    (eT : Exa Z h' tb "[Ljava/util/HashMap$Node;") (vT : Ary (ovO Z "java/util/HashMap$Node") Z h' tb (.object "java/util/HashMap$Node") ((List.replicate 16 Value.null).set i (.ref nd))) (en : ENT1 Z h' n1 i nd ks vb) : SET1 Z h' n0 n1 hs hm tb (upd P i) ((List.replicate 16 Value.null).set i (.ref nd)) := by
  have cl : Cl Z h [hm] ["java/util/HashMap"] := Cl.cons S.eM (by decide) Cl.nil
  refine ⟨S.eS.keep K, S.fM.keep K (cl.nin S.eS (by decide)), eM, fT, fH, ?_, ⟨_, fC⟩, ⟨_, fL⟩, eT, vT, by rw [List.length_set]; rfl, S.gM, gT, fun j hj => ?_⟩
  · rw [cnt_upd hi (hall i), own_cnt0 hall]; exact fZ
  · by_cases q : j = i
    · subst q
      rw [upd_self]
      exact ⟨fun _ => ⟨nd, ks, vb, List.getElem?_set_self (by rw [List.length_replicate]; exact hi), en⟩, fun k => nomatch k⟩
    · rw [upd_ne q, List.getElem?_set_ne (Ne.symm q), hall j]
      exact ⟨fun k => (nomatch k), fun _ => own_n16 hj⟩
def LST0 (Z : State) (h : Heap) (n0 : Nat) (al df : Addr) : Prop := (Exa Z h al "java/util/ArrayList") ∧ (Fld Z h al "java/util/ArrayList" "elementData" "[Ljava/lang/Object;" (.ref df)) ∧ (Fld Z h al "java/util/ArrayList" "size" "I" (.int (0 : Int32))) ∧ (∃ mc : Int32, Fld Z h al "java/util/AbstractList" "modCount" "I" (.int mc)) ∧ (n0 ≤ al) ∧ (Exa Z h df "[Ljava/lang/Object;") ∧ (Ary tr Z h df (.object "java/lang/Object") [])
theorem LST0.eA {Z : State} {h : Heap} {n0 : Nat} {al df : Addr} (S_ : LST0 Z h n0 al df) : Exa Z h al "java/util/ArrayList" := S_.1
theorem LST0.fE {Z : State} {h : Heap} {n0 : Nat} {al df : Addr} (S_ : LST0 Z h n0 al df) : Fld Z h al "java/util/ArrayList" "elementData" "[Ljava/lang/Object;" (.ref df) := S_.2.1
theorem LST0.fS {Z : State} {h : Heap} {n0 : Nat} {al df : Addr} (S_ : LST0 Z h n0 al df) : Fld Z h al "java/util/ArrayList" "size" "I" (.int (0 : Int32)) := S_.2.2.1
theorem LST0.fC {Z : State} {h : Heap} {n0 : Nat} {al df : Addr} (S_ : LST0 Z h n0 al df) : ∃ mc : Int32, Fld Z h al "java/util/AbstractList" "modCount" "I" (.int mc) := S_.2.2.2.1
theorem LST0.gA {Z : State} {h : Heap} {n0 : Nat} {al df : Addr} (S_ : LST0 Z h n0 al df) : n0 ≤ al := S_.2.2.2.2.1
theorem LST0.eD {Z : State} {h : Heap} {n0 : Nat} {al df : Addr} (S_ : LST0 Z h n0 al df) : Exa Z h df "[Ljava/lang/Object;" := S_.2.2.2.2.2.1
theorem LST0.vD {Z : State} {h : Heap} {n0 : Nat} {al df : Addr} (S_ : LST0 Z h n0 al df) : Ary tr Z h df (.object "java/lang/Object") [] := S_.2.2.2.2.2.2
def LST1 (Z : State) (h : Heap) (n0 n1 : Nat) (al : Addr) (n : Nat) (ed : Addr) (el : List Value) (ss vv : Nat → Addr) : Prop := (Exa Z h al "java/util/ArrayList") ∧ (Fld Z h al "java/util/ArrayList" "elementData" "[Ljava/lang/Object;" (.ref ed)) ∧ (Fld Z h al "java/util/ArrayList" "size" "I" (.int (Int32.ofNat n))) ∧ (∃ mc : Int32, Fld Z h al "java/util/AbstractList" "modCount" "I" (.int mc)) ∧ (Exa Z h ed "[Ljava/lang/Object;") ∧ (Ary (ovO Z "java/lang/Object") Z h ed (.object "java/lang/Object") el) ∧ (el.length = 10) ∧ (n0 ≤ al) ∧ (n0 ≤ ed) ∧ (∀ i, i < n → el[i]? = some (.ref (ss i)) ∧ STR Z h (ss i) (vv i) (Int32.ofNat (97 + i)) ∧ STH Z h (ss i) ∧ n0 ≤ ss i ∧ ss i < n1) ∧ (∀ i j, i < j → j < n → ss i < ss j)
theorem LST1.eA {Z : State} {h : Heap} {n0 n1 : Nat} {al : Addr} {n : Nat} {ed : Addr} {el : List Value} {ss vv : Nat → Addr} (S_ : LST1 Z h n0 n1 al n ed el ss vv) : Exa Z h al "java/util/ArrayList" := S_.1
theorem LST1.fE {Z : State} {h : Heap} {n0 n1 : Nat} {al : Addr} {n : Nat} {ed : Addr} {el : List Value} {ss vv : Nat → Addr} (S_ : LST1 Z h n0 n1 al n ed el ss vv) : Fld Z h al "java/util/ArrayList" "elementData" "[Ljava/lang/Object;" (.ref ed) := S_.2.1
theorem LST1.fS {Z : State} {h : Heap} {n0 n1 : Nat} {al : Addr} {n : Nat} {ed : Addr} {el : List Value} {ss vv : Nat → Addr} (S_ : LST1 Z h n0 n1 al n ed el ss vv) : Fld Z h al "java/util/ArrayList" "size" "I" (.int (Int32.ofNat n)) := S_.2.2.1
theorem LST1.fC {Z : State} {h : Heap} {n0 n1 : Nat} {al : Addr} {n : Nat} {ed : Addr} {el : List Value} {ss vv : Nat → Addr} (S_ : LST1 Z h n0 n1 al n ed el ss vv) : ∃ mc : Int32, Fld Z h al "java/util/AbstractList" "modCount" "I" (.int mc) := S_.2.2.2.1
theorem LST1.eE {Z : State} {h : Heap} {n0 n1 : Nat} {al : Addr} {n : Nat} {ed : Addr} {el : List Value} {ss vv : Nat → Addr} (S_ : LST1 Z h n0 n1 al n ed el ss vv) : Exa Z h ed "[Ljava/lang/Object;" := S_.2.2.2.2.1
theorem LST1.vE {Z : State} {h : Heap} {n0 n1 : Nat} {al : Addr} {n : Nat} {ed : Addr} {el : List Value} {ss vv : Nat → Addr} (S_ : LST1 Z h n0 n1 al n ed el ss vv) : Ary (ovO Z "java/lang/Object") Z h ed (.object "java/lang/Object") el := S_.2.2.2.2.2.1
theorem LST1.ln {Z : State} {h : Heap} {n0 n1 : Nat} {al : Addr} {n : Nat} {ed : Addr} {el : List Value} {ss vv : Nat → Addr} (S_ : LST1 Z h n0 n1 al n ed el ss vv) : el.length = 10 := S_.2.2.2.2.2.2.1
theorem LST1.gA {Z : State} {h : Heap} {n0 n1 : Nat} {al : Addr} {n : Nat} {ed : Addr} {el : List Value} {ss vv : Nat → Addr} (S_ : LST1 Z h n0 n1 al n ed el ss vv) : n0 ≤ al := S_.2.2.2.2.2.2.2.1
theorem LST1.gE {Z : State} {h : Heap} {n0 n1 : Nat} {al : Addr} {n : Nat} {ed : Addr} {el : List Value} {ss vv : Nat → Addr} (S_ : LST1 Z h n0 n1 al n ed el ss vv) : n0 ≤ ed := S_.2.2.2.2.2.2.2.2.1
theorem LST1.st {Z : State} {h : Heap} {n0 n1 : Nat} {al : Addr} {n : Nat} {ed : Addr} {el : List Value} {ss vv : Nat → Addr} (S_ : LST1 Z h n0 n1 al n ed el ss vv) : ∀ i, i < n → el[i]? = some (.ref (ss i)) ∧ STR Z h (ss i) (vv i) (Int32.ofNat (97 + i)) ∧ STH Z h (ss i) ∧ n0 ≤ ss i ∧ ss i < n1 := S_.2.2.2.2.2.2.2.2.2.1
theorem LST1.inc {Z : State} {h : Heap} {n0 n1 : Nat} {al : Addr} {n : Nat} {ed : Addr} {el : List Value} {ss vv : Nat → Addr} (S_ : LST1 Z h n0 n1 al n ed el ss vv) : ∀ i j, i < j → j < n → ss i < ss j := S_.2.2.2.2.2.2.2.2.2.2
def clsL : List String := ["java/util/ArrayList", "[Ljava/lang/Object;", "java/lang/String", "[B"]
theorem LST1.keep {al ed : Addr} {n : Nat} {el : List Value} {ss vv : Nat → Addr} (S : LST1 Z h n0 n1 al n ed el ss vv) (K : Keep h h' ws) (hn : n1 ≤ n1') (q : ∀ x C, Exa Z h x C → C ∈ clsL → x ∉ ws) : LST1 Z h' n0 n1' al n ed el ss vv := by
  have qA := q _ _ S.eA (by decide)
  refine ⟨S.eA.keep K, S.fE.keep K qA, S.fS.keep K qA, ?_, S.eE.keep K, S.vE.keep K (q _ _ S.eE (by decide)), S.ln, S.gA, S.gE, fun i hi => ?_, S.inc⟩
  · obtain ⟨mc, k⟩ := S.fC; exact ⟨mc, k.keep K qA⟩
  · obtain ⟨k1, k2, k3, k4, k5⟩ := S.st i hi
    have qs := q _ _ k2.1 (by decide)
    exact ⟨k1, k2.keep K qs (q _ _ k2.2.2.2.1 (by decide)), k3.keep K qs, k4, Nat.lt_of_lt_of_le k5 hn⟩
theorem LST0.keep {al df : Addr} (S : LST0 Z h n0 al df) (K : Keep h h' ws) (q : ∀ x C, Exa Z h x C → C ∈ clsL → x ∉ ws) : LST0 Z h' n0 al df := by
  have qA := q _ _ S.eA (by decide)
  refine ⟨S.eA.keep K, S.fE.keep K qA, S.fS.keep K qA, ?_, S.gA, S.eD.keep K, S.vD.keep K (q _ _ S.eD (by decide))⟩
  obtain ⟨mc, k⟩ := S.fC; exact ⟨mc, k.keep K qA⟩
theorem LST0.add {al df : Addr} (S : LST0 Z h n0 al df) (K : Keep h h' [al]) {ed s vb : Addr} {mc : Int32} (gE : n0 ≤ ed) (gs : n0 ≤ s) (hn : s < n1)
    (eA : Exa Z h' al "java/util/ArrayList") (fE : Fld Z h' al "java/util/ArrayList" "elementData" "[Ljava/lang/Object;" (.ref ed)) (fS : Fld Z h' al "java/util/ArrayList" "size" "I" (.int (1 : Int32))) (fC : Fld Z h' al "java/util/AbstractList" "modCount" "I" (.int mc)) (eE : Exa Z h' ed "[Ljava/lang/Object;")
    (vE : Ary (ovO Z "java/lang/Object") Z h' ed (.object "java/lang/Object") [.ref s, .null, .null, .null, .null, .null, .null, .null, .null, .null]) (st : STR Z h' s vb (97 : Int32)) (sh : STH Z h' s) : LST1 Z h' n0 n1 al 1 ed [.ref s, .null, .null, .null, .null, .null, .null, .null, .null, .null] (fun _ => s) (fun _ => vb) :=
  ⟨eA, fE, fS, ⟨_, fC⟩, eE, vE, rfl, S.gA, gE, fun i hi => by obtain rfl : i = 0 := (by omega); exact ⟨rfl, st, sh, gs, hn⟩, fun i j _ _ => by omega⟩
theorem LST1.add {al ed : Addr} {n : Nat} {el : List Value} {ss vv : Nat → Addr} (S : LST1 Z h n0 h.size al n ed el ss vv) (hn10 : n < 10) (K : Keep h h' [al, ed]) {s vb : Addr} {mc : Int32} (gs : n0 ≤ s) (sz : h.size ≤ s) (hn : s < n1)
    (eA : Exa Z h' al "java/util/ArrayList") (fE : Fld Z h' al "java/util/ArrayList" "elementData" "[Ljava/lang/Object;" (.ref ed)) (fS : Fld Z h' al "java/util/ArrayList" "size" "I" (.int (Int32.ofNat n + (1 : Int32)))) (fC : Fld Z h' al "java/util/AbstractList" "modCount" "I" (.int mc)) (eE : Exa Z h' ed "[Ljava/lang/Object;")
    (vE : Ary (ovO Z "java/lang/Object") Z h' ed (.object "java/lang/Object") (el.set n (.ref s))) (st : STR Z h' s vb (Int32.ofNat (97 + n))) (sh : STH Z h' s) : LST1 Z h' n0 n1 al (n + 1) ed (el.set n (.ref s)) (fun i => if i = n then s else ss i) (fun i => if i = n then vb else vv i) := by
  have cl : Cl Z h [al, ed] ["java/util/ArrayList", "[Ljava/lang/Object;"] := Cl.cons S.eA (by decide) (Cl.cons S.eE (by decide) Cl.nil)
  refine ⟨eA, fE, by rw [← own_ofs]; exact fS, ⟨_, fC⟩, eE, vE, by rw [List.length_set]; exact S.ln, S.gA, S.gE, fun i hi => ?_, fun i j hij hj => ?_⟩
  · by_cases q : i = n
    · subst q
      simp only [if_pos rfl]
      exact ⟨List.getElem?_set_self (by rw [S.ln]; exact hn10), st, sh, gs, hn⟩
    · obtain ⟨k1, k2, k3, k4, k5⟩ := S.st i (by omega)
      simp only [if_neg q]
      have qs := cl.nin k2.1 (by decide)
      exact ⟨by rw [List.getElem?_set_ne (Ne.symm q)]; exact k1, k2.keep K qs (cl.nin k2.2.2.2.1 (by decide)), k3.keep K qs, k4, Nat.lt_trans (Nat.lt_of_lt_of_le k5 sz) hn⟩
  · have qi : i ≠ n := by omega
    simp only [if_neg qi]
    by_cases q : j = n
    · simp only [if_pos q]
      exact Nat.lt_of_lt_of_le (S.st i (by omega)).2.2.2.2 sz
    · simp only [if_neg q]
      exact S.inc i j hij (by omega)
/-- the statics, and the ranking's first n signs -/
def LL (Z : State) (h : Heap) (n0 n1 : Nat) (al : Addr) (cs : Int32) (pr df : Addr) (n : Nat) : Prop := (Sta Z h "java/lang/String" "COMPACT_STRINGS" "Z" (.int cs)) ∧ (¬ (cs = 0)) ∧ (Sta Z h "java/util/HashSet" "PRESENT" "Ljava/lang/Object;" (.ref pr)) ∧ (Sta Z h "java/util/ArrayList" "DEFAULTCAPACITY_EMPTY_ELEMENTDATA" "[Ljava/lang/Object;" (.ref df)) ∧ ((n = 0 ∧ LST0 Z h n0 al df) ∨ (∃ ed el ss vv, 0 < n ∧ LST1 Z h n0 n1 al n ed el ss vv))
theorem LL.sC {Z : State} {h : Heap} {n0 n1 : Nat} {al : Addr} {cs : Int32} {pr df : Addr} {n : Nat} (S_ : LL Z h n0 n1 al cs pr df n) : Sta Z h "java/lang/String" "COMPACT_STRINGS" "Z" (.int cs) := S_.1
theorem LL.hcs {Z : State} {h : Heap} {n0 n1 : Nat} {al : Addr} {cs : Int32} {pr df : Addr} {n : Nat} (S_ : LL Z h n0 n1 al cs pr df n) : ¬ (cs = 0) := S_.2.1
theorem LL.sP {Z : State} {h : Heap} {n0 n1 : Nat} {al : Addr} {cs : Int32} {pr df : Addr} {n : Nat} (S_ : LL Z h n0 n1 al cs pr df n) : Sta Z h "java/util/HashSet" "PRESENT" "Ljava/lang/Object;" (.ref pr) := S_.2.2.1
theorem LL.sD {Z : State} {h : Heap} {n0 n1 : Nat} {al : Addr} {cs : Int32} {pr df : Addr} {n : Nat} (S_ : LL Z h n0 n1 al cs pr df n) : Sta Z h "java/util/ArrayList" "DEFAULTCAPACITY_EMPTY_ELEMENTDATA" "[Ljava/lang/Object;" (.ref df) := S_.2.2.2.1
theorem LL.li {Z : State} {h : Heap} {n0 n1 : Nat} {al : Addr} {cs : Int32} {pr df : Addr} {n : Nat} (S_ : LL Z h n0 n1 al cs pr df n) : (n = 0 ∧ LST0 Z h n0 al df) ∨ (∃ ed el ss vv, 0 < n ∧ LST1 Z h n0 n1 al n ed el ss vv) := S_.2.2.2.2
theorem LL.keep {al : Addr} {cs : Int32} {pr df : Addr} {n : Nat} (S : LL Z h n0 n1 al cs pr df n) (K : Keep h h' ws) (c : Cl Z h ws Ds) (hn : n1 ≤ n1') (q : ∀ C, C ∈ clsL → C ∉ Ds) : LL Z h' n0 n1' al cs pr df n := by
  refine ⟨c.sta S.sC K, S.hcs, c.sta S.sP K, c.sta S.sD K, ?_⟩
  rcases S.li with ⟨h0, k⟩ | ⟨ed, el, ss, vv, h0, k⟩
  · exact Or.inl ⟨h0, k.keep K fun x C E hC => c.nin E (q C hC)⟩
  · exact Or.inr ⟨ed, el, ss, vv, h0, k.keep K hn fun x C E hC => c.nin E (q C hC)⟩
/-- the set's places P -/
def SE (Z : State) (h : Heap) (n0 n1 : Nat) (hs : Addr) (P : Nat → Bool) : Prop := (∃ hm, (∀ i, P i = false) ∧ SET0 Z h n0 hs hm) ∨ (∃ hm tb tl, SET1 Z h n0 n1 hs hm tb P tl)
theorem SE.congr {hs : Addr} {P P' : Nat → Bool} (S : SE Z h n0 n1 hs P) (q : ∀ i, P i = P' i) : SE Z h n0 n1 hs P' := by
  obtain rfl : P = P' := funext q
  exact S
theorem SE.keep0 {hs : Addr} {P : Nat → Bool} (S : SE Z h n0 n1 hs P) (K : Keep h h' []) : SE Z h' n0 n1 hs P := by
  rcases S with ⟨hm, ha, q⟩ | ⟨hm, tb, tl, q⟩
  · exact Or.inl ⟨hm, ha, q.keep (n1 := 0) K fun _ _ _ _ _ => List.not_mem_nil⟩
  · exact Or.inr ⟨hm, tb, tl, q.keep K fun _ _ _ _ _ => List.not_mem_nil⟩
theorem own_kswap {a b : Addr} (K : Keep h h' [a, b]) : Keep h h' [b, a] := ⟨K.1, fun x c q r => K.2.1 x c q (fun k => r (by
  rcases List.mem_cons.mp k with k | k
  · rw [k]; exact List.mem_cons_of_mem _ (List.mem_singleton.mpr rfl)
  · rw [List.mem_singleton.mp k]; exact List.mem_cons_self ..)), K.2.2⟩
theorem own_clsSA {C : String} (q : C ∈ clsS) : C ∉ ["java/util/ArrayList", "[Ljava/lang/Object;"] := by
  simp only [clsS, List.mem_cons, List.not_mem_nil, or_false] at q
  rcases q with rfl | rfl | rfl | rfl | rfl | rfl <;> decide
theorem own_clsLH {C : String} (q : C ∈ clsL) : C ∉ ["java/util/HashMap", "[Ljava/util/HashMap$Node;"] := by
  simp only [clsL, List.mem_cons, List.not_mem_nil, or_false] at q
  rcases q with rfl | rfl | rfl | rfl <;> decide
theorem own_aryb {vb : Addr} {b b' : Int32} (q : b = b') (V : Ary tr Z h vb .byte [.int b]) : Ary tr Z h vb .byte [.int b'] := q ▸ V
theorem own_fldi {C n d : String} {b b' : Int32} (q : b = b') (V : Fld Z h x C n d (.int b)) : Fld Z h x C n d (.int b') := q ▸ V
theorem own_hsz : ∀ k : Nat, k ≤ 11 → ¬ ((12 : Int32) < Int32.ofNat k + (1 : Int32)) := by decide
def i01 (b : Bool) : Int32 := if b then 1 else 0
/-- which places are taken -/
def pf : List (Nat × Bool) → Nat → Bool
  | [], _ => false
  | (k, b) :: l, i => (b && decide (i = k)) || pf l i
theorem pf_false (k : Nat) (l : List (Nat × Bool)) (i : Nat) : pf l i = pf ((k, false) :: l) i := by simp [pf]
theorem pf_true (k : Nat) (l : List (Nat × Bool)) (i : Nat) : upd (pf l) k i = pf ((k, true) :: l) i := by
  by_cases q : i = k <;> simp [pf, upd, q]
theorem cnt_upd_le (P : Nat → Bool) (i : Nat) : cnt (upd P i) ≤ cnt P + 1 := by
  by_cases hP : P i = true
  · have e : upd P i = P := funext fun j => by by_cases q : j = i <;> simp [upd, q, hP]
    rw [e]; omega
  · by_cases hi : i < 16
    · rw [cnt_upd hi (by simpa using hP)]; exact Nat.le_refl _
    · have e : ∀ j, j < 16 → upd P i j = P j := fun j hj => upd_ne (by omega)
      simp only [cnt, e 0 (by decide), e 1 (by decide), e 2 (by decide), e 3 (by decide), e 4 (by decide), e 5 (by decide), e 6 (by decide), e 7 (by decide), e 8 (by decide), e 9 (by decide), e 10 (by decide), e 11 (by decide), e 12 (by decide), e 13 (by decide), e 14 (by decide), e 15 (by decide)]
      omega
theorem cnt_pf : ∀ l : List (Nat × Bool), cnt (pf l) ≤ l.length
  | [] => by decide
  | (k, false) :: l => by
    rw [← show pf l = pf ((k, false) :: l) from funext fun i => pf_false k l i]
    exact Nat.le_succ_of_le (cnt_pf l)
  | (k, true) :: l => by
    rw [← show upd (pf l) k = pf ((k, true) :: l) from funext fun i => pf_true k l i]
    exact Nat.le_trans (cnt_upd_le _ _) (Nat.succ_le_succ (cnt_pf l))
end OwnL
section OwnJ
variable {p : Program} {l : Launch} {e : Env} {R : Room} {s : State} {m : MethodId} {args : Array Value} {below : List Frame} {meth : Method} {c : Code} {T : State} {locs : List Loc} {cells slots : Nat} {Z : State} {a0 : Array Value} {h h' : Heap} {B : ByteArray} {pc pc' : Nat} {L L' : Array Slot} {rest : List Value} {F : Outcome → State → Prop} {a b : Addr} {ty : FieldType} {vs : List Value} {P : ClassId → Prop} {sl : Nat} {v : Value} {ws : List Addr}
theorem own_aastoreI (X : Stand p l e R s m args below meth c T locs cells slots) (hx : p.tables.exec = Jvm.exec) (hby : c.code = B) (hZ : Z.Warmed39 s.vm) (eT : T.heap = h) {C : String} (V : Ary (ovO Z C) Z h a (.object C) vs) {i : Int32} {x : Addr} {n : Nat} (I : Ins Z h x C true) (hi : ¬ i < 0) (hn : i.toNatClampNeg = n) (hl : n < vs.length) (hd : decode B pc = .ok (.aastore, 1)) (hp : pc + 1 = pc') (k : ∀ T' h', Stand p l e R s m args below meth c T' (locs ++ [⟨a, n⟩]) cells slots → T'.heap = h' → Wr h h' a n (.ref x) → Gt p.tables e below F (T'.setTop (mkF m pc' L rest))) : Gt p.tables e below F (T.setTop (mkF m pc L (.ref x :: .int i :: .ref a :: rest))) := by
  subst hp hn
  obtain ⟨cl, A, O, r, t⟩ := V
  obtain ⟨T', h', X', e', W, st⟩ := stR X hx hZ eT A (Ary.inb r hi hl) rfl (Sto.of A O I) (g := mkF m pc L (.ref x :: .int i :: .ref a :: rest)) rfl rfl (hb hby hd)
  exact (k T' h' X' e' W).go st
theorem own_mapget {xs : List Int32} {i : Nat} (h : i < xs.length) : (xs.map Value.int).getD i (.int 0) = .int xs[i] := by
  rw [List.getD_eq_getElem?_getD, List.getElem?_map, List.getElem?_eq_getElem h]; rfl
theorem own_rangetake (xs : List Int32) (N : Nat) (h : N ≤ xs.length) : ((List.range N).map fun i => (xs.map Value.int).getD (0 + i) (.int 0)) = (xs.take N).map Value.int := by
  refine List.ext_getElem? fun i => ?_
  rw [List.getElem?_map, List.getElem?_map]
  by_cases hi : i < N
  · rw [List.getElem?_range hi, List.getElem?_take_of_lt hi, List.getElem?_eq_getElem (Nat.lt_of_lt_of_le hi h)]
    show some ((xs.map Value.int).getD (0 + i) (.int 0)) = some (Value.int _)
    rw [Nat.zero_add, own_mapget (Nat.lt_of_lt_of_le hi h)]
  · rw [List.getElem?_eq_none (by rw [List.length_range]; omega), List.getElem?_eq_none (by rw [List.length_take]; omega)]; rfl
theorem own_fitI (xs : List Int32) (i : Nat) : fits .int ((xs.map Value.int).getD i (.int 0)) = true := by
  by_cases h : i < xs.length
  · rw [own_mapget h]; rfl
  · rw [List.getD_eq_getElem?_getD, List.getElem?_eq_none (by rw [List.length_map]; omega)]; rfl
theorem own_arvI {xs : List Int32} {z : Int32} {cl : Cell} (A : Arr Z h a cl .int) (r : cl.slots.toList = xs.map Value.int) (hz : z.toNatClampNeg = xs.length) (hz0 : ¬ z < 0) : Arv Z h a cl.cls .int z (xs.map Value.int) (.int 0) := by
  have sz := Ary.size r
  rw [List.length_map] at sz
  refine ⟨cl, A, rfl, by rw [sz, hz], hz0, fun i hi => ?_, fun i _ => own_fitI xs i⟩
  refine Ary.at r ?_
  rw [List.getD_eq_getElem?_getD, List.getElem?_eq_getElem (by rw [List.length_map, ← sz]; exact hi)]; rfl
theorem own_cpI (X : Stand p l e R s m args below meth c T locs cells slots) (hx : p.tables.exec = Jvm.exec) (hby : c.code = B) (hZ : Z.Warmed39 s.vm) {own : String} {index : Nat} (hown : s.vm.findClass own = some m.cls) (w1 : (Jvm.Cond.methodLink own index Jvm.Stand.acN).before a0 Z = true) (w2 : (Jvm.Cond.native Jvm.Stand.acN).before a0 Z = true) (w3 : (Jvm.Cond.static Jvm.Stand.acN).before a0 Z = true) (w4 : (Jvm.Cond.initialized "java/lang/System").before a0 Z = true) (eT : T.heap = h)
    {xs ys : List Int32} {P' : ClassId → Prop} (A : Ary P Z h a .int (xs.map Value.int)) (V : Ary P' Z h b .int (ys.map Value.int)) {z z' nn : Int32} {N : Nat} (hz : z.toNatClampNeg = xs.length) (hz0 : ¬ z < 0) (hz' : z'.toNatClampNeg = ys.length) (hz0' : ¬ z' < 0) (h3 : ¬ nn < 0) (hN : nn.toNatClampNeg = N) (h4 : N ≤ xs.length) (h5 : ys.length = N) {n0 : Nat} (Nf : Fr n0 locs) (ge : n0 ≤ b)
    (hsize : L.size = c.maxLocals) (hd : decode B pc = .ok (.invokestatic index, 3)) (hp : pc + 3 = pc') (hf : 1 ≤ R.frames) {W : Nat} (hW : (rest.map fun v => v.category).sum ≤ W) (hlo : W + (nativeFrameWords "java/lang/System" "arraycopy" 5 + 11) ≤ R.locals)
    (k : ∀ T' h' L', Stand p l e R s m args below meth c T' L' cells slots → T'.heap = h' → Fr n0 L' → Keep h h' [b] → Ary P' Z h' b .int ((xs.take N).map Value.int) → Gt p.tables e below F (T'.setTop (mkF m pc' L rest))) : Gt p.tables e below F (T.setTop (mkF m pc L (.int nn :: .int 0 :: .ref b :: .int 0 :: .ref a :: rest))) := by
  subst hp hN
  obtain ⟨ca, Aa, -, ra, ta⟩ := A
  obtain ⟨cb, Ab, Ob, rb, tb⟩ := V
  obtain ⟨T', h', L', X', e', N', K', F1, st⟩ := cpA X hx hZ hown w1 w2 w3 w4 eT (own_arvI Aa ra hz hz0) (own_arvI Ab rb hz' hz0') (Or.inl ⟨rfl, rfl⟩) (sp := 0) (dp := 0) (by decide) (by decide) h3 (by show 0 + _ ≤ _; rw [hz, Nat.zero_add]; exact h4) (by show 0 + _ ≤ _; rw [hz', h5, Nat.zero_add]; exact Nat.le_refl _) rfl (by show 0 + _ ≤ _; rw [List.length_map, h5, Nat.zero_add]; exact Nat.le_refl _) Nf ge (g := mkF m pc L (.int nn :: .int 0 :: .ref b :: .int 0 :: .ref a :: rest)) rfl hsize (rest := rest) rfl (hb hby hd) hf (W := W) (by show 2 * 0 + _ ≤ _; rw [Nat.mul_zero, Nat.zero_add]; exact hW) hlo
  refine (k T' h' L' X' e' N' K' ?_).go st
  obtain ⟨c2, A2, q2, s2, -, g2, -⟩ := F1
  have e0 : (0 : Int32).toNatClampNeg = 0 := by decide
  have hlist : (ys.map Value.int).take (0 : Int32).toNatClampNeg ++ ((List.range nn.toNatClampNeg).map fun i => (xs.map Value.int).getD ((0 : Int32).toNatClampNeg + i) (.int 0)) ++ (ys.map Value.int).drop ((0 : Int32).toNatClampNeg + nn.toNatClampNeg) = (xs.take nn.toNatClampNeg).map Value.int := by
    rw [e0, List.take_zero, List.nil_append, own_rangetake xs _ h4, Nat.zero_add, List.drop_eq_nil_of_le (by rw [List.length_map, h5]; exact Nat.le_refl _), List.append_nil]
  rw [hlist] at g2
  rw [hz', h5] at s2
  have ll : ((xs.take nn.toNatClampNeg).map Value.int).length = nn.toNatClampNeg := by rw [List.length_map, List.length_take]; omega
  refine ⟨c2, A2, by rw [q2]; exact Ob, List.ext_getElem? fun i => ?_, by rw [ll, ← h5, ← List.length_map (f := Value.int)]; exact tb⟩
  by_cases hi : i < nn.toNatClampNeg
  · rw [Array.getElem?_toList, g2 i (by rw [s2]; exact hi), List.getD_eq_getElem?_getD, List.getElem?_eq_getElem (by rw [ll]; exact hi)]; rfl
  · rw [List.getElem?_eq_none (by rw [Array.length_toList, s2]; omega), List.getElem?_eq_none (by rw [ll]; omega)]
end OwnJ

section OwnC
variable {Z : State} {h h' : Heap} {ws : List Addr} {n0 n1 : Nat}
/-- what the constructor's loop leaves: of the first n signs those that the set has, their ranks -/
def lp (P : Nat → Bool) (n len : Nat) : Nat → Nat → Nat → List Int32 → List Int32
  | 0, _, f, rl => rl.take f
  | k + 1, i, f, rl => if i < n ∧ f < len then (if P (i + 1) = true then lp P n len k (i + 1) (f + 1) (rl.set f (Int32.ofNat i + 1)) else lp P n len k (i + 1) f rl) else rl.take f
def rks (n : Nat) (P : Nat → Bool) : List Int32 := lp P n (min n (cnt P)) 6 0 0 (List.replicate (min n (cnt P)) 0)
/-- the ranking's signs from lo on -/
def LSI (Z : State) (h : Heap) (n0 n1 : Nat) (al : Addr) (n lo : Nat) (ed : Addr) (el : List Value) (ss vv : Nat → Addr) : Prop := (Fld Z h al "java/util/ArrayList" "elementData" "[Ljava/lang/Object;" (.ref ed)) ∧ (Exa Z h ed "[Ljava/lang/Object;") ∧ (Ary (ovO Z "java/lang/Object") Z h ed (.object "java/lang/Object") el) ∧ (∀ i, lo ≤ i → i < n → el[i]? = some (.ref (ss i)) ∧ STR Z h (ss i) (vv i) (Int32.ofNat (97 + i)) ∧ STH Z h (ss i) ∧ n0 ≤ ss i ∧ ss i < n1) ∧ (∀ i j, i < j → j < n → ss i < ss j)
theorem LSI.fE {Z : State} {h : Heap} {n0 n1 : Nat} {al : Addr} {n lo : Nat} {ed : Addr} {el : List Value} {ss vv : Nat → Addr} (S_ : LSI Z h n0 n1 al n lo ed el ss vv) : Fld Z h al "java/util/ArrayList" "elementData" "[Ljava/lang/Object;" (.ref ed) := S_.1
theorem LSI.eE {Z : State} {h : Heap} {n0 n1 : Nat} {al : Addr} {n lo : Nat} {ed : Addr} {el : List Value} {ss vv : Nat → Addr} (S_ : LSI Z h n0 n1 al n lo ed el ss vv) : Exa Z h ed "[Ljava/lang/Object;" := S_.2.1
theorem LSI.vE {Z : State} {h : Heap} {n0 n1 : Nat} {al : Addr} {n lo : Nat} {ed : Addr} {el : List Value} {ss vv : Nat → Addr} (S_ : LSI Z h n0 n1 al n lo ed el ss vv) : Ary (ovO Z "java/lang/Object") Z h ed (.object "java/lang/Object") el := S_.2.2.1
theorem LSI.st {Z : State} {h : Heap} {n0 n1 : Nat} {al : Addr} {n lo : Nat} {ed : Addr} {el : List Value} {ss vv : Nat → Addr} (S_ : LSI Z h n0 n1 al n lo ed el ss vv) : ∀ i, lo ≤ i → i < n → el[i]? = some (.ref (ss i)) ∧ STR Z h (ss i) (vv i) (Int32.ofNat (97 + i)) ∧ STH Z h (ss i) ∧ n0 ≤ ss i ∧ ss i < n1 := S_.2.2.2.1
theorem LSI.inc {Z : State} {h : Heap} {n0 n1 : Nat} {al : Addr} {n lo : Nat} {ed : Addr} {el : List Value} {ss vv : Nat → Addr} (S_ : LSI Z h n0 n1 al n lo ed el ss vv) : ∀ i j, i < j → j < n → ss i < ss j := S_.2.2.2.2
theorem LSI.of {al ed : Addr} {n : Nat} {el : List Value} {ss vv : Nat → Addr} (S : LST1 Z h n0 n1 al n ed el ss vv) : LSI Z h n0 n1 al n 0 ed el ss vv := ⟨S.fE, S.eE, S.vE, fun i _ hi => S.st i hi, S.inc⟩
theorem LSI.keep {al ed : Addr} {n lo : Nat} {el : List Value} {ss vv : Nat → Addr} (S : LSI Z h n0 n1 al n lo ed el ss vv) (K : Keep h h' ws) (qa : al ∉ ws) (qe : ed ∉ ws) {lo' : Nat} (hl : lo ≤ lo') (qs : ∀ i, lo' ≤ i → i < n → ss i ∉ ws) (qv : ∀ x, Exa Z h x "[B" → x ∉ ws) : LSI Z h' n0 n1 al n lo' ed el ss vv :=
  ⟨S.fE.keep K qa, S.eE.keep K, S.vE.keep K qe, fun i h1 h2 => by
    obtain ⟨k1, k2, k3, k4, k5⟩ := S.st i (Nat.le_trans hl h1) h2
    exact ⟨k1, k2.keep K (qs i h1 h2) (qv _ k2.2.2.2.1), k3.keep K (qs i h1 h2), k4, k5⟩, S.inc⟩
theorem own_nin1 {x y : Addr} (q : x ≠ y) : x ∉ [y] := fun k => q (List.mem_singleton.mp k)
theorem own_nin2 {x y z : Addr} (q : x ≠ y) (r : x ≠ z) : x ∉ [y, z] := fun k => by
  rcases List.mem_cons.mp k with k | k
  · exact q k
  · exact r (List.mem_singleton.mp k)
theorem own_clsI {C : String} (q : C ∈ clsS) : C ≠ "[I" := by
  simp only [clsS, List.mem_cons, List.not_mem_nil, or_false] at q
  rcases q with rfl | rfl | rfl | rfl | rfl | rfl <;> decide
theorem own_noso {so x : Addr} {C : String} (E : Exa Z h so "java/lang/String") (q : so < n1) (F : Exa Z h x C) (r : C = "java/lang/String" → n1 ≤ x) : x ≠ so := fun k => by
  by_cases e : C = "java/lang/String"
  · exact Nat.lt_irrefl _ (Nat.lt_of_lt_of_le q (k ▸ r e))
  · exact Exa.ne F E e k
theorem own_i32 : ∀ k : Nat, k ≤ 8 → ¬ (Int32.ofNat k < 0) ∧ (Int32.ofNat k).toNatClampNeg = k := by decide
theorem own_n10 : ∀ k : Nat, k ≤ 8 → ¬ (Int32.ofNat k = (10 : Int32)) := by decide
theorem own_ilt : ∀ i : Nat, i ≤ 8 → ∀ j : Nat, j ≤ 8 → (Int32.ofNat i < Int32.ofNat j ↔ i < j) := by decide
theorem own_ieq : ∀ i : Nat, i ≤ 8 → ∀ j : Nat, j ≤ 8 → (Int32.ofNat i = Int32.ofNat j ↔ i = j) := by decide
theorem own_lenI {k : Nat} {rl : List Int32} (q : rl.length = k) : (rl.map Value.int).length.toInt32 = Int32.ofNat k := by rw [List.length_map, q]
theorem own_btn : ∀ i : Nat, i < 5 → Int32.ofNat (97 + i) = bt (i + 1) := by decide
theorem own_hash1 : ∀ i : Nat, i < 5 → (bt (i + 1) &&& (255 : Int32)) = bt (i + 1) ∧ ¬ (bt (i + 1) = 0) ∧ (bt (i + 1) ^^^ ((bt (i + 1)).toUInt32 >>> ((16 : Int32) &&& 31).toUInt32).toInt32) = bt (i + 1) ∧ ¬ (((15 : Int32) &&& bt (i + 1)) < 0) ∧ ((15 : Int32) &&& bt (i + 1)).toNatClampNeg = i + 1 ∧ i + 1 < 16 := by decide
end OwnC

section OwnC2
theorem lp_x {P : Nat → Bool} {n len k i f : Nat} {rl : List Int32} (q : ¬ (i < n ∧ f < len)) : lp P n len (k + 1) i f rl = rl.take f := by rw [lp, if_neg q]
theorem lp_p {P : Nat → Bool} {n len k i f : Nat} {rl : List Int32} (q : i < n ∧ f < len) (hP : P (i + 1) = true) : lp P n len (k + 1) i f rl = lp P n len k (i + 1) (f + 1) (rl.set f (Int32.ofNat i + 1)) := by rw [lp, if_pos q, if_pos hP]
theorem lp_a {P : Nat → Bool} {n len k i f : Nat} {rl : List Int32} (q : i < n ∧ f < len) (hP : P (i + 1) = false) : lp P n len (k + 1) i f rl = lp P n len k (i + 1) f rl := by rw [lp, if_pos q, if_neg (by rw [hP]; decide)]
theorem own_minI : ∀ n : Nat, n ≤ 8 → ∀ c : Nat, c ≤ 8 → (if Int32.ofNat c < Int32.ofNat n then Int32.ofNat c else Int32.ofNat n) = Int32.ofNat (min n c) := by decide
end OwnC2
def QC (Z : State) (jr : Addr) (n : Nat) (P : Nat → Bool) (n0 : Nat) (v : Option Value) (h : Heap) (L : List Loc) : Prop := ∃ ra : Addr, v = none ∧ Fr n0 L ∧ n0 ≤ h.size ∧ Exa Z h jr "com/example/prior3/prior3/eval/JudgedRanking" ∧ Fld Z h jr "com/example/prior3/prior3/eval/JudgedRanking" "relevantRanks" "[I" (.ref ra) ∧ Fld Z h jr "com/example/prior3/prior3/eval/JudgedRanking" "relevantCount" "I" (.int (Int32.ofNat (cnt P))) ∧ Ary tr Z h ra .int ((rks n P).map Value.int)

section OwnW
def tw : List Int32 → Int32 → Nat
  | [], _ => 0
  | x :: r, c => if c < x then 0 else tw r c + 1
theorem tw_end {xs : List Int32} {i : Nat} {c : Int32} (h : ¬ i < xs.length) : tw (xs.drop i) c = 0 := by rw [List.drop_eq_nil_of_le (by omega)]; rfl
theorem tw_stop {xs : List Int32} {i : Nat} {c : Int32} (h : i < xs.length) (q : c < xs[i]) : tw (xs.drop i) c = 0 := by rw [List.drop_eq_getElem_cons h, tw, if_pos q]
theorem tw_go {xs : List Int32} {i : Nat} {c : Int32} (h : i < xs.length) (q : ¬ c < xs[i]) : tw (xs.drop i) c = tw (xs.drop (i + 1)) c + 1 := by rw [List.drop_eq_getElem_cons h, tw, if_neg q]
theorem own_mapat {xs : List Int32} {i : Nat} (h : i < xs.length) : (xs.map Value.int)[i]? = some (.int xs[i]) := by rw [List.getElem?_map, List.getElem?_eq_getElem h]; rfl
end OwnW
theorem own_two : Dy (4611686018427387904 : UInt64) 2 0 := own_c4611686018427387904
theorem own_one : Dy (4607182418800017408 : UInt64) 1 0 := own_c4607182418800017408

section OwnR
def s1 : List Int32 → Int64 → Int64
  | [], s => s
  | x :: r, s => s1 r (s + (x.toInt64))
def s2 : Nat → Nat → Int64 → Int64 → Int64
  | 0, _, _, s => s
  | k + 1, i, d, s => s2 k (i + 1) d (s + (d + ((Int32.ofNat i).toInt64)))
theorem own_jlt : ∀ i : Nat, i ≤ 9 → ∀ j : Nat, j ≤ 9 → (Int32.ofNat i < Int32.ofNat j ↔ i < j) := by decide
def tri : Nat → Nat → Int64
  | 0, _ => 0
  | k + 1, i => ((Int32.ofNat i).toInt64) + tri k (i + 1)
theorem s2_eq (d : Int64) : ∀ (k i : Nat) (s : Int64), s2 k i d s = s + (Int64.ofNat k * d + tri k i)
  | 0, i, s => by
    show s = s + (0 * d + 0)
    rw [Int64.zero_mul, Int64.add_zero, Int64.add_zero]
  | k + 1, i, s => by
    rw [s2, s2_eq d k (i + 1), tri]
    have hk : Int64.ofNat (k + 1) * d = d + Int64.ofNat k * d := by
      rw [Int64.ofNat_add, Int64.add_mul, show Int64.ofNat 1 = 1 from rfl, Int64.one_mul, Int64.add_comm]
    rw [hk]
    generalize Int64.ofNat k * d = u
    generalize tri k (i + 1) = v
    generalize (Int32.ofNat i).toInt64 = a
    ac_rfl
theorem tw_le : ∀ (xs : List Int32) (c : Int32), tw xs c ≤ xs.length
  | [], _ => Nat.le_refl _
  | x :: r, c => by
    rw [tw]
    split
    · exact Nat.zero_le _
    · exact Nat.succ_le_succ (tw_le r c)
theorem s1_end {xs : List Int32} {f i : Nat} {s : Int64} (h : ¬ i < f) : s1 ((xs.take f).drop i) s = s := by rw [List.drop_eq_nil_of_le (by rw [List.length_take]; omega)]; rfl
theorem s1_go {xs : List Int32} {f i : Nat} {s : Int64} (h : i < f) (hf : f ≤ xs.length) (hi : i < xs.length) : s1 ((xs.take f).drop i) s = s1 ((xs.take f).drop (i + 1)) (s + (xs[i].toInt64)) := by
  have hl : i < (xs.take f).length := by rw [List.length_take]; omega
  rw [List.drop_eq_getElem_cons hl, s1, List.getElem_take]
/-- no step of the score is a NaN -/
theorem own_pnn (R : Int64) {c d : Int32} (hc : 0 < c.toInt) (hd : 0 < d.toInt) : NoNaN64 (FP.ddiv (FP.l2d R) (FP.i2d c)) ∧ NoNaN64 (FP.ddiv (FP.i2d (c + (1 : Int32))) (4611686018427387904 : UInt64)) ∧ NoNaN64 (FP.dsub (FP.ddiv (FP.l2d R) (FP.i2d c)) (FP.ddiv (FP.i2d (c + (1 : Int32))) (4611686018427387904 : UInt64))) ∧ NoNaN64 (FP.ddiv (FP.dsub (FP.ddiv (FP.l2d R) (FP.i2d c)) (FP.ddiv (FP.i2d (c + (1 : Int32))) (4611686018427387904 : UInt64))) (FP.i2d d)) ∧ NoNaN64 (FP.dsub (4607182418800017408 : UInt64) (FP.ddiv (FP.dsub (FP.ddiv (FP.l2d R) (FP.i2d c)) (FP.ddiv (FP.i2d (c + (1 : Int32))) (4611686018427387904 : UInt64))) (FP.i2d d))) := by
  have z : ∀ {y : Int32}, 0 < y.toInt → ¬ FP.Core.DZero (FP.i2d y) := fun h => own_notz (dy_i2d _).fin ((dy_i2d _).pos h)
  have m := FP.Core.ddiv_out (FP.Core.l2d_fin R).notNaN (dy_i2d c).fin (z hc)
  have r := rng32 (c + 1)
  have H : Dy (FP.ddiv (FP.i2d (c + (1 : Int32))) (4611686018427387904 : UInt64)) (c + 1).toInt 1 := (dy_i2d (c + 1)).div own_two (by decide) (by rw [show ((2 ^ (0 + 1) : Nat) : Int) = 2 from rfl, show ((2 ^ 0 : Nat) : Int) = 1 from rfl]; omega) (by omega) (by decide)
  have q := FP.Core.dsub_out m H.fin
  have w := FP.Core.ddiv_out q (dy_i2d d).fin (z hd)
  have v := FP.Core.dsub_out' own_one.fin w
  exact ⟨Fl.noNaN64_no.mpr m, H.nn, Fl.noNaN64_no.mpr q, Fl.noNaN64_no.mpr w, Fl.noNaN64_no.mpr v⟩
end OwnR

theorem own_deq {x y : UInt64} (h : x = y) (n : NoNaN64 x) : deq x y := by subst h; exact FP.Core.dcmp_refl (Fl.noNaN64_no.mp n)
/-- (x and the greatest int) % k lies between 0 and k - 1 -/
theorem own_idx (x y : Int32) (k : Int) (hy : y.toInt = k) (hk : 0 < k) : 0 ≤ ((x &&& (2147483647 : Int32)) % y).toInt ∧ ((x &&& (2147483647 : Int32)) % y).toInt < k := by
  have h := c_mask x 2147483647 31 (by decide) (by decide)
  have e : ((2 ^ 31 : Nat) : Int) = 2147483648 := by decide
  rw [e] at h
  have r := (c_irem (x &&& 2147483647) y k hy).1 (by omega)
  rw [r]
  exact ⟨Int.emod_nonneg _ (by omega), Int.emod_lt_of_pos _ hk⟩
theorem own_compact {s : State} {args : Array Value} (h0 : (Jvm.Cond.initializedFor "java/lang/String" "COMPACT_STRINGS" "Z").before args s = true) (h1 : (Jvm.Cond.isInt (.static "java/lang/String" "COMPACT_STRINGS" "Z")).before args s = true) (h2 : (Jvm.Cond.not (Jvm.Cond.eq (.static "java/lang/String" "COMPACT_STRINGS" "Z") (.int 0))).before args s = true) :
    ∃ z : Int32, ¬ (z = 0) ∧ Sta s s.heap "java/lang/String" "COMPACT_STRINGS" "Z" (.int z) := by
  obtain ⟨z, e⟩ := is_v (Cond.before_iff.mp h1)
  refine ⟨z, fun q => ?_, Sta.start e (Or.inl h0)⟩
  have n := not_v (Cond.before_iff.mp h2)
  have y := eq_i e (Term.int_eval 0) (by rw [q])
  exact absurd (y.symm.trans n) (by simp)
theorem own_empty {s : State} {args : Array Value} {C n d K : String} (h0 : (Jvm.Cond.initializedFor C n d).before args s = true) (hE : (Jvm.Cond.exactly (.static C n d) K).before args s = true) : ∃ a, Sta s s.heap C n d (.ref a) := by
  obtain ⟨a, c', cell, k, e1, -⟩ := Cond.exactly_spec hE
  exact ⟨a, Sta.start e1 (Or.inl h0)⟩
theorem own_len0 {s : State} {args : Array Value} {t : Term} {a : Addr} {cl : Cell} (e : t.eval args s none [] s = some (.ref a)) (ha : s.arrayAt? a = some cl) (hl : (Jvm.Cond.eq (.length t) (.int 0)).before args s = true) : cl.slots.size = 0 := by
  have hv := Cond.before_iff.mp hl
  by_cases hs : cl.slots.size < 2 ^ 31
  · have hf := len_f e ha hs
    simp only [Cond.value, hf, Term.int_eval] at hv
    have h0 : cl.slots.size.toInt32 = 0 := by simpa using hv
    have h2 := congrArg Int32.toInt h0
    rw [show cl.slots.size.toInt32 = Int32.ofNat cl.slots.size from rfl, Int32.toInt_ofNat_of_lt hs] at h2
    have h3 : (0 : Int32).toInt = 0 := by decide
    omega
  · simp [Cond.value, Term.eval, e, ha, hs] at hv
theorem own_dfl {s : State} {args : Array Value} {C n d K : String} {ty : FieldType} (hi : (Jvm.Cond.initializedFor C n d).before args s = true ∨ ((Jvm.Cond.initialized C).before args s = true ∧ (Jvm.Cond.laysStatic C n d).before args s = true)) (hA : (Jvm.Cond.arrayOf (.static C n d) ty).before args s = true) (hE : (Jvm.Cond.exactly (.static C n d) K).before args s = true) (hl : (Jvm.Cond.eq (.length (.static C n d)) (.int 0)).before args s = true) :
    ∃ a, Sta s s.heap C n d (.ref a) ∧ Exa s s.heap a K ∧ Ary tr s s.heap a ty [] := by
  obtain ⟨a, e⟩ := arr_v (Cond.before_iff.mp hA)
  obtain ⟨cl, A⟩ := Arr.start e (Cond.before_iff.mp hA)
  refine ⟨a, Sta.start e hi, Exa.start e (Cond.before_iff.mp hE), cl, A, trivial, ?_, by decide⟩
  have z := own_len0 e (A.fin (Vm.Alike.refl _)) hl
  rw [← Array.length_toList] at z
  exact List.length_eq_zero_iff.mp z

def ex5 (b1 b2 b3 b4 b5 : Bool) : List Int32 := (if b1 then [1] else []) ++ (if b2 then [2] else []) ++ (if b3 then [3] else []) ++ (if b4 then [4] else []) ++ (if b5 then [5] else [])
theorem own_ex5 : ∀ b1 b2 b3 b4 b5 : Bool, (ex5 b1 b2 b3 b4 b5).length ≤ 5 := by decide
def okB (n : Nat) (b1 b2 b3 b4 b5 : Bool) : Bool := (!b1 || decide (1 ≤ n)) && (!b2 || decide (2 ≤ n)) && (!b3 || decide (3 ≤ n)) && (!b4 || decide (4 ≤ n)) && (!b5 || decide (5 ≤ n))
theorem own_imp {b : Bool} {p : Prop} [Decidable p] (h : b = true → p) : (!b || decide p) = true := by
  cases b
  · rfl
  · simpa using h rfl
theorem own_rks0 : ∀ b1 b2 b3 b4 b5 x1 x2 x3 : Bool, ∀ n : Nat, n ≤ 5 → okB n b1 b2 b3 b4 b5 = true → rks n (pf [(10, x3), (9, x2), (8, x1), (5, b5), (4, b4), (3, b3), (2, b2), (1, b1)]) = ex5 b1 b2 b3 b4 b5 := by decide +kernel
theorem own_cnt0' : ∀ b1 b2 b3 b4 b5 x1 x2 x3 : Bool, cnt (pf [(10, x3), (9, x2), (8, x1), (5, b5), (4, b4), (3, b3), (2, b2), (1, b1)]) = b2n b1 + b2n b2 + b2n b3 + b2n b4 + b2n b5 + (b2n x1 + b2n x2 + b2n x3) := by decide +kernel
section OwnT
variable {n E : Nat} {b1 b2 b3 b4 b5 x1 x2 x3 : Bool}
theorem own_rks (H : (n ≤ 5 ∧ (b1 = true → 1 ≤ n) ∧ (b2 = true → 2 ≤ n) ∧ (b3 = true → 3 ≤ n) ∧ (b4 = true → 4 ≤ n) ∧ (b5 = true → 5 ≤ n) ∧ E ≤ 3 ∧ 0 < b2n b1 + b2n b2 + b2n b3 + b2n b4 + b2n b5 + E)) : rks n (pf [(10, x3), (9, x2), (8, x1), (5, b5), (4, b4), (3, b3), (2, b2), (1, b1)]) = ex5 b1 b2 b3 b4 b5 := own_rks0 b1 b2 b3 b4 b5 x1 x2 x3 n H.1 (by rw [okB, own_imp H.2.1, own_imp H.2.2.1, own_imp H.2.2.2.1, own_imp H.2.2.2.2.1, own_imp H.2.2.2.2.2.1]; rfl)
theorem own_xE (hE : E ≤ 3) (hX : (x1 = decide (0 < E)) ∧ (x2 = decide (1 < E)) ∧ (x3 = decide (2 < E))) : b2n x1 + b2n x2 + b2n x3 = E := by
  obtain ⟨rfl, rfl, rfl⟩ := hX
  rcases E with _ | _ | _ | _ | E
  · rfl
  · rfl
  · rfl
  · rfl
  · omega
theorem own_cnt3 (H : (n ≤ 5 ∧ (b1 = true → 1 ≤ n) ∧ (b2 = true → 2 ≤ n) ∧ (b3 = true → 3 ≤ n) ∧ (b4 = true → 4 ≤ n) ∧ (b5 = true → 5 ≤ n) ∧ E ≤ 3 ∧ 0 < b2n b1 + b2n b2 + b2n b3 + b2n b4 + b2n b5 + E)) (hX : (x1 = decide (0 < E)) ∧ (x2 = decide (1 < E)) ∧ (x3 = decide (2 < E))) : cnt (pf [(10, x3), (9, x2), (8, x1), (5, b5), (4, b4), (3, b3), (2, b2), (1, b1)]) = b2n b1 + b2n b2 + b2n b3 + b2n b4 + b2n b5 + E := by rw [own_cnt0', own_xE H.2.2.2.2.2.2.1 hX]
theorem own_cpos (H : (n ≤ 5 ∧ (b1 = true → 1 ≤ n) ∧ (b2 = true → 2 ≤ n) ∧ (b3 = true → 3 ≤ n) ∧ (b4 = true → 4 ≤ n) ∧ (b5 = true → 5 ≤ n) ∧ E ≤ 3 ∧ 0 < b2n b1 + b2n b2 + b2n b3 + b2n b4 + b2n b5 + E)) (hX : (x1 = decide (0 < E)) ∧ (x2 = decide (1 < E)) ∧ (x3 = decide (2 < E))) : 0 < cnt (pf [(10, x3), (9, x2), (8, x1), (5, b5), (4, b4), (3, b3), (2, b2), (1, b1)]) := by rw [own_cnt3 H hX]; exact H.2.2.2.2.2.2.2
theorem own_b2n (b : Bool) : b2n b ≤ 1 := by cases b <;> decide
theorem own_tot (H : (n ≤ 5 ∧ (b1 = true → 1 ≤ n) ∧ (b2 = true → 2 ≤ n) ∧ (b3 = true → 3 ≤ n) ∧ (b4 = true → 4 ≤ n) ∧ (b5 = true → 5 ≤ n) ∧ E ≤ 3 ∧ 0 < b2n b1 + b2n b2 + b2n b3 + b2n b4 + b2n b5 + E)) : 0 < (Int32.ofNat (b2n b1 + b2n b2 + b2n b3 + b2n b4 + b2n b5 + E)).toInt := by
  have a0 := own_b2n b1
  have a1 := own_b2n b2
  have a2 := own_b2n b3
  have a3 := own_b2n b4
  have a4 := own_b2n b5
  have hE := H.2.2.2.2.2.2.1
  have hT := H.2.2.2.2.2.2.2
  have : ∀ k : Nat, k ≤ 8 → 0 < k → 0 < (Int32.ofNat k).toInt := by decide
  exact this _ (by omega) hT
end OwnT
theorem own_bn {p q : Prop} [Decidable p] [Decidable q] : ∃ b, (if p then (0 : Int32) else (if q then (0 : Int32) else 1)) = i01 b ∧ (b = true → ¬ p) := by
  by_cases hp : p <;> by_cases hq : q <;> simp only [if_pos, if_neg, hp, hq, if_true, if_false]
  · exact ⟨false, rfl, fun k => nomatch k⟩
  · exact ⟨false, rfl, fun k => nomatch k⟩
  · exact ⟨false, rfl, fun k => nomatch k⟩
  · exact ⟨true, rfl, fun _ h => h⟩
theorem own_toN {x : Int32} {k : Int} (h0 : 0 ≤ x.toInt) (h1 : x.toInt < k) (hk : k ≤ 8) : ∃ N : Nat, x = Int32.ofNat N ∧ (N : Int) = x.toInt := by
  refine ⟨x.toInt.toNat, ?_, by omega⟩
  rw [← Int32.toInt_inj]
  have : ∀ m : Nat, m ≤ 8 → (Int32.ofNat m).toInt = m := by decide
  rw [this _ (by omega)]
  omega
theorem own_extra (S : Nat) (hS : S ≤ 5) (e0 : Int32) (h0 : 0 ≤ e0.toInt) (h1 : e0.toInt < 3 + 1) {w : Int32} (q : (if (Int32.ofNat S + e0) = 0 then (1 : Int32) else e0) = w) : ∃ E : Nat, w = Int32.ofNat E ∧ E ≤ 3 ∧ 0 < S + E := by
  obtain ⟨N, rfl, hN⟩ := own_toN h0 h1 (by decide)
  have hN2 : N ≤ 3 := by omega
  subst q
  have : ∀ S : Nat, S ≤ 5 → ∀ N : Nat, N ≤ 3 → ((Int32.ofNat S + Int32.ofNat N) = 0 ↔ S + N = 0) := by decide
  by_cases z : S + N = 0
  · rw [if_pos ((this S hS N hN2).mpr z)]; exact ⟨1, rfl, by decide, by omega⟩
  · rw [if_neg fun k => z ((this S hS N hN2).mp k)]; exact ⟨N, rfl, hN2, by omega⟩
theorem own_s4 : ∀ b1 b2 b3 b4 b5 : Bool, b2n b1 + b2n b2 + b2n b3 + b2n b4 + b2n b5 ≤ 5 := by decide
theorem own_ge {N : Nat} (hN : N ≤ 8) {j : Nat} (hj : j ≤ 8) (h : ¬ Int32.ofNat N < Int32.ofNat j) : j ≤ N := Nat.le_of_not_lt fun q => h ((own_ilt N hN j hj).mpr q)

theorem own_sum5 (b1 b2 b3 b4 b5 : Bool) : ∀ {w1 w2 w3 w4 w5 n : Int32}, (if (i01 b1) = 0 then (0 : Int32) else (1 : Int32)) = w1 → (if (i01 b2) = 0 then (0 : Int32) else (1 : Int32)) = w2 → (if (i01 b3) = 0 then (0 : Int32) else (1 : Int32)) = w3 → (if (i01 b4) = 0 then (0 : Int32) else (1 : Int32)) = w4 → (if (i01 b5) = 0 then (0 : Int32) else (1 : Int32)) = w5 → ((((w1 + w2) + w3) + w4) + w5) = n → n = Int32.ofNat (b2n b1 + b2n b2 + b2n b3 + b2n b4 + b2n b5) := by
  intro w1 w2 w3 w4 w5 n h1 h2 h3 h4 h5 h6
  subst h1 h2 h3 h4 h5 h6
  revert b1 b2 b3 b4 b5
  decide
theorem own_dp1 {x d : Int32} (q : (1 : Int32) + ((x &&& (2147483647 : Int32)) % (7 : Int32)) = d) : 0 < d.toInt := by
  obtain ⟨a, b⟩ := own_idx x 7 7 (by decide) (by decide)
  rw [← q]
  have h := c_iadd 1 ((x &&& (2147483647 : Int32)) % (7 : Int32))
  have e : (1 : Int32).toInt = 1 := by decide
  rw [e] at h
  have r := rng32 ((1 : Int32) + ((x &&& (2147483647 : Int32)) % (7 : Int32)))
  omega
theorem own_dp2 {y d : Int32} (q : (if (1 : Int32) < y then y else (1 : Int32)) = d) : 0 < d.toInt := by
  rw [← q]
  have e : (1 : Int32).toInt = 1 := by decide
  by_cases h : (1 : Int32) < y
  · rw [if_pos h]; rw [Int32.lt_iff_toInt_lt] at h; omega
  · rw [if_neg h]; omega
theorem own_len5 : ∀ b1 b2 b3 b4 b5 : Bool, ∀ E : Nat, (ex5 b1 b2 b3 b4 b5).length ≤ b2n b1 + b2n b2 + b2n b3 + b2n b4 + b2n b5 + E := by
  intro b1 b2 b3 b4 b5 E
  have : ∀ b1 b2 b3 b4 b5 : Bool, (ex5 b1 b2 b3 b4 b5).length ≤ b2n b1 + b2n b2 + b2n b3 + b2n b4 + b2n b5 := by decide
  exact Nat.le_trans (this b1 b2 b3 b4 b5) (Nat.le_add_right _ _)
section OwnT
variable {n E : Nat} {b1 b2 b3 b4 b5 : Bool}
theorem own_E3 (H : (n ≤ 5 ∧ (b1 = true → 1 ≤ n) ∧ (b2 = true → 2 ≤ n) ∧ (b3 = true → 3 ≤ n) ∧ (b4 = true → 4 ≤ n) ∧ (b5 = true → 5 ≤ n) ∧ E ≤ 3 ∧ 0 < b2n b1 + b2n b2 + b2n b3 + b2n b4 + b2n b5 + E)) : E ≤ 3 := H.2.2.2.2.2.2.1
theorem own_c8 (H : (n ≤ 5 ∧ (b1 = true → 1 ≤ n) ∧ (b2 = true → 2 ≤ n) ∧ (b3 = true → 3 ≤ n) ∧ (b4 = true → 4 ≤ n) ∧ (b5 = true → 5 ≤ n) ∧ E ≤ 3 ∧ 0 < b2n b1 + b2n b2 + b2n b3 + b2n b4 + b2n b5 + E)) : b2n b1 + b2n b2 + b2n b3 + b2n b4 + b2n b5 + E ≤ 8 := by
  have a := own_s4 b1 b2 b3 b4 b5
  have b := own_E3 H
  omega
theorem own_totp (H : (n ≤ 5 ∧ (b1 = true → 1 ≤ n) ∧ (b2 = true → 2 ≤ n) ∧ (b3 = true → 3 ≤ n) ∧ (b4 = true → 4 ≤ n) ∧ (b5 = true → 5 ≤ n) ∧ E ≤ 3 ∧ 0 < b2n b1 + b2n b2 + b2n b3 + b2n b4 + b2n b5 + E)) : 0 < ((Int32.ofNat (b2n b1 + b2n b2 + b2n b3 + b2n b4 + b2n b5)) + (Int32.ofNat E)).toInt := by rw [← Int32.ofNat_add]; exact own_tot H
end OwnT
theorem own_cls5 (cu : Int32) : (cu < 1 ∧ cu < 2 ∧ cu < 3 ∧ cu < 4 ∧ cu < 5) ∨ (¬ cu < 1 ∧ cu < 2 ∧ cu < 3 ∧ cu < 4 ∧ cu < 5) ∨ (¬ cu < 1 ∧ ¬ cu < 2 ∧ cu < 3 ∧ cu < 4 ∧ cu < 5) ∨ (¬ cu < 1 ∧ ¬ cu < 2 ∧ ¬ cu < 3 ∧ cu < 4 ∧ cu < 5) ∨ (¬ cu < 1 ∧ ¬ cu < 2 ∧ ¬ cu < 3 ∧ ¬ cu < 4 ∧ cu < 5) ∨ (¬ cu < 1 ∧ ¬ cu < 2 ∧ ¬ cu < 3 ∧ ¬ cu < 4 ∧ ¬ cu < 5) := by
  simp only [Int32.lt_iff_toInt_lt]
  have e1 : (1 : Int32).toInt = 1 := by decide
  have e2 : (2 : Int32).toInt = 2 := by decide
  have e3 : (3 : Int32).toInt = 3 := by decide
  have e4 : (4 : Int32).toInt = 4 := by decide
  have e5 : (5 : Int32).toInt = 5 := by decide
  rw [e1, e2, e3, e4, e5]
  omega
/-- what the head of a list of ranks is, by yes and no -/
def twB : List (Bool × Int32) → List Int32
  | [] => []
  | (true, _) :: _ => []
  | (false, x) :: r => x :: twB r
theorem tw_B : ∀ (xs : List Int32) (c : Int32), tw xs c = (twB (xs.map fun x => (decide (c < x), x))).length ∧ xs.take (tw xs c) = twB (xs.map fun x => (decide (c < x), x))
  | [], _ => ⟨rfl, rfl⟩
  | x :: r, c => by
    obtain ⟨h1, h2⟩ := tw_B r c
    rw [tw, List.map_cons]
    by_cases q : c < x
    · rw [if_pos q, decide_eq_true q]; exact ⟨rfl, rfl⟩
    · rw [if_neg q, decide_eq_false q]
      exact ⟨by rw [h1]; rfl, by rw [List.take_succ_cons, h2]; rfl⟩
def exB (b1 b2 b3 b4 b5 c1 c2 c3 c4 c5 : Bool) : List (Bool × Int32) := (if b1 then [(c1, 1)] else []) ++ (if b2 then [(c2, 2)] else []) ++ (if b3 then [(c3, 3)] else []) ++ (if b4 then [(c4, 4)] else []) ++ (if b5 then [(c5, 5)] else [])
theorem own_exB (dp : Int32) : ∀ b1 b2 b3 b4 b5 : Bool, ((ex5 b1 b2 b3 b4 b5).map fun x => (decide (dp < x), x)) = exB b1 b2 b3 b4 b5 (decide (dp < 1)) (decide (dp < 2)) (decide (dp < 3)) (decide (dp < 4)) (decide (dp < 5)) := by
  intro b1 b2 b3 b4 b5
  cases b1 <;> cases b2 <;> cases b3 <;> cases b4 <;> cases b5 <;> rfl
/-- the yes and no come in order -/
def mon (c1 c2 c3 c4 c5 : Bool) : Bool := (!c1 || c2) && (!c2 || c3) && (!c3 || c4) && (!c4 || c5)
def fB (b1 b2 b3 b4 b5 c1 c2 c3 c4 c5 : Bool) : Int32 := ((((if b1 && !c1 then (1 : Int32) else 0) + (if b2 && !c2 then (1 : Int32) else 0)) + (if b3 && !c3 then (1 : Int32) else 0)) + (if b4 && !c4 then (1 : Int32) else 0)) + (if b5 && !c5 then (1 : Int32) else 0)
def jB (b1 b2 b3 b4 b5 c1 c2 c3 c4 c5 : Bool) : Int64 := ((((if b1 && !c1 then ((1 : Int32).toInt64) else 0) + (if b2 && !c2 then ((2 : Int32).toInt64) else 0)) + (if b3 && !c3 then ((3 : Int32).toInt64) else 0)) + (if b4 && !c4 then ((4 : Int32).toInt64) else 0)) + (if b5 && !c5 then ((5 : Int32).toInt64) else 0)
theorem own_allB : ∀ b1 b2 b3 b4 b5 c1 c2 c3 c4 c5 : Bool, mon c1 c2 c3 c4 c5 = true → fB b1 b2 b3 b4 b5 c1 c2 c3 c4 c5 = Int32.ofNat (twB (exB b1 b2 b3 b4 b5 c1 c2 c3 c4 c5)).length ∧ jB b1 b2 b3 b4 b5 c1 c2 c3 c4 c5 = s1 (twB (exB b1 b2 b3 b4 b5 c1 c2 c3 c4 c5)) (0 : Int64) := by decide +kernel
theorem own_mon (dp : Int32) : mon (decide (dp < 1)) (decide (dp < 2)) (decide (dp < 3)) (decide (dp < 4)) (decide (dp < 5)) = true := by
  rcases own_cls5 dp with ⟨h1, h2, h3, h4, h5⟩ | ⟨h1, h2, h3, h4, h5⟩ | ⟨h1, h2, h3, h4, h5⟩ | ⟨h1, h2, h3, h4, h5⟩ | ⟨h1, h2, h3, h4, h5⟩ | ⟨h1, h2, h3, h4, h5⟩ <;> simp [mon, h1, h2, h3, h4, h5]
theorem own_if1 (b : Bool) {p : Prop} [Decidable p] {α : Type} (x y : α) : (if (i01 b) = 0 then x else (if p then x else y)) = (if b && !(decide p) then y else x) := by
  cases b
  · rfl
  · by_cases h : p
    · simp [h, i01]
    · simp [h, i01]
theorem own_c1 : ∀ c : Nat, c ≤ 8 → ∀ f : Nat, f ≤ 5 → f ≤ c → ((Int32.ofNat c - Int32.ofNat f).toInt64) = Int64.ofNat (c - f) ∧ ((((Int32.ofNat c).toInt64) * ((Int32.ofNat c + (1 : Int32)).toInt64)) - (((Int32.ofNat f).toInt64) * ((Int32.ofNat f + (1 : Int32)).toInt64))) / (2 : Int64) = tri (c - f) (f + 1) := by decide
theorem own_rank (b1 b2 b3 b4 b5 : Bool) (E : Nat) (hE : E ≤ 3) (dp : Int32) {f1 f2 f3 f4 f5 nf : Int32} {j1 j2 j3 j4 j5 sf rst rk : Int64} (qf1 : (if (i01 b1) = 0 then (0 : Int32) else (if dp < (1 : Int32) then (0 : Int32) else (1 : Int32))) = f1) (qf2 : (if (i01 b2) = 0 then (0 : Int32) else (if dp < (2 : Int32) then (0 : Int32) else (1 : Int32))) = f2) (qf3 : (if (i01 b3) = 0 then (0 : Int32) else (if dp < (3 : Int32) then (0 : Int32) else (1 : Int32))) = f3) (qf4 : (if (i01 b4) = 0 then (0 : Int32) else (if dp < (4 : Int32) then (0 : Int32) else (1 : Int32))) = f4) (qf5 : (if (i01 b5) = 0 then (0 : Int32) else (if dp < (5 : Int32) then (0 : Int32) else (1 : Int32))) = f5) (qn : ((((f1 + f2) + f3) + f4) + f5) = nf) (qj1 : (if (i01 b1) = 0 then (0 : Int64) else (if dp < (1 : Int32) then (0 : Int64) else ((1 : Int32).toInt64))) = j1) (qj2 : (if (i01 b2) = 0 then (0 : Int64) else (if dp < (2 : Int32) then (0 : Int64) else ((2 : Int32).toInt64))) = j2) (qj3 : (if (i01 b3) = 0 then (0 : Int64) else (if dp < (3 : Int32) then (0 : Int64) else ((3 : Int32).toInt64))) = j3) (qj4 : (if (i01 b4) = 0 then (0 : Int64) else (if dp < (4 : Int32) then (0 : Int64) else ((4 : Int32).toInt64))) = j4) (qj5 : (if (i01 b5) = 0 then (0 : Int64) else (if dp < (5 : Int32) then (0 : Int64) else ((5 : Int32).toInt64))) = j5) (qs : ((((j1 + j2) + j3) + j4) + j5) = sf)
    (qr : ((((((Int32.ofNat (b2n b1 + b2n b2 + b2n b3 + b2n b4 + b2n b5)) + (Int32.ofNat E)) - nf).toInt64) * (dp.toInt64)) + ((((((Int32.ofNat (b2n b1 + b2n b2 + b2n b3 + b2n b4 + b2n b5)) + (Int32.ofNat E)).toInt64) * ((((Int32.ofNat (b2n b1 + b2n b2 + b2n b3 + b2n b4 + b2n b5)) + (Int32.ofNat E)) + (1 : Int32)).toInt64)) - ((nf.toInt64) * ((nf + (1 : Int32)).toInt64))) / (2 : Int64))) = rst) (qk : (sf + rst) = rk) : s2 (b2n b1 + b2n b2 + b2n b3 + b2n b4 + b2n b5 + E - tw (ex5 b1 b2 b3 b4 b5) dp) (tw (ex5 b1 b2 b3 b4 b5) dp + 1) (dp.toInt64) (s1 ((ex5 b1 b2 b3 b4 b5).take (tw (ex5 b1 b2 b3 b4 b5) dp)) (0 : Int64)) = rk := by
  rw [own_if1] at qf1 qf2 qf3 qf4 qf5 qj1 qj2 qj3 qj4 qj5
  obtain ⟨t1, t2⟩ := tw_B (ex5 b1 b2 b3 b4 b5) dp
  rw [own_exB] at t1 t2
  obtain ⟨g1, g2⟩ := own_allB b1 b2 b3 b4 b5 _ _ _ _ _ (own_mon dp)
  have hl : tw (ex5 b1 b2 b3 b4 b5) dp ≤ b2n b1 + b2n b2 + b2n b3 + b2n b4 + b2n b5 := Nat.le_trans (tw_le _ _) (own_len5 b1 b2 b3 b4 b5 0)
  have h5 := own_s4 b1 b2 b3 b4 b5
  have e1 : nf = Int32.ofNat (tw (ex5 b1 b2 b3 b4 b5) dp) := by
    rw [t1, ← g1, ← qn, ← qf1, ← qf2, ← qf3, ← qf4, ← qf5]; rfl
  have e2 : sf = s1 ((ex5 b1 b2 b3 b4 b5).take (tw (ex5 b1 b2 b3 b4 b5) dp)) (0 : Int64) := by
    rw [t2, ← g2, ← qs, ← qj1, ← qj2, ← qj3, ← qj4, ← qj5]; rfl
  rw [← Int32.ofNat_add, e1] at qr
  obtain ⟨c1, c2⟩ := own_c1 (b2n b1 + b2n b2 + b2n b3 + b2n b4 + b2n b5 + E) (by omega) (tw (ex5 b1 b2 b3 b4 b5) dp) (by omega) (by omega)
  rw [c1, c2] at qr
  rw [s2_eq, ← qk, ← qr, e2]

theorem ef5 (m : MethodId) (x0 : Addr) : entryFrame m #[(.ref x0)] 1 = mkF m 0 #[.val (.ref x0)] [] := by first | (simp [entryFrame, mkF, argsToLocals, Value.category]; done) | rfl
def Q5 (Z : State) (o0 : Addr) (h0 : Heap) (n0 : Nat) (v : Option Value) (h : Heap) (L : List Loc) : Prop := v = none ∧ Fr n0 L ∧ h0 = h
theorem rm5 (l : Launch) (Z : State) (a0 : Array Value) (hw : ∀ d ∈ tables_1, d.before a0 Z = true) (ws : List Jvm.Cond) (o0 : Addr) (h0 : Heap) (n0 : Nat) (Z0 : n0 ≤ h0.size) :
    MetFree l (⟨"java/util/AbstractCollection", "<init>", "()V"⟩ : MethodName) (head1 (Jvm.Cond.code (⟨"java/util/AbstractCollection", "<init>", "()V"⟩ : MethodName) jdk_22_method_1_code 1 none :: ws) ({ frames := 1, cells := 0, slots := 0, locals := 12 } : Room)) (fun a U => a = #[(.ref o0)] ∧ Z.Warmed39 U.vm ∧ U.heap = h0) (fun _ _ _ _ _ => True) (fun _ U o U' => ∃ v L, o = .returned v ∧ Q5 Z o0 h0 n0 v U'.heap L ∧ FrameEnd U o U' L ({ frames := 1, cells := 0, slots := 0, locals := 12 } : Room).cells ({ frames := 1, cells := 0, slots := 0, locals := 12 } : Room).slots) := by
  refine MetFree.of_bodySF (plainFor_of_name pn_java_util_AbstractCollection) hisR ?_
  intro p e s m args below meth c s₁ Bd hml0 hP hK
  obtain ⟨rfl, hZ, hhp⟩ := hP
  have hx := Bd.exec
  have hby := Bd.bytes
  have hml : c.maxLocals = 1 := hml0
  have hown : s.vm.findClass "java/util/AbstractCollection" = some m.cls := findClass_of_methodNamed Bd.named
  have hnm := (name_of_methodNamed Bd.named Bd.method).1
  have X0 : Stand p l e ({ frames := 1, cells := 0, slots := 0, locals := 12 } : Room) s m #[(.ref o0)] below meth c s₁ [] 0 0 := Stand.of_body Bd
  have eH0 : s₁.heap = h0 := by rw [← hhp, Bd.state]; rfl
  have N0 := Fr.nil n0
  show Gt p.tables e below (fun o U' => ∃ v L, o = .returned v ∧ Q5 Z o0 h0 n0 v U'.heap L ∧ FrameEnd s o U' L ({ frames := 1, cells := 0, slots := 0, locals := 12 } : Room).cells ({ frames := 1, cells := 0, slots := 0, locals := 12 } : Room).slots) _
  refine own_cast (ef5 m o0) ?_
  refine own_aloadN X0 hx hby rfl rfl d5_0 (pc' := 1) rfl ?_
  refine own_initO X0 hx hby hZ hown (hw _ (mi 27 rfl)) (hw _ (mi 28 rfl)) (hw _ (mi 29 rfl)) eH0 (by rw [hml]; rfl) d5_1 (pc' := 4) rfl (by decide) (W := 0) (Nat.le_of_eq rfl) (by decide) (fun T1 X1 eH1 => ?_)
  exact own_retV X1 hx hby Bd.notSynchronized Bd.returns d5_4 (by decide) (by decide) eH1 ⟨rfl, N0, rfl⟩
theorem ef8 (m : MethodId) (x0 : Addr) : entryFrame m #[(.ref x0)] 1 = mkF m 0 #[.val (.ref x0)] [] := by first | (simp [entryFrame, mkF, argsToLocals, Value.category]; done) | rfl
def Q8 (Z : State) (o0 : Addr) (h0 : Heap) (n0 : Nat) (v : Option Value) (h : Heap) (L : List Loc) : Prop := v = none ∧ Fr n0 L ∧ h0 = h
theorem rm8 (l : Launch) (Z : State) (a0 : Array Value) (hw : ∀ d ∈ tables_1, d.before a0 Z = true) (ws : List Jvm.Cond) (o0 : Addr) (h0 : Heap) (n0 : Nat) (Z0 : n0 ≤ h0.size) :
    MetFree l (⟨"java/util/AbstractSet", "<init>", "()V"⟩ : MethodName) (head1 (Jvm.Cond.code (⟨"java/util/AbstractSet", "<init>", "()V"⟩ : MethodName) jdk_91_method_1_code 1 none :: ws) ({ frames := 2, cells := 0, slots := 0, locals := 24 } : Room)) (fun a U => a = #[(.ref o0)] ∧ Z.Warmed39 U.vm ∧ U.heap = h0) (fun _ _ _ _ _ => True) (fun _ U o U' => ∃ v L, o = .returned v ∧ Q8 Z o0 h0 n0 v U'.heap L ∧ FrameEnd U o U' L ({ frames := 2, cells := 0, slots := 0, locals := 24 } : Room).cells ({ frames := 2, cells := 0, slots := 0, locals := 24 } : Room).slots) := by
  refine MetFree.of_bodySF (plainFor_of_name pn_java_util_AbstractSet) hisR ?_
  intro p e s m args below meth c s₁ Bd hml0 hP hK
  obtain ⟨rfl, hZ, hhp⟩ := hP
  have hx := Bd.exec
  have hby := Bd.bytes
  have hml : c.maxLocals = 1 := hml0
  have hown : s.vm.findClass "java/util/AbstractSet" = some m.cls := findClass_of_methodNamed Bd.named
  have hnm := (name_of_methodNamed Bd.named Bd.method).1
  have X0 : Stand p l e ({ frames := 2, cells := 0, slots := 0, locals := 24 } : Room) s m #[(.ref o0)] below meth c s₁ [] 0 0 := Stand.of_body Bd
  have eH0 : s₁.heap = h0 := by rw [← hhp, Bd.state]; rfl
  have N0 := Fr.nil n0
  show Gt p.tables e below (fun o U' => ∃ v L, o = .returned v ∧ Q8 Z o0 h0 n0 v U'.heap L ∧ FrameEnd s o U' L ({ frames := 2, cells := 0, slots := 0, locals := 24 } : Room).cells ({ frames := 2, cells := 0, slots := 0, locals := 24 } : Room).slots) _
  refine own_cast (ef8 m o0) ?_
  refine own_aloadN X0 hx hby rfl rfl d8_0 (pc' := 1) rfl ?_
  refine own_special X0 hx hby hZ (y := (⟨"java/util/AbstractCollection", "<init>", "()V"⟩ : MethodName)) (rest := []) rfl hown (hw _ (mi 47 rfl)) (hw _ (mi 22 rfl)) rfl (hw _ (mi 26 rfl)) (hw _ (mi 25 rfl)) (by decide) (rm5 l Z a0 hw [] o0 h0 n0 Z0) eH0 (by rw [hml]; rfl) (a := o0) (argsL := []) rfl (lenOf pd_0 rfl) rfl d8_1 (pc' := 4) rfl (by decide) (W := 0) (Nat.le_of_eq rfl) (by decide) (by decide) (by decide) (fun T1 h1 Lc1 v1r X1 eH1 hQ1 => ?_)
  obtain ⟨rfl, Nq1, rfl⟩ := hQ1
  have N1 := Fr.app N0 Nq1
  exact own_retV X1 hx hby Bd.notSynchronized Bd.returns d8_4 (by decide) (by decide) eH1 ⟨rfl, N1, rfl⟩
theorem ef10 (m : MethodId) (x0 : Addr) : entryFrame m #[(.ref x0)] 1 = mkF m 0 #[.val (.ref x0)] [] := by first | (simp [entryFrame, mkF, argsToLocals, Value.category]; done) | rfl
def Q10 (Z : State) (o0 : Addr) (h0 : Heap) (n0 : Nat) (v : Option Value) (h : Heap) (L : List Loc) : Prop := v = none ∧ Fr n0 L ∧ h0 = h
theorem rm10 (l : Launch) (Z : State) (a0 : Array Value) (hw : ∀ d ∈ tables_1, d.before a0 Z = true) (ws : List Jvm.Cond) (o0 : Addr) (h0 : Heap) (n0 : Nat) (Z0 : n0 ≤ h0.size) :
    MetFree l (⟨"java/util/AbstractMap", "<init>", "()V"⟩ : MethodName) (head1 (Jvm.Cond.code (⟨"java/util/AbstractMap", "<init>", "()V"⟩ : MethodName) jdk_71_method_1_code 1 none :: ws) ({ frames := 1, cells := 0, slots := 0, locals := 12 } : Room)) (fun a U => a = #[(.ref o0)] ∧ Z.Warmed39 U.vm ∧ U.heap = h0) (fun _ _ _ _ _ => True) (fun _ U o U' => ∃ v L, o = .returned v ∧ Q10 Z o0 h0 n0 v U'.heap L ∧ FrameEnd U o U' L ({ frames := 1, cells := 0, slots := 0, locals := 12 } : Room).cells ({ frames := 1, cells := 0, slots := 0, locals := 12 } : Room).slots) := by
  refine MetFree.of_bodySF (plainFor_of_name pn_java_util_AbstractMap) hisR ?_
  intro p e s m args below meth c s₁ Bd hml0 hP hK
  obtain ⟨rfl, hZ, hhp⟩ := hP
  have hx := Bd.exec
  have hby := Bd.bytes
  have hml : c.maxLocals = 1 := hml0
  have hown : s.vm.findClass "java/util/AbstractMap" = some m.cls := findClass_of_methodNamed Bd.named
  have hnm := (name_of_methodNamed Bd.named Bd.method).1
  have X0 : Stand p l e ({ frames := 1, cells := 0, slots := 0, locals := 12 } : Room) s m #[(.ref o0)] below meth c s₁ [] 0 0 := Stand.of_body Bd
  have eH0 : s₁.heap = h0 := by rw [← hhp, Bd.state]; rfl
  have N0 := Fr.nil n0
  show Gt p.tables e below (fun o U' => ∃ v L, o = .returned v ∧ Q10 Z o0 h0 n0 v U'.heap L ∧ FrameEnd s o U' L ({ frames := 1, cells := 0, slots := 0, locals := 12 } : Room).cells ({ frames := 1, cells := 0, slots := 0, locals := 12 } : Room).slots) _
  refine own_cast (ef10 m o0) ?_
  refine own_aloadN X0 hx hby rfl rfl d10_0 (pc' := 1) rfl ?_
  refine own_initO X0 hx hby hZ hown (hw _ (mi 62 rfl)) (hw _ (mi 28 rfl)) (hw _ (mi 29 rfl)) eH0 (by rw [hml]; rfl) d10_1 (pc' := 4) rfl (by decide) (W := 0) (Nat.le_of_eq rfl) (by decide) (fun T1 X1 eH1 => ?_)
  exact own_retV X1 hx hby Bd.notSynchronized Bd.returns d10_4 (by decide) (by decide) eH1 ⟨rfl, N0, rfl⟩
theorem ef4 (m : MethodId) (x0 : Addr) : entryFrame m #[(.ref x0)] 1 = mkF m 0 #[.val (.ref x0)] [] := by first | (simp [entryFrame, mkF, argsToLocals, Value.category]; done) | rfl
def Q4 (Z : State) (o0 : Addr) (modCount_o0 : Int32) (u_elementData_o0 : Value) (size_o0 : Int32) (h0 : Heap) (n0 : Nat) (v : Option Value) (h : Heap) (L : List Loc) : Prop := v = none ∧ Fr n0 L ∧ Keep h0 h [o0] ∧ Exa Z h o0 "java/util/ArrayList" ∧ Fld Z h o0 "java/util/AbstractList" "modCount" "I" (.int (0 : Int32)) ∧ Fld Z h o0 "java/util/ArrayList" "elementData" "[Ljava/lang/Object;" u_elementData_o0 ∧ Fld Z h o0 "java/util/ArrayList" "size" "I" (.int size_o0)
theorem rm4 (l : Launch) (Z : State) (a0 : Array Value) (hw : ∀ d ∈ tables_1, d.before a0 Z = true) (ws : List Jvm.Cond) (o0 : Addr) (modCount_o0 : Int32) (u_elementData_o0 : Value) (size_o0 : Int32) (h0 : Heap) (n0 : Nat) (Z0 : n0 ≤ h0.size) (F_o0_modCount : Fld Z h0 o0 "java/util/AbstractList" "modCount" "I" (.int modCount_o0)) (F_o0_elementData : Fld Z h0 o0 "java/util/ArrayList" "elementData" "[Ljava/lang/Object;" u_elementData_o0) (F_o0_size : Fld Z h0 o0 "java/util/ArrayList" "size" "I" (.int size_o0)) (E_o0 : Exa Z h0 o0 "java/util/ArrayList") (g_o0 : n0 ≤ o0) :
    MetFree l (⟨"java/util/AbstractList", "<init>", "()V"⟩ : MethodName) (head1 (Jvm.Cond.code (⟨"java/util/AbstractList", "<init>", "()V"⟩ : MethodName) jdk_39_method_1_code 1 none :: ws) ({ frames := 2, cells := 0, slots := 0, locals := 24 } : Room)) (fun a U => a = #[(.ref o0)] ∧ Z.Warmed39 U.vm ∧ U.heap = h0) (fun _ _ _ _ _ => True) (fun _ U o U' => ∃ v L, o = .returned v ∧ Q4 Z o0 modCount_o0 u_elementData_o0 size_o0 h0 n0 v U'.heap L ∧ FrameEnd U o U' L ({ frames := 2, cells := 0, slots := 0, locals := 24 } : Room).cells ({ frames := 2, cells := 0, slots := 0, locals := 24 } : Room).slots) := by
  refine MetFree.of_bodySF (plainFor_of_name pn_java_util_AbstractList) hisR ?_
  intro p e s m args below meth c s₁ Bd hml0 hP hK
  obtain ⟨rfl, hZ, hhp⟩ := hP
  have hx := Bd.exec
  have hby := Bd.bytes
  have hml : c.maxLocals = 1 := hml0
  have hown : s.vm.findClass "java/util/AbstractList" = some m.cls := findClass_of_methodNamed Bd.named
  have hnm := (name_of_methodNamed Bd.named Bd.method).1
  have X0 : Stand p l e ({ frames := 2, cells := 0, slots := 0, locals := 24 } : Room) s m #[(.ref o0)] below meth c s₁ [] 0 0 := Stand.of_body Bd
  have eH0 : s₁.heap = h0 := by rw [← hhp, Bd.state]; rfl
  have N0 := Fr.nil n0
  have K0 := Keep.refl h0 [o0]
  show Gt p.tables e below (fun o U' => ∃ v L, o = .returned v ∧ Q4 Z o0 modCount_o0 u_elementData_o0 size_o0 h0 n0 v U'.heap L ∧ FrameEnd s o U' L ({ frames := 2, cells := 0, slots := 0, locals := 24 } : Room).cells ({ frames := 2, cells := 0, slots := 0, locals := 24 } : Room).slots) _
  refine own_cast (ef4 m o0) ?_
  refine own_aloadN X0 hx hby rfl rfl d4_0 (pc' := 1) rfl ?_
  refine own_special X0 hx hby hZ (y := (⟨"java/util/AbstractCollection", "<init>", "()V"⟩ : MethodName)) (rest := []) rfl hown (hw _ (mi 21 rfl)) (hw _ (mi 22 rfl)) rfl (hw _ (mi 26 rfl)) (hw _ (mi 25 rfl)) (by decide) (rm5 l Z a0 hw [] o0 h0 n0 Z0) eH0 (by rw [hml]; rfl) (a := o0) (argsL := []) rfl (lenOf pd_0 rfl) rfl d4_1 (pc' := 4) rfl (by decide) (W := 0) (Nat.le_of_eq rfl) (by decide) (by decide) (by decide) (fun T1 h1 Lc1 v1r X1 eH1 hQ1 => ?_)
  obtain ⟨rfl, Nq1, rfl⟩ := hQ1
  have N1 := Fr.app N0 Nq1
  refine own_aloadN X1 hx hby rfl rfl d4_4 (pc' := 5) rfl ?_
  refine own_iconst X1 hx hby (v := (0 : Int32)) (by decide) d4_5 (pc' := 6) rfl ?_
  refine own_putF X1 hx hby hZ hown (host := "") (Or.inl (hw _ (mi 30 rfl))) Via.refl eH1 F_o0_modCount E_o0 (Or.inl (hw _ (mi 31 rfl))) (hw _ (mi 10 rfl)) (ty := .int) (by decide) rfl rfl d4_6 (pc' := 9) rfl (fun T2 h2 X2 eH2 W2 => ?_)
  replace E_o0 := E_o0.wr W2
  replace F_o0_modCount := F_o0_modCount.same W2
  replace F_o0_elementData := F_o0_elementData.other W2 (Or.inr (slot_ne (Or.inl (hw _ (mi 34 rfl))) (Or.inl (hw _ (mi 31 rfl))) (by decide) (t := (.array (.object "java/lang/Object"))) (t' := .int) (by decide) (by decide)))
  replace F_o0_size := F_o0_size.other W2 (Or.inr (slot_ne (Or.inl (hw _ (mi 200 rfl))) (Or.inl (hw _ (mi 31 rfl))) (by decide) (t := .int) (t' := .int) (by decide) (by decide)))
  have N2 := Fr.snoc X2 N1 g_o0
  replace K0 := K0.wr W2 (Or.inl (by simp))
  replace Z0 := Nat.le_trans Z0 (Nat.le_of_eq W2.size.symm)
  exact own_retV X2 hx hby Bd.notSynchronized Bd.returns d4_9 (by decide) (by decide) eH2 ⟨rfl, N2, K0, E_o0, F_o0_modCount, F_o0_elementData, F_o0_size⟩
theorem ef3 (m : MethodId) (x0 : Addr) : entryFrame m #[(.ref x0)] 1 = mkF m 0 #[.val (.ref x0)] [] := by first | (simp [entryFrame, mkF, argsToLocals, Value.category]; done) | rfl
def Q3 (Z : State) (o0 : Addr) (modCount_o0 : Int32) (u_elementData_o0 : Value) (size_o0 : Int32) (st_DEFAULTCAPACITY_EMPTY_ELEMENTDATA : Addr) (h0 : Heap) (n0 : Nat) (v : Option Value) (h : Heap) (L : List Loc) : Prop := v = none ∧ Fr n0 L ∧ Keep h0 h [o0] ∧ Exa Z h o0 "java/util/ArrayList" ∧ Fld Z h o0 "java/util/AbstractList" "modCount" "I" (.int (0 : Int32)) ∧ Fld Z h o0 "java/util/ArrayList" "elementData" "[Ljava/lang/Object;" (.ref st_DEFAULTCAPACITY_EMPTY_ELEMENTDATA) ∧ Fld Z h o0 "java/util/ArrayList" "size" "I" (.int size_o0)
theorem rm3 (l : Launch) (Z : State) (a0 : Array Value) (hw : ∀ d ∈ tables_1, d.before a0 Z = true) (ws : List Jvm.Cond) (o0 : Addr) (modCount_o0 : Int32) (u_elementData_o0 : Value) (size_o0 : Int32) (st_DEFAULTCAPACITY_EMPTY_ELEMENTDATA : Addr) (h0 : Heap) (n0 : Nat) (Z0 : n0 ≤ h0.size) (F_o0_modCount : Fld Z h0 o0 "java/util/AbstractList" "modCount" "I" (.int modCount_o0)) (F_o0_elementData : Fld Z h0 o0 "java/util/ArrayList" "elementData" "[Ljava/lang/Object;" u_elementData_o0) (F_o0_size : Fld Z h0 o0 "java/util/ArrayList" "size" "I" (.int size_o0)) (S_DEFAULTCAPACITY_EMPTY_ELEMENTDATA : Sta Z h0 "java/util/ArrayList" "DEFAULTCAPACITY_EMPTY_ELEMENTDATA" "[Ljava/lang/Object;" (.ref st_DEFAULTCAPACITY_EMPTY_ELEMENTDATA)) (E_o0 : Exa Z h0 o0 "java/util/ArrayList") (g_o0 : n0 ≤ o0) :
    MetFree l (⟨"java/util/ArrayList", "<init>", "()V"⟩ : MethodName) (head1 (Jvm.Cond.code (⟨"java/util/ArrayList", "<init>", "()V"⟩ : MethodName) jdk_38_method_2_code 1 none :: ws) ({ frames := 3, cells := 0, slots := 0, locals := 36 } : Room)) (fun a U => a = #[(.ref o0)] ∧ Z.Warmed39 U.vm ∧ U.heap = h0) (fun _ _ _ _ _ => True) (fun _ U o U' => ∃ v L, o = .returned v ∧ Q3 Z o0 modCount_o0 u_elementData_o0 size_o0 st_DEFAULTCAPACITY_EMPTY_ELEMENTDATA h0 n0 v U'.heap L ∧ FrameEnd U o U' L ({ frames := 3, cells := 0, slots := 0, locals := 36 } : Room).cells ({ frames := 3, cells := 0, slots := 0, locals := 36 } : Room).slots) := by
  refine MetFree.of_bodySF (plainFor_of_name pn_java_util_ArrayList) hisR ?_
  intro p e s m args below meth c s₁ Bd hml0 hP hK
  obtain ⟨rfl, hZ, hhp⟩ := hP
  have hx := Bd.exec
  have hby := Bd.bytes
  have hml : c.maxLocals = 1 := hml0
  have hown : s.vm.findClass "java/util/ArrayList" = some m.cls := findClass_of_methodNamed Bd.named
  have hnm := (name_of_methodNamed Bd.named Bd.method).1
  have X0 : Stand p l e ({ frames := 3, cells := 0, slots := 0, locals := 36 } : Room) s m #[(.ref o0)] below meth c s₁ [] 0 0 := Stand.of_body Bd
  have eH0 : s₁.heap = h0 := by rw [← hhp, Bd.state]; rfl
  have N0 := Fr.nil n0
  have K0 := Keep.refl h0 [o0]
  show Gt p.tables e below (fun o U' => ∃ v L, o = .returned v ∧ Q3 Z o0 modCount_o0 u_elementData_o0 size_o0 st_DEFAULTCAPACITY_EMPTY_ELEMENTDATA h0 n0 v U'.heap L ∧ FrameEnd s o U' L ({ frames := 3, cells := 0, slots := 0, locals := 36 } : Room).cells ({ frames := 3, cells := 0, slots := 0, locals := 36 } : Room).slots) _
  refine own_cast (ef3 m o0) ?_
  refine own_aloadN X0 hx hby rfl rfl d3_0 (pc' := 1) rfl ?_
  refine own_special X0 hx hby hZ (y := (⟨"java/util/AbstractList", "<init>", "()V"⟩ : MethodName)) (rest := []) rfl hown (hw _ (mi 15 rfl)) (hw _ (mi 16 rfl)) rfl (hw _ (mi 20 rfl)) (hw _ (mi 19 rfl)) (by decide) (rm4 l Z a0 hw [] o0 modCount_o0 u_elementData_o0 size_o0 h0 n0 Z0 F_o0_modCount F_o0_elementData F_o0_size E_o0 g_o0) eH0 (by rw [hml]; rfl) (a := o0) (argsL := []) rfl (lenOf pd_0 rfl) rfl d3_1 (pc' := 4) rfl (by decide) (W := 0) (Nat.le_of_eq rfl) (by decide) (by decide) (by decide) (fun T1 h1 Lc1 v1r X1 eH1 hQ1 => ?_)
  obtain ⟨rfl, Nq1, Kq1, gq1_0, gq1_1, gq1_2, gq1_3⟩ := hQ1
  have N1 := Fr.app N0 Nq1
  replace S_DEFAULTCAPACITY_EMPTY_ELEMENTDATA := own_skn S_DEFAULTCAPACITY_EMPTY_ELEMENTDATA Kq1 (own_skS E_o0 own_sk0)
  replace E_o0 := E_o0.keep Kq1
  replace K0 := K0.trans Kq1 (allS (Or.inl (by simp)) all0)
  have E_o0 := gq1_0
  have F_o0_modCount := gq1_1
  have F_o0_elementData := gq1_2
  have F_o0_size := gq1_3
  replace Z0 := Nat.le_trans Z0 Kq1.1
  refine own_aloadN X1 hx hby rfl rfl d3_4 (pc' := 5) rfl ?_
  refine own_getS X1 hx hby hZ hown (host := "") (Or.inl (hw _ (mi 32 rfl))) Via.refl eH1 S_DEFAULTCAPACITY_EMPTY_ELEMENTDATA d3_5 (pc' := 8) rfl (fun T2 X2 eH2 => ?_)
  refine own_putF X2 hx hby hZ hown (host := "") (Or.inl (hw _ (mi 33 rfl))) Via.refl eH2 F_o0_elementData E_o0 (Or.inl (hw _ (mi 34 rfl))) (hw _ (mi 10 rfl)) (ty := (.array (.object "java/lang/Object"))) (by decide) rfl rfl d3_8 (pc' := 11) rfl (fun T3 h3 X3 eH3 W3 => ?_)
  replace E_o0 := E_o0.wr W3
  replace F_o0_modCount := F_o0_modCount.other W3 (Or.inr (slot_ne (Or.inl (hw _ (mi 31 rfl))) (Or.inl (hw _ (mi 34 rfl))) (by decide) (t := .int) (t' := (.array (.object "java/lang/Object"))) (by decide) (by decide)))
  replace F_o0_elementData := F_o0_elementData.same W3
  replace F_o0_size := F_o0_size.other W3 (Or.inr (slot_ne (Or.inl (hw _ (mi 200 rfl))) (Or.inl (hw _ (mi 34 rfl))) (by decide) (t := .int) (t' := (.array (.object "java/lang/Object"))) (by decide) (by decide)))
  replace S_DEFAULTCAPACITY_EMPTY_ELEMENTDATA := S_DEFAULTCAPACITY_EMPTY_ELEMENTDATA.wr W3
  have N3 := Fr.snoc X3 N1 g_o0
  replace K0 := K0.wr W3 (Or.inl (by simp))
  replace Z0 := Nat.le_trans Z0 (Nat.le_of_eq W3.size.symm)
  exact own_retV X3 hx hby Bd.notSynchronized Bd.returns d3_11 (by decide) (by decide) eH3 ⟨rfl, N3, K0, E_o0, F_o0_modCount, F_o0_elementData, F_o0_size⟩
theorem ef9 (m : MethodId) (x0 : Addr) : entryFrame m #[(.ref x0)] 1 = mkF m 0 #[.val (.ref x0)] [] := by first | (simp [entryFrame, mkF, argsToLocals, Value.category]; done) | rfl
def Q9 (Z : State) (o0 : Addr) (loadFactor_o0 : UInt32) (u_table_o0 : Value) (threshold_o0 : Int32) (modCount_o0 : Int32) (size_o0 : Int32) (h0 : Heap) (n0 : Nat) (v : Option Value) (h : Heap) (L : List Loc) : Prop := v = none ∧ Fr n0 L ∧ Keep h0 h [o0] ∧ Exa Z h o0 "java/util/HashMap" ∧ Fld Z h o0 "java/util/HashMap" "loadFactor" "F" (.float (1061158912 : UInt32)) ∧ Fld Z h o0 "java/util/HashMap" "table" "[Ljava/util/HashMap$Node;" u_table_o0 ∧ Fld Z h o0 "java/util/HashMap" "threshold" "I" (.int threshold_o0) ∧ Fld Z h o0 "java/util/HashMap" "modCount" "I" (.int modCount_o0) ∧ Fld Z h o0 "java/util/HashMap" "size" "I" (.int size_o0)
theorem rm9 (l : Launch) (Z : State) (a0 : Array Value) (hw : ∀ d ∈ tables_1, d.before a0 Z = true) (ws : List Jvm.Cond) (o0 : Addr) (loadFactor_o0 : UInt32) (u_table_o0 : Value) (threshold_o0 : Int32) (modCount_o0 : Int32) (size_o0 : Int32) (h0 : Heap) (n0 : Nat) (Z0 : n0 ≤ h0.size) (F_o0_loadFactor : Fld Z h0 o0 "java/util/HashMap" "loadFactor" "F" (.float loadFactor_o0)) (F_o0_table : Fld Z h0 o0 "java/util/HashMap" "table" "[Ljava/util/HashMap$Node;" u_table_o0) (F_o0_threshold : Fld Z h0 o0 "java/util/HashMap" "threshold" "I" (.int threshold_o0)) (F_o0_modCount : Fld Z h0 o0 "java/util/HashMap" "modCount" "I" (.int modCount_o0)) (F_o0_size : Fld Z h0 o0 "java/util/HashMap" "size" "I" (.int size_o0)) (E_o0 : Exa Z h0 o0 "java/util/HashMap") (g_o0 : n0 ≤ o0) :
    MetFree l (⟨"java/util/HashMap", "<init>", "()V"⟩ : MethodName) (head1 (Jvm.Cond.code (⟨"java/util/HashMap", "<init>", "()V"⟩ : MethodName) jdk_69_method_7_code 1 none :: ws) ({ frames := 2, cells := 0, slots := 0, locals := 24 } : Room)) (fun a U => a = #[(.ref o0)] ∧ Z.Warmed39 U.vm ∧ U.heap = h0) (fun _ _ _ _ _ => True) (fun _ U o U' => ∃ v L, o = .returned v ∧ Q9 Z o0 loadFactor_o0 u_table_o0 threshold_o0 modCount_o0 size_o0 h0 n0 v U'.heap L ∧ FrameEnd U o U' L ({ frames := 2, cells := 0, slots := 0, locals := 24 } : Room).cells ({ frames := 2, cells := 0, slots := 0, locals := 24 } : Room).slots) := by
  refine MetFree.of_bodySF (plainFor_of_name pn_java_util_HashMap) hisR ?_
  intro p e s m args below meth c s₁ Bd hml0 hP hK
  obtain ⟨rfl, hZ, hhp⟩ := hP
  have hx := Bd.exec
  have hby := Bd.bytes
  have hml : c.maxLocals = 1 := hml0
  have hown : s.vm.findClass "java/util/HashMap" = some m.cls := findClass_of_methodNamed Bd.named
  have hnm := (name_of_methodNamed Bd.named Bd.method).1
  have X0 : Stand p l e ({ frames := 2, cells := 0, slots := 0, locals := 24 } : Room) s m #[(.ref o0)] below meth c s₁ [] 0 0 := Stand.of_body Bd
  have eH0 : s₁.heap = h0 := by rw [← hhp, Bd.state]; rfl
  have N0 := Fr.nil n0
  have K0 := Keep.refl h0 [o0]
  show Gt p.tables e below (fun o U' => ∃ v L, o = .returned v ∧ Q9 Z o0 loadFactor_o0 u_table_o0 threshold_o0 modCount_o0 size_o0 h0 n0 v U'.heap L ∧ FrameEnd s o U' L ({ frames := 2, cells := 0, slots := 0, locals := 24 } : Room).cells ({ frames := 2, cells := 0, slots := 0, locals := 24 } : Room).slots) _
  refine own_cast (ef9 m o0) ?_
  refine own_aloadN X0 hx hby rfl rfl d9_0 (pc' := 1) rfl ?_
  refine own_special X0 hx hby hZ (y := (⟨"java/util/AbstractMap", "<init>", "()V"⟩ : MethodName)) (rest := []) rfl hown (hw _ (mi 56 rfl)) (hw _ (mi 57 rfl)) rfl (hw _ (mi 61 rfl)) (hw _ (mi 60 rfl)) (by decide) (rm10 l Z a0 hw [] o0 h0 n0 Z0) eH0 (by rw [hml]; rfl) (a := o0) (argsL := []) rfl (lenOf pd_0 rfl) rfl d9_1 (pc' := 4) rfl (by decide) (W := 0) (Nat.le_of_eq rfl) (by decide) (by decide) (by decide) (fun T1 h1 Lc1 v1r X1 eH1 hQ1 => ?_)
  obtain ⟨rfl, Nq1, rfl⟩ := hQ1
  have N1 := Fr.app N0 Nq1
  refine own_aloadN X1 hx hby rfl rfl d9_4 (pc' := 5) rfl ?_
  refine own_ldcF X1 hx hby hZ hown (hw _ (mi 63 rfl)) d9_5 (pc' := 7) rfl ?_
  refine own_putF X1 hx hby hZ hown (host := "") (Or.inl (hw _ (mi 64 rfl))) Via.refl eH1 F_o0_loadFactor E_o0 (Or.inr ⟨(hw _ (mi 65 rfl)), rfl, hnm⟩) (hw _ (mi 50 rfl)) (ty := .float) (by decide) rfl rfl d9_7 (pc' := 10) rfl (fun T2 h2 X2 eH2 W2 => ?_)
  replace E_o0 := E_o0.wr W2
  replace F_o0_loadFactor := F_o0_loadFactor.same W2
  replace F_o0_table := F_o0_table.other W2 (Or.inr (slot_ne (Or.inl (hw _ (mi 130 rfl))) (Or.inr (hw _ (mi 65 rfl))) (by decide) (t := (.array (.object "java/util/HashMap$Node"))) (t' := .float) (by decide) (by decide)))
  replace F_o0_threshold := F_o0_threshold.other W2 (Or.inr (slot_ne (Or.inl (hw _ (mi 137 rfl))) (Or.inr (hw _ (mi 65 rfl))) (by decide) (t := .int) (t' := .float) (by decide) (by decide)))
  replace F_o0_modCount := F_o0_modCount.other W2 (Or.inr (slot_ne (Or.inl (hw _ (mi 161 rfl))) (Or.inr (hw _ (mi 65 rfl))) (by decide) (t := .int) (t' := .float) (by decide) (by decide)))
  replace F_o0_size := F_o0_size.other W2 (Or.inr (slot_ne (Or.inl (hw _ (mi 163 rfl))) (Or.inr (hw _ (mi 65 rfl))) (by decide) (t := .int) (t' := .float) (by decide) (by decide)))
  have N2 := Fr.snoc X2 N1 g_o0
  replace K0 := K0.wr W2 (Or.inl (by simp))
  replace Z0 := Nat.le_trans Z0 (Nat.le_of_eq W2.size.symm)
  exact own_retV X2 hx hby Bd.notSynchronized Bd.returns d9_10 (by decide) (by decide) eH2 ⟨rfl, N2, K0, E_o0, F_o0_loadFactor, F_o0_table, F_o0_threshold, F_o0_modCount, F_o0_size⟩
theorem ef7 (m : MethodId) (x0 : Addr) : entryFrame m #[(.ref x0)] 1 = mkF m 0 #[.val (.ref x0)] [] := by first | (simp [entryFrame, mkF, argsToLocals, Value.category]; done) | rfl
def Q7 (Z : State) (o0 : Addr) (u_map_o0 : Value) (h0 : Heap) (n0 : Nat) (v : Option Value) (h : Heap) (L : List Loc) : Prop := ∃ b2 : Addr, v = none ∧ Fr n0 L ∧ Keep h0 h [o0] ∧ h0.size ≤ b2 ∧ Exa Z h o0 "java/util/HashSet" ∧ Fld Z h o0 "java/util/HashSet" "map" "Ljava/util/HashMap;" (.ref b2) ∧ Exa Z h b2 "java/util/HashMap" ∧ Fld Z h b2 "java/util/HashMap" "loadFactor" "F" (.float (1061158912 : UInt32)) ∧ Fld Z h b2 "java/util/HashMap" "table" "[Ljava/util/HashMap$Node;" .null ∧ Fld Z h b2 "java/util/HashMap" "threshold" "I" (.int (0 : Int32)) ∧ Fld Z h b2 "java/util/HashMap" "modCount" "I" (.int (0 : Int32)) ∧ Fld Z h b2 "java/util/HashMap" "size" "I" (.int (0 : Int32))
theorem rm7 (l : Launch) (Z : State) (a0 : Array Value) (hw : ∀ d ∈ tables_1, d.before a0 Z = true) (ws : List Jvm.Cond) (o0 : Addr) (u_map_o0 : Value) (h0 : Heap) (n0 : Nat) (Z0 : n0 ≤ h0.size) (F_o0_map : Fld Z h0 o0 "java/util/HashSet" "map" "Ljava/util/HashMap;" u_map_o0) (E_o0 : Exa Z h0 o0 "java/util/HashSet") (g_o0 : n0 ≤ o0) :
    MetFree l (⟨"java/util/HashSet", "<init>", "()V"⟩ : MethodName) (head1 (Jvm.Cond.code (⟨"java/util/HashSet", "<init>", "()V"⟩ : MethodName) jdk_93_method_1_code 1 none :: ws) ({ frames := 3, cells := 1, slots := 8, locals := 38 } : Room)) (fun a U => a = #[(.ref o0)] ∧ Z.Warmed39 U.vm ∧ U.heap = h0) (fun _ _ _ _ _ => True) (fun _ U o U' => ∃ v L, o = .returned v ∧ Q7 Z o0 u_map_o0 h0 n0 v U'.heap L ∧ FrameEnd U o U' L ({ frames := 3, cells := 1, slots := 8, locals := 38 } : Room).cells ({ frames := 3, cells := 1, slots := 8, locals := 38 } : Room).slots) := by
  refine MetFree.of_bodySF (plainFor_of_name pn_java_util_HashSet) hisR ?_
  intro p e s m args below meth c s₁ Bd hml0 hP hK
  obtain ⟨rfl, hZ, hhp⟩ := hP
  have hx := Bd.exec
  have hby := Bd.bytes
  have hml : c.maxLocals = 1 := hml0
  have hown : s.vm.findClass "java/util/HashSet" = some m.cls := findClass_of_methodNamed Bd.named
  have hnm := (name_of_methodNamed Bd.named Bd.method).1
  have X0 : Stand p l e ({ frames := 3, cells := 1, slots := 8, locals := 38 } : Room) s m #[(.ref o0)] below meth c s₁ [] 0 0 := Stand.of_body Bd
  have eH0 : s₁.heap = h0 := by rw [← hhp, Bd.state]; rfl
  have N0 := Fr.nil n0
  have K0 := Keep.refl h0 [o0]
  show Gt p.tables e below (fun o U' => ∃ v L, o = .returned v ∧ Q7 Z o0 u_map_o0 h0 n0 v U'.heap L ∧ FrameEnd s o U' L ({ frames := 3, cells := 1, slots := 8, locals := 38 } : Room).cells ({ frames := 3, cells := 1, slots := 8, locals := 38 } : Room).slots) _
  refine own_cast (ef7 m o0) ?_
  refine own_aloadN X0 hx hby rfl rfl d7_0 (pc' := 1) rfl ?_
  refine own_special X0 hx hby hZ (y := (⟨"java/util/AbstractSet", "<init>", "()V"⟩ : MethodName)) (rest := []) rfl hown (hw _ (mi 41 rfl)) (hw _ (mi 42 rfl)) rfl (hw _ (mi 46 rfl)) (hw _ (mi 45 rfl)) (by decide) (rm8 l Z a0 hw [] o0 h0 n0 Z0) eH0 (by rw [hml]; rfl) (a := o0) (argsL := []) rfl (lenOf pd_0 rfl) rfl d7_1 (pc' := 4) rfl (by decide) (W := 0) (Nat.le_of_eq rfl) (by decide) (by decide) (by decide) (fun T1 h1 Lc1 v1r X1 eH1 hQ1 => ?_)
  obtain ⟨rfl, Nq1, rfl⟩ := hQ1
  have N1 := Fr.app N0 Nq1
  refine own_aloadN X1 hx hby rfl rfl d7_4 (pc' := 5) rfl ?_
  refine own_newO X1 hx hby hZ hown (hw _ (mi 49 rfl)) (hw _ (mi 50 rfl)) (hw _ (mi 51 rfl)) eH1 d7_5 (pc' := 8) rfl (by decide) (by decide) (fun T2 h2 b2 X2 eH2 E2 g2 E_b2 D2 => ?_)
  have g_b2 : n0 ≤ b2 := g2 ▸ Z0
  have sz_b2 : h0.size ≤ b2 := g2 ▸ K0.1
  have ne_o0_b2 : o0 ≠ b2 := Nat.ne_of_lt (g2 ▸ E_o0.lt)
  replace E_o0 := E_o0.ext E2
  replace F_o0_map := F_o0_map.ext E2
  replace K0 := K0.ext E2
  replace Z0 := Nat.le_trans Z0 E2.1
  have F_b2_loadFactor : Fld Z h2 b2 "java/util/HashMap" "loadFactor" "F" (.float (0 : UInt32)) := D2 (Or.inr (hw _ (mi 65 rfl))) (ty := .float) (by decide)
  have F_b2_table : Fld Z h2 b2 "java/util/HashMap" "table" "[Ljava/util/HashMap$Node;" .null := D2 (Or.inl (hw _ (mi 130 rfl))) (ty := (.array (.object "java/util/HashMap$Node"))) (by decide)
  have F_b2_threshold : Fld Z h2 b2 "java/util/HashMap" "threshold" "I" (.int (0 : Int32)) := D2 (Or.inl (hw _ (mi 137 rfl))) (ty := .int) (by decide)
  have F_b2_modCount : Fld Z h2 b2 "java/util/HashMap" "modCount" "I" (.int (0 : Int32)) := D2 (Or.inl (hw _ (mi 161 rfl))) (ty := .int) (by decide)
  have F_b2_size : Fld Z h2 b2 "java/util/HashMap" "size" "I" (.int (0 : Int32)) := D2 (Or.inl (hw _ (mi 163 rfl))) (ty := .int) (by decide)
  refine own_dup X2 hx hby rfl d7_8 (pc' := 9) rfl ?_
  refine own_special X2 hx hby hZ (y := (⟨"java/util/HashMap", "<init>", "()V"⟩ : MethodName)) (rest := [(.ref b2), (.ref o0)]) rfl hown (hw _ (mi 52 rfl)) (hw _ (mi 53 rfl)) rfl (hw _ (mi 55 rfl)) (hw _ (mi 51 rfl)) (by decide) (rm9 l Z a0 hw [] b2 (0 : UInt32) .null (0 : Int32) (0 : Int32) (0 : Int32) h2 n0 Z0 F_b2_loadFactor F_b2_table F_b2_threshold F_b2_modCount F_b2_size E_b2 g_b2) eH2 (by rw [hml]; rfl) (a := b2) (argsL := []) rfl (lenOf pd_0 rfl) rfl d7_9 (pc' := 12) rfl (by decide) (W := 2) (Nat.le_of_eq rfl) (by decide) (by decide) (by decide) (fun T3 h3 Lc3 v3r X3 eH3 hQ3 => ?_)
  obtain ⟨rfl, Nq3, Kq3, gq3_0, gq3_1, gq3_2, gq3_3, gq3_4, gq3_5⟩ := hQ3
  have N3 := Fr.app N1 Nq3
  replace E_o0 := E_o0.keep Kq3
  replace F_o0_map := F_o0_map.keep Kq3 (ninS ne_o0_b2 nin0)
  replace E_b2 := E_b2.keep Kq3
  replace K0 := K0.trans Kq3 (allS (Or.inr sz_b2) all0)
  have E_b2 := gq3_0
  have F_b2_loadFactor := gq3_1
  have F_b2_table := gq3_2
  have F_b2_threshold := gq3_3
  have F_b2_modCount := gq3_4
  have F_b2_size := gq3_5
  replace Z0 := Nat.le_trans Z0 Kq3.1
  refine own_putF X3 hx hby hZ hown (host := "") (Or.inl (hw _ (mi 66 rfl))) Via.refl eH3 F_o0_map E_o0 (Or.inl (hw _ (mi 67 rfl))) (hw _ (mi 36 rfl)) (ty := (.object "java/util/HashMap")) (by decide) rfl rfl d7_12 (pc' := 15) rfl (fun T4 h4 X4 eH4 W4 => ?_)
  replace E_o0 := E_o0.wr W4
  replace F_o0_map := F_o0_map.same W4
  replace E_b2 := E_b2.wr W4
  replace F_b2_loadFactor := F_b2_loadFactor.other W4 (Or.inl (Ne.symm ne_o0_b2))
  replace F_b2_table := F_b2_table.other W4 (Or.inl (Ne.symm ne_o0_b2))
  replace F_b2_threshold := F_b2_threshold.other W4 (Or.inl (Ne.symm ne_o0_b2))
  replace F_b2_modCount := F_b2_modCount.other W4 (Or.inl (Ne.symm ne_o0_b2))
  replace F_b2_size := F_b2_size.other W4 (Or.inl (Ne.symm ne_o0_b2))
  have N4 := Fr.snoc X4 N3 g_o0
  replace K0 := K0.wr W4 (Or.inl (by simp))
  replace Z0 := Nat.le_trans Z0 (Nat.le_of_eq W4.size.symm)
  exact own_retV X4 hx hby Bd.notSynchronized Bd.returns d7_15 (by decide) (by decide) eH4 ⟨b2, rfl, N4, K0, sz_b2, E_o0, F_o0_map, E_b2, F_b2_loadFactor, F_b2_table, F_b2_threshold, F_b2_modCount, F_b2_size⟩
theorem ef14 (m : MethodId) (x0 : Addr) (x1 : Addr) : entryFrame m #[(.ref x0), (.ref x1), (.int (0 : Int32))] 3 = mkF m 0 #[.val (.ref x0), .val (.ref x1), .val (.int (0 : Int32))] [] := by first | (simp [entryFrame, mkF, argsToLocals, Value.category]; done) | rfl
def Q14 (Z : State) (o0 : Addr) (o1 : Addr) (u_value_o0 : Value) (coder_o0 : Int32) (hash_o0 : Int32) (hashIsZero_o0 : Int32) (h0 : Heap) (n0 : Nat) (v : Option Value) (h : Heap) (L : List Loc) : Prop := v = none ∧ Fr n0 L ∧ Keep h0 h [o0] ∧ Exa Z h o0 "java/lang/String" ∧ Fld Z h o0 "java/lang/String" "value" "[B" (.ref o1) ∧ Fld Z h o0 "java/lang/String" "coder" "B" (.int (0 : Int32)) ∧ Fld Z h o0 "java/lang/String" "hash" "I" (.int hash_o0) ∧ Fld Z h o0 "java/lang/String" "hashIsZero" "Z" (.int hashIsZero_o0)
theorem rm14 (l : Launch) (Z : State) (a0 : Array Value) (hw : ∀ d ∈ tables_1, d.before a0 Z = true) (ws : List Jvm.Cond) (o0 : Addr) (o1 : Addr) (u_value_o0 : Value) (coder_o0 : Int32) (hash_o0 : Int32) (hashIsZero_o0 : Int32) (h0 : Heap) (n0 : Nat) (Z0 : n0 ≤ h0.size) (F_o0_value : Fld Z h0 o0 "java/lang/String" "value" "[B" u_value_o0) (F_o0_coder : Fld Z h0 o0 "java/lang/String" "coder" "B" (.int coder_o0)) (F_o0_hash : Fld Z h0 o0 "java/lang/String" "hash" "I" (.int hash_o0)) (F_o0_hashIsZero : Fld Z h0 o0 "java/lang/String" "hashIsZero" "Z" (.int hashIsZero_o0)) (E_o0 : Exa Z h0 o0 "java/lang/String") (g_o0 : n0 ≤ o0) :
    MetFree l (⟨"java/lang/String", "<init>", "([BB)V"⟩ : MethodName) (head1 (Jvm.Cond.code (⟨"java/lang/String", "<init>", "([BB)V"⟩ : MethodName) jdk_42_method_151_code 3 none :: ws) ({ frames := 1, cells := 0, slots := 0, locals := 12 } : Room)) (fun a U => a = #[(.ref o0), (.ref o1), (.int (0 : Int32))] ∧ Z.Warmed39 U.vm ∧ U.heap = h0) (fun _ _ _ _ _ => True) (fun _ U o U' => ∃ v L, o = .returned v ∧ Q14 Z o0 o1 u_value_o0 coder_o0 hash_o0 hashIsZero_o0 h0 n0 v U'.heap L ∧ FrameEnd U o U' L ({ frames := 1, cells := 0, slots := 0, locals := 12 } : Room).cells ({ frames := 1, cells := 0, slots := 0, locals := 12 } : Room).slots) := by
  refine MetFree.of_bodySF (plainFor_of_name pn_java_lang_String) hisR ?_
  intro p e s m args below meth c s₁ Bd hml0 hP hK
  obtain ⟨rfl, hZ, hhp⟩ := hP
  have hx := Bd.exec
  have hby := Bd.bytes
  have hml : c.maxLocals = 3 := hml0
  have hown : s.vm.findClass "java/lang/String" = some m.cls := findClass_of_methodNamed Bd.named
  have hnm := (name_of_methodNamed Bd.named Bd.method).1
  have X0 : Stand p l e ({ frames := 1, cells := 0, slots := 0, locals := 12 } : Room) s m #[(.ref o0), (.ref o1), (.int (0 : Int32))] below meth c s₁ [] 0 0 := Stand.of_body Bd
  have eH0 : s₁.heap = h0 := by rw [← hhp, Bd.state]; rfl
  have N0 := Fr.nil n0
  have K0 := Keep.refl h0 [o0]
  show Gt p.tables e below (fun o U' => ∃ v L, o = .returned v ∧ Q14 Z o0 o1 u_value_o0 coder_o0 hash_o0 hashIsZero_o0 h0 n0 v U'.heap L ∧ FrameEnd s o U' L ({ frames := 1, cells := 0, slots := 0, locals := 12 } : Room).cells ({ frames := 1, cells := 0, slots := 0, locals := 12 } : Room).slots) _
  refine own_cast (ef14 m o0 o1) ?_
  refine own_aloadN X0 hx hby rfl rfl d14_0 (pc' := 1) rfl ?_
  refine own_initO X0 hx hby hZ hown (hw _ (mi 87 rfl)) (hw _ (mi 28 rfl)) (hw _ (mi 29 rfl)) eH0 (by rw [hml]; rfl) d14_1 (pc' := 4) rfl (by decide) (W := 0) (Nat.le_of_eq rfl) (by decide) (fun T1 X1 eH1 => ?_)
  refine own_aloadN X1 hx hby rfl rfl d14_4 (pc' := 5) rfl ?_
  refine own_aloadN X1 hx hby rfl rfl d14_5 (pc' := 6) rfl ?_
  refine own_putF X1 hx hby hZ hown (host := "") (Or.inl (hw _ (mi 88 rfl))) Via.refl eH1 F_o0_value E_o0 (Or.inr ⟨(hw _ (mi 89 rfl)), rfl, hnm⟩) (hw _ (mi 78 rfl)) (ty := (.array .byte)) (by decide) rfl rfl d14_6 (pc' := 9) rfl (fun T2 h2 X2 eH2 W2 => ?_)
  replace E_o0 := E_o0.wr W2
  replace F_o0_value := F_o0_value.same W2
  replace F_o0_coder := F_o0_coder.other W2 (Or.inr (slot_ne (Or.inr (hw _ (mi 91 rfl))) (Or.inr (hw _ (mi 89 rfl))) (by decide) (t := .byte) (t' := (.array .byte)) (by decide) (by decide)))
  replace F_o0_hash := F_o0_hash.other W2 (Or.inr (slot_ne (Or.inl (hw _ (mi 113 rfl))) (Or.inr (hw _ (mi 89 rfl))) (by decide) (t := .int) (t' := (.array .byte)) (by decide) (by decide)))
  replace F_o0_hashIsZero := F_o0_hashIsZero.other W2 (Or.inr (slot_ne (Or.inl (hw _ (mi 115 rfl))) (Or.inr (hw _ (mi 89 rfl))) (by decide) (t := .boolean) (t' := (.array .byte)) (by decide) (by decide)))
  have N2 := Fr.snoc X2 N0 g_o0
  replace K0 := K0.wr W2 (Or.inl (by simp))
  replace Z0 := Nat.le_trans Z0 (Nat.le_of_eq W2.size.symm)
  refine own_aloadN X2 hx hby rfl rfl d14_9 (pc' := 10) rfl ?_
  refine own_iloadN X2 hx hby rfl d14_10 (pc' := 11) rfl ?_
  refine own_putF X2 hx hby hZ hown (host := "") (Or.inl (hw _ (mi 90 rfl))) Via.refl eH2 F_o0_coder E_o0 (Or.inr ⟨(hw _ (mi 91 rfl)), rfl, hnm⟩) (hw _ (mi 78 rfl)) (ty := .byte) (by decide) rfl rfl d14_11 (pc' := 14) rfl (fun T3 h3 X3 eH3 W3 => ?_)
  replace E_o0 := E_o0.wr W3
  replace F_o0_value := F_o0_value.other W3 (Or.inr (slot_ne (Or.inr (hw _ (mi 89 rfl))) (Or.inr (hw _ (mi 91 rfl))) (by decide) (t := (.array .byte)) (t' := .byte) (by decide) (by decide)))
  replace F_o0_coder := F_o0_coder.same W3
  replace F_o0_hash := F_o0_hash.other W3 (Or.inr (slot_ne (Or.inl (hw _ (mi 113 rfl))) (Or.inr (hw _ (mi 91 rfl))) (by decide) (t := .int) (t' := .byte) (by decide) (by decide)))
  replace F_o0_hashIsZero := F_o0_hashIsZero.other W3 (Or.inr (slot_ne (Or.inl (hw _ (mi 115 rfl))) (Or.inr (hw _ (mi 91 rfl))) (by decide) (t := .boolean) (t' := .byte) (by decide) (by decide)))
  have N3 := Fr.snoc X3 N2 g_o0
  replace K0 := K0.wr W3 (Or.inl (by simp))
  replace Z0 := Nat.le_trans Z0 (Nat.le_of_eq W3.size.symm)
  exact own_retV X3 hx hby Bd.notSynchronized Bd.returns d14_14 (by decide) (by decide) eH3 ⟨rfl, N3, K0, E_o0, F_o0_value, F_o0_coder, F_o0_hash, F_o0_hashIsZero⟩
theorem ef19 (m : MethodId) (x0 : Addr) : entryFrame m #[(.ref x0)] 1 = mkF m 0 #[.val (.ref x0)] [] := by first | (simp [entryFrame, mkF, argsToLocals, Value.category]; done) | rfl
def Q19 (Z : State) (o0 : Addr) (value_o0 : Addr) (hash_o0 : Int32) (hashIsZero_o0 : Int32) (st_COMPACT_STRINGS : Int32) (h0 : Heap) (n0 : Nat) (v : Option Value) (h : Heap) (L : List Loc) : Prop := v = some (.int (1 : Int32)) ∧ Fr n0 L ∧ h0 = h
theorem rm19 (l : Launch) (Z : State) (a0 : Array Value) (hw : ∀ d ∈ tables_1, d.before a0 Z = true) (ws : List Jvm.Cond) (o0 : Addr) (value_o0 : Addr) (hash_o0 : Int32) (hashIsZero_o0 : Int32) (st_COMPACT_STRINGS : Int32) (h0 : Heap) (n0 : Nat) (Z0 : n0 ≤ h0.size) (F_o0_value : Fld Z h0 o0 "java/lang/String" "value" "[B" (.ref value_o0)) (F_o0_coder : Fld Z h0 o0 "java/lang/String" "coder" "B" (.int (0 : Int32))) (F_o0_hash : Fld Z h0 o0 "java/lang/String" "hash" "I" (.int hash_o0)) (F_o0_hashIsZero : Fld Z h0 o0 "java/lang/String" "hashIsZero" "Z" (.int hashIsZero_o0)) (S_COMPACT_STRINGS : Sta Z h0 "java/lang/String" "COMPACT_STRINGS" "Z" (.int st_COMPACT_STRINGS)) (hcs : (¬ (st_COMPACT_STRINGS = 0))) :
    MetFree l (⟨"java/lang/String", "isLatin1", "()Z"⟩ : MethodName) (head1 (Jvm.Cond.code (⟨"java/lang/String", "isLatin1", "()Z"⟩ : MethodName) jdk_42_method_154_code 1 (some .boolean) :: ws) ({ frames := 0, cells := 0, slots := 0, locals := 0 } : Room)) (fun a U => a = #[(.ref o0)] ∧ Z.Warmed39 U.vm ∧ U.heap = h0) (fun _ _ _ _ _ => True) (fun _ U o U' => ∃ v L, o = .returned v ∧ Q19 Z o0 value_o0 hash_o0 hashIsZero_o0 st_COMPACT_STRINGS h0 n0 v U'.heap L ∧ FrameEnd U o U' L ({ frames := 0, cells := 0, slots := 0, locals := 0 } : Room).cells ({ frames := 0, cells := 0, slots := 0, locals := 0 } : Room).slots) := by
  refine MetFree.of_bodySF (plainFor_of_name pn_java_lang_String) hisR ?_
  intro p e s m args below meth c s₁ Bd hml0 hP hK
  obtain ⟨rfl, hZ, hhp⟩ := hP
  have hx := Bd.exec
  have hby := Bd.bytes
  have hml : c.maxLocals = 1 := hml0
  have hown : s.vm.findClass "java/lang/String" = some m.cls := findClass_of_methodNamed Bd.named
  have hnm := (name_of_methodNamed Bd.named Bd.method).1
  have X0 : Stand p l e ({ frames := 0, cells := 0, slots := 0, locals := 0 } : Room) s m #[(.ref o0)] below meth c s₁ [] 0 0 := Stand.of_body Bd
  have eH0 : s₁.heap = h0 := by rw [← hhp, Bd.state]; rfl
  have N0 := Fr.nil n0
  show Gt p.tables e below (fun o U' => ∃ v L, o = .returned v ∧ Q19 Z o0 value_o0 hash_o0 hashIsZero_o0 st_COMPACT_STRINGS h0 n0 v U'.heap L ∧ FrameEnd s o U' L ({ frames := 0, cells := 0, slots := 0, locals := 0 } : Room).cells ({ frames := 0, cells := 0, slots := 0, locals := 0 } : Room).slots) _
  refine own_cast (ef19 m o0) ?_
  refine own_getS X0 hx hby hZ hown (host := "") (Or.inl (hw _ (mi 72 rfl))) Via.refl eH0 S_COMPACT_STRINGS d19_0 (pc' := 3) rfl (fun T1 X1 eH1 => ?_)
  have hk2 : ¬ (st_COMPACT_STRINGS = 0) := hcs
  refine own_ifF X1 hx hby d19_3 (own_i0_eq_n hk2) (pc' := 6) rfl ?_
  refine own_aloadN X1 hx hby rfl rfl d19_6 (pc' := 7) rfl ?_
  refine own_getF X1 hx hby hZ hown (host := "") (Or.inl (hw _ (mi 90 rfl))) Via.refl eH1 F_o0_coder d19_7 (pc' := 10) rfl (fun T3 X3 eH3 => ?_)
  refine own_ifF X3 hx hby d19_10 (by decide) (pc' := 13) rfl ?_
  refine own_iconst X3 hx hby (v := (1 : Int32)) (by decide) d19_13 (pc' := 14) rfl ?_
  refine own_goto X3 hx hby d19_14 (by decide) (pc' := 18) (by decide) ?_
  exact own_retZ X3 hx hby Bd.notSynchronized Bd.returns (Or.inr rfl) d19_18 (by decide) (by decide) eH3 ⟨rfl, N0, rfl⟩
theorem ef220 (m : MethodId) (x0 : Addr) : entryFrame m #[(.ref x0)] 14 = mkF m 0 #[.val (.ref x0), .unset, .unset, .unset, .unset, .unset, .unset, .unset, .unset, .unset, .unset, .unset, .unset, .unset] [] := by first | (simp [entryFrame, mkF, argsToLocals, Value.category]; done) | rfl
def Q220 (Z : State) (o0 : Addr) (loadFactor_o0 : UInt32) (h0 : Heap) (n0 : Nat) (v : Option Value) (h : Heap) (L : List Loc) : Prop := ∃ b4 : Addr, v = some (.ref b4) ∧ Fr n0 L ∧ Keep h0 h [o0] ∧ h0.size ≤ b4 ∧ Exa Z h o0 "java/util/HashMap" ∧ Fld Z h o0 "java/util/HashMap" "loadFactor" "F" (.float loadFactor_o0) ∧ Fld Z h o0 "java/util/HashMap" "table" "[Ljava/util/HashMap$Node;" (.ref b4) ∧ Fld Z h o0 "java/util/HashMap" "threshold" "I" (.int (12 : Int32)) ∧ Fld Z h o0 "java/util/HashMap" "modCount" "I" (.int (0 : Int32)) ∧ Fld Z h o0 "java/util/HashMap" "size" "I" (.int (0 : Int32)) ∧ Exa Z h b4 "[Ljava/util/HashMap$Node;" ∧ Ary (ovO Z "java/util/HashMap$Node") Z h b4 (.object "java/util/HashMap$Node") [.null, .null, .null, .null, .null, .null, .null, .null, .null, .null, .null, .null, .null, .null, .null, .null]
theorem rm220 (l : Launch) (Z : State) (a0 : Array Value) (hw : ∀ d ∈ tables_1, d.before a0 Z = true) (ws : List Jvm.Cond) (o0 : Addr) (loadFactor_o0 : UInt32) (h0 : Heap) (n0 : Nat) (Z0 : n0 ≤ h0.size) (F_o0_loadFactor : Fld Z h0 o0 "java/util/HashMap" "loadFactor" "F" (.float loadFactor_o0)) (F_o0_table : Fld Z h0 o0 "java/util/HashMap" "table" "[Ljava/util/HashMap$Node;" .null) (F_o0_threshold : Fld Z h0 o0 "java/util/HashMap" "threshold" "I" (.int (0 : Int32))) (F_o0_modCount : Fld Z h0 o0 "java/util/HashMap" "modCount" "I" (.int (0 : Int32))) (F_o0_size : Fld Z h0 o0 "java/util/HashMap" "size" "I" (.int (0 : Int32))) (E_o0 : Exa Z h0 o0 "java/util/HashMap") (g_o0 : n0 ≤ o0) :
    MetFree l (⟨"java/util/HashMap", "resize", "()[Ljava/util/HashMap$Node;"⟩ : MethodName) (head1 (Jvm.Cond.code (⟨"java/util/HashMap", "resize", "()[Ljava/util/HashMap$Node;"⟩ : MethodName) jdk_69_method_17_code 14 (some (.array (.object "java/util/HashMap$Node"))) :: ws) ({ frames := 0, cells := 1, slots := 16, locals := 0 } : Room)) (fun a U => a = #[(.ref o0)] ∧ Z.Warmed39 U.vm ∧ U.heap = h0) (fun _ _ _ _ _ => True) (fun _ U o U' => ∃ v L, o = .returned v ∧ Q220 Z o0 loadFactor_o0 h0 n0 v U'.heap L ∧ FrameEnd U o U' L ({ frames := 0, cells := 1, slots := 16, locals := 0 } : Room).cells ({ frames := 0, cells := 1, slots := 16, locals := 0 } : Room).slots) := by
  refine MetFree.of_bodySF (plainFor_of_name pn_java_util_HashMap) hisR ?_
  intro p e s m args below meth c s₁ Bd hml0 hP hK
  obtain ⟨rfl, hZ, hhp⟩ := hP
  have hx := Bd.exec
  have hby := Bd.bytes
  have hml : c.maxLocals = 14 := hml0
  have hown : s.vm.findClass "java/util/HashMap" = some m.cls := findClass_of_methodNamed Bd.named
  have hnm := (name_of_methodNamed Bd.named Bd.method).1
  have X0 : Stand p l e ({ frames := 0, cells := 1, slots := 16, locals := 0 } : Room) s m #[(.ref o0)] below meth c s₁ [] 0 0 := Stand.of_body Bd
  have eH0 : s₁.heap = h0 := by rw [← hhp, Bd.state]; rfl
  have N0 := Fr.nil n0
  have K0 := Keep.refl h0 [o0]
  show Gt p.tables e below (fun o U' => ∃ v L, o = .returned v ∧ Q220 Z o0 loadFactor_o0 h0 n0 v U'.heap L ∧ FrameEnd s o U' L ({ frames := 0, cells := 1, slots := 16, locals := 0 } : Room).cells ({ frames := 0, cells := 1, slots := 16, locals := 0 } : Room).slots) _
  refine own_cast (ef220 m o0) ?_
  refine own_aloadN X0 hx hby rfl rfl d22_0 (pc' := 1) rfl ?_
  refine own_getF X0 hx hby hZ hown (host := "") (Or.inl (hw _ (mi 129 rfl))) Via.refl eH0 F_o0_table d22_1 (pc' := 4) rfl (fun T1 X1 eH1 => ?_)
  refine own_astoreN X1 hx hby rfl (L' := #[.val (.ref o0), .val .null, .unset, .unset, .unset, .unset, .unset, .unset, .unset, .unset, .unset, .unset, .unset, .unset]) rfl d22_4 (pc' := 5) rfl ?_
  refine own_aloadN X1 hx hby rfl rfl d22_5 (pc' := 6) rfl ?_
  refine own_ifnonnullF X1 hx hby d22_6 (pc' := 9) rfl ?_
  refine own_iconst X1 hx hby (v := (0 : Int32)) (by decide) d22_9 (pc' := 10) rfl ?_
  refine own_goto X1 hx hby d22_10 (by decide) (pc' := 15) (by decide) ?_
  refine own_istoreN X1 hx hby (L' := #[.val (.ref o0), .val .null, .val (.int (0 : Int32)), .unset, .unset, .unset, .unset, .unset, .unset, .unset, .unset, .unset, .unset, .unset]) rfl d22_15 (pc' := 16) rfl ?_
  refine own_aloadN X1 hx hby rfl rfl d22_16 (pc' := 17) rfl ?_
  refine own_getF X1 hx hby hZ hown (host := "") (Or.inl (hw _ (mi 136 rfl))) Via.refl eH1 F_o0_threshold d22_17 (pc' := 20) rfl (fun T2 X2 eH2 => ?_)
  refine own_istoreN X2 hx hby (L' := #[.val (.ref o0), .val .null, .val (.int (0 : Int32)), .val (.int (0 : Int32)), .unset, .unset, .unset, .unset, .unset, .unset, .unset, .unset, .unset, .unset]) rfl d22_20 (pc' := 21) rfl ?_
  refine own_iconst X2 hx hby (v := (0 : Int32)) (by decide) d22_21 (pc' := 22) rfl ?_
  refine own_istore X2 hx hby (L' := #[.val (.ref o0), .val .null, .val (.int (0 : Int32)), .val (.int (0 : Int32)), .unset, .val (.int (0 : Int32)), .unset, .unset, .unset, .unset, .unset, .unset, .unset, .unset]) rfl d22_22 (pc' := 24) rfl ?_
  refine own_iloadN X2 hx hby rfl d22_24 (pc' := 25) rfl ?_
  refine own_ifT X2 hx hby d22_25 (by decide) (by decide) (pc' := 67) (by decide) ?_
  refine own_iloadN X2 hx hby rfl d22_67 (pc' := 68) rfl ?_
  refine own_ifT X2 hx hby d22_68 (by decide) (by decide) (pc' := 77) (by decide) ?_
  refine own_bipush X2 hx hby (v := (16 : Int32)) (by decide) d22_77 (pc' := 79) rfl ?_
  refine own_istore X2 hx hby (L' := #[.val (.ref o0), .val .null, .val (.int (0 : Int32)), .val (.int (0 : Int32)), .val (.int (16 : Int32)), .val (.int (0 : Int32)), .unset, .unset, .unset, .unset, .unset, .unset, .unset, .unset]) rfl d22_79 (pc' := 81) rfl ?_
  refine own_bipush X2 hx hby (v := (12 : Int32)) (by decide) d22_81 (pc' := 83) rfl ?_
  refine own_istore X2 hx hby (L' := #[.val (.ref o0), .val .null, .val (.int (0 : Int32)), .val (.int (0 : Int32)), .val (.int (16 : Int32)), .val (.int (12 : Int32)), .unset, .unset, .unset, .unset, .unset, .unset, .unset, .unset]) rfl d22_83 (pc' := 85) rfl ?_
  refine own_iload X2 hx hby rfl d22_85 (pc' := 87) rfl ?_
  refine own_ifT X2 hx hby d22_87 (by decide) (by decide) (pc' := 125) (by decide) ?_
  refine own_aloadN X2 hx hby rfl rfl d22_125 (pc' := 126) rfl ?_
  refine own_iload X2 hx hby rfl d22_126 (pc' := 128) rfl ?_
  refine own_putF X2 hx hby hZ hown (host := "") (Or.inl (hw _ (mi 136 rfl))) Via.refl eH2 F_o0_threshold E_o0 (Or.inl (hw _ (mi 137 rfl))) (hw _ (mi 50 rfl)) (ty := .int) (by decide) rfl rfl d22_128 (pc' := 131) rfl (fun T3 h3 X3 eH3 W3 => ?_)
  replace E_o0 := E_o0.wr W3
  replace F_o0_loadFactor := F_o0_loadFactor.other W3 (Or.inr (slot_ne (Or.inr (hw _ (mi 65 rfl))) (Or.inl (hw _ (mi 137 rfl))) (by decide) (t := .float) (t' := .int) (by decide) (by decide)))
  replace F_o0_table := F_o0_table.other W3 (Or.inr (slot_ne (Or.inl (hw _ (mi 130 rfl))) (Or.inl (hw _ (mi 137 rfl))) (by decide) (t := (.array (.object "java/util/HashMap$Node"))) (t' := .int) (by decide) (by decide)))
  replace F_o0_threshold := F_o0_threshold.same W3
  replace F_o0_modCount := F_o0_modCount.other W3 (Or.inr (slot_ne (Or.inl (hw _ (mi 161 rfl))) (Or.inl (hw _ (mi 137 rfl))) (by decide) (t := .int) (t' := .int) (by decide) (by decide)))
  replace F_o0_size := F_o0_size.other W3 (Or.inr (slot_ne (Or.inl (hw _ (mi 163 rfl))) (Or.inl (hw _ (mi 137 rfl))) (by decide) (t := .int) (t' := .int) (by decide) (by decide)))
  have N3 := Fr.snoc X3 N0 g_o0
  replace K0 := K0.wr W3 (Or.inl (by simp))
  replace Z0 := Nat.le_trans Z0 (Nat.le_of_eq W3.size.symm)
  refine own_iload X3 hx hby rfl d22_131 (pc' := 133) rfl ?_
  refine own_newRO X3 hx hby hZ hown (C := "java/util/HashMap$Node") (hw _ (mi 138 rfl)) (hw _ (mi 139 rfl)) eH3 d22_133 (pc' := 136) rfl (by decide) (N := 16) (by decide) (cap := 16) (by decide) (by decide) (by decide) (by decide) (ad := "[Ljava/util/HashMap$Node;") (by decide) (fun T4 h4 b4 X4 eH4 E4 g4 E_b4 V_b4 => ?_)
  have g_b4 : n0 ≤ b4 := g4 ▸ Z0
  have sz_b4 : h0.size ≤ b4 := g4 ▸ K0.1
  have ne_o0_b4 : o0 ≠ b4 := Nat.ne_of_lt (g4 ▸ E_o0.lt)
  replace E_o0 := E_o0.ext E4
  replace F_o0_loadFactor := F_o0_loadFactor.ext E4
  replace F_o0_table := F_o0_table.ext E4
  replace F_o0_threshold := F_o0_threshold.ext E4
  replace F_o0_modCount := F_o0_modCount.ext E4
  replace F_o0_size := F_o0_size.ext E4
  replace K0 := K0.ext E4
  replace Z0 := Nat.le_trans Z0 E4.1
  have V_b4 : Ary (ovO Z "java/util/HashMap$Node") Z h4 b4 (.object "java/util/HashMap$Node") [.null, .null, .null, .null, .null, .null, .null, .null, .null, .null, .null, .null, .null, .null, .null, .null] := V_b4
  refine own_astore X4 hx hby rfl (L' := #[.val (.ref o0), .val .null, .val (.int (0 : Int32)), .val (.int (0 : Int32)), .val (.int (16 : Int32)), .val (.int (12 : Int32)), .val (.ref b4), .unset, .unset, .unset, .unset, .unset, .unset, .unset]) rfl d22_136 (pc' := 138) rfl ?_
  refine own_aloadN X4 hx hby rfl rfl d22_138 (pc' := 139) rfl ?_
  refine own_aload X4 hx hby rfl rfl d22_139 (pc' := 141) rfl ?_
  refine own_putF X4 hx hby hZ hown (host := "") (Or.inl (hw _ (mi 129 rfl))) Via.refl eH4 F_o0_table E_o0 (Or.inl (hw _ (mi 130 rfl))) (hw _ (mi 50 rfl)) (ty := (.array (.object "java/util/HashMap$Node"))) (by decide) rfl rfl d22_141 (pc' := 144) rfl (fun T5 h5 X5 eH5 W5 => ?_)
  replace E_o0 := E_o0.wr W5
  replace F_o0_loadFactor := F_o0_loadFactor.other W5 (Or.inr (slot_ne (Or.inr (hw _ (mi 65 rfl))) (Or.inl (hw _ (mi 130 rfl))) (by decide) (t := .float) (t' := (.array (.object "java/util/HashMap$Node"))) (by decide) (by decide)))
  replace F_o0_table := F_o0_table.same W5
  replace F_o0_threshold := F_o0_threshold.other W5 (Or.inr (slot_ne (Or.inl (hw _ (mi 137 rfl))) (Or.inl (hw _ (mi 130 rfl))) (by decide) (t := .int) (t' := (.array (.object "java/util/HashMap$Node"))) (by decide) (by decide)))
  replace F_o0_modCount := F_o0_modCount.other W5 (Or.inr (slot_ne (Or.inl (hw _ (mi 161 rfl))) (Or.inl (hw _ (mi 130 rfl))) (by decide) (t := .int) (t' := (.array (.object "java/util/HashMap$Node"))) (by decide) (by decide)))
  replace F_o0_size := F_o0_size.other W5 (Or.inr (slot_ne (Or.inl (hw _ (mi 163 rfl))) (Or.inl (hw _ (mi 130 rfl))) (by decide) (t := .int) (t' := (.array (.object "java/util/HashMap$Node"))) (by decide) (by decide)))
  replace E_b4 := E_b4.wr W5
  replace V_b4 := V_b4.other W5 (Ne.symm ne_o0_b4)
  have N5 := Fr.snoc X5 N3 g_o0
  replace K0 := K0.wr W5 (Or.inl (by simp))
  replace Z0 := Nat.le_trans Z0 (Nat.le_of_eq W5.size.symm)
  refine own_aloadN X5 hx hby rfl rfl d22_144 (pc' := 145) rfl ?_
  refine own_ifnullT X5 hx hby d22_145 (by decide) (pc' := 353) (by decide) ?_
  refine own_aload X5 hx hby rfl rfl d22_353 (pc' := 355) rfl ?_
  exact own_retA X5 hx hby Bd.notSynchronized Bd.returns rfl rfl d22_355 (by decide) (by decide) eH5 ⟨b4, rfl, N5, K0, sz_b4, E_o0, F_o0_loadFactor, F_o0_table, F_o0_threshold, F_o0_modCount, F_o0_size, E_b4, V_b4⟩
theorem ef25 (m : MethodId) (x0 : Addr) : entryFrame m #[(.ref x0), (.int (1 : Int32))] 2 = mkF m 0 #[.val (.ref x0), .val (.int (1 : Int32))] [] := by first | (simp [entryFrame, mkF, argsToLocals, Value.category]; done) | rfl
def Q25 (Z : State) (o0 : Addr) (h0 : Heap) (n0 : Nat) (v : Option Value) (h : Heap) (L : List Loc) : Prop := v = none ∧ Fr n0 L ∧ h0 = h
theorem rm25 (l : Launch) (Z : State) (a0 : Array Value) (hw : ∀ d ∈ tables_1, d.before a0 Z = true) (ws : List Jvm.Cond) (o0 : Addr) (h0 : Heap) (n0 : Nat) (Z0 : n0 ≤ h0.size) :
    MetFree l (⟨"java/util/HashMap", "afterNodeInsertion", "(Z)V"⟩ : MethodName) (head1 (Jvm.Cond.code (⟨"java/util/HashMap", "afterNodeInsertion", "(Z)V"⟩ : MethodName) jdk_69_method_52_code 2 none :: ws) ({ frames := 0, cells := 0, slots := 0, locals := 0 } : Room)) (fun a U => a = #[(.ref o0), (.int (1 : Int32))] ∧ Z.Warmed39 U.vm ∧ U.heap = h0) (fun _ _ _ _ _ => True) (fun _ U o U' => ∃ v L, o = .returned v ∧ Q25 Z o0 h0 n0 v U'.heap L ∧ FrameEnd U o U' L ({ frames := 0, cells := 0, slots := 0, locals := 0 } : Room).cells ({ frames := 0, cells := 0, slots := 0, locals := 0 } : Room).slots) := by
  refine MetFree.of_bodySF (plainFor_of_name pn_java_util_HashMap) hisR ?_
  intro p e s m args below meth c s₁ Bd hml0 hP hK
  obtain ⟨rfl, hZ, hhp⟩ := hP
  have hx := Bd.exec
  have hby := Bd.bytes
  have hml : c.maxLocals = 2 := hml0
  have hown : s.vm.findClass "java/util/HashMap" = some m.cls := findClass_of_methodNamed Bd.named
  have hnm := (name_of_methodNamed Bd.named Bd.method).1
  have X0 : Stand p l e ({ frames := 0, cells := 0, slots := 0, locals := 0 } : Room) s m #[(.ref o0), (.int (1 : Int32))] below meth c s₁ [] 0 0 := Stand.of_body Bd
  have eH0 : s₁.heap = h0 := by rw [← hhp, Bd.state]; rfl
  have N0 := Fr.nil n0
  show Gt p.tables e below (fun o U' => ∃ v L, o = .returned v ∧ Q25 Z o0 h0 n0 v U'.heap L ∧ FrameEnd s o U' L ({ frames := 0, cells := 0, slots := 0, locals := 0 } : Room).cells ({ frames := 0, cells := 0, slots := 0, locals := 0 } : Room).slots) _
  refine own_cast (ef25 m o0) ?_
  exact own_retV X0 hx hby Bd.notSynchronized Bd.returns d25_0 (by decide) (by decide) eH0 ⟨rfl, N0, rfl⟩
theorem ef12 (m : MethodId) (x0 : Int32) : entryFrame m #[(.int x0)] 1 = mkF m 0 #[.val (.int x0)] [] := by first | (simp [entryFrame, mkF, argsToLocals, Value.category]; done) | rfl
def Q12 (Z : State) (p0 : Int32) (h0 : Heap) (n0 : Nat) (v : Option Value) (h : Heap) (L : List Loc) : Prop := v = some (.int (1 : Int32)) ∧ Fr n0 L ∧ h0 = h
theorem rm12 (l : Launch) (Z : State) (a0 : Array Value) (hw : ∀ d ∈ tables_1, d.before a0 Z = true) (ws : List Jvm.Cond) (p0 : Int32) (h0 : Heap) (n0 : Nat) (Z0 : n0 ≤ h0.size) (hce : (¬ ((255 : Int32) < p0))) :
    MetFree l (⟨"java/lang/StringLatin1", "canEncode", "(C)Z"⟩ : MethodName) (head1 (Jvm.Cond.code (⟨"java/lang/StringLatin1", "canEncode", "(C)Z"⟩ : MethodName) jdk_43_method_3_code 1 (some .boolean) :: ws) ({ frames := 0, cells := 0, slots := 0, locals := 0 } : Room)) (fun a U => a = #[(.int p0)] ∧ Z.Warmed39 U.vm ∧ U.heap = h0) (fun _ _ _ _ _ => True) (fun _ U o U' => ∃ v L, o = .returned v ∧ Q12 Z p0 h0 n0 v U'.heap L ∧ FrameEnd U o U' L ({ frames := 0, cells := 0, slots := 0, locals := 0 } : Room).cells ({ frames := 0, cells := 0, slots := 0, locals := 0 } : Room).slots) := by
  refine MetFree.of_bodySF (plainFor_of_name pn_java_lang_StringLatin1) hisR ?_
  intro p e s m args below meth c s₁ Bd hml0 hP hK
  obtain ⟨rfl, hZ, hhp⟩ := hP
  have hx := Bd.exec
  have hby := Bd.bytes
  have hml : c.maxLocals = 1 := hml0
  have hown : s.vm.findClass "java/lang/StringLatin1" = some m.cls := findClass_of_methodNamed Bd.named
  have hnm := (name_of_methodNamed Bd.named Bd.method).1
  have X0 : Stand p l e ({ frames := 0, cells := 0, slots := 0, locals := 0 } : Room) s m #[(.int p0)] below meth c s₁ [] 0 0 := Stand.of_body Bd
  have eH0 : s₁.heap = h0 := by rw [← hhp, Bd.state]; rfl
  have N0 := Fr.nil n0
  show Gt p.tables e below (fun o U' => ∃ v L, o = .returned v ∧ Q12 Z p0 h0 n0 v U'.heap L ∧ FrameEnd s o U' L ({ frames := 0, cells := 0, slots := 0, locals := 0 } : Room).cells ({ frames := 0, cells := 0, slots := 0, locals := 0 } : Room).slots) _
  refine own_cast (ef12 m p0) ?_
  refine own_iloadN X0 hx hby rfl d12_0 (pc' := 1) rfl ?_
  refine own_sipush X0 hx hby (v := (255 : Int32)) (by decide) d12_1 (pc' := 4) rfl ?_
  refine own_icF X0 hx hby d12_4 (own_ic_gt_n hce) (pc' := 7) rfl ?_
  refine own_iconst X0 hx hby (v := (1 : Int32)) (by decide) d12_7 (pc' := 8) rfl ?_
  refine own_goto X0 hx hby d12_8 (by decide) (pc' := 12) (by decide) ?_
  exact own_retZ X0 hx hby Bd.notSynchronized Bd.returns (Or.inr rfl) d12_12 (by decide) (by decide) eH0 ⟨rfl, N0, rfl⟩
theorem ef13 (m : MethodId) (x0 : Int32) : entryFrame m #[(.int x0)] 1 = mkF m 0 #[.val (.int x0)] [] := by first | (simp [entryFrame, mkF, argsToLocals, Value.category]; done) | rfl
def Q13 (Z : State) (p0 : Int32) (h0 : Heap) (n0 : Nat) (v : Option Value) (h : Heap) (L : List Loc) : Prop := ∃ b1 : Addr, v = some (.ref b1) ∧ Fr n0 L ∧ Keep h0 h [] ∧ h0.size ≤ b1 ∧ Exa Z h b1 "[B" ∧ Ary tr Z h b1 .byte [(.int (nar .byte (p0.toInt8.toInt32)))]
theorem rm13 (l : Launch) (Z : State) (a0 : Array Value) (hw : ∀ d ∈ tables_1, d.before a0 Z = true) (ws : List Jvm.Cond) (p0 : Int32) (h0 : Heap) (n0 : Nat) (Z0 : n0 ≤ h0.size) :
    MetFree l (⟨"java/lang/StringLatin1", "toBytes", "(C)[B"⟩ : MethodName) (head1 (Jvm.Cond.code (⟨"java/lang/StringLatin1", "toBytes", "(C)[B"⟩ : MethodName) jdk_43_method_46_code 1 (some (.array .byte)) :: ws) ({ frames := 0, cells := 1, slots := 1, locals := 0 } : Room)) (fun a U => a = #[(.int p0)] ∧ Z.Warmed39 U.vm ∧ U.heap = h0) (fun _ _ _ _ _ => True) (fun _ U o U' => ∃ v L, o = .returned v ∧ Q13 Z p0 h0 n0 v U'.heap L ∧ FrameEnd U o U' L ({ frames := 0, cells := 1, slots := 1, locals := 0 } : Room).cells ({ frames := 0, cells := 1, slots := 1, locals := 0 } : Room).slots) := by
  refine MetFree.of_bodySF (plainFor_of_name pn_java_lang_StringLatin1) hisR ?_
  intro p e s m args below meth c s₁ Bd hml0 hP hK
  obtain ⟨rfl, hZ, hhp⟩ := hP
  have hx := Bd.exec
  have hby := Bd.bytes
  have hml : c.maxLocals = 1 := hml0
  have hown : s.vm.findClass "java/lang/StringLatin1" = some m.cls := findClass_of_methodNamed Bd.named
  have hnm := (name_of_methodNamed Bd.named Bd.method).1
  have X0 : Stand p l e ({ frames := 0, cells := 1, slots := 1, locals := 0 } : Room) s m #[(.int p0)] below meth c s₁ [] 0 0 := Stand.of_body Bd
  have eH0 : s₁.heap = h0 := by rw [← hhp, Bd.state]; rfl
  have N0 := Fr.nil n0
  have K0 := Keep.refl h0 []
  show Gt p.tables e below (fun o U' => ∃ v L, o = .returned v ∧ Q13 Z p0 h0 n0 v U'.heap L ∧ FrameEnd s o U' L ({ frames := 0, cells := 1, slots := 1, locals := 0 } : Room).cells ({ frames := 0, cells := 1, slots := 1, locals := 0 } : Room).slots) _
  refine own_cast (ef13 m p0) ?_
  refine own_iconst X0 hx hby (v := (1 : Int32)) (by decide) d13_0 (pc' := 1) rfl ?_
  refine own_newP X0 hx hby hZ (hw _ (mi 82 rfl)) eH0 d13_1 (pc' := 3) rfl (by decide) (N := 1) (by decide) (cap := 1) (by decide) (by decide) (by decide) (by decide) (ad := "[B") (by decide) (fun T1 h1 b1 X1 eH1 E1 g1 E_b1 V_b1 => ?_)
  have g_b1 : n0 ≤ b1 := g1 ▸ Z0
  have sz_b1 : h0.size ≤ b1 := g1 ▸ K0.1
  replace K0 := K0.ext E1
  replace Z0 := Nat.le_trans Z0 E1.1
  have V_b1 : Ary tr Z h1 b1 .byte [(.int (0 : Int32))] := V_b1
  refine own_dup X1 hx hby rfl d13_3 (pc' := 4) rfl ?_
  refine own_iconst X1 hx hby (v := (0 : Int32)) (by decide) d13_4 (pc' := 5) rfl ?_
  refine own_iloadN X1 hx hby rfl d13_5 (pc' := 6) rfl ?_
  refine own_i2b X1 hx hby rfl d13_6 (pc' := 7) rfl ?_
  refine own_bastore X1 hx hby hZ eH1 V_b1 (by decide) (n := 0) (by decide) (of_decide_eq_true rfl) d13_7 (pc' := 8) rfl (fun T2 h2 X2 eH2 W2 => ?_)
  replace E_b1 := E_b1.wr W2
  have N2 := Fr.snoc X2 N0 g_b1
  replace K0 := K0.wr W2 (Or.inr sz_b1)
  replace Z0 := Nat.le_trans Z0 (Nat.le_of_eq W2.size.symm)
  replace V_b1 : Ary tr Z h2 b1 .byte [(.int (nar .byte (p0.toInt8.toInt32)))] := V_b1.set W2
  exact own_retA X2 hx hby Bd.notSynchronized Bd.returns rfl rfl d13_8 (by decide) (by decide) eH2 ⟨b1, rfl, N2, K0, sz_b1, E_b1, V_b1⟩
theorem ef11 (m : MethodId) (x0 : Int32) : entryFrame m #[(.int x0)] 1 = mkF m 0 #[.val (.int x0)] [] := by first | (simp [entryFrame, mkF, argsToLocals, Value.category]; done) | rfl
def Q11 (Z : State) (p0 : Int32) (st_COMPACT_STRINGS : Int32) (h0 : Heap) (n0 : Nat) (v : Option Value) (h : Heap) (L : List Loc) : Prop := ∃ b4 b1_5 : Addr, v = some (.ref b4) ∧ Fr n0 L ∧ Keep h0 h [] ∧ h0.size ≤ b4 ∧ h0.size ≤ b1_5 ∧ b4 ≠ b1_5 ∧ Exa Z h b4 "java/lang/String" ∧ Fld Z h b4 "java/lang/String" "value" "[B" (.ref b1_5) ∧ Fld Z h b4 "java/lang/String" "coder" "B" (.int (0 : Int32)) ∧ Fld Z h b4 "java/lang/String" "hash" "I" (.int (0 : Int32)) ∧ Fld Z h b4 "java/lang/String" "hashIsZero" "Z" (.int (0 : Int32)) ∧ Exa Z h b1_5 "[B" ∧ Ary tr Z h b1_5 .byte [(.int (nar .byte (p0.toInt8.toInt32)))]
theorem rm11 (l : Launch) (Z : State) (a0 : Array Value) (hw : ∀ d ∈ tables_1, d.before a0 Z = true) (ws : List Jvm.Cond) (p0 : Int32) (st_COMPACT_STRINGS : Int32) (h0 : Heap) (n0 : Nat) (Z0 : n0 ≤ h0.size) (S_COMPACT_STRINGS : Sta Z h0 "java/lang/String" "COMPACT_STRINGS" "Z" (.int st_COMPACT_STRINGS)) (hcs : (¬ (st_COMPACT_STRINGS = 0))) (hce : (¬ ((255 : Int32) < p0))) :
    MetFree l (⟨"java/lang/String", "valueOf", "(C)Ljava/lang/String;"⟩ : MethodName) (head1 (Jvm.Cond.code (⟨"java/lang/String", "valueOf", "(C)Ljava/lang/String;"⟩ : MethodName) jdk_42_method_139_code 1 (some (.object "java/lang/String")) :: ws) ({ frames := 2, cells := 2, slots := 5, locals := 27 } : Room)) (fun a U => a = #[(.int p0)] ∧ Z.Warmed39 U.vm ∧ U.heap = h0) (fun _ _ _ _ _ => True) (fun _ U o U' => ∃ v L, o = .returned v ∧ Q11 Z p0 st_COMPACT_STRINGS h0 n0 v U'.heap L ∧ FrameEnd U o U' L ({ frames := 2, cells := 2, slots := 5, locals := 27 } : Room).cells ({ frames := 2, cells := 2, slots := 5, locals := 27 } : Room).slots) := by
  refine MetFree.of_bodySF (plainFor_of_name pn_java_lang_String) hisR ?_
  intro p e s m args below meth c s₁ Bd hml0 hP hK
  obtain ⟨rfl, hZ, hhp⟩ := hP
  have hx := Bd.exec
  have hby := Bd.bytes
  have hml : c.maxLocals = 1 := hml0
  have hown : s.vm.findClass "java/lang/String" = some m.cls := findClass_of_methodNamed Bd.named
  have hnm := (name_of_methodNamed Bd.named Bd.method).1
  have X0 : Stand p l e ({ frames := 2, cells := 2, slots := 5, locals := 27 } : Room) s m #[(.int p0)] below meth c s₁ [] 0 0 := Stand.of_body Bd
  have eH0 : s₁.heap = h0 := by rw [← hhp, Bd.state]; rfl
  have N0 := Fr.nil n0
  have K0 := Keep.refl h0 []
  show Gt p.tables e below (fun o U' => ∃ v L, o = .returned v ∧ Q11 Z p0 st_COMPACT_STRINGS h0 n0 v U'.heap L ∧ FrameEnd s o U' L ({ frames := 2, cells := 2, slots := 5, locals := 27 } : Room).cells ({ frames := 2, cells := 2, slots := 5, locals := 27 } : Room).slots) _
  refine own_cast (ef11 m p0) ?_
  refine own_getS X0 hx hby hZ hown (host := "") (Or.inl (hw _ (mi 72 rfl))) Via.refl eH0 S_COMPACT_STRINGS d11_0 (pc' := 3) rfl (fun T1 X1 eH1 => ?_)
  have hk2 : ¬ (st_COMPACT_STRINGS = 0) := hcs
  refine own_ifF X1 hx hby d11_3 (own_i0_eq_n hk2) (pc' := 6) rfl ?_
  refine own_iloadN X1 hx hby rfl d11_6 (pc' := 7) rfl ?_
  refine own_static X1 hx hby hZ (y := (⟨"java/lang/StringLatin1", "canEncode", "(C)Z"⟩ : MethodName)) (rest := []) hown (hw _ (mi 73 rfl)) (hw _ (mi 74 rfl)) (hw _ (mi 76 rfl)) (hw _ (mi 75 rfl)) (by decide) (rm12 l Z a0 hw [] p0 h0 n0 Z0 hce) eH1 (by rw [hml]; rfl) (argsL := [(.int p0)]) rfl (lenOf pd_1 rfl) rfl d11_7 (pc' := 10) rfl (by decide) (W := 0) (Nat.le_of_eq rfl) (by decide) (by decide) (by decide) (fun T3 h3 Lc3 v3r X3 eH3 hQ3 => ?_)
  obtain ⟨rfl, Nq3, rfl⟩ := hQ3
  have N3 := Fr.app N0 Nq3
  refine own_ifF X3 hx hby d11_10 (by decide) (pc' := 13) rfl ?_
  refine own_newO X3 hx hby hZ hown (hw _ (mi 77 rfl)) (hw _ (mi 78 rfl)) (hw _ (mi 70 rfl)) eH3 d11_13 (pc' := 16) rfl (by decide) (by decide) (fun T4 h4 b4 X4 eH4 E4 g4 E_b4 D4 => ?_)
  have g_b4 : n0 ≤ b4 := g4 ▸ Z0
  have sz_b4 : h0.size ≤ b4 := g4 ▸ K0.1
  replace S_COMPACT_STRINGS := S_COMPACT_STRINGS.ext E4
  replace K0 := K0.ext E4
  replace Z0 := Nat.le_trans Z0 E4.1
  have F_b4_value : Fld Z h4 b4 "java/lang/String" "value" "[B" .null := D4 (Or.inr (hw _ (mi 89 rfl))) (ty := (.array .byte)) (by decide)
  have F_b4_coder : Fld Z h4 b4 "java/lang/String" "coder" "B" (.int (0 : Int32)) := D4 (Or.inr (hw _ (mi 91 rfl))) (ty := .byte) (by decide)
  have F_b4_hash : Fld Z h4 b4 "java/lang/String" "hash" "I" (.int (0 : Int32)) := D4 (Or.inl (hw _ (mi 113 rfl))) (ty := .int) (by decide)
  have F_b4_hashIsZero : Fld Z h4 b4 "java/lang/String" "hashIsZero" "Z" (.int (0 : Int32)) := D4 (Or.inl (hw _ (mi 115 rfl))) (ty := .boolean) (by decide)
  refine own_dup X4 hx hby rfl d11_16 (pc' := 17) rfl ?_
  refine own_iloadN X4 hx hby rfl d11_17 (pc' := 18) rfl ?_
  refine own_static X4 hx hby hZ (y := (⟨"java/lang/StringLatin1", "toBytes", "(C)[B"⟩ : MethodName)) (rest := [(.ref b4), (.ref b4)]) hown (hw _ (mi 79 rfl)) (hw _ (mi 80 rfl)) (hw _ (mi 81 rfl)) (hw _ (mi 75 rfl)) (by decide) (rm13 l Z a0 hw [] p0 h4 n0 Z0) eH4 (by rw [hml]; rfl) (argsL := [(.int p0)]) rfl (lenOf pd_2 rfl) rfl d11_18 (pc' := 21) rfl (by decide) (W := 2) (Nat.le_of_eq rfl) (by decide) (by decide) (by decide) (fun T5 h5 Lc5 v5r X5 eH5 hQ5 => ?_)
  obtain ⟨b1_5, rfl, Nq5, Kq5, gq5_0, gq5_1, gq5_2⟩ := hQ5
  have N5 := Fr.app N3 Nq5
  have g_b1_5 : n0 ≤ b1_5 := Nat.le_trans Z0 gq5_0
  have sz_b1_5 : h0.size ≤ b1_5 := Nat.le_trans K0.1 gq5_0
  have ne_b4_b1_5 : b4 ≠ b1_5 := Nat.ne_of_lt (Nat.lt_of_lt_of_le E_b4.lt gq5_0)
  replace S_COMPACT_STRINGS := own_skn S_COMPACT_STRINGS Kq5 own_sk0
  replace E_b4 := E_b4.keep Kq5
  replace F_b4_value := F_b4_value.keep Kq5 nin0
  replace F_b4_coder := F_b4_coder.keep Kq5 nin0
  replace F_b4_hash := F_b4_hash.keep Kq5 nin0
  replace F_b4_hashIsZero := F_b4_hashIsZero.keep Kq5 nin0
  replace K0 := K0.trans Kq5 all0
  have E_b1_5 := gq5_1
  have V_b1_5 := gq5_2
  replace Z0 := Nat.le_trans Z0 Kq5.1
  refine own_iconst X5 hx hby (v := (0 : Int32)) (by decide) d11_21 (pc' := 22) rfl ?_
  refine own_special X5 hx hby hZ (y := (⟨"java/lang/String", "<init>", "([BB)V"⟩ : MethodName)) (rest := [(.ref b4)]) rfl hown (hw _ (mi 83 rfl)) (hw _ (mi 84 rfl)) rfl (hw _ (mi 86 rfl)) (hw _ (mi 70 rfl)) (by decide) (rm14 l Z a0 hw [] b4 b1_5 .null (0 : Int32) (0 : Int32) (0 : Int32) h5 n0 Z0 F_b4_value F_b4_coder F_b4_hash F_b4_hashIsZero E_b4 g_b4) eH5 (by rw [hml]; rfl) (a := b4) (argsL := [(.ref b1_5), (.int (0 : Int32))]) rfl (lenOf pd_3 rfl) rfl d11_22 (pc' := 25) rfl (by decide) (W := 1) (Nat.le_of_eq rfl) (by decide) (by decide) (by decide) (fun T6 h6 Lc6 v6r X6 eH6 hQ6 => ?_)
  obtain ⟨rfl, Nq6, Kq6, gq6_0, gq6_1, gq6_2, gq6_3, gq6_4⟩ := hQ6
  have N6 := Fr.app N5 Nq6
  replace S_COMPACT_STRINGS := own_skn S_COMPACT_STRINGS Kq6 (own_skS E_b4 own_sk0)
  replace E_b4 := E_b4.keep Kq6
  replace E_b1_5 := E_b1_5.keep Kq6
  replace V_b1_5 := V_b1_5.keep Kq6 (ninS (Ne.symm ne_b4_b1_5) nin0)
  replace K0 := K0.trans Kq6 (allS (Or.inr sz_b4) all0)
  have E_b4 := gq6_0
  have F_b4_value := gq6_1
  have F_b4_coder := gq6_2
  have F_b4_hash := gq6_3
  have F_b4_hashIsZero := gq6_4
  replace Z0 := Nat.le_trans Z0 Kq6.1
  exact own_retA X6 hx hby Bd.notSynchronized Bd.returns rfl rfl d11_25 (by decide) (by decide) eH6 ⟨b4, b1_5, rfl, N6, K0, sz_b4, sz_b1_5, ne_b4_b1_5, E_b4, F_b4_value, F_b4_coder, F_b4_hash, F_b4_hashIsZero, E_b1_5, V_b1_5⟩
theorem ef20 (m : MethodId) (x0 : Addr) : entryFrame m #[(.ref x0)] 1 = mkF m 0 #[.val (.ref x0)] [] := by first | (simp [entryFrame, mkF, argsToLocals, Value.category]; done) | rfl
def Q20 (Z : State) (o0 : Addr) (by0 : Int32) (hh : Int32) (h0 : Heap) (n0 : Nat) (v : Option Value) (h : Heap) (L : List Loc) : Prop := v = some (.int hh) ∧ Fr n0 L ∧ h0 = h
theorem rm20 (l : Launch) (Z : State) (a0 : Array Value) (hw : ∀ d ∈ tables_1, d.before a0 Z = true) (ws : List Jvm.Cond) (o0 : Addr) (by0 : Int32) (hh : Int32) (h0 : Heap) (n0 : Nat) (Z0 : n0 ≤ h0.size) (V_o0 : Ary tr Z h0 o0 .byte [(.int by0)]) (hhh : ((by0 &&& (255 : Int32)) = hh)) :
    MetFree l (⟨"java/lang/StringLatin1", "hashCode", "([B)I"⟩ : MethodName) (head1 (Jvm.Cond.code (⟨"java/lang/StringLatin1", "hashCode", "([B)I"⟩ : MethodName) jdk_43_method_21_code 1 (some .int) :: ws) ({ frames := 0, cells := 0, slots := 0, locals := 0 } : Room)) (fun a U => a = #[(.ref o0)] ∧ Z.Warmed39 U.vm ∧ U.heap = h0) (fun _ _ _ _ _ => True) (fun _ U o U' => ∃ v L, o = .returned v ∧ Q20 Z o0 by0 hh h0 n0 v U'.heap L ∧ FrameEnd U o U' L ({ frames := 0, cells := 0, slots := 0, locals := 0 } : Room).cells ({ frames := 0, cells := 0, slots := 0, locals := 0 } : Room).slots) := by
  refine MetFree.of_bodySF (plainFor_of_name pn_java_lang_StringLatin1) hisR ?_
  intro p e s m args below meth c s₁ Bd hml0 hP hK
  obtain ⟨rfl, hZ, hhp⟩ := hP
  have hx := Bd.exec
  have hby := Bd.bytes
  have hml : c.maxLocals = 1 := hml0
  have hown : s.vm.findClass "java/lang/StringLatin1" = some m.cls := findClass_of_methodNamed Bd.named
  have hnm := (name_of_methodNamed Bd.named Bd.method).1
  have X0 : Stand p l e ({ frames := 0, cells := 0, slots := 0, locals := 0 } : Room) s m #[(.ref o0)] below meth c s₁ [] 0 0 := Stand.of_body Bd
  have eH0 : s₁.heap = h0 := by rw [← hhp, Bd.state]; rfl
  have N0 := Fr.nil n0
  show Gt p.tables e below (fun o U' => ∃ v L, o = .returned v ∧ Q20 Z o0 by0 hh h0 n0 v U'.heap L ∧ FrameEnd s o U' L ({ frames := 0, cells := 0, slots := 0, locals := 0 } : Room).cells ({ frames := 0, cells := 0, slots := 0, locals := 0 } : Room).slots) _
  refine own_cast (ef20 m o0) ?_
  refine own_aloadN X0 hx hby rfl rfl d20_0 (pc' := 1) rfl ?_
  refine own_alen X0 hx hby hZ eH0 V_o0 (z := (1 : Int32)) (by first | rfl | decide) d20_1 (pc' := 2) rfl ?_
  refine own_lsw X0 hx hby d20_2 (by decide) (i := 1) (off := 30) (by decide) (by decide) (pc' := 32) (by decide) ?_
  refine own_aloadN X0 hx hby rfl rfl d20_32 (pc' := 33) rfl ?_
  refine own_iconst X0 hx hby (v := (0 : Int32)) (by decide) d20_33 (pc' := 34) rfl ?_
  refine own_baload X0 hx hby hZ eH0 V_o0 (by decide) (v := (.int by0)) rfl d20_34 (pc' := 35) rfl ?_
  refine own_sipush X0 hx hby (v := (255 : Int32)) (by decide) d20_35 (pc' := 38) rfl ?_
  refine own_iand X0 hx hby rfl d20_38 (pc' := 39) rfl ?_
  refine own_goto X0 hx hby d20_39 (by decide) (pc' := 51) (by decide) ?_
  exact own_retI X0 hx hby Bd.notSynchronized Bd.returns d20_51 (by decide) (by decide) eH0 ⟨(by rw [hhh]), N0, rfl⟩
theorem ef18 (m : MethodId) (x0 : Addr) : entryFrame m #[(.ref x0)] 2 = mkF m 0 #[.val (.ref x0), .unset] [] := by first | (simp [entryFrame, mkF, argsToLocals, Value.category]; done) | rfl
def Q18 (Z : State) (o0 : Addr) (value_o0 : Addr) (st_COMPACT_STRINGS : Int32) (by0 : Int32) (hh : Int32) (h0 : Heap) (n0 : Nat) (v : Option Value) (h : Heap) (L : List Loc) : Prop := v = some (.int hh) ∧ Fr n0 L ∧ Keep h0 h [o0] ∧ Exa Z h o0 "java/lang/String" ∧ Fld Z h o0 "java/lang/String" "value" "[B" (.ref value_o0) ∧ Fld Z h o0 "java/lang/String" "coder" "B" (.int (0 : Int32)) ∧ Fld Z h o0 "java/lang/String" "hash" "I" (.int hh) ∧ Fld Z h o0 "java/lang/String" "hashIsZero" "Z" (.int (0 : Int32))
theorem rm18 (l : Launch) (Z : State) (a0 : Array Value) (hw : ∀ d ∈ tables_1, d.before a0 Z = true) (ws : List Jvm.Cond) (o0 : Addr) (value_o0 : Addr) (st_COMPACT_STRINGS : Int32) (by0 : Int32) (hh : Int32) (h0 : Heap) (n0 : Nat) (Z0 : n0 ≤ h0.size) (F_o0_value : Fld Z h0 o0 "java/lang/String" "value" "[B" (.ref value_o0)) (F_o0_coder : Fld Z h0 o0 "java/lang/String" "coder" "B" (.int (0 : Int32))) (F_o0_hash : Fld Z h0 o0 "java/lang/String" "hash" "I" (.int (0 : Int32))) (F_o0_hashIsZero : Fld Z h0 o0 "java/lang/String" "hashIsZero" "Z" (.int (0 : Int32))) (S_COMPACT_STRINGS : Sta Z h0 "java/lang/String" "COMPACT_STRINGS" "Z" (.int st_COMPACT_STRINGS)) (hcs : (¬ (st_COMPACT_STRINGS = 0))) (V_value_o0 : Ary tr Z h0 value_o0 .byte [(.int by0)]) (ne_value_o0_o0 : value_o0 ≠ o0) (hhh : ((by0 &&& (255 : Int32)) = hh)) (hhz : (¬ (hh = 0))) (E_o0 : Exa Z h0 o0 "java/lang/String") (g_o0 : n0 ≤ o0) :
    MetFree l (⟨"java/lang/String", "hashCode", "()I"⟩ : MethodName) (head1 (Jvm.Cond.code (⟨"java/lang/String", "hashCode", "()I"⟩ : MethodName) jdk_42_method_78_code 2 (some .int) :: ws) ({ frames := 1, cells := 0, slots := 0, locals := 12 } : Room)) (fun a U => a = #[(.ref o0)] ∧ Z.Warmed39 U.vm ∧ U.heap = h0) (fun _ _ _ _ _ => True) (fun _ U o U' => ∃ v L, o = .returned v ∧ Q18 Z o0 value_o0 st_COMPACT_STRINGS by0 hh h0 n0 v U'.heap L ∧ FrameEnd U o U' L ({ frames := 1, cells := 0, slots := 0, locals := 12 } : Room).cells ({ frames := 1, cells := 0, slots := 0, locals := 12 } : Room).slots) := by
  refine MetFree.of_bodySF (plainFor_of_name pn_java_lang_String) hisR ?_
  intro p e s m args below meth c s₁ Bd hml0 hP hK
  obtain ⟨rfl, hZ, hhp⟩ := hP
  have hx := Bd.exec
  have hby := Bd.bytes
  have hml : c.maxLocals = 2 := hml0
  have hown : s.vm.findClass "java/lang/String" = some m.cls := findClass_of_methodNamed Bd.named
  have hnm := (name_of_methodNamed Bd.named Bd.method).1
  have X0 : Stand p l e ({ frames := 1, cells := 0, slots := 0, locals := 12 } : Room) s m #[(.ref o0)] below meth c s₁ [] 0 0 := Stand.of_body Bd
  have eH0 : s₁.heap = h0 := by rw [← hhp, Bd.state]; rfl
  have N0 := Fr.nil n0
  have K0 := Keep.refl h0 [o0]
  show Gt p.tables e below (fun o U' => ∃ v L, o = .returned v ∧ Q18 Z o0 value_o0 st_COMPACT_STRINGS by0 hh h0 n0 v U'.heap L ∧ FrameEnd s o U' L ({ frames := 1, cells := 0, slots := 0, locals := 12 } : Room).cells ({ frames := 1, cells := 0, slots := 0, locals := 12 } : Room).slots) _
  refine own_cast (ef18 m o0) ?_
  refine own_aloadN X0 hx hby rfl rfl d18_0 (pc' := 1) rfl ?_
  refine own_getF X0 hx hby hZ hown (host := "") (Or.inl (hw _ (mi 112 rfl))) Via.refl eH0 F_o0_hash d18_1 (pc' := 4) rfl (fun T1 X1 eH1 => ?_)
  refine own_istoreN X1 hx hby (L' := #[.val (.ref o0), .val (.int (0 : Int32))]) rfl d18_4 (pc' := 5) rfl ?_
  refine own_iloadN X1 hx hby rfl d18_5 (pc' := 6) rfl ?_
  refine own_ifF X1 hx hby d18_6 (by decide) (pc' := 9) rfl ?_
  refine own_aloadN X1 hx hby rfl rfl d18_9 (pc' := 10) rfl ?_
  refine own_getF X1 hx hby hZ hown (host := "") (Or.inl (hw _ (mi 114 rfl))) Via.refl eH1 F_o0_hashIsZero d18_10 (pc' := 13) rfl (fun T2 X2 eH2 => ?_)
  refine own_ifF X2 hx hby d18_13 (by decide) (pc' := 16) rfl ?_
  refine own_aloadN X2 hx hby rfl rfl d18_16 (pc' := 17) rfl ?_
  refine own_virtual X2 hx hby hZ (y := (⟨"java/lang/String", "isLatin1", "()Z"⟩ : MethodName)) (y' := (⟨"java/lang/String", "isLatin1", "()Z"⟩ : MethodName)) (C := "java/lang/String") (rest := []) hown (hw _ (mi 116 rfl)) (hw _ (mi 117 rfl)) (notFace_of_selects (args := #[]) (mvT hZ (hw _ (mi 119 rfl)))) (hw _ (mi 119 rfl)) (hw _ (mi 118 rfl)) (hw _ (mi 120 rfl)) (hw _ (mi 70 rfl)) (by decide) (rm19 l Z a0 hw [] o0 value_o0 (0 : Int32) (0 : Int32) st_COMPACT_STRINGS h0 n0 Z0 F_o0_value F_o0_coder F_o0_hash F_o0_hashIsZero S_COMPACT_STRINGS hcs) eH2 (by rw [hml]; rfl) (a := o0) E_o0 (argsL := []) rfl (lenOf pd_4 rfl) rfl d18_17 (pc' := 20) rfl (by decide) (W := 0) (Nat.le_of_eq rfl) (by decide) (by decide) (by decide) (fun T3 h3 Lc3 v3r X3 eH3 hQ3 => ?_)
  obtain ⟨rfl, Nq3, rfl⟩ := hQ3
  have N3 := Fr.app N0 Nq3
  refine own_ifF X3 hx hby d18_20 (by decide) (pc' := 23) rfl ?_
  refine own_aloadN X3 hx hby rfl rfl d18_23 (pc' := 24) rfl ?_
  refine own_getF X3 hx hby hZ hown (host := "") (Or.inl (hw _ (mi 88 rfl))) Via.refl eH3 F_o0_value d18_24 (pc' := 27) rfl (fun T4 X4 eH4 => ?_)
  refine own_static X4 hx hby hZ (y := (⟨"java/lang/StringLatin1", "hashCode", "([B)I"⟩ : MethodName)) (rest := []) hown (hw _ (mi 121 rfl)) (hw _ (mi 122 rfl)) (hw _ (mi 123 rfl)) (hw _ (mi 75 rfl)) (by decide) (rm20 l Z a0 hw [] value_o0 by0 hh h0 n0 Z0 V_value_o0 hhh) eH4 (by rw [hml]; rfl) (argsL := [(.ref value_o0)]) rfl (lenOf pd_5 rfl) rfl d18_27 (pc' := 30) rfl (by decide) (W := 0) (Nat.le_of_eq rfl) (by decide) (by decide) (by decide) (fun T5 h5 Lc5 v5r X5 eH5 hQ5 => ?_)
  obtain ⟨rfl, Nq5, rfl⟩ := hQ5
  have N5 := Fr.app N3 Nq5
  refine own_goto X5 hx hby d18_30 (by decide) (pc' := 40) (by decide) ?_
  refine own_istoreN X5 hx hby (L' := #[.val (.ref o0), .val (.int hh)]) rfl d18_40 (pc' := 41) rfl ?_
  refine own_iloadN X5 hx hby rfl d18_41 (pc' := 42) rfl ?_
  have hk6 : ¬ (hh = 0) := hhz
  refine own_ifT X5 hx hby d18_42 (own_i0_ne_n hk6) (by decide) (pc' := 53) (by decide) ?_
  refine own_aloadN X5 hx hby rfl rfl d18_53 (pc' := 54) rfl ?_
  refine own_iloadN X5 hx hby rfl d18_54 (pc' := 55) rfl ?_
  refine own_putF X5 hx hby hZ hown (host := "") (Or.inl (hw _ (mi 112 rfl))) Via.refl eH5 F_o0_hash E_o0 (Or.inl (hw _ (mi 113 rfl))) (hw _ (mi 78 rfl)) (ty := .int) (by decide) rfl rfl d18_55 (pc' := 58) rfl (fun T7 h7 X7 eH7 W7 => ?_)
  replace E_o0 := E_o0.wr W7
  replace F_o0_value := F_o0_value.other W7 (Or.inr (slot_ne (Or.inr (hw _ (mi 89 rfl))) (Or.inl (hw _ (mi 113 rfl))) (by decide) (t := (.array .byte)) (t' := .int) (by decide) (by decide)))
  replace F_o0_coder := F_o0_coder.other W7 (Or.inr (slot_ne (Or.inr (hw _ (mi 91 rfl))) (Or.inl (hw _ (mi 113 rfl))) (by decide) (t := .byte) (t' := .int) (by decide) (by decide)))
  replace F_o0_hash := F_o0_hash.same W7
  replace F_o0_hashIsZero := F_o0_hashIsZero.other W7 (Or.inr (slot_ne (Or.inl (hw _ (mi 115 rfl))) (Or.inl (hw _ (mi 113 rfl))) (by decide) (t := .boolean) (t' := .int) (by decide) (by decide)))
  replace V_value_o0 := V_value_o0.other W7 ne_value_o0_o0
  replace S_COMPACT_STRINGS := S_COMPACT_STRINGS.wr W7
  have N7 := Fr.snoc X7 N5 g_o0
  replace K0 := K0.wr W7 (Or.inl (by simp))
  replace Z0 := Nat.le_trans Z0 (Nat.le_of_eq W7.size.symm)
  refine own_iloadN X7 hx hby rfl d18_58 (pc' := 59) rfl ?_
  exact own_retI X7 hx hby Bd.notSynchronized Bd.returns d18_59 (by decide) (by decide) eH7 ⟨rfl, N7, K0, E_o0, F_o0_value, F_o0_coder, F_o0_hash, F_o0_hashIsZero⟩
theorem ef17 (m : MethodId) (x0 : Addr) : entryFrame m #[(.ref x0)] 2 = mkF m 0 #[.val (.ref x0), .unset] [] := by first | (simp [entryFrame, mkF, argsToLocals, Value.category]; done) | rfl
def Q17 (Z : State) (o0 : Addr) (st_COMPACT_STRINGS : Int32) (by0 : Int32) (value_o0 : Addr) (hh : Int32) (kk : Int32) (h0 : Heap) (n0 : Nat) (v : Option Value) (h : Heap) (L : List Loc) : Prop := v = some (.int kk) ∧ Fr n0 L ∧ Keep h0 h [o0] ∧ Exa Z h o0 "java/lang/String" ∧ Fld Z h o0 "java/lang/String" "value" "[B" (.ref value_o0) ∧ Fld Z h o0 "java/lang/String" "coder" "B" (.int (0 : Int32)) ∧ Fld Z h o0 "java/lang/String" "hash" "I" (.int hh) ∧ Fld Z h o0 "java/lang/String" "hashIsZero" "Z" (.int (0 : Int32))
theorem rm17 (l : Launch) (Z : State) (a0 : Array Value) (hw : ∀ d ∈ tables_1, d.before a0 Z = true) (ws : List Jvm.Cond) (o0 : Addr) (st_COMPACT_STRINGS : Int32) (by0 : Int32) (value_o0 : Addr) (hh : Int32) (kk : Int32) (h0 : Heap) (n0 : Nat) (Z0 : n0 ≤ h0.size) (S_COMPACT_STRINGS : Sta Z h0 "java/lang/String" "COMPACT_STRINGS" "Z" (.int st_COMPACT_STRINGS)) (hcs : (¬ (st_COMPACT_STRINGS = 0))) (E_o0 : Exa Z h0 o0 "java/lang/String") (F_o0_hash : Fld Z h0 o0 "java/lang/String" "hash" "I" (.int (0 : Int32))) (F_o0_hashIsZero : Fld Z h0 o0 "java/lang/String" "hashIsZero" "Z" (.int (0 : Int32))) (F_o0_coder : Fld Z h0 o0 "java/lang/String" "coder" "B" (.int (0 : Int32))) (F_o0_value : Fld Z h0 o0 "java/lang/String" "value" "[B" (.ref value_o0)) (V_value_o0 : Ary tr Z h0 value_o0 .byte [(.int by0)]) (ne_value_o0_o0 : value_o0 ≠ o0) (hhh : ((by0 &&& (255 : Int32)) = hh)) (hhz : (¬ (hh = 0))) (hkk : ((hh ^^^ (hh.toUInt32 >>> ((16 : Int32) &&& 31).toUInt32).toInt32) = kk)) (g_o0 : n0 ≤ o0) :
    MetFree l (⟨"java/util/HashMap", "hash", "(Ljava/lang/Object;)I"⟩ : MethodName) (head1 (Jvm.Cond.code (⟨"java/util/HashMap", "hash", "(Ljava/lang/Object;)I"⟩ : MethodName) jdk_69_method_1_code 2 (some .int) :: ws) ({ frames := 2, cells := 0, slots := 0, locals := 25 } : Room)) (fun a U => a = #[(.ref o0)] ∧ Z.Warmed39 U.vm ∧ U.heap = h0) (fun _ _ _ _ _ => True) (fun _ U o U' => ∃ v L, o = .returned v ∧ Q17 Z o0 st_COMPACT_STRINGS by0 value_o0 hh kk h0 n0 v U'.heap L ∧ FrameEnd U o U' L ({ frames := 2, cells := 0, slots := 0, locals := 25 } : Room).cells ({ frames := 2, cells := 0, slots := 0, locals := 25 } : Room).slots) := by
  refine MetFree.of_bodySF (plainFor_of_name pn_java_util_HashMap) hisR ?_
  intro p e s m args below meth c s₁ Bd hml0 hP hK
  obtain ⟨rfl, hZ, hhp⟩ := hP
  have hx := Bd.exec
  have hby := Bd.bytes
  have hml : c.maxLocals = 2 := hml0
  have hown : s.vm.findClass "java/util/HashMap" = some m.cls := findClass_of_methodNamed Bd.named
  have hnm := (name_of_methodNamed Bd.named Bd.method).1
  have X0 : Stand p l e ({ frames := 2, cells := 0, slots := 0, locals := 25 } : Room) s m #[(.ref o0)] below meth c s₁ [] 0 0 := Stand.of_body Bd
  have eH0 : s₁.heap = h0 := by rw [← hhp, Bd.state]; rfl
  have N0 := Fr.nil n0
  have K0 := Keep.refl h0 [o0]
  show Gt p.tables e below (fun o U' => ∃ v L, o = .returned v ∧ Q17 Z o0 st_COMPACT_STRINGS by0 value_o0 hh kk h0 n0 v U'.heap L ∧ FrameEnd s o U' L ({ frames := 2, cells := 0, slots := 0, locals := 25 } : Room).cells ({ frames := 2, cells := 0, slots := 0, locals := 25 } : Room).slots) _
  refine own_cast (ef17 m o0) ?_
  refine own_aloadN X0 hx hby rfl rfl d17_0 (pc' := 1) rfl ?_
  refine own_ifnonnullT X0 hx hby d17_1 (by decide) (pc' := 8) (by decide) ?_
  refine own_aloadN X0 hx hby rfl rfl d17_8 (pc' := 9) rfl ?_
  refine own_virtual X0 hx hby hZ (y := (⟨"java/lang/String", "hashCode", "()I"⟩ : MethodName)) (y' := (⟨"java/lang/Object", "hashCode", "()I"⟩ : MethodName)) (C := "java/lang/String") (rest := []) hown (hw _ (mi 106 rfl)) (hw _ (mi 107 rfl)) (own_nf (args := #[]) (mvT hZ (hw _ (mi 226 rfl))) rfl) (hw _ (mi 109 rfl)) (hw _ (mi 110 rfl)) (hw _ (mi 111 rfl)) (hw _ (mi 70 rfl)) (by decide) (rm18 l Z a0 hw [] o0 value_o0 st_COMPACT_STRINGS by0 hh h0 n0 Z0 F_o0_value F_o0_coder F_o0_hash F_o0_hashIsZero S_COMPACT_STRINGS hcs V_value_o0 ne_value_o0_o0 hhh hhz E_o0 g_o0) eH0 (by rw [hml]; rfl) (a := o0) E_o0 (argsL := []) rfl (lenOf pd_6 rfl) rfl d17_9 (pc' := 12) rfl (by decide) (W := 0) (Nat.le_of_eq rfl) (by decide) (by decide) (by decide) (fun T1 h1 Lc1 v1r X1 eH1 hQ1 => ?_)
  obtain ⟨rfl, Nq1, Kq1, gq1_0, gq1_1, gq1_2, gq1_3, gq1_4⟩ := hQ1
  have N1 := Fr.app N0 Nq1
  replace S_COMPACT_STRINGS := own_skn S_COMPACT_STRINGS Kq1 (own_skS E_o0 own_sk0)
  replace E_o0 := E_o0.keep Kq1
  replace V_value_o0 := V_value_o0.keep Kq1 (ninS ne_value_o0_o0 nin0)
  replace K0 := K0.trans Kq1 (allS (Or.inl (by simp)) all0)
  have E_o0 := gq1_0
  have F_o0_value := gq1_1
  have F_o0_coder := gq1_2
  have F_o0_hash := gq1_3
  have F_o0_hashIsZero := gq1_4
  replace Z0 := Nat.le_trans Z0 Kq1.1
  refine own_dup X1 hx hby rfl d17_12 (pc' := 13) rfl ?_
  refine own_istoreN X1 hx hby (L' := #[.val (.ref o0), .val (.int hh)]) rfl d17_13 (pc' := 14) rfl ?_
  refine own_iloadN X1 hx hby rfl d17_14 (pc' := 15) rfl ?_
  refine own_bipush X1 hx hby (v := (16 : Int32)) (by decide) d17_15 (pc' := 17) rfl ?_
  refine own_iushr X1 hx hby rfl d17_17 (pc' := 18) rfl ?_
  refine own_ixor X1 hx hby rfl d17_18 (pc' := 19) rfl ?_
  exact own_retI X1 hx hby Bd.notSynchronized Bd.returns d17_19 (by decide) (by decide) eH1 ⟨(by rw [hkk]), N1, K0, E_o0, F_o0_value, F_o0_coder, F_o0_hash, F_o0_hashIsZero⟩
theorem ef24 (m : MethodId) (x0 : Addr) (x1 : Int32) (x2 : Addr) (x3 : Addr) : entryFrame m #[(.ref x0), (.int x1), (.ref x2), (.ref x3), .null] 5 = mkF m 0 #[.val (.ref x0), .val (.int x1), .val (.ref x2), .val (.ref x3), .val .null] [] := by first | (simp [entryFrame, mkF, argsToLocals, Value.category]; done) | rfl
def Q24 (Z : State) (o0 : Addr) (p1 : Int32) (o2 : Addr) (o3 : Addr) (hash_o0 : Int32) (u_key_o0 : Value) (u_value_o0 : Value) (u_next_o0 : Value) (h0 : Heap) (n0 : Nat) (v : Option Value) (h : Heap) (L : List Loc) : Prop := v = none ∧ Fr n0 L ∧ Keep h0 h [o0] ∧ Exa Z h o0 "java/util/HashMap$Node" ∧ Fld Z h o0 "java/util/HashMap$Node" "hash" "I" (.int p1) ∧ Fld Z h o0 "java/util/HashMap$Node" "key" "Ljava/lang/Object;" (.ref o2) ∧ Fld Z h o0 "java/util/HashMap$Node" "value" "Ljava/lang/Object;" (.ref o3) ∧ Fld Z h o0 "java/util/HashMap$Node" "next" "Ljava/util/HashMap$Node;" .null
theorem rm24 (l : Launch) (Z : State) (a0 : Array Value) (hw : ∀ d ∈ tables_1, d.before a0 Z = true) (ws : List Jvm.Cond) (o0 : Addr) (p1 : Int32) (o2 : Addr) (o3 : Addr) (hash_o0 : Int32) (u_key_o0 : Value) (u_value_o0 : Value) (u_next_o0 : Value) (h0 : Heap) (n0 : Nat) (Z0 : n0 ≤ h0.size) (F_o0_hash : Fld Z h0 o0 "java/util/HashMap$Node" "hash" "I" (.int hash_o0)) (F_o0_key : Fld Z h0 o0 "java/util/HashMap$Node" "key" "Ljava/lang/Object;" u_key_o0) (F_o0_value : Fld Z h0 o0 "java/util/HashMap$Node" "value" "Ljava/lang/Object;" u_value_o0) (F_o0_next : Fld Z h0 o0 "java/util/HashMap$Node" "next" "Ljava/util/HashMap$Node;" u_next_o0) (E_o0 : Exa Z h0 o0 "java/util/HashMap$Node") (g_o0 : n0 ≤ o0) :
    MetFree l (⟨"java/util/HashMap$Node", "<init>", "(ILjava/lang/Object;Ljava/lang/Object;Ljava/util/HashMap$Node;)V"⟩ : MethodName) (head1 (Jvm.Cond.code (⟨"java/util/HashMap$Node", "<init>", "(ILjava/lang/Object;Ljava/lang/Object;Ljava/util/HashMap$Node;)V"⟩ : MethodName) jdk_70_method_1_code 5 none :: ws) ({ frames := 1, cells := 0, slots := 0, locals := 12 } : Room)) (fun a U => a = #[(.ref o0), (.int p1), (.ref o2), (.ref o3), .null] ∧ Z.Warmed39 U.vm ∧ U.heap = h0) (fun _ _ _ _ _ => True) (fun _ U o U' => ∃ v L, o = .returned v ∧ Q24 Z o0 p1 o2 o3 hash_o0 u_key_o0 u_value_o0 u_next_o0 h0 n0 v U'.heap L ∧ FrameEnd U o U' L ({ frames := 1, cells := 0, slots := 0, locals := 12 } : Room).cells ({ frames := 1, cells := 0, slots := 0, locals := 12 } : Room).slots) := by
  refine MetFree.of_bodySF (plainFor_of_name pn_java_util_HashMap_Node) hisR ?_
  intro p e s m args below meth c s₁ Bd hml0 hP hK
  obtain ⟨rfl, hZ, hhp⟩ := hP
  have hx := Bd.exec
  have hby := Bd.bytes
  have hml : c.maxLocals = 5 := hml0
  have hown : s.vm.findClass "java/util/HashMap$Node" = some m.cls := findClass_of_methodNamed Bd.named
  have hnm := (name_of_methodNamed Bd.named Bd.method).1
  have X0 : Stand p l e ({ frames := 1, cells := 0, slots := 0, locals := 12 } : Room) s m #[(.ref o0), (.int p1), (.ref o2), (.ref o3), .null] below meth c s₁ [] 0 0 := Stand.of_body Bd
  have eH0 : s₁.heap = h0 := by rw [← hhp, Bd.state]; rfl
  have N0 := Fr.nil n0
  have K0 := Keep.refl h0 [o0]
  show Gt p.tables e below (fun o U' => ∃ v L, o = .returned v ∧ Q24 Z o0 p1 o2 o3 hash_o0 u_key_o0 u_value_o0 u_next_o0 h0 n0 v U'.heap L ∧ FrameEnd s o U' L ({ frames := 1, cells := 0, slots := 0, locals := 12 } : Room).cells ({ frames := 1, cells := 0, slots := 0, locals := 12 } : Room).slots) _
  refine own_cast (ef24 m o0 p1 o2 o3) ?_
  refine own_aloadN X0 hx hby rfl rfl d24_0 (pc' := 1) rfl ?_
  refine own_initO X0 hx hby hZ hown (hw _ (mi 151 rfl)) (hw _ (mi 28 rfl)) (hw _ (mi 29 rfl)) eH0 (by rw [hml]; rfl) d24_1 (pc' := 4) rfl (by decide) (W := 0) (Nat.le_of_eq rfl) (by decide) (fun T1 X1 eH1 => ?_)
  refine own_aloadN X1 hx hby rfl rfl d24_4 (pc' := 5) rfl ?_
  refine own_iloadN X1 hx hby rfl d24_5 (pc' := 6) rfl ?_
  refine own_putF X1 hx hby hZ hown (host := "") (Or.inl (hw _ (mi 152 rfl))) Via.refl eH1 F_o0_hash E_o0 (Or.inr ⟨(hw _ (mi 153 rfl)), rfl, hnm⟩) (hw _ (mi 145 rfl)) (ty := .int) (by decide) rfl rfl d24_6 (pc' := 9) rfl (fun T2 h2 X2 eH2 W2 => ?_)
  replace E_o0 := E_o0.wr W2
  replace F_o0_hash := F_o0_hash.same W2
  replace F_o0_key := F_o0_key.other W2 (Or.inr (slot_ne (Or.inr (hw _ (mi 155 rfl))) (Or.inr (hw _ (mi 153 rfl))) (by decide) (t := (.object "java/lang/Object")) (t' := .int) (by decide) (by decide)))
  replace F_o0_value := F_o0_value.other W2 (Or.inr (slot_ne (Or.inl (hw _ (mi 157 rfl))) (Or.inr (hw _ (mi 153 rfl))) (by decide) (t := (.object "java/lang/Object")) (t' := .int) (by decide) (by decide)))
  replace F_o0_next := F_o0_next.other W2 (Or.inr (slot_ne (Or.inl (hw _ (mi 159 rfl))) (Or.inr (hw _ (mi 153 rfl))) (by decide) (t := (.object "java/util/HashMap$Node")) (t' := .int) (by decide) (by decide)))
  have N2 := Fr.snoc X2 N0 g_o0
  replace K0 := K0.wr W2 (Or.inl (by simp))
  replace Z0 := Nat.le_trans Z0 (Nat.le_of_eq W2.size.symm)
  refine own_aloadN X2 hx hby rfl rfl d24_9 (pc' := 10) rfl ?_
  refine own_aloadN X2 hx hby rfl rfl d24_10 (pc' := 11) rfl ?_
  refine own_putF X2 hx hby hZ hown (host := "") (Or.inl (hw _ (mi 154 rfl))) Via.refl eH2 F_o0_key E_o0 (Or.inr ⟨(hw _ (mi 155 rfl)), rfl, hnm⟩) (hw _ (mi 145 rfl)) (ty := (.object "java/lang/Object")) (by decide) rfl rfl d24_11 (pc' := 14) rfl (fun T3 h3 X3 eH3 W3 => ?_)
  replace E_o0 := E_o0.wr W3
  replace F_o0_hash := F_o0_hash.other W3 (Or.inr (slot_ne (Or.inr (hw _ (mi 153 rfl))) (Or.inr (hw _ (mi 155 rfl))) (by decide) (t := .int) (t' := (.object "java/lang/Object")) (by decide) (by decide)))
  replace F_o0_key := F_o0_key.same W3
  replace F_o0_value := F_o0_value.other W3 (Or.inr (slot_ne (Or.inl (hw _ (mi 157 rfl))) (Or.inr (hw _ (mi 155 rfl))) (by decide) (t := (.object "java/lang/Object")) (t' := (.object "java/lang/Object")) (by decide) (by decide)))
  replace F_o0_next := F_o0_next.other W3 (Or.inr (slot_ne (Or.inl (hw _ (mi 159 rfl))) (Or.inr (hw _ (mi 155 rfl))) (by decide) (t := (.object "java/util/HashMap$Node")) (t' := (.object "java/lang/Object")) (by decide) (by decide)))
  have N3 := Fr.snoc X3 N2 g_o0
  replace K0 := K0.wr W3 (Or.inl (by simp))
  replace Z0 := Nat.le_trans Z0 (Nat.le_of_eq W3.size.symm)
  refine own_aloadN X3 hx hby rfl rfl d24_14 (pc' := 15) rfl ?_
  refine own_aloadN X3 hx hby rfl rfl d24_15 (pc' := 16) rfl ?_
  refine own_putF X3 hx hby hZ hown (host := "") (Or.inl (hw _ (mi 156 rfl))) Via.refl eH3 F_o0_value E_o0 (Or.inl (hw _ (mi 157 rfl))) (hw _ (mi 145 rfl)) (ty := (.object "java/lang/Object")) (by decide) rfl rfl d24_16 (pc' := 19) rfl (fun T4 h4 X4 eH4 W4 => ?_)
  replace E_o0 := E_o0.wr W4
  replace F_o0_hash := F_o0_hash.other W4 (Or.inr (slot_ne (Or.inr (hw _ (mi 153 rfl))) (Or.inl (hw _ (mi 157 rfl))) (by decide) (t := .int) (t' := (.object "java/lang/Object")) (by decide) (by decide)))
  replace F_o0_key := F_o0_key.other W4 (Or.inr (slot_ne (Or.inr (hw _ (mi 155 rfl))) (Or.inl (hw _ (mi 157 rfl))) (by decide) (t := (.object "java/lang/Object")) (t' := (.object "java/lang/Object")) (by decide) (by decide)))
  replace F_o0_value := F_o0_value.same W4
  replace F_o0_next := F_o0_next.other W4 (Or.inr (slot_ne (Or.inl (hw _ (mi 159 rfl))) (Or.inl (hw _ (mi 157 rfl))) (by decide) (t := (.object "java/util/HashMap$Node")) (t' := (.object "java/lang/Object")) (by decide) (by decide)))
  have N4 := Fr.snoc X4 N3 g_o0
  replace K0 := K0.wr W4 (Or.inl (by simp))
  replace Z0 := Nat.le_trans Z0 (Nat.le_of_eq W4.size.symm)
  refine own_aloadN X4 hx hby rfl rfl d24_19 (pc' := 20) rfl ?_
  refine own_aload X4 hx hby rfl rfl d24_20 (pc' := 22) rfl ?_
  refine own_putF X4 hx hby hZ hown (host := "") (Or.inl (hw _ (mi 158 rfl))) Via.refl eH4 F_o0_next E_o0 (Or.inl (hw _ (mi 159 rfl))) (hw _ (mi 145 rfl)) (ty := (.object "java/util/HashMap$Node")) (by decide) rfl rfl d24_22 (pc' := 25) rfl (fun T5 h5 X5 eH5 W5 => ?_)
  replace E_o0 := E_o0.wr W5
  replace F_o0_hash := F_o0_hash.other W5 (Or.inr (slot_ne (Or.inr (hw _ (mi 153 rfl))) (Or.inl (hw _ (mi 159 rfl))) (by decide) (t := .int) (t' := (.object "java/util/HashMap$Node")) (by decide) (by decide)))
  replace F_o0_key := F_o0_key.other W5 (Or.inr (slot_ne (Or.inr (hw _ (mi 155 rfl))) (Or.inl (hw _ (mi 159 rfl))) (by decide) (t := (.object "java/lang/Object")) (t' := (.object "java/util/HashMap$Node")) (by decide) (by decide)))
  replace F_o0_value := F_o0_value.other W5 (Or.inr (slot_ne (Or.inl (hw _ (mi 157 rfl))) (Or.inl (hw _ (mi 159 rfl))) (by decide) (t := (.object "java/lang/Object")) (t' := (.object "java/util/HashMap$Node")) (by decide) (by decide)))
  replace F_o0_next := F_o0_next.same W5
  have N5 := Fr.snoc X5 N4 g_o0
  replace K0 := K0.wr W5 (Or.inl (by simp))
  replace Z0 := Nat.le_trans Z0 (Nat.le_of_eq W5.size.symm)
  exact own_retV X5 hx hby Bd.notSynchronized Bd.returns d24_25 (by decide) (by decide) eH5 ⟨rfl, N5, K0, E_o0, F_o0_hash, F_o0_key, F_o0_value, F_o0_next⟩
theorem ef23 (m : MethodId) (x0 : Addr) (x1 : Int32) (x2 : Addr) (x3 : Addr) : entryFrame m #[(.ref x0), (.int x1), (.ref x2), (.ref x3), .null] 5 = mkF m 0 #[.val (.ref x0), .val (.int x1), .val (.ref x2), .val (.ref x3), .val .null] [] := by first | (simp [entryFrame, mkF, argsToLocals, Value.category]; done) | rfl
def Q23 (Z : State) (o0 : Addr) (p1 : Int32) (o2 : Addr) (o3 : Addr) (h0 : Heap) (n0 : Nat) (v : Option Value) (h : Heap) (L : List Loc) : Prop := ∃ b1 : Addr, v = some (.ref b1) ∧ Fr n0 L ∧ Keep h0 h [] ∧ h0.size ≤ b1 ∧ Exa Z h b1 "java/util/HashMap$Node" ∧ Fld Z h b1 "java/util/HashMap$Node" "hash" "I" (.int p1) ∧ Fld Z h b1 "java/util/HashMap$Node" "key" "Ljava/lang/Object;" (.ref o2) ∧ Fld Z h b1 "java/util/HashMap$Node" "value" "Ljava/lang/Object;" (.ref o3) ∧ Fld Z h b1 "java/util/HashMap$Node" "next" "Ljava/util/HashMap$Node;" .null
theorem rm23 (l : Launch) (Z : State) (a0 : Array Value) (hw : ∀ d ∈ tables_1, d.before a0 Z = true) (ws : List Jvm.Cond) (o0 : Addr) (p1 : Int32) (o2 : Addr) (o3 : Addr) (h0 : Heap) (n0 : Nat) (Z0 : n0 ≤ h0.size) :
    MetFree l (⟨"java/util/HashMap", "newNode", "(ILjava/lang/Object;Ljava/lang/Object;Ljava/util/HashMap$Node;)Ljava/util/HashMap$Node;"⟩ : MethodName) (head1 (Jvm.Cond.code (⟨"java/util/HashMap", "newNode", "(ILjava/lang/Object;Ljava/lang/Object;Ljava/util/HashMap$Node;)Ljava/util/HashMap$Node;"⟩ : MethodName) jdk_69_method_46_code 5 (some (.object "java/util/HashMap$Node")) :: ws) ({ frames := 2, cells := 1, slots := 4, locals := 29 } : Room)) (fun a U => a = #[(.ref o0), (.int p1), (.ref o2), (.ref o3), .null] ∧ Z.Warmed39 U.vm ∧ U.heap = h0) (fun _ _ _ _ _ => True) (fun _ U o U' => ∃ v L, o = .returned v ∧ Q23 Z o0 p1 o2 o3 h0 n0 v U'.heap L ∧ FrameEnd U o U' L ({ frames := 2, cells := 1, slots := 4, locals := 29 } : Room).cells ({ frames := 2, cells := 1, slots := 4, locals := 29 } : Room).slots) := by
  refine MetFree.of_bodySF (plainFor_of_name pn_java_util_HashMap) hisR ?_
  intro p e s m args below meth c s₁ Bd hml0 hP hK
  obtain ⟨rfl, hZ, hhp⟩ := hP
  have hx := Bd.exec
  have hby := Bd.bytes
  have hml : c.maxLocals = 5 := hml0
  have hown : s.vm.findClass "java/util/HashMap" = some m.cls := findClass_of_methodNamed Bd.named
  have hnm := (name_of_methodNamed Bd.named Bd.method).1
  have X0 : Stand p l e ({ frames := 2, cells := 1, slots := 4, locals := 29 } : Room) s m #[(.ref o0), (.int p1), (.ref o2), (.ref o3), .null] below meth c s₁ [] 0 0 := Stand.of_body Bd
  have eH0 : s₁.heap = h0 := by rw [← hhp, Bd.state]; rfl
  have N0 := Fr.nil n0
  have K0 := Keep.refl h0 []
  show Gt p.tables e below (fun o U' => ∃ v L, o = .returned v ∧ Q23 Z o0 p1 o2 o3 h0 n0 v U'.heap L ∧ FrameEnd s o U' L ({ frames := 2, cells := 1, slots := 4, locals := 29 } : Room).cells ({ frames := 2, cells := 1, slots := 4, locals := 29 } : Room).slots) _
  refine own_cast (ef23 m o0 p1 o2 o3) ?_
  refine own_newO X0 hx hby hZ hown (hw _ (mi 138 rfl)) (hw _ (mi 145 rfl)) (hw _ (mi 146 rfl)) eH0 d23_0 (pc' := 3) rfl (by decide) (by decide) (fun T1 h1 b1 X1 eH1 E1 g1 E_b1 D1 => ?_)
  have g_b1 : n0 ≤ b1 := g1 ▸ Z0
  have sz_b1 : h0.size ≤ b1 := g1 ▸ K0.1
  replace K0 := K0.ext E1
  replace Z0 := Nat.le_trans Z0 E1.1
  have F_b1_hash : Fld Z h1 b1 "java/util/HashMap$Node" "hash" "I" (.int (0 : Int32)) := D1 (Or.inr (hw _ (mi 153 rfl))) (ty := .int) (by decide)
  have F_b1_key : Fld Z h1 b1 "java/util/HashMap$Node" "key" "Ljava/lang/Object;" .null := D1 (Or.inr (hw _ (mi 155 rfl))) (ty := (.object "java/lang/Object")) (by decide)
  have F_b1_value : Fld Z h1 b1 "java/util/HashMap$Node" "value" "Ljava/lang/Object;" .null := D1 (Or.inl (hw _ (mi 157 rfl))) (ty := (.object "java/lang/Object")) (by decide)
  have F_b1_next : Fld Z h1 b1 "java/util/HashMap$Node" "next" "Ljava/util/HashMap$Node;" .null := D1 (Or.inl (hw _ (mi 159 rfl))) (ty := (.object "java/util/HashMap$Node")) (by decide)
  refine own_dup X1 hx hby rfl d23_3 (pc' := 4) rfl ?_
  refine own_iloadN X1 hx hby rfl d23_4 (pc' := 5) rfl ?_
  refine own_aloadN X1 hx hby rfl rfl d23_5 (pc' := 6) rfl ?_
  refine own_aloadN X1 hx hby rfl rfl d23_6 (pc' := 7) rfl ?_
  refine own_aload X1 hx hby rfl rfl d23_7 (pc' := 9) rfl ?_
  refine own_special X1 hx hby hZ (y := (⟨"java/util/HashMap$Node", "<init>", "(ILjava/lang/Object;Ljava/lang/Object;Ljava/util/HashMap$Node;)V"⟩ : MethodName)) (rest := [(.ref b1)]) rfl hown (hw _ (mi 147 rfl)) (hw _ (mi 148 rfl)) rfl (hw _ (mi 150 rfl)) (hw _ (mi 146 rfl)) (by decide) (rm24 l Z a0 hw [] b1 p1 o2 o3 (0 : Int32) .null .null .null h1 n0 Z0 F_b1_hash F_b1_key F_b1_value F_b1_next E_b1 g_b1) eH1 (by rw [hml]; rfl) (a := b1) (argsL := [(.int p1), (.ref o2), (.ref o3), .null]) rfl (lenOf pd_7 rfl) rfl d23_9 (pc' := 12) rfl (by decide) (W := 1) (Nat.le_of_eq rfl) (by decide) (by decide) (by decide) (fun T2 h2 Lc2 v2r X2 eH2 hQ2 => ?_)
  obtain ⟨rfl, Nq2, Kq2, gq2_0, gq2_1, gq2_2, gq2_3, gq2_4⟩ := hQ2
  have N2 := Fr.app N0 Nq2
  replace E_b1 := E_b1.keep Kq2
  replace K0 := K0.trans Kq2 (allS (Or.inr sz_b1) all0)
  have E_b1 := gq2_0
  have F_b1_hash := gq2_1
  have F_b1_key := gq2_2
  have F_b1_value := gq2_3
  have F_b1_next := gq2_4
  replace Z0 := Nat.le_trans Z0 Kq2.1
  exact own_retA X2 hx hby Bd.notSynchronized Bd.returns rfl rfl d23_12 (by decide) (by decide) eH2 ⟨b1, rfl, N2, K0, sz_b1, E_b1, F_b1_hash, F_b1_key, F_b1_value, F_b1_next⟩
theorem ef21f (m : MethodId) (x0 : Addr) (x1 : Int32) (x2 : Addr) (x3 : Addr) : entryFrame m #[(.ref x0), (.int x1), (.ref x2), (.ref x3), (.int (0 : Int32)), (.int (1 : Int32))] 13 = mkF m 0 #[.val (.ref x0), .val (.int x1), .val (.ref x2), .val (.ref x3), .val (.int (0 : Int32)), .val (.int (1 : Int32)), .unset, .unset, .unset, .unset, .unset, .unset, .unset] [] := by first | (simp [entryFrame, mkF, argsToLocals, Value.category]; done) | rfl
def Q21f (Z : State) (o0 : Addr) (kk : Int32) (o2 : Addr) (o3 : Addr) (loadFactor_o0 : UInt32) (ix : Nat) (h0 : Heap) (n0 : Nat) (v : Option Value) (h : Heap) (L : List Loc) : Prop := ∃ b4_2 b1_3 : Addr, v = some .null ∧ Fr n0 L ∧ Keep h0 h [o0] ∧ h0.size ≤ b4_2 ∧ h0.size ≤ b1_3 ∧ b4_2 ≠ b1_3 ∧ Exa Z h o0 "java/util/HashMap" ∧ Fld Z h o0 "java/util/HashMap" "loadFactor" "F" (.float loadFactor_o0) ∧ Fld Z h o0 "java/util/HashMap" "table" "[Ljava/util/HashMap$Node;" (.ref b4_2) ∧ Fld Z h o0 "java/util/HashMap" "threshold" "I" (.int (12 : Int32)) ∧ Fld Z h o0 "java/util/HashMap" "modCount" "I" (.int (1 : Int32)) ∧ Fld Z h o0 "java/util/HashMap" "size" "I" (.int (1 : Int32)) ∧ Exa Z h b4_2 "[Ljava/util/HashMap$Node;" ∧ Ary (ovO Z "java/util/HashMap$Node") Z h b4_2 (.object "java/util/HashMap$Node") ((List.replicate 16 Value.null).set ix (.ref b1_3)) ∧ Exa Z h b1_3 "java/util/HashMap$Node" ∧ Fld Z h b1_3 "java/util/HashMap$Node" "hash" "I" (.int kk) ∧ Fld Z h b1_3 "java/util/HashMap$Node" "key" "Ljava/lang/Object;" (.ref o2) ∧ Fld Z h b1_3 "java/util/HashMap$Node" "value" "Ljava/lang/Object;" (.ref o3) ∧ Fld Z h b1_3 "java/util/HashMap$Node" "next" "Ljava/util/HashMap$Node;" .null
theorem rm21f (l : Launch) (Z : State) (a0 : Array Value) (hw : ∀ d ∈ tables_1, d.before a0 Z = true) (ws : List Jvm.Cond) (o0 : Addr) (kk : Int32) (o2 : Addr) (o3 : Addr) (loadFactor_o0 : UInt32) (ix : Nat) (h0 : Heap) (n0 : Nat) (Z0 : n0 ≤ h0.size) (F_o0_loadFactor : Fld Z h0 o0 "java/util/HashMap" "loadFactor" "F" (.float loadFactor_o0)) (F_o0_table : Fld Z h0 o0 "java/util/HashMap" "table" "[Ljava/util/HashMap$Node;" .null) (F_o0_threshold : Fld Z h0 o0 "java/util/HashMap" "threshold" "I" (.int (0 : Int32))) (F_o0_modCount : Fld Z h0 o0 "java/util/HashMap" "modCount" "I" (.int (0 : Int32))) (F_o0_size : Fld Z h0 o0 "java/util/HashMap" "size" "I" (.int (0 : Int32))) (hj0 : (¬ (((15 : Int32) &&& kk) < 0))) (hjn : (((15 : Int32) &&& kk).toNatClampNeg = ix)) (hil : (ix < 16)) (E_o0 : Exa Z h0 o0 "java/util/HashMap") (g_o0 : n0 ≤ o0) :
    MetFree l (⟨"java/util/HashMap", "putVal", "(ILjava/lang/Object;Ljava/lang/Object;ZZ)Ljava/lang/Object;"⟩ : MethodName) (head1 (Jvm.Cond.code (⟨"java/util/HashMap", "putVal", "(ILjava/lang/Object;Ljava/lang/Object;ZZ)Ljava/lang/Object;"⟩ : MethodName) jdk_69_method_16_code 13 (some (.object "java/lang/Object")) :: ws) ({ frames := 3, cells := 2, slots := 20, locals := 47 } : Room)) (fun a U => a = #[(.ref o0), (.int kk), (.ref o2), (.ref o3), (.int (0 : Int32)), (.int (1 : Int32))] ∧ Z.Warmed39 U.vm ∧ U.heap = h0) (fun _ _ _ _ _ => True) (fun _ U o U' => ∃ v L, o = .returned v ∧ Q21f Z o0 kk o2 o3 loadFactor_o0 ix h0 n0 v U'.heap L ∧ FrameEnd U o U' L ({ frames := 3, cells := 2, slots := 20, locals := 47 } : Room).cells ({ frames := 3, cells := 2, slots := 20, locals := 47 } : Room).slots) := by
  refine MetFree.of_bodySF (plainFor_of_name pn_java_util_HashMap) hisR ?_
  intro p e s m args below meth c s₁ Bd hml0 hP hK
  obtain ⟨rfl, hZ, hhp⟩ := hP
  have hx := Bd.exec
  have hby := Bd.bytes
  have hml : c.maxLocals = 13 := hml0
  have hown : s.vm.findClass "java/util/HashMap" = some m.cls := findClass_of_methodNamed Bd.named
  have hnm := (name_of_methodNamed Bd.named Bd.method).1
  have X0 : Stand p l e ({ frames := 3, cells := 2, slots := 20, locals := 47 } : Room) s m #[(.ref o0), (.int kk), (.ref o2), (.ref o3), (.int (0 : Int32)), (.int (1 : Int32))] below meth c s₁ [] 0 0 := Stand.of_body Bd
  have eH0 : s₁.heap = h0 := by rw [← hhp, Bd.state]; rfl
  have N0 := Fr.nil n0
  have K0 := Keep.refl h0 [o0]
  show Gt p.tables e below (fun o U' => ∃ v L, o = .returned v ∧ Q21f Z o0 kk o2 o3 loadFactor_o0 ix h0 n0 v U'.heap L ∧ FrameEnd s o U' L ({ frames := 3, cells := 2, slots := 20, locals := 47 } : Room).cells ({ frames := 3, cells := 2, slots := 20, locals := 47 } : Room).slots) _
  refine own_cast (ef21f m o0 kk o2 o3) ?_
  refine own_aloadN X0 hx hby rfl rfl d21_0 (pc' := 1) rfl ?_
  refine own_getF X0 hx hby hZ hown (host := "") (Or.inl (hw _ (mi 129 rfl))) Via.refl eH0 F_o0_table d21_1 (pc' := 4) rfl (fun T1 X1 eH1 => ?_)
  refine own_dup X1 hx hby rfl d21_4 (pc' := 5) rfl ?_
  refine own_astore X1 hx hby rfl (L' := #[.val (.ref o0), .val (.int kk), .val (.ref o2), .val (.ref o3), .val (.int (0 : Int32)), .val (.int (1 : Int32)), .val .null, .unset, .unset, .unset, .unset, .unset, .unset]) rfl d21_5 (pc' := 7) rfl ?_
  refine own_ifnullT X1 hx hby d21_7 (by decide) (pc' := 19) (by decide) ?_
  refine own_aloadN X1 hx hby rfl rfl d21_19 (pc' := 20) rfl ?_
  refine own_virtual X1 hx hby hZ (y := (⟨"java/util/HashMap", "resize", "()[Ljava/util/HashMap$Node;"⟩ : MethodName)) (y' := (⟨"java/util/HashMap", "resize", "()[Ljava/util/HashMap$Node;"⟩ : MethodName)) (C := "java/util/HashMap") (rest := []) hown (hw _ (mi 131 rfl)) (hw _ (mi 132 rfl)) (notFace_of_selects (args := #[]) (mvT hZ (hw _ (mi 134 rfl)))) (hw _ (mi 134 rfl)) (hw _ (mi 133 rfl)) (hw _ (mi 135 rfl)) (hw _ (mi 51 rfl)) (by decide) (rm220 l Z a0 hw [] o0 loadFactor_o0 h0 n0 Z0 F_o0_loadFactor F_o0_table F_o0_threshold F_o0_modCount F_o0_size E_o0 g_o0) eH1 (by rw [hml]; rfl) (a := o0) E_o0 (argsL := []) rfl (lenOf pd_8 rfl) rfl d21_20 (pc' := 23) rfl (by decide) (W := 0) (Nat.le_of_eq rfl) (by decide) (by decide) (by decide) (fun T2 h2 Lc2 v2r X2 eH2 hQ2 => ?_)
  obtain ⟨b4_2, rfl, Nq2, Kq2, gq2_0, gq2_1, gq2_2, gq2_3, gq2_4, gq2_5, gq2_6, gq2_7, gq2_8⟩ := hQ2
  have N2 := Fr.app N0 Nq2
  have g_b4_2 : n0 ≤ b4_2 := Nat.le_trans Z0 gq2_0
  have sz_b4_2 : h0.size ≤ b4_2 := Nat.le_trans K0.1 gq2_0
  have ne_o0_b4_2 : o0 ≠ b4_2 := Nat.ne_of_lt (Nat.lt_of_lt_of_le E_o0.lt gq2_0)
  replace E_o0 := E_o0.keep Kq2
  replace K0 := K0.trans Kq2 (allS (Or.inl (by simp)) all0)
  have E_o0 := gq2_1
  have F_o0_loadFactor := gq2_2
  have F_o0_table := gq2_3
  have F_o0_threshold := gq2_4
  have F_o0_modCount := gq2_5
  have F_o0_size := gq2_6
  have E_b4_2 := gq2_7
  have V_b4_2 := gq2_8
  replace Z0 := Nat.le_trans Z0 Kq2.1
  refine own_dup X2 hx hby rfl d21_23 (pc' := 24) rfl ?_
  refine own_astore X2 hx hby rfl (L' := #[.val (.ref o0), .val (.int kk), .val (.ref o2), .val (.ref o3), .val (.int (0 : Int32)), .val (.int (1 : Int32)), .val (.ref b4_2), .unset, .unset, .unset, .unset, .unset, .unset]) rfl d21_24 (pc' := 26) rfl ?_
  refine own_alen X2 hx hby hZ eH2 V_b4_2 (z := (16 : Int32)) (by first | rfl | decide) d21_26 (pc' := 27) rfl ?_
  refine own_istore X2 hx hby (L' := #[.val (.ref o0), .val (.int kk), .val (.ref o2), .val (.ref o3), .val (.int (0 : Int32)), .val (.int (1 : Int32)), .val (.ref b4_2), .unset, .val (.int (16 : Int32)), .unset, .unset, .unset, .unset]) rfl d21_27 (pc' := 29) rfl ?_
  refine own_aload X2 hx hby rfl rfl d21_29 (pc' := 31) rfl ?_
  refine own_iload X2 hx hby rfl d21_31 (pc' := 33) rfl ?_
  refine own_iconst X2 hx hby (v := (1 : Int32)) (by decide) d21_33 (pc' := 34) rfl ?_
  refine own_isub X2 hx hby (v := (15 : Int32)) (by decide) d21_34 (pc' := 35) rfl ?_
  refine own_iloadN X2 hx hby rfl d21_35 (pc' := 36) rfl ?_
  refine own_iand X2 hx hby rfl d21_36 (pc' := 37) rfl ?_
  refine own_dup X2 hx hby rfl d21_37 (pc' := 38) rfl ?_
  refine own_istore X2 hx hby (L' := #[.val (.ref o0), .val (.int kk), .val (.ref o2), .val (.ref o3), .val (.int (0 : Int32)), .val (.int (1 : Int32)), .val (.ref b4_2), .unset, .val (.int (16 : Int32)), .val (.int ((15 : Int32) &&& kk)), .unset, .unset, .unset]) rfl d21_38 (pc' := 40) rfl ?_
  refine own_aaload X2 hx hby hZ eH2 V_b4_2 rfl hj0 (v := .null) (by rw [hjn]; exact own_n16 hil) d21_40 (pc' := 41) rfl ?_
  refine own_dup X2 hx hby rfl d21_41 (pc' := 42) rfl ?_
  refine own_astore X2 hx hby rfl (L' := #[.val (.ref o0), .val (.int kk), .val (.ref o2), .val (.ref o3), .val (.int (0 : Int32)), .val (.int (1 : Int32)), .val (.ref b4_2), .val .null, .val (.int (16 : Int32)), .val (.int ((15 : Int32) &&& kk)), .unset, .unset, .unset]) rfl d21_42 (pc' := 44) rfl ?_
  refine own_ifnonnullF X2 hx hby d21_44 (pc' := 47) rfl ?_
  refine own_aload X2 hx hby rfl rfl d21_47 (pc' := 49) rfl ?_
  refine own_iload X2 hx hby rfl d21_49 (pc' := 51) rfl ?_
  refine own_aloadN X2 hx hby rfl rfl d21_51 (pc' := 52) rfl ?_
  refine own_iloadN X2 hx hby rfl d21_52 (pc' := 53) rfl ?_
  refine own_aloadN X2 hx hby rfl rfl d21_53 (pc' := 54) rfl ?_
  refine own_aloadN X2 hx hby rfl rfl d21_54 (pc' := 55) rfl ?_
  refine own_aconst X2 hx hby d21_55 (pc' := 56) rfl ?_
  refine own_virtual X2 hx hby hZ (y := (⟨"java/util/HashMap", "newNode", "(ILjava/lang/Object;Ljava/lang/Object;Ljava/util/HashMap$Node;)Ljava/util/HashMap$Node;"⟩ : MethodName)) (y' := (⟨"java/util/HashMap", "newNode", "(ILjava/lang/Object;Ljava/lang/Object;Ljava/util/HashMap$Node;)Ljava/util/HashMap$Node;"⟩ : MethodName)) (C := "java/util/HashMap") (rest := [(.int ((15 : Int32) &&& kk)), (.ref b4_2)]) hown (hw _ (mi 140 rfl)) (hw _ (mi 141 rfl)) (notFace_of_selects (args := #[]) (mvT hZ (hw _ (mi 143 rfl)))) (hw _ (mi 143 rfl)) (hw _ (mi 142 rfl)) (hw _ (mi 144 rfl)) (hw _ (mi 51 rfl)) (by decide) (rm23 l Z a0 hw [] o0 kk o2 o3 h2 n0 Z0) eH2 (by rw [hml]; rfl) (a := o0) E_o0 (argsL := [(.int kk), (.ref o2), (.ref o3), .null]) rfl (lenOf pd_9 rfl) rfl d21_56 (pc' := 59) rfl (by decide) (W := 2) (Nat.le_of_eq rfl) (by decide) (by decide) (by decide) (fun T3 h3 Lc3 v3r X3 eH3 hQ3 => ?_)
  obtain ⟨b1_3, rfl, Nq3, Kq3, gq3_0, gq3_1, gq3_2, gq3_3, gq3_4, gq3_5⟩ := hQ3
  have N3 := Fr.app N2 Nq3
  have g_b1_3 : n0 ≤ b1_3 := Nat.le_trans Z0 gq3_0
  have sz_b1_3 : h0.size ≤ b1_3 := Nat.le_trans K0.1 gq3_0
  have ne_o0_b1_3 : o0 ≠ b1_3 := Nat.ne_of_lt (Nat.lt_of_lt_of_le E_o0.lt gq3_0)
  have ne_b4_2_b1_3 : b4_2 ≠ b1_3 := Nat.ne_of_lt (Nat.lt_of_lt_of_le E_b4_2.lt gq3_0)
  replace E_o0 := E_o0.keep Kq3
  replace F_o0_loadFactor := F_o0_loadFactor.keep Kq3 nin0
  replace F_o0_table := F_o0_table.keep Kq3 nin0
  replace F_o0_threshold := F_o0_threshold.keep Kq3 nin0
  replace F_o0_modCount := F_o0_modCount.keep Kq3 nin0
  replace F_o0_size := F_o0_size.keep Kq3 nin0
  replace E_b4_2 := E_b4_2.keep Kq3
  replace V_b4_2 := V_b4_2.keep Kq3 nin0
  replace K0 := K0.trans Kq3 all0
  have E_b1_3 := gq3_1
  have F_b1_3_hash := gq3_2
  have F_b1_3_key := gq3_3
  have F_b1_3_value := gq3_4
  have F_b1_3_next := gq3_5
  replace Z0 := Nat.le_trans Z0 Kq3.1
  refine own_aastoreO X3 hx hby hZ eH3 V_b4_2 E_b1_3 hj0 (n := ix) hjn hil d21_59 (pc' := 60) rfl (fun T4 h4 X4 eH4 W4 => ?_)
  replace E_o0 := E_o0.wr W4
  replace F_o0_loadFactor := F_o0_loadFactor.other W4 (Or.inl ne_o0_b4_2)
  replace F_o0_table := F_o0_table.other W4 (Or.inl ne_o0_b4_2)
  replace F_o0_threshold := F_o0_threshold.other W4 (Or.inl ne_o0_b4_2)
  replace F_o0_modCount := F_o0_modCount.other W4 (Or.inl ne_o0_b4_2)
  replace F_o0_size := F_o0_size.other W4 (Or.inl ne_o0_b4_2)
  replace E_b4_2 := E_b4_2.wr W4
  replace E_b1_3 := E_b1_3.wr W4
  replace F_b1_3_hash := F_b1_3_hash.other W4 (Or.inl (Ne.symm ne_b4_2_b1_3))
  replace F_b1_3_key := F_b1_3_key.other W4 (Or.inl (Ne.symm ne_b4_2_b1_3))
  replace F_b1_3_value := F_b1_3_value.other W4 (Or.inl (Ne.symm ne_b4_2_b1_3))
  replace F_b1_3_next := F_b1_3_next.other W4 (Or.inl (Ne.symm ne_b4_2_b1_3))
  have N4 := Fr.snoc X4 N3 g_b4_2
  replace K0 := K0.wr W4 (Or.inr sz_b4_2)
  replace Z0 := Nat.le_trans Z0 (Nat.le_of_eq W4.size.symm)
  replace V_b4_2 : Ary (ovO Z "java/util/HashMap$Node") Z h4 b4_2 (.object "java/util/HashMap$Node") ((List.replicate 16 Value.null).set ix (.ref b1_3)) := V_b4_2.set W4
  refine own_goto X4 hx hby d21_60 (by decide) (pc' := 259) (by decide) ?_
  refine own_aloadN X4 hx hby rfl rfl d21_259 (pc' := 260) rfl ?_
  refine own_dup X4 hx hby rfl d21_260 (pc' := 261) rfl ?_
  refine own_getF X4 hx hby hZ hown (host := "") (Or.inl (hw _ (mi 160 rfl))) Via.refl eH4 F_o0_modCount d21_261 (pc' := 264) rfl (fun T5 X5 eH5 => ?_)
  refine own_iconst X5 hx hby (v := (1 : Int32)) (by decide) d21_264 (pc' := 265) rfl ?_
  refine own_iadd X5 hx hby (v := (1 : Int32)) (by decide) d21_265 (pc' := 266) rfl ?_
  refine own_putF X5 hx hby hZ hown (host := "") (Or.inl (hw _ (mi 160 rfl))) Via.refl eH5 F_o0_modCount E_o0 (Or.inl (hw _ (mi 161 rfl))) (hw _ (mi 50 rfl)) (ty := .int) (by decide) rfl rfl d21_266 (pc' := 269) rfl (fun T6 h6 X6 eH6 W6 => ?_)
  replace E_o0 := E_o0.wr W6
  replace F_o0_loadFactor := F_o0_loadFactor.other W6 (Or.inr (slot_ne (Or.inr (hw _ (mi 65 rfl))) (Or.inl (hw _ (mi 161 rfl))) (by decide) (t := .float) (t' := .int) (by decide) (by decide)))
  replace F_o0_table := F_o0_table.other W6 (Or.inr (slot_ne (Or.inl (hw _ (mi 130 rfl))) (Or.inl (hw _ (mi 161 rfl))) (by decide) (t := (.array (.object "java/util/HashMap$Node"))) (t' := .int) (by decide) (by decide)))
  replace F_o0_threshold := F_o0_threshold.other W6 (Or.inr (slot_ne (Or.inl (hw _ (mi 137 rfl))) (Or.inl (hw _ (mi 161 rfl))) (by decide) (t := .int) (t' := .int) (by decide) (by decide)))
  replace F_o0_modCount := F_o0_modCount.same W6
  replace F_o0_size := F_o0_size.other W6 (Or.inr (slot_ne (Or.inl (hw _ (mi 163 rfl))) (Or.inl (hw _ (mi 161 rfl))) (by decide) (t := .int) (t' := .int) (by decide) (by decide)))
  replace E_b4_2 := E_b4_2.wr W6
  replace V_b4_2 := V_b4_2.other W6 (Ne.symm ne_o0_b4_2)
  replace E_b1_3 := E_b1_3.wr W6
  replace F_b1_3_hash := F_b1_3_hash.other W6 (Or.inl (Ne.symm ne_o0_b1_3))
  replace F_b1_3_key := F_b1_3_key.other W6 (Or.inl (Ne.symm ne_o0_b1_3))
  replace F_b1_3_value := F_b1_3_value.other W6 (Or.inl (Ne.symm ne_o0_b1_3))
  replace F_b1_3_next := F_b1_3_next.other W6 (Or.inl (Ne.symm ne_o0_b1_3))
  have N6 := Fr.snoc X6 N4 g_o0
  replace K0 := K0.wr W6 (Or.inl (by simp))
  replace Z0 := Nat.le_trans Z0 (Nat.le_of_eq W6.size.symm)
  refine own_aloadN X6 hx hby rfl rfl d21_269 (pc' := 270) rfl ?_
  refine own_dup X6 hx hby rfl d21_270 (pc' := 271) rfl ?_
  refine own_getF X6 hx hby hZ hown (host := "") (Or.inl (hw _ (mi 162 rfl))) Via.refl eH6 F_o0_size d21_271 (pc' := 274) rfl (fun T7 X7 eH7 => ?_)
  refine own_iconst X7 hx hby (v := (1 : Int32)) (by decide) d21_274 (pc' := 275) rfl ?_
  refine own_iadd X7 hx hby (v := (1 : Int32)) (by decide) d21_275 (pc' := 276) rfl ?_
  refine own_dupX1 X7 hx hby rfl rfl d21_276 (pc' := 277) rfl ?_
  refine own_putF X7 hx hby hZ hown (host := "") (Or.inl (hw _ (mi 162 rfl))) Via.refl eH7 F_o0_size E_o0 (Or.inl (hw _ (mi 163 rfl))) (hw _ (mi 50 rfl)) (ty := .int) (by decide) rfl rfl d21_277 (pc' := 280) rfl (fun T8 h8 X8 eH8 W8 => ?_)
  replace E_o0 := E_o0.wr W8
  replace F_o0_loadFactor := F_o0_loadFactor.other W8 (Or.inr (slot_ne (Or.inr (hw _ (mi 65 rfl))) (Or.inl (hw _ (mi 163 rfl))) (by decide) (t := .float) (t' := .int) (by decide) (by decide)))
  replace F_o0_table := F_o0_table.other W8 (Or.inr (slot_ne (Or.inl (hw _ (mi 130 rfl))) (Or.inl (hw _ (mi 163 rfl))) (by decide) (t := (.array (.object "java/util/HashMap$Node"))) (t' := .int) (by decide) (by decide)))
  replace F_o0_threshold := F_o0_threshold.other W8 (Or.inr (slot_ne (Or.inl (hw _ (mi 137 rfl))) (Or.inl (hw _ (mi 163 rfl))) (by decide) (t := .int) (t' := .int) (by decide) (by decide)))
  replace F_o0_modCount := F_o0_modCount.other W8 (Or.inr (slot_ne (Or.inl (hw _ (mi 161 rfl))) (Or.inl (hw _ (mi 163 rfl))) (by decide) (t := .int) (t' := .int) (by decide) (by decide)))
  replace F_o0_size := F_o0_size.same W8
  replace E_b4_2 := E_b4_2.wr W8
  replace V_b4_2 := V_b4_2.other W8 (Ne.symm ne_o0_b4_2)
  replace E_b1_3 := E_b1_3.wr W8
  replace F_b1_3_hash := F_b1_3_hash.other W8 (Or.inl (Ne.symm ne_o0_b1_3))
  replace F_b1_3_key := F_b1_3_key.other W8 (Or.inl (Ne.symm ne_o0_b1_3))
  replace F_b1_3_value := F_b1_3_value.other W8 (Or.inl (Ne.symm ne_o0_b1_3))
  replace F_b1_3_next := F_b1_3_next.other W8 (Or.inl (Ne.symm ne_o0_b1_3))
  have N8 := Fr.snoc X8 N6 g_o0
  replace K0 := K0.wr W8 (Or.inl (by simp))
  replace Z0 := Nat.le_trans Z0 (Nat.le_of_eq W8.size.symm)
  refine own_aloadN X8 hx hby rfl rfl d21_280 (pc' := 281) rfl ?_
  refine own_getF X8 hx hby hZ hown (host := "") (Or.inl (hw _ (mi 136 rfl))) Via.refl eH8 F_o0_threshold d21_281 (pc' := 284) rfl (fun T9 X9 eH9 => ?_)
  refine own_icT X9 hx hby d21_284 (by decide) (by decide) (pc' := 292) (by decide) ?_
  refine own_aloadN X9 hx hby rfl rfl d21_292 (pc' := 293) rfl ?_
  refine own_iload X9 hx hby rfl d21_293 (pc' := 295) rfl ?_
  refine own_virtual X9 hx hby hZ (y := (⟨"java/util/HashMap", "afterNodeInsertion", "(Z)V"⟩ : MethodName)) (y' := (⟨"java/util/HashMap", "afterNodeInsertion", "(Z)V"⟩ : MethodName)) (C := "java/util/HashMap") (rest := []) hown (hw _ (mi 164 rfl)) (hw _ (mi 165 rfl)) (notFace_of_selects (args := #[]) (mvT hZ (hw _ (mi 167 rfl)))) (hw _ (mi 167 rfl)) (hw _ (mi 166 rfl)) (hw _ (mi 168 rfl)) (hw _ (mi 51 rfl)) (by decide) (rm25 l Z a0 hw [] o0 h8 n0 Z0) eH9 (by rw [hml]; rfl) (a := o0) E_o0 (argsL := [(.int (1 : Int32))]) rfl (lenOf pd_10 rfl) rfl d21_295 (pc' := 298) rfl (by decide) (W := 0) (Nat.le_of_eq rfl) (by decide) (by decide) (by decide) (fun T10 h10 Lc10 v10r X10 eH10 hQ10 => ?_)
  obtain ⟨rfl, Nq10, rfl⟩ := hQ10
  have N10 := Fr.app N8 Nq10
  refine own_aconst X10 hx hby d21_298 (pc' := 299) rfl ?_
  exact own_retA X10 hx hby Bd.notSynchronized Bd.returns rfl rfl d21_299 (by decide) (by decide) eH10 ⟨b4_2, b1_3, rfl, N10, K0, sz_b4_2, sz_b1_3, ne_b4_2_b1_3, E_o0, F_o0_loadFactor, F_o0_table, F_o0_threshold, F_o0_modCount, F_o0_size, E_b4_2, V_b4_2, E_b1_3, F_b1_3_hash, F_b1_3_key, F_b1_3_value, F_b1_3_next⟩
theorem ef21 (m : MethodId) (x0 : Addr) (x1 : Int32) (x2 : Addr) (x3 : Addr) : entryFrame m #[(.ref x0), (.int x1), (.ref x2), (.ref x3), (.int (0 : Int32)), (.int (1 : Int32))] 13 = mkF m 0 #[.val (.ref x0), .val (.int x1), .val (.ref x2), .val (.ref x3), .val (.int (0 : Int32)), .val (.int (1 : Int32)), .unset, .unset, .unset, .unset, .unset, .unset, .unset] [] := by first | (simp [entryFrame, mkF, argsToLocals, Value.category]; done) | rfl
def Q21 (Z : State) (o0 : Addr) (kk : Int32) (o2 : Addr) (o3 : Addr) (loadFactor_o0 : UInt32) (table_o0 : Addr) (modCount_o0 : Int32) (size_o0 : Int32) (ix : Nat) (tl : List Value) (h0 : Heap) (n0 : Nat) (v : Option Value) (h : Heap) (L : List Loc) : Prop := ∃ b1_2 : Addr, v = some .null ∧ Fr n0 L ∧ Keep h0 h [table_o0, o0] ∧ h0.size ≤ b1_2 ∧ Ary (ovO Z "java/util/HashMap$Node") Z h table_o0 (.object "java/util/HashMap$Node") (tl.set ix (.ref b1_2)) ∧ Exa Z h o0 "java/util/HashMap" ∧ Fld Z h o0 "java/util/HashMap" "loadFactor" "F" (.float loadFactor_o0) ∧ Fld Z h o0 "java/util/HashMap" "table" "[Ljava/util/HashMap$Node;" (.ref table_o0) ∧ Fld Z h o0 "java/util/HashMap" "threshold" "I" (.int (12 : Int32)) ∧ Fld Z h o0 "java/util/HashMap" "modCount" "I" (.int (modCount_o0 + (1 : Int32))) ∧ Fld Z h o0 "java/util/HashMap" "size" "I" (.int (size_o0 + (1 : Int32))) ∧ Exa Z h b1_2 "java/util/HashMap$Node" ∧ Fld Z h b1_2 "java/util/HashMap$Node" "hash" "I" (.int kk) ∧ Fld Z h b1_2 "java/util/HashMap$Node" "key" "Ljava/lang/Object;" (.ref o2) ∧ Fld Z h b1_2 "java/util/HashMap$Node" "value" "Ljava/lang/Object;" (.ref o3) ∧ Fld Z h b1_2 "java/util/HashMap$Node" "next" "Ljava/util/HashMap$Node;" .null
theorem rm21 (l : Launch) (Z : State) (a0 : Array Value) (hw : ∀ d ∈ tables_1, d.before a0 Z = true) (ws : List Jvm.Cond) (o0 : Addr) (kk : Int32) (o2 : Addr) (o3 : Addr) (loadFactor_o0 : UInt32) (table_o0 : Addr) (modCount_o0 : Int32) (size_o0 : Int32) (ix : Nat) (tl : List Value) (h0 : Heap) (n0 : Nat) (Z0 : n0 ≤ h0.size) (F_o0_loadFactor : Fld Z h0 o0 "java/util/HashMap" "loadFactor" "F" (.float loadFactor_o0)) (F_o0_table : Fld Z h0 o0 "java/util/HashMap" "table" "[Ljava/util/HashMap$Node;" (.ref table_o0)) (F_o0_threshold : Fld Z h0 o0 "java/util/HashMap" "threshold" "I" (.int (12 : Int32))) (F_o0_modCount : Fld Z h0 o0 "java/util/HashMap" "modCount" "I" (.int modCount_o0)) (F_o0_size : Fld Z h0 o0 "java/util/HashMap" "size" "I" (.int size_o0)) (hj0 : (¬ (((15 : Int32) &&& kk) < 0))) (hjn : (((15 : Int32) &&& kk).toNatClampNeg = ix)) (hil : (ix < 16)) (V_table_o0 : Ary (ovO Z "java/util/HashMap$Node") Z h0 table_o0 (.object "java/util/HashMap$Node") tl) (hlt : (tl.length = 16)) (hti : (tl[ix]? = some .null)) (E_o0 : Exa Z h0 o0 "java/util/HashMap") (g_table_o0 : n0 ≤ table_o0) (ne_o0_table_o0 : o0 ≠ table_o0) (g_o0 : n0 ≤ o0) (hsz : (¬ ((12 : Int32) < (size_o0 + (1 : Int32))))) :
    MetFree l (⟨"java/util/HashMap", "putVal", "(ILjava/lang/Object;Ljava/lang/Object;ZZ)Ljava/lang/Object;"⟩ : MethodName) (head1 (Jvm.Cond.code (⟨"java/util/HashMap", "putVal", "(ILjava/lang/Object;Ljava/lang/Object;ZZ)Ljava/lang/Object;"⟩ : MethodName) jdk_69_method_16_code 13 (some (.object "java/lang/Object")) :: ws) ({ frames := 3, cells := 1, slots := 4, locals := 47 } : Room)) (fun a U => a = #[(.ref o0), (.int kk), (.ref o2), (.ref o3), (.int (0 : Int32)), (.int (1 : Int32))] ∧ Z.Warmed39 U.vm ∧ U.heap = h0) (fun _ _ _ _ _ => True) (fun _ U o U' => ∃ v L, o = .returned v ∧ Q21 Z o0 kk o2 o3 loadFactor_o0 table_o0 modCount_o0 size_o0 ix tl h0 n0 v U'.heap L ∧ FrameEnd U o U' L ({ frames := 3, cells := 1, slots := 4, locals := 47 } : Room).cells ({ frames := 3, cells := 1, slots := 4, locals := 47 } : Room).slots) := by
  refine MetFree.of_bodySF (plainFor_of_name pn_java_util_HashMap) hisR ?_
  intro p e s m args below meth c s₁ Bd hml0 hP hK
  obtain ⟨rfl, hZ, hhp⟩ := hP
  have hx := Bd.exec
  have hby := Bd.bytes
  have hml : c.maxLocals = 13 := hml0
  have hown : s.vm.findClass "java/util/HashMap" = some m.cls := findClass_of_methodNamed Bd.named
  have hnm := (name_of_methodNamed Bd.named Bd.method).1
  have X0 : Stand p l e ({ frames := 3, cells := 1, slots := 4, locals := 47 } : Room) s m #[(.ref o0), (.int kk), (.ref o2), (.ref o3), (.int (0 : Int32)), (.int (1 : Int32))] below meth c s₁ [] 0 0 := Stand.of_body Bd
  have eH0 : s₁.heap = h0 := by rw [← hhp, Bd.state]; rfl
  have N0 := Fr.nil n0
  have K0 := Keep.refl h0 [table_o0, o0]
  show Gt p.tables e below (fun o U' => ∃ v L, o = .returned v ∧ Q21 Z o0 kk o2 o3 loadFactor_o0 table_o0 modCount_o0 size_o0 ix tl h0 n0 v U'.heap L ∧ FrameEnd s o U' L ({ frames := 3, cells := 1, slots := 4, locals := 47 } : Room).cells ({ frames := 3, cells := 1, slots := 4, locals := 47 } : Room).slots) _
  refine own_cast (ef21 m o0 kk o2 o3) ?_
  refine own_aloadN X0 hx hby rfl rfl d21_0 (pc' := 1) rfl ?_
  refine own_getF X0 hx hby hZ hown (host := "") (Or.inl (hw _ (mi 129 rfl))) Via.refl eH0 F_o0_table d21_1 (pc' := 4) rfl (fun T1 X1 eH1 => ?_)
  refine own_dup X1 hx hby rfl d21_4 (pc' := 5) rfl ?_
  refine own_astore X1 hx hby rfl (L' := #[.val (.ref o0), .val (.int kk), .val (.ref o2), .val (.ref o3), .val (.int (0 : Int32)), .val (.int (1 : Int32)), .val (.ref table_o0), .unset, .unset, .unset, .unset, .unset, .unset]) rfl d21_5 (pc' := 7) rfl ?_
  refine own_ifnullF X1 hx hby d21_7 (pc' := 10) rfl ?_
  refine own_aload X1 hx hby rfl rfl d21_10 (pc' := 12) rfl ?_
  refine own_alen X1 hx hby hZ eH1 V_table_o0 (z := (16 : Int32)) (by rw [hlt]; decide) d21_12 (pc' := 13) rfl ?_
  refine own_dup X1 hx hby rfl d21_13 (pc' := 14) rfl ?_
  refine own_istore X1 hx hby (L' := #[.val (.ref o0), .val (.int kk), .val (.ref o2), .val (.ref o3), .val (.int (0 : Int32)), .val (.int (1 : Int32)), .val (.ref table_o0), .unset, .val (.int (16 : Int32)), .unset, .unset, .unset, .unset]) rfl d21_14 (pc' := 16) rfl ?_
  refine own_ifT X1 hx hby d21_16 (by decide) (by decide) (pc' := 29) (by decide) ?_
  refine own_aload X1 hx hby rfl rfl d21_29 (pc' := 31) rfl ?_
  refine own_iload X1 hx hby rfl d21_31 (pc' := 33) rfl ?_
  refine own_iconst X1 hx hby (v := (1 : Int32)) (by decide) d21_33 (pc' := 34) rfl ?_
  refine own_isub X1 hx hby (v := (15 : Int32)) (by decide) d21_34 (pc' := 35) rfl ?_
  refine own_iloadN X1 hx hby rfl d21_35 (pc' := 36) rfl ?_
  refine own_iand X1 hx hby rfl d21_36 (pc' := 37) rfl ?_
  refine own_dup X1 hx hby rfl d21_37 (pc' := 38) rfl ?_
  refine own_istore X1 hx hby (L' := #[.val (.ref o0), .val (.int kk), .val (.ref o2), .val (.ref o3), .val (.int (0 : Int32)), .val (.int (1 : Int32)), .val (.ref table_o0), .unset, .val (.int (16 : Int32)), .val (.int ((15 : Int32) &&& kk)), .unset, .unset, .unset]) rfl d21_38 (pc' := 40) rfl ?_
  refine own_aaload X1 hx hby hZ eH1 V_table_o0 rfl hj0 (v := .null) (by rw [hjn]; exact hti) d21_40 (pc' := 41) rfl ?_
  refine own_dup X1 hx hby rfl d21_41 (pc' := 42) rfl ?_
  refine own_astore X1 hx hby rfl (L' := #[.val (.ref o0), .val (.int kk), .val (.ref o2), .val (.ref o3), .val (.int (0 : Int32)), .val (.int (1 : Int32)), .val (.ref table_o0), .val .null, .val (.int (16 : Int32)), .val (.int ((15 : Int32) &&& kk)), .unset, .unset, .unset]) rfl d21_42 (pc' := 44) rfl ?_
  refine own_ifnonnullF X1 hx hby d21_44 (pc' := 47) rfl ?_
  refine own_aload X1 hx hby rfl rfl d21_47 (pc' := 49) rfl ?_
  refine own_iload X1 hx hby rfl d21_49 (pc' := 51) rfl ?_
  refine own_aloadN X1 hx hby rfl rfl d21_51 (pc' := 52) rfl ?_
  refine own_iloadN X1 hx hby rfl d21_52 (pc' := 53) rfl ?_
  refine own_aloadN X1 hx hby rfl rfl d21_53 (pc' := 54) rfl ?_
  refine own_aloadN X1 hx hby rfl rfl d21_54 (pc' := 55) rfl ?_
  refine own_aconst X1 hx hby d21_55 (pc' := 56) rfl ?_
  refine own_virtual X1 hx hby hZ (y := (⟨"java/util/HashMap", "newNode", "(ILjava/lang/Object;Ljava/lang/Object;Ljava/util/HashMap$Node;)Ljava/util/HashMap$Node;"⟩ : MethodName)) (y' := (⟨"java/util/HashMap", "newNode", "(ILjava/lang/Object;Ljava/lang/Object;Ljava/util/HashMap$Node;)Ljava/util/HashMap$Node;"⟩ : MethodName)) (C := "java/util/HashMap") (rest := [(.int ((15 : Int32) &&& kk)), (.ref table_o0)]) hown (hw _ (mi 140 rfl)) (hw _ (mi 141 rfl)) (notFace_of_selects (args := #[]) (mvT hZ (hw _ (mi 143 rfl)))) (hw _ (mi 143 rfl)) (hw _ (mi 142 rfl)) (hw _ (mi 144 rfl)) (hw _ (mi 51 rfl)) (by decide) (rm23 l Z a0 hw [] o0 kk o2 o3 h0 n0 Z0) eH1 (by rw [hml]; rfl) (a := o0) E_o0 (argsL := [(.int kk), (.ref o2), (.ref o3), .null]) rfl (lenOf pd_9 rfl) rfl d21_56 (pc' := 59) rfl (by decide) (W := 2) (Nat.le_of_eq rfl) (by decide) (by decide) (by decide) (fun T2 h2 Lc2 v2r X2 eH2 hQ2 => ?_)
  obtain ⟨b1_2, rfl, Nq2, Kq2, gq2_0, gq2_1, gq2_2, gq2_3, gq2_4, gq2_5⟩ := hQ2
  have N2 := Fr.app N0 Nq2
  have g_b1_2 : n0 ≤ b1_2 := Nat.le_trans Z0 gq2_0
  have sz_b1_2 : h0.size ≤ b1_2 := Nat.le_trans K0.1 gq2_0
  have ne_o0_b1_2 : o0 ≠ b1_2 := Nat.ne_of_lt (Nat.lt_of_lt_of_le E_o0.lt gq2_0)
  have ne_table_o0_b1_2 : table_o0 ≠ b1_2 := Nat.ne_of_lt (Nat.lt_of_lt_of_le V_table_o0.lt gq2_0)
  replace E_o0 := E_o0.keep Kq2
  replace F_o0_loadFactor := F_o0_loadFactor.keep Kq2 nin0
  replace F_o0_table := F_o0_table.keep Kq2 nin0
  replace F_o0_threshold := F_o0_threshold.keep Kq2 nin0
  replace F_o0_modCount := F_o0_modCount.keep Kq2 nin0
  replace F_o0_size := F_o0_size.keep Kq2 nin0
  replace V_table_o0 := V_table_o0.keep Kq2 nin0
  replace K0 := K0.trans Kq2 all0
  have E_b1_2 := gq2_1
  have F_b1_2_hash := gq2_2
  have F_b1_2_key := gq2_3
  have F_b1_2_value := gq2_4
  have F_b1_2_next := gq2_5
  replace Z0 := Nat.le_trans Z0 Kq2.1
  refine own_aastoreO X2 hx hby hZ eH2 V_table_o0 E_b1_2 hj0 (n := ix) hjn (by rw [hlt]; exact hil) d21_59 (pc' := 60) rfl (fun T3 h3 X3 eH3 W3 => ?_)
  replace E_o0 := E_o0.wr W3
  replace F_o0_loadFactor := F_o0_loadFactor.other W3 (Or.inl ne_o0_table_o0)
  replace F_o0_table := F_o0_table.other W3 (Or.inl ne_o0_table_o0)
  replace F_o0_threshold := F_o0_threshold.other W3 (Or.inl ne_o0_table_o0)
  replace F_o0_modCount := F_o0_modCount.other W3 (Or.inl ne_o0_table_o0)
  replace F_o0_size := F_o0_size.other W3 (Or.inl ne_o0_table_o0)
  replace E_b1_2 := E_b1_2.wr W3
  replace F_b1_2_hash := F_b1_2_hash.other W3 (Or.inl (Ne.symm ne_table_o0_b1_2))
  replace F_b1_2_key := F_b1_2_key.other W3 (Or.inl (Ne.symm ne_table_o0_b1_2))
  replace F_b1_2_value := F_b1_2_value.other W3 (Or.inl (Ne.symm ne_table_o0_b1_2))
  replace F_b1_2_next := F_b1_2_next.other W3 (Or.inl (Ne.symm ne_table_o0_b1_2))
  have N3 := Fr.snoc X3 N2 g_table_o0
  replace K0 := K0.wr W3 (Or.inl (by simp))
  replace Z0 := Nat.le_trans Z0 (Nat.le_of_eq W3.size.symm)
  replace V_table_o0 : Ary (ovO Z "java/util/HashMap$Node") Z h3 table_o0 (.object "java/util/HashMap$Node") (tl.set ix (.ref b1_2)) := V_table_o0.set W3
  refine own_goto X3 hx hby d21_60 (by decide) (pc' := 259) (by decide) ?_
  refine own_aloadN X3 hx hby rfl rfl d21_259 (pc' := 260) rfl ?_
  refine own_dup X3 hx hby rfl d21_260 (pc' := 261) rfl ?_
  refine own_getF X3 hx hby hZ hown (host := "") (Or.inl (hw _ (mi 160 rfl))) Via.refl eH3 F_o0_modCount d21_261 (pc' := 264) rfl (fun T4 X4 eH4 => ?_)
  refine own_iconst X4 hx hby (v := (1 : Int32)) (by decide) d21_264 (pc' := 265) rfl ?_
  refine own_iadd X4 hx hby rfl d21_265 (pc' := 266) rfl ?_
  refine own_putF X4 hx hby hZ hown (host := "") (Or.inl (hw _ (mi 160 rfl))) Via.refl eH4 F_o0_modCount E_o0 (Or.inl (hw _ (mi 161 rfl))) (hw _ (mi 50 rfl)) (ty := .int) (by decide) rfl rfl d21_266 (pc' := 269) rfl (fun T5 h5 X5 eH5 W5 => ?_)
  replace E_o0 := E_o0.wr W5
  replace F_o0_loadFactor := F_o0_loadFactor.other W5 (Or.inr (slot_ne (Or.inr (hw _ (mi 65 rfl))) (Or.inl (hw _ (mi 161 rfl))) (by decide) (t := .float) (t' := .int) (by decide) (by decide)))
  replace F_o0_table := F_o0_table.other W5 (Or.inr (slot_ne (Or.inl (hw _ (mi 130 rfl))) (Or.inl (hw _ (mi 161 rfl))) (by decide) (t := (.array (.object "java/util/HashMap$Node"))) (t' := .int) (by decide) (by decide)))
  replace F_o0_threshold := F_o0_threshold.other W5 (Or.inr (slot_ne (Or.inl (hw _ (mi 137 rfl))) (Or.inl (hw _ (mi 161 rfl))) (by decide) (t := .int) (t' := .int) (by decide) (by decide)))
  replace F_o0_modCount := F_o0_modCount.same W5
  replace F_o0_size := F_o0_size.other W5 (Or.inr (slot_ne (Or.inl (hw _ (mi 163 rfl))) (Or.inl (hw _ (mi 161 rfl))) (by decide) (t := .int) (t' := .int) (by decide) (by decide)))
  replace V_table_o0 := V_table_o0.other W5 (Ne.symm ne_o0_table_o0)
  replace E_b1_2 := E_b1_2.wr W5
  replace F_b1_2_hash := F_b1_2_hash.other W5 (Or.inl (Ne.symm ne_o0_b1_2))
  replace F_b1_2_key := F_b1_2_key.other W5 (Or.inl (Ne.symm ne_o0_b1_2))
  replace F_b1_2_value := F_b1_2_value.other W5 (Or.inl (Ne.symm ne_o0_b1_2))
  replace F_b1_2_next := F_b1_2_next.other W5 (Or.inl (Ne.symm ne_o0_b1_2))
  have N5 := Fr.snoc X5 N3 g_o0
  replace K0 := K0.wr W5 (Or.inl (by simp))
  replace Z0 := Nat.le_trans Z0 (Nat.le_of_eq W5.size.symm)
  refine own_aloadN X5 hx hby rfl rfl d21_269 (pc' := 270) rfl ?_
  refine own_dup X5 hx hby rfl d21_270 (pc' := 271) rfl ?_
  refine own_getF X5 hx hby hZ hown (host := "") (Or.inl (hw _ (mi 162 rfl))) Via.refl eH5 F_o0_size d21_271 (pc' := 274) rfl (fun T6 X6 eH6 => ?_)
  refine own_iconst X6 hx hby (v := (1 : Int32)) (by decide) d21_274 (pc' := 275) rfl ?_
  refine own_iadd X6 hx hby rfl d21_275 (pc' := 276) rfl ?_
  refine own_dupX1 X6 hx hby rfl rfl d21_276 (pc' := 277) rfl ?_
  refine own_putF X6 hx hby hZ hown (host := "") (Or.inl (hw _ (mi 162 rfl))) Via.refl eH6 F_o0_size E_o0 (Or.inl (hw _ (mi 163 rfl))) (hw _ (mi 50 rfl)) (ty := .int) (by decide) rfl rfl d21_277 (pc' := 280) rfl (fun T7 h7 X7 eH7 W7 => ?_)
  replace E_o0 := E_o0.wr W7
  replace F_o0_loadFactor := F_o0_loadFactor.other W7 (Or.inr (slot_ne (Or.inr (hw _ (mi 65 rfl))) (Or.inl (hw _ (mi 163 rfl))) (by decide) (t := .float) (t' := .int) (by decide) (by decide)))
  replace F_o0_table := F_o0_table.other W7 (Or.inr (slot_ne (Or.inl (hw _ (mi 130 rfl))) (Or.inl (hw _ (mi 163 rfl))) (by decide) (t := (.array (.object "java/util/HashMap$Node"))) (t' := .int) (by decide) (by decide)))
  replace F_o0_threshold := F_o0_threshold.other W7 (Or.inr (slot_ne (Or.inl (hw _ (mi 137 rfl))) (Or.inl (hw _ (mi 163 rfl))) (by decide) (t := .int) (t' := .int) (by decide) (by decide)))
  replace F_o0_modCount := F_o0_modCount.other W7 (Or.inr (slot_ne (Or.inl (hw _ (mi 161 rfl))) (Or.inl (hw _ (mi 163 rfl))) (by decide) (t := .int) (t' := .int) (by decide) (by decide)))
  replace F_o0_size := F_o0_size.same W7
  replace V_table_o0 := V_table_o0.other W7 (Ne.symm ne_o0_table_o0)
  replace E_b1_2 := E_b1_2.wr W7
  replace F_b1_2_hash := F_b1_2_hash.other W7 (Or.inl (Ne.symm ne_o0_b1_2))
  replace F_b1_2_key := F_b1_2_key.other W7 (Or.inl (Ne.symm ne_o0_b1_2))
  replace F_b1_2_value := F_b1_2_value.other W7 (Or.inl (Ne.symm ne_o0_b1_2))
  replace F_b1_2_next := F_b1_2_next.other W7 (Or.inl (Ne.symm ne_o0_b1_2))
  have N7 := Fr.snoc X7 N5 g_o0
  replace K0 := K0.wr W7 (Or.inl (by simp))
  replace Z0 := Nat.le_trans Z0 (Nat.le_of_eq W7.size.symm)
  refine own_aloadN X7 hx hby rfl rfl d21_280 (pc' := 281) rfl ?_
  refine own_getF X7 hx hby hZ hown (host := "") (Or.inl (hw _ (mi 136 rfl))) Via.refl eH7 F_o0_threshold d21_281 (pc' := 284) rfl (fun T8 X8 eH8 => ?_)
  refine own_icT X8 hx hby d21_284 (own_ic_le_n hsz) (by decide) (pc' := 292) (by decide) ?_
  refine own_aloadN X8 hx hby rfl rfl d21_292 (pc' := 293) rfl ?_
  refine own_iload X8 hx hby rfl d21_293 (pc' := 295) rfl ?_
  refine own_virtual X8 hx hby hZ (y := (⟨"java/util/HashMap", "afterNodeInsertion", "(Z)V"⟩ : MethodName)) (y' := (⟨"java/util/HashMap", "afterNodeInsertion", "(Z)V"⟩ : MethodName)) (C := "java/util/HashMap") (rest := []) hown (hw _ (mi 164 rfl)) (hw _ (mi 165 rfl)) (notFace_of_selects (args := #[]) (mvT hZ (hw _ (mi 167 rfl)))) (hw _ (mi 167 rfl)) (hw _ (mi 166 rfl)) (hw _ (mi 168 rfl)) (hw _ (mi 51 rfl)) (by decide) (rm25 l Z a0 hw [] o0 h7 n0 Z0) eH8 (by rw [hml]; rfl) (a := o0) E_o0 (argsL := [(.int (1 : Int32))]) rfl (lenOf pd_10 rfl) rfl d21_295 (pc' := 298) rfl (by decide) (W := 0) (Nat.le_of_eq rfl) (by decide) (by decide) (by decide) (fun T9 h9 Lc9 v9r X9 eH9 hQ9 => ?_)
  obtain ⟨rfl, Nq9, rfl⟩ := hQ9
  have N9 := Fr.app N7 Nq9
  refine own_aconst X9 hx hby d21_298 (pc' := 299) rfl ?_
  exact own_retA X9 hx hby Bd.notSynchronized Bd.returns rfl rfl d21_299 (by decide) (by decide) eH9 ⟨b1_2, rfl, N9, K0, sz_b1_2, V_table_o0, E_o0, F_o0_loadFactor, F_o0_table, F_o0_threshold, F_o0_modCount, F_o0_size, E_b1_2, F_b1_2_hash, F_b1_2_key, F_b1_2_value, F_b1_2_next⟩
theorem ef16f (m : MethodId) (x0 : Addr) (x1 : Addr) (x2 : Addr) : entryFrame m #[(.ref x0), (.ref x1), (.ref x2)] 3 = mkF m 0 #[.val (.ref x0), .val (.ref x1), .val (.ref x2)] [] := by first | (simp [entryFrame, mkF, argsToLocals, Value.category]; done) | rfl
def Q16f (Z : State) (o0 : Addr) (o1 : Addr) (o2 : Addr) (loadFactor_o0 : UInt32) (st_COMPACT_STRINGS : Int32) (by0 : Int32) (value_o1 : Addr) (hh : Int32) (kk : Int32) (ix : Nat) (h0 : Heap) (n0 : Nat) (v : Option Value) (h : Heap) (L : List Loc) : Prop := ∃ b4_2_2 b1_3_2 : Addr, v = some .null ∧ Fr n0 L ∧ Keep h0 h [o1, o0] ∧ h0.size ≤ b4_2_2 ∧ h0.size ≤ b1_3_2 ∧ b4_2_2 ≠ b1_3_2 ∧ Exa Z h o1 "java/lang/String" ∧ Fld Z h o1 "java/lang/String" "value" "[B" (.ref value_o1) ∧ Fld Z h o1 "java/lang/String" "coder" "B" (.int (0 : Int32)) ∧ Fld Z h o1 "java/lang/String" "hash" "I" (.int hh) ∧ Fld Z h o1 "java/lang/String" "hashIsZero" "Z" (.int (0 : Int32)) ∧ Exa Z h o0 "java/util/HashMap" ∧ Fld Z h o0 "java/util/HashMap" "loadFactor" "F" (.float loadFactor_o0) ∧ Fld Z h o0 "java/util/HashMap" "table" "[Ljava/util/HashMap$Node;" (.ref b4_2_2) ∧ Fld Z h o0 "java/util/HashMap" "threshold" "I" (.int (12 : Int32)) ∧ Fld Z h o0 "java/util/HashMap" "modCount" "I" (.int (1 : Int32)) ∧ Fld Z h o0 "java/util/HashMap" "size" "I" (.int (1 : Int32)) ∧ Exa Z h b4_2_2 "[Ljava/util/HashMap$Node;" ∧ Ary (ovO Z "java/util/HashMap$Node") Z h b4_2_2 (.object "java/util/HashMap$Node") ((List.replicate 16 Value.null).set ix (.ref b1_3_2)) ∧ Exa Z h b1_3_2 "java/util/HashMap$Node" ∧ Fld Z h b1_3_2 "java/util/HashMap$Node" "hash" "I" (.int kk) ∧ Fld Z h b1_3_2 "java/util/HashMap$Node" "key" "Ljava/lang/Object;" (.ref o1) ∧ Fld Z h b1_3_2 "java/util/HashMap$Node" "value" "Ljava/lang/Object;" (.ref o2) ∧ Fld Z h b1_3_2 "java/util/HashMap$Node" "next" "Ljava/util/HashMap$Node;" .null
theorem rm16f (l : Launch) (Z : State) (a0 : Array Value) (hw : ∀ d ∈ tables_1, d.before a0 Z = true) (ws : List Jvm.Cond) (o0 : Addr) (o1 : Addr) (o2 : Addr) (loadFactor_o0 : UInt32) (st_COMPACT_STRINGS : Int32) (by0 : Int32) (value_o1 : Addr) (hh : Int32) (kk : Int32) (ix : Nat) (h0 : Heap) (n0 : Nat) (Z0 : n0 ≤ h0.size) (F_o0_loadFactor : Fld Z h0 o0 "java/util/HashMap" "loadFactor" "F" (.float loadFactor_o0)) (F_o0_table : Fld Z h0 o0 "java/util/HashMap" "table" "[Ljava/util/HashMap$Node;" .null) (F_o0_threshold : Fld Z h0 o0 "java/util/HashMap" "threshold" "I" (.int (0 : Int32))) (F_o0_modCount : Fld Z h0 o0 "java/util/HashMap" "modCount" "I" (.int (0 : Int32))) (F_o0_size : Fld Z h0 o0 "java/util/HashMap" "size" "I" (.int (0 : Int32))) (S_COMPACT_STRINGS : Sta Z h0 "java/lang/String" "COMPACT_STRINGS" "Z" (.int st_COMPACT_STRINGS)) (hcs : (¬ (st_COMPACT_STRINGS = 0))) (E_o1 : Exa Z h0 o1 "java/lang/String") (F_o1_hash : Fld Z h0 o1 "java/lang/String" "hash" "I" (.int (0 : Int32))) (F_o1_hashIsZero : Fld Z h0 o1 "java/lang/String" "hashIsZero" "Z" (.int (0 : Int32))) (F_o1_coder : Fld Z h0 o1 "java/lang/String" "coder" "B" (.int (0 : Int32))) (F_o1_value : Fld Z h0 o1 "java/lang/String" "value" "[B" (.ref value_o1)) (V_value_o1 : Ary tr Z h0 value_o1 .byte [(.int by0)]) (ne_value_o1_o1 : value_o1 ≠ o1) (hhh : ((by0 &&& (255 : Int32)) = hh)) (hhz : (¬ (hh = 0))) (hkk : ((hh ^^^ (hh.toUInt32 >>> ((16 : Int32) &&& 31).toUInt32).toInt32) = kk)) (hj0 : (¬ (((15 : Int32) &&& kk) < 0))) (hjn : (((15 : Int32) &&& kk).toNatClampNeg = ix)) (hil : (ix < 16)) (E_o0 : Exa Z h0 o0 "java/util/HashMap") (g_o1 : n0 ≤ o1) (ne_o0_o1 : o0 ≠ o1) (g_o0 : n0 ≤ o0) (ne_value_o1_o0 : value_o1 ≠ o0) :
    MetFree l (⟨"java/util/HashMap", "put", "(Ljava/lang/Object;Ljava/lang/Object;)Ljava/lang/Object;"⟩ : MethodName) (head1 (Jvm.Cond.code (⟨"java/util/HashMap", "put", "(Ljava/lang/Object;Ljava/lang/Object;)Ljava/lang/Object;"⟩ : MethodName) jdk_69_method_15_code 3 (some (.object "java/lang/Object")) :: ws) ({ frames := 4, cells := 2, slots := 20, locals := 71 } : Room)) (fun a U => a = #[(.ref o0), (.ref o1), (.ref o2)] ∧ Z.Warmed39 U.vm ∧ U.heap = h0) (fun _ _ _ _ _ => True) (fun _ U o U' => ∃ v L, o = .returned v ∧ Q16f Z o0 o1 o2 loadFactor_o0 st_COMPACT_STRINGS by0 value_o1 hh kk ix h0 n0 v U'.heap L ∧ FrameEnd U o U' L ({ frames := 4, cells := 2, slots := 20, locals := 71 } : Room).cells ({ frames := 4, cells := 2, slots := 20, locals := 71 } : Room).slots) := by
  refine MetFree.of_bodySF (plainFor_of_name pn_java_util_HashMap) hisR ?_
  intro p e s m args below meth c s₁ Bd hml0 hP hK
  obtain ⟨rfl, hZ, hhp⟩ := hP
  have hx := Bd.exec
  have hby := Bd.bytes
  have hml : c.maxLocals = 3 := hml0
  have hown : s.vm.findClass "java/util/HashMap" = some m.cls := findClass_of_methodNamed Bd.named
  have hnm := (name_of_methodNamed Bd.named Bd.method).1
  have X0 : Stand p l e ({ frames := 4, cells := 2, slots := 20, locals := 71 } : Room) s m #[(.ref o0), (.ref o1), (.ref o2)] below meth c s₁ [] 0 0 := Stand.of_body Bd
  have eH0 : s₁.heap = h0 := by rw [← hhp, Bd.state]; rfl
  have N0 := Fr.nil n0
  have K0 := Keep.refl h0 [o1, o0]
  show Gt p.tables e below (fun o U' => ∃ v L, o = .returned v ∧ Q16f Z o0 o1 o2 loadFactor_o0 st_COMPACT_STRINGS by0 value_o1 hh kk ix h0 n0 v U'.heap L ∧ FrameEnd s o U' L ({ frames := 4, cells := 2, slots := 20, locals := 71 } : Room).cells ({ frames := 4, cells := 2, slots := 20, locals := 71 } : Room).slots) _
  refine own_cast (ef16f m o0 o1 o2) ?_
  refine own_aloadN X0 hx hby rfl rfl d16_0 (pc' := 1) rfl ?_
  refine own_aloadN X0 hx hby rfl rfl d16_1 (pc' := 2) rfl ?_
  refine own_static X0 hx hby hZ (y := (⟨"java/util/HashMap", "hash", "(Ljava/lang/Object;)I"⟩ : MethodName)) (rest := [(.ref o0)]) hown (hw _ (mi 103 rfl)) (hw _ (mi 104 rfl)) (hw _ (mi 105 rfl)) (hw _ (mi 51 rfl)) (by decide) (rm17 l Z a0 hw [] o1 st_COMPACT_STRINGS by0 value_o1 hh kk h0 n0 Z0 S_COMPACT_STRINGS hcs E_o1 F_o1_hash F_o1_hashIsZero F_o1_coder F_o1_value V_value_o1 ne_value_o1_o1 hhh hhz hkk g_o1) eH0 (by rw [hml]; rfl) (argsL := [(.ref o1)]) rfl (lenOf pd_11 rfl) rfl d16_2 (pc' := 5) rfl (by decide) (W := 1) (Nat.le_of_eq rfl) (by decide) (by decide) (by decide) (fun T1 h1 Lc1 v1r X1 eH1 hQ1 => ?_)
  obtain ⟨rfl, Nq1, Kq1, gq1_0, gq1_1, gq1_2, gq1_3, gq1_4⟩ := hQ1
  have N1 := Fr.app N0 Nq1
  replace S_COMPACT_STRINGS := own_skn S_COMPACT_STRINGS Kq1 (own_skS E_o1 own_sk0)
  replace E_o0 := E_o0.keep Kq1
  replace F_o0_loadFactor := F_o0_loadFactor.keep Kq1 (ninS ne_o0_o1 nin0)
  replace F_o0_table := F_o0_table.keep Kq1 (ninS ne_o0_o1 nin0)
  replace F_o0_threshold := F_o0_threshold.keep Kq1 (ninS ne_o0_o1 nin0)
  replace F_o0_modCount := F_o0_modCount.keep Kq1 (ninS ne_o0_o1 nin0)
  replace F_o0_size := F_o0_size.keep Kq1 (ninS ne_o0_o1 nin0)
  replace E_o1 := E_o1.keep Kq1
  replace V_value_o1 := V_value_o1.keep Kq1 (ninS ne_value_o1_o1 nin0)
  replace K0 := K0.trans Kq1 (allS (Or.inl (by simp)) all0)
  have E_o1 := gq1_0
  have F_o1_value := gq1_1
  have F_o1_coder := gq1_2
  have F_o1_hash := gq1_3
  have F_o1_hashIsZero := gq1_4
  replace Z0 := Nat.le_trans Z0 Kq1.1
  refine own_aloadN X1 hx hby rfl rfl d16_5 (pc' := 6) rfl ?_
  refine own_aloadN X1 hx hby rfl rfl d16_6 (pc' := 7) rfl ?_
  refine own_iconst X1 hx hby (v := (0 : Int32)) (by decide) d16_7 (pc' := 8) rfl ?_
  refine own_iconst X1 hx hby (v := (1 : Int32)) (by decide) d16_8 (pc' := 9) rfl ?_
  refine own_virtual X1 hx hby hZ (y := (⟨"java/util/HashMap", "putVal", "(ILjava/lang/Object;Ljava/lang/Object;ZZ)Ljava/lang/Object;"⟩ : MethodName)) (y' := (⟨"java/util/HashMap", "putVal", "(ILjava/lang/Object;Ljava/lang/Object;ZZ)Ljava/lang/Object;"⟩ : MethodName)) (C := "java/util/HashMap") (rest := []) hown (hw _ (mi 124 rfl)) (hw _ (mi 125 rfl)) (notFace_of_selects (args := #[]) (mvT hZ (hw _ (mi 127 rfl)))) (hw _ (mi 127 rfl)) (hw _ (mi 126 rfl)) (hw _ (mi 128 rfl)) (hw _ (mi 51 rfl)) (by decide) (rm21f l Z a0 hw [] o0 kk o1 o2 loadFactor_o0 ix h1 n0 Z0 F_o0_loadFactor F_o0_table F_o0_threshold F_o0_modCount F_o0_size hj0 hjn hil E_o0 g_o0) eH1 (by rw [hml]; rfl) (a := o0) E_o0 (argsL := [(.int kk), (.ref o1), (.ref o2), (.int (0 : Int32)), (.int (1 : Int32))]) rfl (lenOf pd_12 rfl) rfl d16_9 (pc' := 12) rfl (by decide) (W := 0) (Nat.le_of_eq rfl) (by decide) (by decide) (by decide) (fun T2 h2 Lc2 v2r X2 eH2 hQ2 => ?_)
  obtain ⟨b4_2_2, b1_3_2, rfl, Nq2, Kq2, gq2_0, gq2_1, gq2_2, gq2_3, gq2_4, gq2_5, gq2_6, gq2_7, gq2_8, gq2_9, gq2_10, gq2_11, gq2_12, gq2_13, gq2_14, gq2_15⟩ := hQ2
  have N2 := Fr.app N1 Nq2
  have g_b4_2_2 : n0 ≤ b4_2_2 := Nat.le_trans Z0 gq2_0
  have sz_b4_2_2 : h0.size ≤ b4_2_2 := Nat.le_trans K0.1 gq2_0
  have ne_o0_b4_2_2 : o0 ≠ b4_2_2 := Nat.ne_of_lt (Nat.lt_of_lt_of_le E_o0.lt gq2_0)
  have ne_o1_b4_2_2 : o1 ≠ b4_2_2 := Nat.ne_of_lt (Nat.lt_of_lt_of_le E_o1.lt gq2_0)
  have ne_value_o1_b4_2_2 : value_o1 ≠ b4_2_2 := Nat.ne_of_lt (Nat.lt_of_lt_of_le V_value_o1.lt gq2_0)
  have g_b1_3_2 : n0 ≤ b1_3_2 := Nat.le_trans Z0 gq2_1
  have sz_b1_3_2 : h0.size ≤ b1_3_2 := Nat.le_trans K0.1 gq2_1
  have ne_o0_b1_3_2 : o0 ≠ b1_3_2 := Nat.ne_of_lt (Nat.lt_of_lt_of_le E_o0.lt gq2_1)
  have ne_o1_b1_3_2 : o1 ≠ b1_3_2 := Nat.ne_of_lt (Nat.lt_of_lt_of_le E_o1.lt gq2_1)
  have ne_value_o1_b1_3_2 : value_o1 ≠ b1_3_2 := Nat.ne_of_lt (Nat.lt_of_lt_of_le V_value_o1.lt gq2_1)
  replace S_COMPACT_STRINGS := own_skn S_COMPACT_STRINGS Kq2 (own_skS E_o0 own_sk0)
  replace E_o0 := E_o0.keep Kq2
  replace E_o1 := E_o1.keep Kq2
  replace F_o1_value := F_o1_value.keep Kq2 (ninS (Ne.symm ne_o0_o1) nin0)
  replace F_o1_coder := F_o1_coder.keep Kq2 (ninS (Ne.symm ne_o0_o1) nin0)
  replace F_o1_hash := F_o1_hash.keep Kq2 (ninS (Ne.symm ne_o0_o1) nin0)
  replace F_o1_hashIsZero := F_o1_hashIsZero.keep Kq2 (ninS (Ne.symm ne_o0_o1) nin0)
  replace V_value_o1 := V_value_o1.keep Kq2 (ninS ne_value_o1_o0 nin0)
  replace K0 := K0.trans Kq2 (allS (Or.inl (by simp)) all0)
  have ne_b4_2_2_b1_3_2 := gq2_2
  have E_o0 := gq2_3
  have F_o0_loadFactor := gq2_4
  have F_o0_table := gq2_5
  have F_o0_threshold := gq2_6
  have F_o0_modCount := gq2_7
  have F_o0_size := gq2_8
  have E_b4_2_2 := gq2_9
  have V_b4_2_2 := gq2_10
  have E_b1_3_2 := gq2_11
  have F_b1_3_2_hash := gq2_12
  have F_b1_3_2_key := gq2_13
  have F_b1_3_2_value := gq2_14
  have F_b1_3_2_next := gq2_15
  replace Z0 := Nat.le_trans Z0 Kq2.1
  exact own_retA X2 hx hby Bd.notSynchronized Bd.returns rfl rfl d16_12 (by decide) (by decide) eH2 ⟨b4_2_2, b1_3_2, rfl, N2, K0, sz_b4_2_2, sz_b1_3_2, ne_b4_2_2_b1_3_2, E_o1, F_o1_value, F_o1_coder, F_o1_hash, F_o1_hashIsZero, E_o0, F_o0_loadFactor, F_o0_table, F_o0_threshold, F_o0_modCount, F_o0_size, E_b4_2_2, V_b4_2_2, E_b1_3_2, F_b1_3_2_hash, F_b1_3_2_key, F_b1_3_2_value, F_b1_3_2_next⟩
theorem ef16 (m : MethodId) (x0 : Addr) (x1 : Addr) (x2 : Addr) : entryFrame m #[(.ref x0), (.ref x1), (.ref x2)] 3 = mkF m 0 #[.val (.ref x0), .val (.ref x1), .val (.ref x2)] [] := by first | (simp [entryFrame, mkF, argsToLocals, Value.category]; done) | rfl
def Q16 (Z : State) (o0 : Addr) (o1 : Addr) (o2 : Addr) (loadFactor_o0 : UInt32) (table_o0 : Addr) (modCount_o0 : Int32) (size_o0 : Int32) (st_COMPACT_STRINGS : Int32) (by0 : Int32) (value_o1 : Addr) (hh : Int32) (kk : Int32) (ix : Nat) (tl : List Value) (h0 : Heap) (n0 : Nat) (v : Option Value) (h : Heap) (L : List Loc) : Prop := ∃ b1_2_2 : Addr, v = some .null ∧ Fr n0 L ∧ Keep h0 h [o1, o0, table_o0] ∧ h0.size ≤ b1_2_2 ∧ Exa Z h o1 "java/lang/String" ∧ Fld Z h o1 "java/lang/String" "value" "[B" (.ref value_o1) ∧ Fld Z h o1 "java/lang/String" "coder" "B" (.int (0 : Int32)) ∧ Fld Z h o1 "java/lang/String" "hash" "I" (.int hh) ∧ Fld Z h o1 "java/lang/String" "hashIsZero" "Z" (.int (0 : Int32)) ∧ Exa Z h o0 "java/util/HashMap" ∧ Fld Z h o0 "java/util/HashMap" "loadFactor" "F" (.float loadFactor_o0) ∧ Fld Z h o0 "java/util/HashMap" "table" "[Ljava/util/HashMap$Node;" (.ref table_o0) ∧ Fld Z h o0 "java/util/HashMap" "threshold" "I" (.int (12 : Int32)) ∧ Fld Z h o0 "java/util/HashMap" "modCount" "I" (.int (modCount_o0 + (1 : Int32))) ∧ Fld Z h o0 "java/util/HashMap" "size" "I" (.int (size_o0 + (1 : Int32))) ∧ Exa Z h table_o0 "[Ljava/util/HashMap$Node;" ∧ Ary (ovO Z "java/util/HashMap$Node") Z h table_o0 (.object "java/util/HashMap$Node") (tl.set ix (.ref b1_2_2)) ∧ Exa Z h b1_2_2 "java/util/HashMap$Node" ∧ Fld Z h b1_2_2 "java/util/HashMap$Node" "hash" "I" (.int kk) ∧ Fld Z h b1_2_2 "java/util/HashMap$Node" "key" "Ljava/lang/Object;" (.ref o1) ∧ Fld Z h b1_2_2 "java/util/HashMap$Node" "value" "Ljava/lang/Object;" (.ref o2) ∧ Fld Z h b1_2_2 "java/util/HashMap$Node" "next" "Ljava/util/HashMap$Node;" .null
theorem rm16 (l : Launch) (Z : State) (a0 : Array Value) (hw : ∀ d ∈ tables_1, d.before a0 Z = true) (ws : List Jvm.Cond) (o0 : Addr) (o1 : Addr) (o2 : Addr) (loadFactor_o0 : UInt32) (table_o0 : Addr) (modCount_o0 : Int32) (size_o0 : Int32) (st_COMPACT_STRINGS : Int32) (by0 : Int32) (value_o1 : Addr) (hh : Int32) (kk : Int32) (ix : Nat) (tl : List Value) (h0 : Heap) (n0 : Nat) (Z0 : n0 ≤ h0.size) (F_o0_loadFactor : Fld Z h0 o0 "java/util/HashMap" "loadFactor" "F" (.float loadFactor_o0)) (F_o0_table : Fld Z h0 o0 "java/util/HashMap" "table" "[Ljava/util/HashMap$Node;" (.ref table_o0)) (F_o0_threshold : Fld Z h0 o0 "java/util/HashMap" "threshold" "I" (.int (12 : Int32))) (F_o0_modCount : Fld Z h0 o0 "java/util/HashMap" "modCount" "I" (.int modCount_o0)) (F_o0_size : Fld Z h0 o0 "java/util/HashMap" "size" "I" (.int size_o0)) (S_COMPACT_STRINGS : Sta Z h0 "java/lang/String" "COMPACT_STRINGS" "Z" (.int st_COMPACT_STRINGS)) (hcs : (¬ (st_COMPACT_STRINGS = 0))) (E_o1 : Exa Z h0 o1 "java/lang/String") (F_o1_hash : Fld Z h0 o1 "java/lang/String" "hash" "I" (.int (0 : Int32))) (F_o1_hashIsZero : Fld Z h0 o1 "java/lang/String" "hashIsZero" "Z" (.int (0 : Int32))) (F_o1_coder : Fld Z h0 o1 "java/lang/String" "coder" "B" (.int (0 : Int32))) (F_o1_value : Fld Z h0 o1 "java/lang/String" "value" "[B" (.ref value_o1)) (V_value_o1 : Ary tr Z h0 value_o1 .byte [(.int by0)]) (ne_value_o1_o1 : value_o1 ≠ o1) (hhh : ((by0 &&& (255 : Int32)) = hh)) (hhz : (¬ (hh = 0))) (hkk : ((hh ^^^ (hh.toUInt32 >>> ((16 : Int32) &&& 31).toUInt32).toInt32) = kk)) (hj0 : (¬ (((15 : Int32) &&& kk) < 0))) (hjn : (((15 : Int32) &&& kk).toNatClampNeg = ix)) (hil : (ix < 16)) (V_table_o0 : Ary (ovO Z "java/util/HashMap$Node") Z h0 table_o0 (.object "java/util/HashMap$Node") tl) (hlt : (tl.length = 16)) (hti : (tl[ix]? = some .null)) (hsz : (¬ ((12 : Int32) < (size_o0 + (1 : Int32))))) (E_o0 : Exa Z h0 o0 "java/util/HashMap") (E_table_o0 : Exa Z h0 table_o0 "[Ljava/util/HashMap$Node;") (g_o1 : n0 ≤ o1) (ne_o0_o1 : o0 ≠ o1) (ne_table_o0_o1 : table_o0 ≠ o1) (g_table_o0 : n0 ≤ table_o0) (ne_o0_table_o0 : o0 ≠ table_o0) (g_o0 : n0 ≤ o0) (ne_value_o1_o0 : value_o1 ≠ o0) (ne_value_o1_table_o0 : value_o1 ≠ table_o0) :
    MetFree l (⟨"java/util/HashMap", "put", "(Ljava/lang/Object;Ljava/lang/Object;)Ljava/lang/Object;"⟩ : MethodName) (head1 (Jvm.Cond.code (⟨"java/util/HashMap", "put", "(Ljava/lang/Object;Ljava/lang/Object;)Ljava/lang/Object;"⟩ : MethodName) jdk_69_method_15_code 3 (some (.object "java/lang/Object")) :: ws) ({ frames := 4, cells := 1, slots := 4, locals := 71 } : Room)) (fun a U => a = #[(.ref o0), (.ref o1), (.ref o2)] ∧ Z.Warmed39 U.vm ∧ U.heap = h0) (fun _ _ _ _ _ => True) (fun _ U o U' => ∃ v L, o = .returned v ∧ Q16 Z o0 o1 o2 loadFactor_o0 table_o0 modCount_o0 size_o0 st_COMPACT_STRINGS by0 value_o1 hh kk ix tl h0 n0 v U'.heap L ∧ FrameEnd U o U' L ({ frames := 4, cells := 1, slots := 4, locals := 71 } : Room).cells ({ frames := 4, cells := 1, slots := 4, locals := 71 } : Room).slots) := by
  refine MetFree.of_bodySF (plainFor_of_name pn_java_util_HashMap) hisR ?_
  intro p e s m args below meth c s₁ Bd hml0 hP hK
  obtain ⟨rfl, hZ, hhp⟩ := hP
  have hx := Bd.exec
  have hby := Bd.bytes
  have hml : c.maxLocals = 3 := hml0
  have hown : s.vm.findClass "java/util/HashMap" = some m.cls := findClass_of_methodNamed Bd.named
  have hnm := (name_of_methodNamed Bd.named Bd.method).1
  have X0 : Stand p l e ({ frames := 4, cells := 1, slots := 4, locals := 71 } : Room) s m #[(.ref o0), (.ref o1), (.ref o2)] below meth c s₁ [] 0 0 := Stand.of_body Bd
  have eH0 : s₁.heap = h0 := by rw [← hhp, Bd.state]; rfl
  have N0 := Fr.nil n0
  have K0 := Keep.refl h0 [o1, o0, table_o0]
  show Gt p.tables e below (fun o U' => ∃ v L, o = .returned v ∧ Q16 Z o0 o1 o2 loadFactor_o0 table_o0 modCount_o0 size_o0 st_COMPACT_STRINGS by0 value_o1 hh kk ix tl h0 n0 v U'.heap L ∧ FrameEnd s o U' L ({ frames := 4, cells := 1, slots := 4, locals := 71 } : Room).cells ({ frames := 4, cells := 1, slots := 4, locals := 71 } : Room).slots) _
  refine own_cast (ef16 m o0 o1 o2) ?_
  refine own_aloadN X0 hx hby rfl rfl d16_0 (pc' := 1) rfl ?_
  refine own_aloadN X0 hx hby rfl rfl d16_1 (pc' := 2) rfl ?_
  refine own_static X0 hx hby hZ (y := (⟨"java/util/HashMap", "hash", "(Ljava/lang/Object;)I"⟩ : MethodName)) (rest := [(.ref o0)]) hown (hw _ (mi 103 rfl)) (hw _ (mi 104 rfl)) (hw _ (mi 105 rfl)) (hw _ (mi 51 rfl)) (by decide) (rm17 l Z a0 hw [] o1 st_COMPACT_STRINGS by0 value_o1 hh kk h0 n0 Z0 S_COMPACT_STRINGS hcs E_o1 F_o1_hash F_o1_hashIsZero F_o1_coder F_o1_value V_value_o1 ne_value_o1_o1 hhh hhz hkk g_o1) eH0 (by rw [hml]; rfl) (argsL := [(.ref o1)]) rfl (lenOf pd_11 rfl) rfl d16_2 (pc' := 5) rfl (by decide) (W := 1) (Nat.le_of_eq rfl) (by decide) (by decide) (by decide) (fun T1 h1 Lc1 v1r X1 eH1 hQ1 => ?_)
  obtain ⟨rfl, Nq1, Kq1, gq1_0, gq1_1, gq1_2, gq1_3, gq1_4⟩ := hQ1
  have N1 := Fr.app N0 Nq1
  replace S_COMPACT_STRINGS := own_skn S_COMPACT_STRINGS Kq1 (own_skS E_o1 own_sk0)
  replace E_o0 := E_o0.keep Kq1
  replace F_o0_loadFactor := F_o0_loadFactor.keep Kq1 (ninS ne_o0_o1 nin0)
  replace F_o0_table := F_o0_table.keep Kq1 (ninS ne_o0_o1 nin0)
  replace F_o0_threshold := F_o0_threshold.keep Kq1 (ninS ne_o0_o1 nin0)
  replace F_o0_modCount := F_o0_modCount.keep Kq1 (ninS ne_o0_o1 nin0)
  replace F_o0_size := F_o0_size.keep Kq1 (ninS ne_o0_o1 nin0)
  replace E_o1 := E_o1.keep Kq1
  replace E_table_o0 := E_table_o0.keep Kq1
  replace V_table_o0 := V_table_o0.keep Kq1 (ninS ne_table_o0_o1 nin0)
  replace V_value_o1 := V_value_o1.keep Kq1 (ninS ne_value_o1_o1 nin0)
  replace K0 := K0.trans Kq1 (allS (Or.inl (by simp)) all0)
  have E_o1 := gq1_0
  have F_o1_value := gq1_1
  have F_o1_coder := gq1_2
  have F_o1_hash := gq1_3
  have F_o1_hashIsZero := gq1_4
  replace Z0 := Nat.le_trans Z0 Kq1.1
  refine own_aloadN X1 hx hby rfl rfl d16_5 (pc' := 6) rfl ?_
  refine own_aloadN X1 hx hby rfl rfl d16_6 (pc' := 7) rfl ?_
  refine own_iconst X1 hx hby (v := (0 : Int32)) (by decide) d16_7 (pc' := 8) rfl ?_
  refine own_iconst X1 hx hby (v := (1 : Int32)) (by decide) d16_8 (pc' := 9) rfl ?_
  refine own_virtual X1 hx hby hZ (y := (⟨"java/util/HashMap", "putVal", "(ILjava/lang/Object;Ljava/lang/Object;ZZ)Ljava/lang/Object;"⟩ : MethodName)) (y' := (⟨"java/util/HashMap", "putVal", "(ILjava/lang/Object;Ljava/lang/Object;ZZ)Ljava/lang/Object;"⟩ : MethodName)) (C := "java/util/HashMap") (rest := []) hown (hw _ (mi 124 rfl)) (hw _ (mi 125 rfl)) (notFace_of_selects (args := #[]) (mvT hZ (hw _ (mi 127 rfl)))) (hw _ (mi 127 rfl)) (hw _ (mi 126 rfl)) (hw _ (mi 128 rfl)) (hw _ (mi 51 rfl)) (by decide) (rm21 l Z a0 hw [] o0 kk o1 o2 loadFactor_o0 table_o0 modCount_o0 size_o0 ix tl h1 n0 Z0 F_o0_loadFactor F_o0_table F_o0_threshold F_o0_modCount F_o0_size hj0 hjn hil V_table_o0 hlt hti E_o0 g_table_o0 ne_o0_table_o0 g_o0 hsz) eH1 (by rw [hml]; rfl) (a := o0) E_o0 (argsL := [(.int kk), (.ref o1), (.ref o2), (.int (0 : Int32)), (.int (1 : Int32))]) rfl (lenOf pd_12 rfl) rfl d16_9 (pc' := 12) rfl (by decide) (W := 0) (Nat.le_of_eq rfl) (by decide) (by decide) (by decide) (fun T2 h2 Lc2 v2r X2 eH2 hQ2 => ?_)
  obtain ⟨b1_2_2, rfl, Nq2, Kq2, gq2_0, gq2_1, gq2_2, gq2_3, gq2_4, gq2_5, gq2_6, gq2_7, gq2_8, gq2_9, gq2_10, gq2_11, gq2_12⟩ := hQ2
  have N2 := Fr.app N1 Nq2
  have g_b1_2_2 : n0 ≤ b1_2_2 := Nat.le_trans Z0 gq2_0
  have sz_b1_2_2 : h0.size ≤ b1_2_2 := Nat.le_trans K0.1 gq2_0
  have ne_o0_b1_2_2 : o0 ≠ b1_2_2 := Nat.ne_of_lt (Nat.lt_of_lt_of_le E_o0.lt gq2_0)
  have ne_o1_b1_2_2 : o1 ≠ b1_2_2 := Nat.ne_of_lt (Nat.lt_of_lt_of_le E_o1.lt gq2_0)
  have ne_table_o0_b1_2_2 : table_o0 ≠ b1_2_2 := Nat.ne_of_lt (Nat.lt_of_lt_of_le E_table_o0.lt gq2_0)
  have ne_value_o1_b1_2_2 : value_o1 ≠ b1_2_2 := Nat.ne_of_lt (Nat.lt_of_lt_of_le V_value_o1.lt gq2_0)
  replace S_COMPACT_STRINGS := own_skn S_COMPACT_STRINGS Kq2 (own_skS E_table_o0 (own_skS E_o0 own_sk0))
  replace E_o0 := E_o0.keep Kq2
  replace E_o1 := E_o1.keep Kq2
  replace F_o1_value := F_o1_value.keep Kq2 (ninS (Ne.symm ne_table_o0_o1) (ninS (Ne.symm ne_o0_o1) nin0))
  replace F_o1_coder := F_o1_coder.keep Kq2 (ninS (Ne.symm ne_table_o0_o1) (ninS (Ne.symm ne_o0_o1) nin0))
  replace F_o1_hash := F_o1_hash.keep Kq2 (ninS (Ne.symm ne_table_o0_o1) (ninS (Ne.symm ne_o0_o1) nin0))
  replace F_o1_hashIsZero := F_o1_hashIsZero.keep Kq2 (ninS (Ne.symm ne_table_o0_o1) (ninS (Ne.symm ne_o0_o1) nin0))
  replace E_table_o0 := E_table_o0.keep Kq2
  replace V_value_o1 := V_value_o1.keep Kq2 (ninS ne_value_o1_table_o0 (ninS ne_value_o1_o0 nin0))
  replace K0 := K0.trans Kq2 (allS (Or.inl (by simp)) (allS (Or.inl (by simp)) all0))
  have V_table_o0 := gq2_1
  have E_o0 := gq2_2
  have F_o0_loadFactor := gq2_3
  have F_o0_table := gq2_4
  have F_o0_threshold := gq2_5
  have F_o0_modCount := gq2_6
  have F_o0_size := gq2_7
  have E_b1_2_2 := gq2_8
  have F_b1_2_2_hash := gq2_9
  have F_b1_2_2_key := gq2_10
  have F_b1_2_2_value := gq2_11
  have F_b1_2_2_next := gq2_12
  replace Z0 := Nat.le_trans Z0 Kq2.1
  exact own_retA X2 hx hby Bd.notSynchronized Bd.returns rfl rfl d16_12 (by decide) (by decide) eH2 ⟨b1_2_2, rfl, N2, K0, sz_b1_2_2, E_o1, F_o1_value, F_o1_coder, F_o1_hash, F_o1_hashIsZero, E_o0, F_o0_loadFactor, F_o0_table, F_o0_threshold, F_o0_modCount, F_o0_size, E_table_o0, V_table_o0, E_b1_2_2, F_b1_2_2_hash, F_b1_2_2_key, F_b1_2_2_value, F_b1_2_2_next⟩
theorem ef15f (m : MethodId) (x0 : Addr) (x1 : Addr) : entryFrame m #[(.ref x0), (.ref x1)] 2 = mkF m 0 #[.val (.ref x0), .val (.ref x1)] [] := by first | (simp [entryFrame, mkF, argsToLocals, Value.category]; done) | rfl
def Q15f (Z : State) (o0 : Addr) (o1 : Addr) (map_o0 : Addr) (st_COMPACT_STRINGS : Int32) (loadFactor_map_o0 : UInt32) (by0 : Int32) (value_o1 : Addr) (hh : Int32) (kk : Int32) (ix : Nat) (st_PRESENT : Addr) (h0 : Heap) (n0 : Nat) (v : Option Value) (h : Heap) (L : List Loc) : Prop := ∃ b4_2_2_3 b1_3_2_3 : Addr, v = some (.int (1 : Int32)) ∧ Fr n0 L ∧ Keep h0 h [map_o0, o1] ∧ h0.size ≤ b4_2_2_3 ∧ h0.size ≤ b1_3_2_3 ∧ b4_2_2_3 ≠ b1_3_2_3 ∧ Exa Z h map_o0 "java/util/HashMap" ∧ Fld Z h map_o0 "java/util/HashMap" "loadFactor" "F" (.float loadFactor_map_o0) ∧ Fld Z h map_o0 "java/util/HashMap" "table" "[Ljava/util/HashMap$Node;" (.ref b4_2_2_3) ∧ Fld Z h map_o0 "java/util/HashMap" "threshold" "I" (.int (12 : Int32)) ∧ Fld Z h map_o0 "java/util/HashMap" "modCount" "I" (.int (1 : Int32)) ∧ Fld Z h map_o0 "java/util/HashMap" "size" "I" (.int (1 : Int32)) ∧ Exa Z h o1 "java/lang/String" ∧ Fld Z h o1 "java/lang/String" "value" "[B" (.ref value_o1) ∧ Fld Z h o1 "java/lang/String" "coder" "B" (.int (0 : Int32)) ∧ Fld Z h o1 "java/lang/String" "hash" "I" (.int hh) ∧ Fld Z h o1 "java/lang/String" "hashIsZero" "Z" (.int (0 : Int32)) ∧ Exa Z h b4_2_2_3 "[Ljava/util/HashMap$Node;" ∧ Ary (ovO Z "java/util/HashMap$Node") Z h b4_2_2_3 (.object "java/util/HashMap$Node") ((List.replicate 16 Value.null).set ix (.ref b1_3_2_3)) ∧ Exa Z h b1_3_2_3 "java/util/HashMap$Node" ∧ Fld Z h b1_3_2_3 "java/util/HashMap$Node" "hash" "I" (.int kk) ∧ Fld Z h b1_3_2_3 "java/util/HashMap$Node" "key" "Ljava/lang/Object;" (.ref o1) ∧ Fld Z h b1_3_2_3 "java/util/HashMap$Node" "value" "Ljava/lang/Object;" (.ref st_PRESENT) ∧ Fld Z h b1_3_2_3 "java/util/HashMap$Node" "next" "Ljava/util/HashMap$Node;" .null
theorem rm15f (l : Launch) (Z : State) (a0 : Array Value) (hw : ∀ d ∈ tables_1, d.before a0 Z = true) (ws : List Jvm.Cond) (o0 : Addr) (o1 : Addr) (map_o0 : Addr) (st_COMPACT_STRINGS : Int32) (loadFactor_map_o0 : UInt32) (by0 : Int32) (value_o1 : Addr) (hh : Int32) (kk : Int32) (ix : Nat) (st_PRESENT : Addr) (h0 : Heap) (n0 : Nat) (Z0 : n0 ≤ h0.size) (F_o0_map : Fld Z h0 o0 "java/util/HashSet" "map" "Ljava/util/HashMap;" (.ref map_o0)) (E_map_o0 : Exa Z h0 map_o0 "java/util/HashMap") (S_COMPACT_STRINGS : Sta Z h0 "java/lang/String" "COMPACT_STRINGS" "Z" (.int st_COMPACT_STRINGS)) (hcs : (¬ (st_COMPACT_STRINGS = 0))) (F_map_o0_table : Fld Z h0 map_o0 "java/util/HashMap" "table" "[Ljava/util/HashMap$Node;" .null) (F_map_o0_threshold : Fld Z h0 map_o0 "java/util/HashMap" "threshold" "I" (.int (0 : Int32))) (F_map_o0_size : Fld Z h0 map_o0 "java/util/HashMap" "size" "I" (.int (0 : Int32))) (F_map_o0_modCount : Fld Z h0 map_o0 "java/util/HashMap" "modCount" "I" (.int (0 : Int32))) (F_map_o0_loadFactor : Fld Z h0 map_o0 "java/util/HashMap" "loadFactor" "F" (.float loadFactor_map_o0)) (E_o1 : Exa Z h0 o1 "java/lang/String") (F_o1_hash : Fld Z h0 o1 "java/lang/String" "hash" "I" (.int (0 : Int32))) (F_o1_hashIsZero : Fld Z h0 o1 "java/lang/String" "hashIsZero" "Z" (.int (0 : Int32))) (F_o1_coder : Fld Z h0 o1 "java/lang/String" "coder" "B" (.int (0 : Int32))) (F_o1_value : Fld Z h0 o1 "java/lang/String" "value" "[B" (.ref value_o1)) (V_value_o1 : Ary tr Z h0 value_o1 .byte [(.int by0)]) (ne_value_o1_o1 : value_o1 ≠ o1) (hhh : ((by0 &&& (255 : Int32)) = hh)) (hhz : (¬ (hh = 0))) (hkk : ((hh ^^^ (hh.toUInt32 >>> ((16 : Int32) &&& 31).toUInt32).toInt32) = kk)) (hj0 : (¬ (((15 : Int32) &&& kk) < 0))) (hjn : (((15 : Int32) &&& kk).toNatClampNeg = ix)) (hil : (ix < 16)) (S_PRESENT : Sta Z h0 "java/util/HashSet" "PRESENT" "Ljava/lang/Object;" (.ref st_PRESENT)) (g_o1 : n0 ≤ o1) (ne_map_o0_o1 : map_o0 ≠ o1) (g_map_o0 : n0 ≤ map_o0) (ne_value_o1_map_o0 : value_o1 ≠ map_o0) (ne_o0_map_o0 : o0 ≠ map_o0) (ne_o0_o1 : o0 ≠ o1) :
    MetFree l (⟨"java/util/HashSet", "add", "(Ljava/lang/Object;)Z"⟩ : MethodName) (head1 (Jvm.Cond.code (⟨"java/util/HashSet", "add", "(Ljava/lang/Object;)Z"⟩ : MethodName) jdk_93_method_10_code 2 (some .boolean) :: ws) ({ frames := 5, cells := 2, slots := 20, locals := 85 } : Room)) (fun a U => a = #[(.ref o0), (.ref o1)] ∧ Z.Warmed39 U.vm ∧ U.heap = h0) (fun _ _ _ _ _ => True) (fun _ U o U' => ∃ v L, o = .returned v ∧ Q15f Z o0 o1 map_o0 st_COMPACT_STRINGS loadFactor_map_o0 by0 value_o1 hh kk ix st_PRESENT h0 n0 v U'.heap L ∧ FrameEnd U o U' L ({ frames := 5, cells := 2, slots := 20, locals := 85 } : Room).cells ({ frames := 5, cells := 2, slots := 20, locals := 85 } : Room).slots) := by
  refine MetFree.of_bodySF (plainFor_of_name pn_java_util_HashSet) hisR ?_
  intro p e s m args below meth c s₁ Bd hml0 hP hK
  obtain ⟨rfl, hZ, hhp⟩ := hP
  have hx := Bd.exec
  have hby := Bd.bytes
  have hml : c.maxLocals = 2 := hml0
  have hown : s.vm.findClass "java/util/HashSet" = some m.cls := findClass_of_methodNamed Bd.named
  have hnm := (name_of_methodNamed Bd.named Bd.method).1
  have X0 : Stand p l e ({ frames := 5, cells := 2, slots := 20, locals := 85 } : Room) s m #[(.ref o0), (.ref o1)] below meth c s₁ [] 0 0 := Stand.of_body Bd
  have eH0 : s₁.heap = h0 := by rw [← hhp, Bd.state]; rfl
  have N0 := Fr.nil n0
  have K0 := Keep.refl h0 [map_o0, o1]
  show Gt p.tables e below (fun o U' => ∃ v L, o = .returned v ∧ Q15f Z o0 o1 map_o0 st_COMPACT_STRINGS loadFactor_map_o0 by0 value_o1 hh kk ix st_PRESENT h0 n0 v U'.heap L ∧ FrameEnd s o U' L ({ frames := 5, cells := 2, slots := 20, locals := 85 } : Room).cells ({ frames := 5, cells := 2, slots := 20, locals := 85 } : Room).slots) _
  refine own_cast (ef15f m o0 o1) ?_
  refine own_aloadN X0 hx hby rfl rfl d15_0 (pc' := 1) rfl ?_
  refine own_getF X0 hx hby hZ hown (host := "") (Or.inl (hw _ (mi 66 rfl))) Via.refl eH0 F_o0_map d15_1 (pc' := 4) rfl (fun T1 X1 eH1 => ?_)
  refine own_aloadN X1 hx hby rfl rfl d15_4 (pc' := 5) rfl ?_
  refine own_getS X1 hx hby hZ hown (host := "") (Or.inl (hw _ (mi 97 rfl))) Via.refl eH1 S_PRESENT d15_5 (pc' := 8) rfl (fun T2 X2 eH2 => ?_)
  refine own_virtual X2 hx hby hZ (y := (⟨"java/util/HashMap", "put", "(Ljava/lang/Object;Ljava/lang/Object;)Ljava/lang/Object;"⟩ : MethodName)) (y' := (⟨"java/util/HashMap", "put", "(Ljava/lang/Object;Ljava/lang/Object;)Ljava/lang/Object;"⟩ : MethodName)) (C := "java/util/HashMap") (rest := []) hown (hw _ (mi 98 rfl)) (hw _ (mi 99 rfl)) (notFace_of_selects (args := #[]) (mvT hZ (hw _ (mi 101 rfl)))) (hw _ (mi 101 rfl)) (hw _ (mi 100 rfl)) (hw _ (mi 102 rfl)) (hw _ (mi 51 rfl)) (by decide) (rm16f l Z a0 hw [] map_o0 o1 st_PRESENT loadFactor_map_o0 st_COMPACT_STRINGS by0 value_o1 hh kk ix h0 n0 Z0 F_map_o0_loadFactor F_map_o0_table F_map_o0_threshold F_map_o0_modCount F_map_o0_size S_COMPACT_STRINGS hcs E_o1 F_o1_hash F_o1_hashIsZero F_o1_coder F_o1_value V_value_o1 ne_value_o1_o1 hhh hhz hkk hj0 hjn hil E_map_o0 g_o1 ne_map_o0_o1 g_map_o0 ne_value_o1_map_o0) eH2 (by rw [hml]; rfl) (a := map_o0) E_map_o0 (argsL := [(.ref o1), (.ref st_PRESENT)]) rfl (lenOf pd_13 rfl) rfl d15_8 (pc' := 11) rfl (by decide) (W := 0) (Nat.le_of_eq rfl) (by decide) (by decide) (by decide) (fun T3 h3 Lc3 v3r X3 eH3 hQ3 => ?_)
  obtain ⟨b4_2_2_3, b1_3_2_3, rfl, Nq3, Kq3, gq3_0, gq3_1, gq3_2, gq3_3, gq3_4, gq3_5, gq3_6, gq3_7, gq3_8, gq3_9, gq3_10, gq3_11, gq3_12, gq3_13, gq3_14, gq3_15, gq3_16, gq3_17, gq3_18, gq3_19, gq3_20⟩ := hQ3
  have N3 := Fr.app N0 Nq3
  have g_b4_2_2_3 : n0 ≤ b4_2_2_3 := Nat.le_trans Z0 gq3_0
  have sz_b4_2_2_3 : h0.size ≤ b4_2_2_3 := Nat.le_trans K0.1 gq3_0
  have ne_o0_b4_2_2_3 : o0 ≠ b4_2_2_3 := Nat.ne_of_lt (Nat.lt_of_lt_of_le F_o0_map.lt gq3_0)
  have ne_o1_b4_2_2_3 : o1 ≠ b4_2_2_3 := Nat.ne_of_lt (Nat.lt_of_lt_of_le E_o1.lt gq3_0)
  have ne_map_o0_b4_2_2_3 : map_o0 ≠ b4_2_2_3 := Nat.ne_of_lt (Nat.lt_of_lt_of_le E_map_o0.lt gq3_0)
  have ne_value_o1_b4_2_2_3 : value_o1 ≠ b4_2_2_3 := Nat.ne_of_lt (Nat.lt_of_lt_of_le V_value_o1.lt gq3_0)
  have g_b1_3_2_3 : n0 ≤ b1_3_2_3 := Nat.le_trans Z0 gq3_1
  have sz_b1_3_2_3 : h0.size ≤ b1_3_2_3 := Nat.le_trans K0.1 gq3_1
  have ne_o0_b1_3_2_3 : o0 ≠ b1_3_2_3 := Nat.ne_of_lt (Nat.lt_of_lt_of_le F_o0_map.lt gq3_1)
  have ne_o1_b1_3_2_3 : o1 ≠ b1_3_2_3 := Nat.ne_of_lt (Nat.lt_of_lt_of_le E_o1.lt gq3_1)
  have ne_map_o0_b1_3_2_3 : map_o0 ≠ b1_3_2_3 := Nat.ne_of_lt (Nat.lt_of_lt_of_le E_map_o0.lt gq3_1)
  have ne_value_o1_b1_3_2_3 : value_o1 ≠ b1_3_2_3 := Nat.ne_of_lt (Nat.lt_of_lt_of_le V_value_o1.lt gq3_1)
  replace S_COMPACT_STRINGS := own_skn S_COMPACT_STRINGS Kq3 (own_skS E_o1 (own_skS E_map_o0 own_sk0))
  replace S_PRESENT := own_skn S_PRESENT Kq3 (own_skS E_o1 (own_skS E_map_o0 own_sk0))
  replace F_o0_map := F_o0_map.keep Kq3 (ninS ne_o0_o1 (ninS ne_o0_map_o0 nin0))
  replace E_o1 := E_o1.keep Kq3
  replace E_map_o0 := E_map_o0.keep Kq3
  replace V_value_o1 := V_value_o1.keep Kq3 (ninS ne_value_o1_o1 (ninS ne_value_o1_map_o0 nin0))
  replace K0 := K0.trans Kq3 (allS (Or.inl (by simp)) (allS (Or.inl (by simp)) all0))
  have ne_b4_2_2_3_b1_3_2_3 := gq3_2
  have E_o1 := gq3_3
  have F_o1_value := gq3_4
  have F_o1_coder := gq3_5
  have F_o1_hash := gq3_6
  have F_o1_hashIsZero := gq3_7
  have E_map_o0 := gq3_8
  have F_map_o0_loadFactor := gq3_9
  have F_map_o0_table := gq3_10
  have F_map_o0_threshold := gq3_11
  have F_map_o0_modCount := gq3_12
  have F_map_o0_size := gq3_13
  have E_b4_2_2_3 := gq3_14
  have V_b4_2_2_3 := gq3_15
  have E_b1_3_2_3 := gq3_16
  have F_b1_3_2_3_hash := gq3_17
  have F_b1_3_2_3_key := gq3_18
  have F_b1_3_2_3_value := gq3_19
  have F_b1_3_2_3_next := gq3_20
  replace Z0 := Nat.le_trans Z0 Kq3.1
  refine own_ifnonnullF X3 hx hby d15_11 (pc' := 14) rfl ?_
  refine own_iconst X3 hx hby (v := (1 : Int32)) (by decide) d15_14 (pc' := 15) rfl ?_
  refine own_goto X3 hx hby d15_15 (by decide) (pc' := 19) (by decide) ?_
  exact own_retZ X3 hx hby Bd.notSynchronized Bd.returns (Or.inr rfl) d15_19 (by decide) (by decide) eH3 ⟨b4_2_2_3, b1_3_2_3, rfl, N3, K0, sz_b4_2_2_3, sz_b1_3_2_3, ne_b4_2_2_3_b1_3_2_3, E_map_o0, F_map_o0_loadFactor, F_map_o0_table, F_map_o0_threshold, F_map_o0_modCount, F_map_o0_size, E_o1, F_o1_value, F_o1_coder, F_o1_hash, F_o1_hashIsZero, E_b4_2_2_3, V_b4_2_2_3, E_b1_3_2_3, F_b1_3_2_3_hash, F_b1_3_2_3_key, F_b1_3_2_3_value, F_b1_3_2_3_next⟩
theorem ef15 (m : MethodId) (x0 : Addr) (x1 : Addr) : entryFrame m #[(.ref x0), (.ref x1)] 2 = mkF m 0 #[.val (.ref x0), .val (.ref x1)] [] := by first | (simp [entryFrame, mkF, argsToLocals, Value.category]; done) | rfl
def Q15 (Z : State) (o0 : Addr) (o1 : Addr) (map_o0 : Addr) (st_COMPACT_STRINGS : Int32) (table_map_o0 : Addr) (size_map_o0 : Int32) (modCount_map_o0 : Int32) (loadFactor_map_o0 : UInt32) (by0 : Int32) (value_o1 : Addr) (hh : Int32) (kk : Int32) (ix : Nat) (tl : List Value) (st_PRESENT : Addr) (h0 : Heap) (n0 : Nat) (v : Option Value) (h : Heap) (L : List Loc) : Prop := ∃ b1_2_2_3 : Addr, v = some (.int (1 : Int32)) ∧ Fr n0 L ∧ Keep h0 h [table_map_o0, map_o0, o1] ∧ h0.size ≤ b1_2_2_3 ∧ Exa Z h table_map_o0 "[Ljava/util/HashMap$Node;" ∧ Ary (ovO Z "java/util/HashMap$Node") Z h table_map_o0 (.object "java/util/HashMap$Node") (tl.set ix (.ref b1_2_2_3)) ∧ Exa Z h map_o0 "java/util/HashMap" ∧ Fld Z h map_o0 "java/util/HashMap" "loadFactor" "F" (.float loadFactor_map_o0) ∧ Fld Z h map_o0 "java/util/HashMap" "table" "[Ljava/util/HashMap$Node;" (.ref table_map_o0) ∧ Fld Z h map_o0 "java/util/HashMap" "threshold" "I" (.int (12 : Int32)) ∧ Fld Z h map_o0 "java/util/HashMap" "modCount" "I" (.int (modCount_map_o0 + (1 : Int32))) ∧ Fld Z h map_o0 "java/util/HashMap" "size" "I" (.int (size_map_o0 + (1 : Int32))) ∧ Exa Z h o1 "java/lang/String" ∧ Fld Z h o1 "java/lang/String" "value" "[B" (.ref value_o1) ∧ Fld Z h o1 "java/lang/String" "coder" "B" (.int (0 : Int32)) ∧ Fld Z h o1 "java/lang/String" "hash" "I" (.int hh) ∧ Fld Z h o1 "java/lang/String" "hashIsZero" "Z" (.int (0 : Int32)) ∧ Exa Z h b1_2_2_3 "java/util/HashMap$Node" ∧ Fld Z h b1_2_2_3 "java/util/HashMap$Node" "hash" "I" (.int kk) ∧ Fld Z h b1_2_2_3 "java/util/HashMap$Node" "key" "Ljava/lang/Object;" (.ref o1) ∧ Fld Z h b1_2_2_3 "java/util/HashMap$Node" "value" "Ljava/lang/Object;" (.ref st_PRESENT) ∧ Fld Z h b1_2_2_3 "java/util/HashMap$Node" "next" "Ljava/util/HashMap$Node;" .null
theorem rm15 (l : Launch) (Z : State) (a0 : Array Value) (hw : ∀ d ∈ tables_1, d.before a0 Z = true) (ws : List Jvm.Cond) (o0 : Addr) (o1 : Addr) (map_o0 : Addr) (st_COMPACT_STRINGS : Int32) (table_map_o0 : Addr) (size_map_o0 : Int32) (modCount_map_o0 : Int32) (loadFactor_map_o0 : UInt32) (by0 : Int32) (value_o1 : Addr) (hh : Int32) (kk : Int32) (ix : Nat) (tl : List Value) (st_PRESENT : Addr) (h0 : Heap) (n0 : Nat) (Z0 : n0 ≤ h0.size) (F_o0_map : Fld Z h0 o0 "java/util/HashSet" "map" "Ljava/util/HashMap;" (.ref map_o0)) (E_map_o0 : Exa Z h0 map_o0 "java/util/HashMap") (S_COMPACT_STRINGS : Sta Z h0 "java/lang/String" "COMPACT_STRINGS" "Z" (.int st_COMPACT_STRINGS)) (hcs : (¬ (st_COMPACT_STRINGS = 0))) (F_map_o0_table : Fld Z h0 map_o0 "java/util/HashMap" "table" "[Ljava/util/HashMap$Node;" (.ref table_map_o0)) (F_map_o0_threshold : Fld Z h0 map_o0 "java/util/HashMap" "threshold" "I" (.int (12 : Int32))) (F_map_o0_size : Fld Z h0 map_o0 "java/util/HashMap" "size" "I" (.int size_map_o0)) (F_map_o0_modCount : Fld Z h0 map_o0 "java/util/HashMap" "modCount" "I" (.int modCount_map_o0)) (F_map_o0_loadFactor : Fld Z h0 map_o0 "java/util/HashMap" "loadFactor" "F" (.float loadFactor_map_o0)) (E_o1 : Exa Z h0 o1 "java/lang/String") (F_o1_hash : Fld Z h0 o1 "java/lang/String" "hash" "I" (.int (0 : Int32))) (F_o1_hashIsZero : Fld Z h0 o1 "java/lang/String" "hashIsZero" "Z" (.int (0 : Int32))) (F_o1_coder : Fld Z h0 o1 "java/lang/String" "coder" "B" (.int (0 : Int32))) (F_o1_value : Fld Z h0 o1 "java/lang/String" "value" "[B" (.ref value_o1)) (V_value_o1 : Ary tr Z h0 value_o1 .byte [(.int by0)]) (ne_value_o1_o1 : value_o1 ≠ o1) (hhh : ((by0 &&& (255 : Int32)) = hh)) (hhz : (¬ (hh = 0))) (hkk : ((hh ^^^ (hh.toUInt32 >>> ((16 : Int32) &&& 31).toUInt32).toInt32) = kk)) (hj0 : (¬ (((15 : Int32) &&& kk) < 0))) (hjn : (((15 : Int32) &&& kk).toNatClampNeg = ix)) (hil : (ix < 16)) (V_table_map_o0 : Ary (ovO Z "java/util/HashMap$Node") Z h0 table_map_o0 (.object "java/util/HashMap$Node") tl) (hlt : (tl.length = 16)) (hti : (tl[ix]? = some .null)) (hsz : (¬ ((12 : Int32) < (size_map_o0 + (1 : Int32))))) (S_PRESENT : Sta Z h0 "java/util/HashSet" "PRESENT" "Ljava/lang/Object;" (.ref st_PRESENT)) (E_table_map_o0 : Exa Z h0 table_map_o0 "[Ljava/util/HashMap$Node;") (g_o1 : n0 ≤ o1) (ne_map_o0_o1 : map_o0 ≠ o1) (ne_table_map_o0_o1 : table_map_o0 ≠ o1) (g_table_map_o0 : n0 ≤ table_map_o0) (ne_map_o0_table_map_o0 : map_o0 ≠ table_map_o0) (g_map_o0 : n0 ≤ map_o0) (ne_value_o1_map_o0 : value_o1 ≠ map_o0) (ne_value_o1_table_map_o0 : value_o1 ≠ table_map_o0) (ne_o0_table_map_o0 : o0 ≠ table_map_o0) (ne_o0_map_o0 : o0 ≠ map_o0) (ne_o0_o1 : o0 ≠ o1) :
    MetFree l (⟨"java/util/HashSet", "add", "(Ljava/lang/Object;)Z"⟩ : MethodName) (head1 (Jvm.Cond.code (⟨"java/util/HashSet", "add", "(Ljava/lang/Object;)Z"⟩ : MethodName) jdk_93_method_10_code 2 (some .boolean) :: ws) ({ frames := 5, cells := 1, slots := 4, locals := 85 } : Room)) (fun a U => a = #[(.ref o0), (.ref o1)] ∧ Z.Warmed39 U.vm ∧ U.heap = h0) (fun _ _ _ _ _ => True) (fun _ U o U' => ∃ v L, o = .returned v ∧ Q15 Z o0 o1 map_o0 st_COMPACT_STRINGS table_map_o0 size_map_o0 modCount_map_o0 loadFactor_map_o0 by0 value_o1 hh kk ix tl st_PRESENT h0 n0 v U'.heap L ∧ FrameEnd U o U' L ({ frames := 5, cells := 1, slots := 4, locals := 85 } : Room).cells ({ frames := 5, cells := 1, slots := 4, locals := 85 } : Room).slots) := by
  refine MetFree.of_bodySF (plainFor_of_name pn_java_util_HashSet) hisR ?_
  intro p e s m args below meth c s₁ Bd hml0 hP hK
  obtain ⟨rfl, hZ, hhp⟩ := hP
  have hx := Bd.exec
  have hby := Bd.bytes
  have hml : c.maxLocals = 2 := hml0
  have hown : s.vm.findClass "java/util/HashSet" = some m.cls := findClass_of_methodNamed Bd.named
  have hnm := (name_of_methodNamed Bd.named Bd.method).1
  have X0 : Stand p l e ({ frames := 5, cells := 1, slots := 4, locals := 85 } : Room) s m #[(.ref o0), (.ref o1)] below meth c s₁ [] 0 0 := Stand.of_body Bd
  have eH0 : s₁.heap = h0 := by rw [← hhp, Bd.state]; rfl
  have N0 := Fr.nil n0
  have K0 := Keep.refl h0 [table_map_o0, map_o0, o1]
  show Gt p.tables e below (fun o U' => ∃ v L, o = .returned v ∧ Q15 Z o0 o1 map_o0 st_COMPACT_STRINGS table_map_o0 size_map_o0 modCount_map_o0 loadFactor_map_o0 by0 value_o1 hh kk ix tl st_PRESENT h0 n0 v U'.heap L ∧ FrameEnd s o U' L ({ frames := 5, cells := 1, slots := 4, locals := 85 } : Room).cells ({ frames := 5, cells := 1, slots := 4, locals := 85 } : Room).slots) _
  refine own_cast (ef15 m o0 o1) ?_
  refine own_aloadN X0 hx hby rfl rfl d15_0 (pc' := 1) rfl ?_
  refine own_getF X0 hx hby hZ hown (host := "") (Or.inl (hw _ (mi 66 rfl))) Via.refl eH0 F_o0_map d15_1 (pc' := 4) rfl (fun T1 X1 eH1 => ?_)
  refine own_aloadN X1 hx hby rfl rfl d15_4 (pc' := 5) rfl ?_
  refine own_getS X1 hx hby hZ hown (host := "") (Or.inl (hw _ (mi 97 rfl))) Via.refl eH1 S_PRESENT d15_5 (pc' := 8) rfl (fun T2 X2 eH2 => ?_)
  refine own_virtual X2 hx hby hZ (y := (⟨"java/util/HashMap", "put", "(Ljava/lang/Object;Ljava/lang/Object;)Ljava/lang/Object;"⟩ : MethodName)) (y' := (⟨"java/util/HashMap", "put", "(Ljava/lang/Object;Ljava/lang/Object;)Ljava/lang/Object;"⟩ : MethodName)) (C := "java/util/HashMap") (rest := []) hown (hw _ (mi 98 rfl)) (hw _ (mi 99 rfl)) (notFace_of_selects (args := #[]) (mvT hZ (hw _ (mi 101 rfl)))) (hw _ (mi 101 rfl)) (hw _ (mi 100 rfl)) (hw _ (mi 102 rfl)) (hw _ (mi 51 rfl)) (by decide) (rm16 l Z a0 hw [] map_o0 o1 st_PRESENT loadFactor_map_o0 table_map_o0 modCount_map_o0 size_map_o0 st_COMPACT_STRINGS by0 value_o1 hh kk ix tl h0 n0 Z0 F_map_o0_loadFactor F_map_o0_table F_map_o0_threshold F_map_o0_modCount F_map_o0_size S_COMPACT_STRINGS hcs E_o1 F_o1_hash F_o1_hashIsZero F_o1_coder F_o1_value V_value_o1 ne_value_o1_o1 hhh hhz hkk hj0 hjn hil V_table_map_o0 hlt hti hsz E_map_o0 E_table_map_o0 g_o1 ne_map_o0_o1 ne_table_map_o0_o1 g_table_map_o0 ne_map_o0_table_map_o0 g_map_o0 ne_value_o1_map_o0 ne_value_o1_table_map_o0) eH2 (by rw [hml]; rfl) (a := map_o0) E_map_o0 (argsL := [(.ref o1), (.ref st_PRESENT)]) rfl (lenOf pd_13 rfl) rfl d15_8 (pc' := 11) rfl (by decide) (W := 0) (Nat.le_of_eq rfl) (by decide) (by decide) (by decide) (fun T3 h3 Lc3 v3r X3 eH3 hQ3 => ?_)
  obtain ⟨b1_2_2_3, rfl, Nq3, Kq3, gq3_0, gq3_1, gq3_2, gq3_3, gq3_4, gq3_5, gq3_6, gq3_7, gq3_8, gq3_9, gq3_10, gq3_11, gq3_12, gq3_13, gq3_14, gq3_15, gq3_16, gq3_17, gq3_18⟩ := hQ3
  have N3 := Fr.app N0 Nq3
  have g_b1_2_2_3 : n0 ≤ b1_2_2_3 := Nat.le_trans Z0 gq3_0
  have sz_b1_2_2_3 : h0.size ≤ b1_2_2_3 := Nat.le_trans K0.1 gq3_0
  have ne_o0_b1_2_2_3 : o0 ≠ b1_2_2_3 := Nat.ne_of_lt (Nat.lt_of_lt_of_le F_o0_map.lt gq3_0)
  have ne_o1_b1_2_2_3 : o1 ≠ b1_2_2_3 := Nat.ne_of_lt (Nat.lt_of_lt_of_le E_o1.lt gq3_0)
  have ne_map_o0_b1_2_2_3 : map_o0 ≠ b1_2_2_3 := Nat.ne_of_lt (Nat.lt_of_lt_of_le E_map_o0.lt gq3_0)
  have ne_table_map_o0_b1_2_2_3 : table_map_o0 ≠ b1_2_2_3 := Nat.ne_of_lt (Nat.lt_of_lt_of_le E_table_map_o0.lt gq3_0)
  have ne_value_o1_b1_2_2_3 : value_o1 ≠ b1_2_2_3 := Nat.ne_of_lt (Nat.lt_of_lt_of_le V_value_o1.lt gq3_0)
  replace S_COMPACT_STRINGS := own_skn S_COMPACT_STRINGS Kq3 (own_skS E_o1 (own_skS E_map_o0 (own_skS E_table_map_o0 own_sk0)))
  replace S_PRESENT := own_skn S_PRESENT Kq3 (own_skS E_o1 (own_skS E_map_o0 (own_skS E_table_map_o0 own_sk0)))
  replace F_o0_map := F_o0_map.keep Kq3 (ninS ne_o0_o1 (ninS ne_o0_map_o0 (ninS ne_o0_table_map_o0 nin0)))
  replace E_o1 := E_o1.keep Kq3
  replace E_map_o0 := E_map_o0.keep Kq3
  replace E_table_map_o0 := E_table_map_o0.keep Kq3
  replace V_value_o1 := V_value_o1.keep Kq3 (ninS ne_value_o1_o1 (ninS ne_value_o1_map_o0 (ninS ne_value_o1_table_map_o0 nin0)))
  replace K0 := K0.trans Kq3 (allS (Or.inl (by simp)) (allS (Or.inl (by simp)) (allS (Or.inl (by simp)) all0)))
  have E_o1 := gq3_1
  have F_o1_value := gq3_2
  have F_o1_coder := gq3_3
  have F_o1_hash := gq3_4
  have F_o1_hashIsZero := gq3_5
  have E_map_o0 := gq3_6
  have F_map_o0_loadFactor := gq3_7
  have F_map_o0_table := gq3_8
  have F_map_o0_threshold := gq3_9
  have F_map_o0_modCount := gq3_10
  have F_map_o0_size := gq3_11
  have E_table_map_o0 := gq3_12
  have V_table_map_o0 := gq3_13
  have E_b1_2_2_3 := gq3_14
  have F_b1_2_2_3_hash := gq3_15
  have F_b1_2_2_3_key := gq3_16
  have F_b1_2_2_3_value := gq3_17
  have F_b1_2_2_3_next := gq3_18
  replace Z0 := Nat.le_trans Z0 Kq3.1
  refine own_ifnonnullF X3 hx hby d15_11 (pc' := 14) rfl ?_
  refine own_iconst X3 hx hby (v := (1 : Int32)) (by decide) d15_14 (pc' := 15) rfl ?_
  refine own_goto X3 hx hby d15_15 (by decide) (pc' := 19) (by decide) ?_
  exact own_retZ X3 hx hby Bd.notSynchronized Bd.returns (Or.inr rfl) d15_19 (by decide) (by decide) eH3 ⟨b1_2_2_3, rfl, N3, K0, sz_b1_2_2_3, E_table_map_o0, V_table_map_o0, E_map_o0, F_map_o0_loadFactor, F_map_o0_table, F_map_o0_threshold, F_map_o0_modCount, F_map_o0_size, E_o1, F_o1_value, F_o1_coder, F_o1_hash, F_o1_hashIsZero, E_b1_2_2_3, F_b1_2_2_3_hash, F_b1_2_2_3_key, F_b1_2_2_3_value, F_b1_2_2_3_next⟩
theorem ef50 (m : MethodId) (x0 : Addr) (x1 : Addr) : entryFrame m #[(.ref x0), (.ref x1)] 3 = mkF m 0 #[.val (.ref x0), .val (.ref x1), .unset] [] := by first | (simp [entryFrame, mkF, argsToLocals, Value.category]; done) | rfl
def Q50 (Z : State) (o0 : Addr) (o1 : Addr) (by0 : Int32) (h0 : Heap) (n0 : Nat) (v : Option Value) (h : Heap) (L : List Loc) : Prop := v = some (.int (1 : Int32)) ∧ Fr n0 L ∧ h0 = h
theorem rm50 (l : Launch) (Z : State) (a0 : Array Value) (hw : ∀ d ∈ tables_1, d.before a0 Z = true) (ws : List Jvm.Cond) (o0 : Addr) (o1 : Addr) (by0 : Int32) (h0 : Heap) (n0 : Nat) (Z0 : n0 ≤ h0.size) (V_o0 : Ary tr Z h0 o0 .byte [(.int by0)]) (V_o1 : Ary tr Z h0 o1 .byte [(.int by0)]) :
    MetFree l (⟨"java/lang/StringLatin1", "equals", "([B[B)Z"⟩ : MethodName) (head1 (Jvm.Cond.code (⟨"java/lang/StringLatin1", "equals", "([B[B)Z"⟩ : MethodName) jdk_43_method_13_code 3 (some .boolean) :: ws) ({ frames := 0, cells := 0, slots := 0, locals := 0 } : Room)) (fun a U => a = #[(.ref o0), (.ref o1)] ∧ Z.Warmed39 U.vm ∧ U.heap = h0) (fun _ _ _ _ _ => True) (fun _ U o U' => ∃ v L, o = .returned v ∧ Q50 Z o0 o1 by0 h0 n0 v U'.heap L ∧ FrameEnd U o U' L ({ frames := 0, cells := 0, slots := 0, locals := 0 } : Room).cells ({ frames := 0, cells := 0, slots := 0, locals := 0 } : Room).slots) := by
  refine MetFree.of_bodySF (plainFor_of_name pn_java_lang_StringLatin1) hisR ?_
  intro p e s m args below meth c s₁ Bd hml0 hP hK
  obtain ⟨rfl, hZ, hhp⟩ := hP
  have hx := Bd.exec
  have hby := Bd.bytes
  have hml : c.maxLocals = 3 := hml0
  have hown : s.vm.findClass "java/lang/StringLatin1" = some m.cls := findClass_of_methodNamed Bd.named
  have hnm := (name_of_methodNamed Bd.named Bd.method).1
  have X0 : Stand p l e ({ frames := 0, cells := 0, slots := 0, locals := 0 } : Room) s m #[(.ref o0), (.ref o1)] below meth c s₁ [] 0 0 := Stand.of_body Bd
  have eH0 : s₁.heap = h0 := by rw [← hhp, Bd.state]; rfl
  have N0 := Fr.nil n0
  show Gt p.tables e below (fun o U' => ∃ v L, o = .returned v ∧ Q50 Z o0 o1 by0 h0 n0 v U'.heap L ∧ FrameEnd s o U' L ({ frames := 0, cells := 0, slots := 0, locals := 0 } : Room).cells ({ frames := 0, cells := 0, slots := 0, locals := 0 } : Room).slots) _
  refine own_cast (ef50 m o0 o1) ?_
  refine own_aloadN X0 hx hby rfl rfl d50_0 (pc' := 1) rfl ?_
  refine own_alen X0 hx hby hZ eH0 V_o0 (z := (1 : Int32)) (by first | rfl | decide) d50_1 (pc' := 2) rfl ?_
  refine own_aloadN X0 hx hby rfl rfl d50_2 (pc' := 3) rfl ?_
  refine own_alen X0 hx hby hZ eH0 V_o1 (z := (1 : Int32)) (by first | rfl | decide) d50_3 (pc' := 4) rfl ?_
  refine own_icF X0 hx hby d50_4 (by decide) (pc' := 7) rfl ?_
  refine own_iconst X0 hx hby (v := (0 : Int32)) (by decide) d50_7 (pc' := 8) rfl ?_
  refine own_istoreN X0 hx hby (L' := #[.val (.ref o0), .val (.ref o1), .val (.int (0 : Int32))]) rfl d50_8 (pc' := 9) rfl ?_
  refine own_iloadN X0 hx hby rfl d50_9 (pc' := 10) rfl ?_
  refine own_aloadN X0 hx hby rfl rfl d50_10 (pc' := 11) rfl ?_
  refine own_alen X0 hx hby hZ eH0 V_o0 (z := (1 : Int32)) (by first | rfl | decide) d50_11 (pc' := 12) rfl ?_
  refine own_icF X0 hx hby d50_12 (by decide) (pc' := 15) rfl ?_
  refine own_aloadN X0 hx hby rfl rfl d50_15 (pc' := 16) rfl ?_
  refine own_iloadN X0 hx hby rfl d50_16 (pc' := 17) rfl ?_
  refine own_baload X0 hx hby hZ eH0 V_o0 (by decide) (v := (.int by0)) rfl d50_17 (pc' := 18) rfl ?_
  refine own_aloadN X0 hx hby rfl rfl d50_18 (pc' := 19) rfl ?_
  refine own_iloadN X0 hx hby rfl d50_19 (pc' := 20) rfl ?_
  refine own_baload X0 hx hby hZ eH0 V_o1 (by decide) (v := (.int by0)) rfl d50_20 (pc' := 21) rfl ?_
  have hk1 : by0 = by0 := rfl
  refine own_icT X0 hx hby d50_21 (own_ic_eq_p hk1) (by decide) (pc' := 26) (by decide) ?_
  refine own_iinc X0 hx hby rfl (L' := #[.val (.ref o0), .val (.ref o1), .val (.int (1 : Int32))]) rfl d50_26 (pc' := 29) rfl ?_
  refine own_goto X0 hx hby d50_29 (by decide) (pc' := 9) (by decide) ?_
  refine own_iloadN X0 hx hby rfl d50_9 (pc' := 10) rfl ?_
  refine own_aloadN X0 hx hby rfl rfl d50_10 (pc' := 11) rfl ?_
  refine own_alen X0 hx hby hZ eH0 V_o0 (z := (1 : Int32)) (by first | rfl | decide) d50_11 (pc' := 12) rfl ?_
  refine own_icT X0 hx hby d50_12 (by decide) (by decide) (pc' := 32) (by decide) ?_
  refine own_iconst X0 hx hby (v := (1 : Int32)) (by decide) d50_32 (pc' := 33) rfl ?_
  exact own_retZ X0 hx hby Bd.notSynchronized Bd.returns (Or.inr rfl) d50_33 (by decide) (by decide) eH0 ⟨rfl, N0, rfl⟩
theorem ef49 (m : MethodId) (x0 : Addr) (x1 : Addr) : entryFrame m #[(.ref x0), (.ref x1)] 3 = mkF m 0 #[.val (.ref x0), .val (.ref x1), .unset] [] := by first | (simp [entryFrame, mkF, argsToLocals, Value.category]; done) | rfl
def Q49 (Z : State) (o0 : Addr) (o1 : Addr) (st_COMPACT_STRINGS : Int32) (by0 : Int32) (value_o0 : Addr) (value_o1 : Addr) (h0 : Heap) (n0 : Nat) (v : Option Value) (h : Heap) (L : List Loc) : Prop := v = some (.int (1 : Int32)) ∧ Fr n0 L ∧ h0 = h
theorem rm49 (l : Launch) (Z : State) (a0 : Array Value) (hw : ∀ d ∈ tables_1, d.before a0 Z = true) (ws : List Jvm.Cond) (o0 : Addr) (o1 : Addr) (st_COMPACT_STRINGS : Int32) (by0 : Int32) (value_o0 : Addr) (value_o1 : Addr) (h0 : Heap) (n0 : Nat) (Z0 : n0 ≤ h0.size) (S_COMPACT_STRINGS : Sta Z h0 "java/lang/String" "COMPACT_STRINGS" "Z" (.int st_COMPACT_STRINGS)) (hcs : (¬ (st_COMPACT_STRINGS = 0))) (E_o0 : Exa Z h0 o0 "java/lang/String") (F_o0_coder : Fld Z h0 o0 "java/lang/String" "coder" "B" (.int (0 : Int32))) (F_o0_value : Fld Z h0 o0 "java/lang/String" "value" "[B" (.ref value_o0)) (V_value_o0 : Ary tr Z h0 value_o0 .byte [(.int by0)]) (ne_value_o0_o0 : value_o0 ≠ o0) (E_o1 : Exa Z h0 o1 "java/lang/String") (F_o1_coder : Fld Z h0 o1 "java/lang/String" "coder" "B" (.int (0 : Int32))) (F_o1_value : Fld Z h0 o1 "java/lang/String" "value" "[B" (.ref value_o1)) (V_value_o1 : Ary tr Z h0 value_o1 .byte [(.int by0)]) (ne_value_o1_o1 : value_o1 ≠ o1) (ne_o0_o1 : o0 ≠ o1) :
    MetFree l (⟨"java/lang/String", "equals", "(Ljava/lang/Object;)Z"⟩ : MethodName) (head1 (Jvm.Cond.code (⟨"java/lang/String", "equals", "(Ljava/lang/Object;)Z"⟩ : MethodName) jdk_42_method_66_code 3 (some .boolean) :: ws) ({ frames := 1, cells := 0, slots := 0, locals := 14 } : Room)) (fun a U => a = #[(.ref o0), (.ref o1)] ∧ Z.Warmed39 U.vm ∧ U.heap = h0) (fun _ _ _ _ _ => True) (fun _ U o U' => ∃ v L, o = .returned v ∧ Q49 Z o0 o1 st_COMPACT_STRINGS by0 value_o0 value_o1 h0 n0 v U'.heap L ∧ FrameEnd U o U' L ({ frames := 1, cells := 0, slots := 0, locals := 14 } : Room).cells ({ frames := 1, cells := 0, slots := 0, locals := 14 } : Room).slots) := by
  refine MetFree.of_bodySF (plainFor_of_name pn_java_lang_String) hisR ?_
  intro p e s m args below meth c s₁ Bd hml0 hP hK
  obtain ⟨rfl, hZ, hhp⟩ := hP
  have hx := Bd.exec
  have hby := Bd.bytes
  have hml : c.maxLocals = 3 := hml0
  have hown : s.vm.findClass "java/lang/String" = some m.cls := findClass_of_methodNamed Bd.named
  have hnm := (name_of_methodNamed Bd.named Bd.method).1
  have X0 : Stand p l e ({ frames := 1, cells := 0, slots := 0, locals := 14 } : Room) s m #[(.ref o0), (.ref o1)] below meth c s₁ [] 0 0 := Stand.of_body Bd
  have eH0 : s₁.heap = h0 := by rw [← hhp, Bd.state]; rfl
  have N0 := Fr.nil n0
  show Gt p.tables e below (fun o U' => ∃ v L, o = .returned v ∧ Q49 Z o0 o1 st_COMPACT_STRINGS by0 value_o0 value_o1 h0 n0 v U'.heap L ∧ FrameEnd s o U' L ({ frames := 1, cells := 0, slots := 0, locals := 14 } : Room).cells ({ frames := 1, cells := 0, slots := 0, locals := 14 } : Room).slots) _
  refine own_cast (ef49 m o0 o1) ?_
  refine own_aloadN X0 hx hby rfl rfl d49_0 (pc' := 1) rfl ?_
  refine own_aloadN X0 hx hby rfl rfl d49_1 (pc' := 2) rfl ?_
  refine own_acmp X0 hx hby rfl rfl (same := false) d49_2 (decide_eq_false fun q => ne_o0_o1 (Value.ref.inj q)) (by decide) (pc' := 7) (by decide) ?_
  refine own_aloadN X0 hx hby rfl rfl d49_7 (pc' := 8) rfl ?_
  refine own_instY X0 hx hby hZ hown (hw _ (mi 77 rfl)) eH0 (Ins.self E_o1) d49_8 (pc' := 11) rfl (fun T1 X1 eH1 => ?_)
  refine own_ifF X1 hx hby d49_11 (by decide) (pc' := 14) rfl ?_
  refine own_aloadN X1 hx hby rfl rfl d49_14 (pc' := 15) rfl ?_
  refine own_castY X1 hx hby hZ hown (hw _ (mi 77 rfl)) eH1 (Ins.self E_o1) d49_15 (pc' := 18) rfl (fun T2 X2 eH2 => ?_)
  refine own_astoreN X2 hx hby rfl (L' := #[.val (.ref o0), .val (.ref o1), .val (.ref o1)]) rfl d49_18 (pc' := 19) rfl ?_
  refine own_getS X2 hx hby hZ hown (host := "") (Or.inl (hw _ (mi 72 rfl))) Via.refl eH2 S_COMPACT_STRINGS d49_19 (pc' := 22) rfl (fun T3 X3 eH3 => ?_)
  have hk4 : ¬ (st_COMPACT_STRINGS = 0) := hcs
  refine own_ifF X3 hx hby d49_22 (own_i0_eq_n hk4) (pc' := 25) rfl ?_
  refine own_aloadN X3 hx hby rfl rfl d49_25 (pc' := 26) rfl ?_
  refine own_getF X3 hx hby hZ hown (host := "") (Or.inl (hw _ (mi 90 rfl))) Via.refl eH3 F_o0_coder d49_26 (pc' := 29) rfl (fun T5 X5 eH5 => ?_)
  refine own_aloadN X5 hx hby rfl rfl d49_29 (pc' := 30) rfl ?_
  refine own_getF X5 hx hby hZ hown (host := "") (Or.inl (hw _ (mi 90 rfl))) Via.refl eH5 F_o1_coder d49_30 (pc' := 33) rfl (fun T6 X6 eH6 => ?_)
  refine own_icF X6 hx hby d49_33 (by decide) (pc' := 36) rfl ?_
  refine own_aloadN X6 hx hby rfl rfl d49_36 (pc' := 37) rfl ?_
  refine own_getF X6 hx hby hZ hown (host := "") (Or.inl (hw _ (mi 88 rfl))) Via.refl eH6 F_o0_value d49_37 (pc' := 40) rfl (fun T7 X7 eH7 => ?_)
  refine own_aloadN X7 hx hby rfl rfl d49_40 (pc' := 41) rfl ?_
  refine own_getF X7 hx hby hZ hown (host := "") (Or.inl (hw _ (mi 88 rfl))) Via.refl eH7 F_o1_value d49_41 (pc' := 44) rfl (fun T8 X8 eH8 => ?_)
  refine own_static X8 hx hby hZ (y := (⟨"java/lang/StringLatin1", "equals", "([B[B)Z"⟩ : MethodName)) (rest := []) hown (hw _ (mi 326 rfl)) (hw _ (mi 327 rfl)) (hw _ (mi 328 rfl)) (hw _ (mi 75 rfl)) (by decide) (rm50 l Z a0 hw [] value_o0 value_o1 by0 h0 n0 Z0 V_value_o0 V_value_o1) eH8 (by rw [hml]; rfl) (argsL := [(.ref value_o0), (.ref value_o1)]) rfl (lenOf pd_14 rfl) rfl d49_44 (pc' := 47) rfl (by decide) (W := 0) (Nat.le_of_eq rfl) (by decide) (by decide) (by decide) (fun T9 h9 Lc9 v9r X9 eH9 hQ9 => ?_)
  obtain ⟨rfl, Nq9, rfl⟩ := hQ9
  have N9 := Fr.app N0 Nq9
  refine own_ifF X9 hx hby d49_47 (by decide) (pc' := 50) rfl ?_
  refine own_iconst X9 hx hby (v := (1 : Int32)) (by decide) d49_50 (pc' := 51) rfl ?_
  refine own_goto X9 hx hby d49_51 (by decide) (pc' := 55) (by decide) ?_
  exact own_retZ X9 hx hby Bd.notSynchronized Bd.returns (Or.inr rfl) d49_55 (by decide) (by decide) eH9 ⟨rfl, N9, rfl⟩
theorem ef48p (m : MethodId) (x0 : Addr) (x1 : Addr) : entryFrame m #[(.ref x0), (.ref x1)] 8 = mkF m 0 #[.val (.ref x0), .val (.ref x1), .unset, .unset, .unset, .unset, .unset, .unset] [] := by first | (simp [entryFrame, mkF, argsToLocals, Value.category]; done) | rfl
def Q48p (Z : State) (o0 : Addr) (o1 : Addr) (st_COMPACT_STRINGS : Int32) (table_o0 : Addr) (nd : Addr) (by0 : Int32) (value_o1 : Addr) (hh : Int32) (kk : Int32) (ix : Nat) (tl : List Value) (key_nd : Addr) (value_key_nd : Addr) (h0 : Heap) (n0 : Nat) (v : Option Value) (h : Heap) (L : List Loc) : Prop := v = some (.ref nd) ∧ Fr n0 L ∧ Keep h0 h [o1] ∧ Exa Z h o1 "java/lang/String" ∧ Fld Z h o1 "java/lang/String" "value" "[B" (.ref value_o1) ∧ Fld Z h o1 "java/lang/String" "coder" "B" (.int (0 : Int32)) ∧ Fld Z h o1 "java/lang/String" "hash" "I" (.int hh) ∧ Fld Z h o1 "java/lang/String" "hashIsZero" "Z" (.int (0 : Int32))
theorem rm48p (l : Launch) (Z : State) (a0 : Array Value) (hw : ∀ d ∈ tables_1, d.before a0 Z = true) (ws : List Jvm.Cond) (o0 : Addr) (o1 : Addr) (st_COMPACT_STRINGS : Int32) (table_o0 : Addr) (nd : Addr) (by0 : Int32) (value_o1 : Addr) (hh : Int32) (kk : Int32) (ix : Nat) (tl : List Value) (key_nd : Addr) (value_key_nd : Addr) (h0 : Heap) (n0 : Nat) (Z0 : n0 ≤ h0.size) (S_COMPACT_STRINGS : Sta Z h0 "java/lang/String" "COMPACT_STRINGS" "Z" (.int st_COMPACT_STRINGS)) (hcs : (¬ (st_COMPACT_STRINGS = 0))) (F_o0_table : Fld Z h0 o0 "java/util/HashMap" "table" "[Ljava/util/HashMap$Node;" (.ref table_o0)) (E_o1 : Exa Z h0 o1 "java/lang/String") (F_o1_hash : Fld Z h0 o1 "java/lang/String" "hash" "I" (.int (0 : Int32))) (F_o1_hashIsZero : Fld Z h0 o1 "java/lang/String" "hashIsZero" "Z" (.int (0 : Int32))) (F_o1_coder : Fld Z h0 o1 "java/lang/String" "coder" "B" (.int (0 : Int32))) (F_o1_value : Fld Z h0 o1 "java/lang/String" "value" "[B" (.ref value_o1)) (V_value_o1 : Ary tr Z h0 value_o1 .byte [(.int by0)]) (ne_value_o1_o1 : value_o1 ≠ o1) (hhh : ((by0 &&& (255 : Int32)) = hh)) (hhz : (¬ (hh = 0))) (hkk : ((hh ^^^ (hh.toUInt32 >>> ((16 : Int32) &&& 31).toUInt32).toInt32) = kk)) (hj0 : (¬ (((15 : Int32) &&& kk) < 0))) (hjn : (((15 : Int32) &&& kk).toNatClampNeg = ix)) (hil : (ix < 16)) (V_table_o0 : Ary (ovO Z "java/util/HashMap$Node") Z h0 table_o0 (.object "java/util/HashMap$Node") tl) (hlt : (tl.length = 16)) (hti : (tl[ix]? = some (.ref nd))) (E_nd : Exa Z h0 nd "java/util/HashMap$Node") (F_nd_hash : Fld Z h0 nd "java/util/HashMap$Node" "hash" "I" (.int kk)) (F_nd_key : Fld Z h0 nd "java/util/HashMap$Node" "key" "Ljava/lang/Object;" (.ref key_nd)) (E_key_nd : Exa Z h0 key_nd "java/lang/String") (F_key_nd_coder : Fld Z h0 key_nd "java/lang/String" "coder" "B" (.int (0 : Int32))) (F_key_nd_value : Fld Z h0 key_nd "java/lang/String" "value" "[B" (.ref value_key_nd)) (V_value_key_nd : Ary tr Z h0 value_key_nd .byte [(.int by0)]) (ne_value_key_nd_key_nd : value_key_nd ≠ key_nd) (ne_key_nd_o1 : key_nd ≠ o1) (g_o1 : n0 ≤ o1) (ne_o0_o1 : o0 ≠ o1) (ne_table_o0_o1 : table_o0 ≠ o1) (ne_nd_o1 : nd ≠ o1) (ne_value_key_nd_o1 : value_key_nd ≠ o1) :
    MetFree l (⟨"java/util/HashMap", "getNode", "(Ljava/lang/Object;)Ljava/util/HashMap$Node;"⟩ : MethodName) (head1 (Jvm.Cond.code (⟨"java/util/HashMap", "getNode", "(Ljava/lang/Object;)Ljava/util/HashMap$Node;"⟩ : MethodName) jdk_69_method_13_code 8 (some (.object "java/util/HashMap$Node")) :: ws) ({ frames := 3, cells := 0, slots := 0, locals := 40 } : Room)) (fun a U => a = #[(.ref o0), (.ref o1)] ∧ Z.Warmed39 U.vm ∧ U.heap = h0) (fun _ _ _ _ _ => True) (fun _ U o U' => ∃ v L, o = .returned v ∧ Q48p Z o0 o1 st_COMPACT_STRINGS table_o0 nd by0 value_o1 hh kk ix tl key_nd value_key_nd h0 n0 v U'.heap L ∧ FrameEnd U o U' L ({ frames := 3, cells := 0, slots := 0, locals := 40 } : Room).cells ({ frames := 3, cells := 0, slots := 0, locals := 40 } : Room).slots) := by
  refine MetFree.of_bodySF (plainFor_of_name pn_java_util_HashMap) hisR ?_
  intro p e s m args below meth c s₁ Bd hml0 hP hK
  obtain ⟨rfl, hZ, hhp⟩ := hP
  have hx := Bd.exec
  have hby := Bd.bytes
  have hml : c.maxLocals = 8 := hml0
  have hown : s.vm.findClass "java/util/HashMap" = some m.cls := findClass_of_methodNamed Bd.named
  have hnm := (name_of_methodNamed Bd.named Bd.method).1
  have X0 : Stand p l e ({ frames := 3, cells := 0, slots := 0, locals := 40 } : Room) s m #[(.ref o0), (.ref o1)] below meth c s₁ [] 0 0 := Stand.of_body Bd
  have eH0 : s₁.heap = h0 := by rw [← hhp, Bd.state]; rfl
  have N0 := Fr.nil n0
  have K0 := Keep.refl h0 [o1]
  show Gt p.tables e below (fun o U' => ∃ v L, o = .returned v ∧ Q48p Z o0 o1 st_COMPACT_STRINGS table_o0 nd by0 value_o1 hh kk ix tl key_nd value_key_nd h0 n0 v U'.heap L ∧ FrameEnd s o U' L ({ frames := 3, cells := 0, slots := 0, locals := 40 } : Room).cells ({ frames := 3, cells := 0, slots := 0, locals := 40 } : Room).slots) _
  refine own_cast (ef48p m o0 o1) ?_
  refine own_aloadN X0 hx hby rfl rfl d48_0 (pc' := 1) rfl ?_
  refine own_getF X0 hx hby hZ hown (host := "") (Or.inl (hw _ (mi 129 rfl))) Via.refl eH0 F_o0_table d48_1 (pc' := 4) rfl (fun T1 X1 eH1 => ?_)
  refine own_dup X1 hx hby rfl d48_4 (pc' := 5) rfl ?_
  refine own_astoreN X1 hx hby rfl (L' := #[.val (.ref o0), .val (.ref o1), .val (.ref table_o0), .unset, .unset, .unset, .unset, .unset]) rfl d48_5 (pc' := 6) rfl ?_
  refine own_ifnullF X1 hx hby d48_6 (pc' := 9) rfl ?_
  refine own_aloadN X1 hx hby rfl rfl d48_9 (pc' := 10) rfl ?_
  refine own_alen X1 hx hby hZ eH1 V_table_o0 (z := (16 : Int32)) (by rw [hlt]; decide) d48_10 (pc' := 11) rfl ?_
  refine own_dup X1 hx hby rfl d48_11 (pc' := 12) rfl ?_
  refine own_istore X1 hx hby (L' := #[.val (.ref o0), .val (.ref o1), .val (.ref table_o0), .unset, .unset, .val (.int (16 : Int32)), .unset, .unset]) rfl d48_12 (pc' := 14) rfl ?_
  refine own_ifF X1 hx hby d48_14 (by decide) (pc' := 17) rfl ?_
  refine own_aloadN X1 hx hby rfl rfl d48_17 (pc' := 18) rfl ?_
  refine own_iload X1 hx hby rfl d48_18 (pc' := 20) rfl ?_
  refine own_iconst X1 hx hby (v := (1 : Int32)) (by decide) d48_20 (pc' := 21) rfl ?_
  refine own_isub X1 hx hby (v := (15 : Int32)) (by decide) d48_21 (pc' := 22) rfl ?_
  refine own_aloadN X1 hx hby rfl rfl d48_22 (pc' := 23) rfl ?_
  refine own_static X1 hx hby hZ (y := (⟨"java/util/HashMap", "hash", "(Ljava/lang/Object;)I"⟩ : MethodName)) (rest := [(.int (15 : Int32)), (.ref table_o0)]) hown (hw _ (mi 103 rfl)) (hw _ (mi 104 rfl)) (hw _ (mi 105 rfl)) (hw _ (mi 51 rfl)) (by decide) (rm17 l Z a0 hw [] o1 st_COMPACT_STRINGS by0 value_o1 hh kk h0 n0 Z0 S_COMPACT_STRINGS hcs E_o1 F_o1_hash F_o1_hashIsZero F_o1_coder F_o1_value V_value_o1 ne_value_o1_o1 hhh hhz hkk g_o1) eH1 (by rw [hml]; rfl) (argsL := [(.ref o1)]) rfl (lenOf pd_11 rfl) rfl d48_23 (pc' := 26) rfl (by decide) (W := 2) (Nat.le_of_eq rfl) (by decide) (by decide) (by decide) (fun T2 h2 Lc2 v2r X2 eH2 hQ2 => ?_)
  obtain ⟨rfl, Nq2, Kq2, gq2_0, gq2_1, gq2_2, gq2_3, gq2_4⟩ := hQ2
  have N2 := Fr.app N0 Nq2
  replace S_COMPACT_STRINGS := own_skn S_COMPACT_STRINGS Kq2 (own_skS E_o1 own_sk0)
  replace F_o0_table := F_o0_table.keep Kq2 (ninS ne_o0_o1 nin0)
  replace E_o1 := E_o1.keep Kq2
  replace V_table_o0 := V_table_o0.keep Kq2 (ninS ne_table_o0_o1 nin0)
  replace E_nd := E_nd.keep Kq2
  replace F_nd_hash := F_nd_hash.keep Kq2 (ninS ne_nd_o1 nin0)
  replace F_nd_key := F_nd_key.keep Kq2 (ninS ne_nd_o1 nin0)
  replace V_value_o1 := V_value_o1.keep Kq2 (ninS ne_value_o1_o1 nin0)
  replace E_key_nd := E_key_nd.keep Kq2
  replace F_key_nd_coder := F_key_nd_coder.keep Kq2 (ninS ne_key_nd_o1 nin0)
  replace F_key_nd_value := F_key_nd_value.keep Kq2 (ninS ne_key_nd_o1 nin0)
  replace V_value_key_nd := V_value_key_nd.keep Kq2 (ninS ne_value_key_nd_o1 nin0)
  replace K0 := K0.trans Kq2 (allS (Or.inl (by simp)) all0)
  have E_o1 := gq2_0
  have F_o1_value := gq2_1
  have F_o1_coder := gq2_2
  have F_o1_hash := gq2_3
  have F_o1_hashIsZero := gq2_4
  replace Z0 := Nat.le_trans Z0 Kq2.1
  refine own_dup X2 hx hby rfl d48_26 (pc' := 27) rfl ?_
  refine own_istore X2 hx hby (L' := #[.val (.ref o0), .val (.ref o1), .val (.ref table_o0), .unset, .unset, .val (.int (16 : Int32)), .val (.int kk), .unset]) rfl d48_27 (pc' := 29) rfl ?_
  refine own_iand X2 hx hby rfl d48_29 (pc' := 30) rfl ?_
  refine own_aaload X2 hx hby hZ eH2 V_table_o0 rfl hj0 (v := (.ref nd)) (by rw [hjn]; exact hti) d48_30 (pc' := 31) rfl ?_
  refine own_dup X2 hx hby rfl d48_31 (pc' := 32) rfl ?_
  refine own_astoreN X2 hx hby rfl (L' := #[.val (.ref o0), .val (.ref o1), .val (.ref table_o0), .val (.ref nd), .unset, .val (.int (16 : Int32)), .val (.int kk), .unset]) rfl d48_32 (pc' := 33) rfl ?_
  refine own_ifnullF X2 hx hby d48_33 (pc' := 36) rfl ?_
  refine own_aloadN X2 hx hby rfl rfl d48_36 (pc' := 37) rfl ?_
  refine own_getF X2 hx hby hZ hown (host := "") (Or.inl (hw _ (mi 318 rfl))) Via.refl eH2 F_nd_hash d48_37 (pc' := 40) rfl (fun T3 X3 eH3 => ?_)
  refine own_iload X3 hx hby rfl d48_40 (pc' := 42) rfl ?_
  have hk4 : kk = kk := rfl
  refine own_icF X3 hx hby d48_42 (own_ic_ne_p hk4) (pc' := 45) rfl ?_
  refine own_aloadN X3 hx hby rfl rfl d48_45 (pc' := 46) rfl ?_
  refine own_getF X3 hx hby hZ hown (host := "") (Or.inl (hw _ (mi 319 rfl))) Via.refl eH3 F_nd_key d48_46 (pc' := 49) rfl (fun T5 X5 eH5 => ?_)
  refine own_dup X5 hx hby rfl d48_49 (pc' := 50) rfl ?_
  refine own_astore X5 hx hby rfl (L' := #[.val (.ref o0), .val (.ref o1), .val (.ref table_o0), .val (.ref nd), .unset, .val (.int (16 : Int32)), .val (.int kk), .val (.ref key_nd)]) rfl d48_50 (pc' := 52) rfl ?_
  refine own_aloadN X5 hx hby rfl rfl d48_52 (pc' := 53) rfl ?_
  refine own_acmp X5 hx hby rfl rfl (same := false) d48_53 (decide_eq_false fun q => ne_key_nd_o1 (Value.ref.inj q)) (by decide) (pc' := 56) (by decide) ?_
  refine own_aloadN X5 hx hby rfl rfl d48_56 (pc' := 57) rfl ?_
  refine own_ifnullF X5 hx hby d48_57 (pc' := 60) rfl ?_
  refine own_aloadN X5 hx hby rfl rfl d48_60 (pc' := 61) rfl ?_
  refine own_aload X5 hx hby rfl rfl d48_61 (pc' := 63) rfl ?_
  refine own_virtual X5 hx hby hZ (y := (⟨"java/lang/String", "equals", "(Ljava/lang/Object;)Z"⟩ : MethodName)) (y' := (⟨"java/lang/Object", "equals", "(Ljava/lang/Object;)Z"⟩ : MethodName)) (C := "java/lang/String") (rest := []) hown (hw _ (mi 320 rfl)) (hw _ (mi 321 rfl)) (own_nf (args := #[]) (mvT hZ (hw _ (mi 226 rfl))) rfl) (hw _ (mi 323 rfl)) (hw _ (mi 324 rfl)) (hw _ (mi 325 rfl)) (hw _ (mi 70 rfl)) (by decide) (rm49 l Z a0 hw [] o1 key_nd st_COMPACT_STRINGS by0 value_o1 value_key_nd h2 n0 Z0 S_COMPACT_STRINGS hcs E_o1 F_o1_coder F_o1_value V_value_o1 ne_value_o1_o1 E_key_nd F_key_nd_coder F_key_nd_value V_value_key_nd ne_value_key_nd_key_nd (Ne.symm ne_key_nd_o1)) eH5 (by rw [hml]; rfl) (a := o1) E_o1 (argsL := [(.ref key_nd)]) rfl (lenOf pd_15 rfl) rfl d48_63 (pc' := 66) rfl (by decide) (W := 0) (Nat.le_of_eq rfl) (by decide) (by decide) (by decide) (fun T6 h6 Lc6 v6r X6 eH6 hQ6 => ?_)
  obtain ⟨rfl, Nq6, rfl⟩ := hQ6
  have N6 := Fr.app N2 Nq6
  refine own_ifF X6 hx hby d48_66 (by decide) (pc' := 69) rfl ?_
  refine own_aloadN X6 hx hby rfl rfl d48_69 (pc' := 70) rfl ?_
  exact own_retA X6 hx hby Bd.notSynchronized Bd.returns rfl rfl d48_70 (by decide) (by decide) eH6 ⟨rfl, N6, K0, E_o1, F_o1_value, F_o1_coder, F_o1_hash, F_o1_hashIsZero⟩
theorem ef47p (m : MethodId) (x0 : Addr) (x1 : Addr) : entryFrame m #[(.ref x0), (.ref x1)] 2 = mkF m 0 #[.val (.ref x0), .val (.ref x1)] [] := by first | (simp [entryFrame, mkF, argsToLocals, Value.category]; done) | rfl
def Q47p (Z : State) (o0 : Addr) (o1 : Addr) (st_COMPACT_STRINGS : Int32) (table_o0 : Addr) (nd : Addr) (by0 : Int32) (value_o1 : Addr) (hh : Int32) (kk : Int32) (ix : Nat) (tl : List Value) (key_nd : Addr) (value_key_nd : Addr) (h0 : Heap) (n0 : Nat) (v : Option Value) (h : Heap) (L : List Loc) : Prop := v = some (.int (1 : Int32)) ∧ Fr n0 L ∧ Keep h0 h [o1] ∧ Exa Z h o1 "java/lang/String" ∧ Fld Z h o1 "java/lang/String" "value" "[B" (.ref value_o1) ∧ Fld Z h o1 "java/lang/String" "coder" "B" (.int (0 : Int32)) ∧ Fld Z h o1 "java/lang/String" "hash" "I" (.int hh) ∧ Fld Z h o1 "java/lang/String" "hashIsZero" "Z" (.int (0 : Int32))
theorem rm47p (l : Launch) (Z : State) (a0 : Array Value) (hw : ∀ d ∈ tables_1, d.before a0 Z = true) (ws : List Jvm.Cond) (o0 : Addr) (o1 : Addr) (st_COMPACT_STRINGS : Int32) (table_o0 : Addr) (nd : Addr) (by0 : Int32) (value_o1 : Addr) (hh : Int32) (kk : Int32) (ix : Nat) (tl : List Value) (key_nd : Addr) (value_key_nd : Addr) (h0 : Heap) (n0 : Nat) (Z0 : n0 ≤ h0.size) (S_COMPACT_STRINGS : Sta Z h0 "java/lang/String" "COMPACT_STRINGS" "Z" (.int st_COMPACT_STRINGS)) (hcs : (¬ (st_COMPACT_STRINGS = 0))) (F_o0_table : Fld Z h0 o0 "java/util/HashMap" "table" "[Ljava/util/HashMap$Node;" (.ref table_o0)) (E_o1 : Exa Z h0 o1 "java/lang/String") (F_o1_hash : Fld Z h0 o1 "java/lang/String" "hash" "I" (.int (0 : Int32))) (F_o1_hashIsZero : Fld Z h0 o1 "java/lang/String" "hashIsZero" "Z" (.int (0 : Int32))) (F_o1_coder : Fld Z h0 o1 "java/lang/String" "coder" "B" (.int (0 : Int32))) (F_o1_value : Fld Z h0 o1 "java/lang/String" "value" "[B" (.ref value_o1)) (V_value_o1 : Ary tr Z h0 value_o1 .byte [(.int by0)]) (ne_value_o1_o1 : value_o1 ≠ o1) (hhh : ((by0 &&& (255 : Int32)) = hh)) (hhz : (¬ (hh = 0))) (hkk : ((hh ^^^ (hh.toUInt32 >>> ((16 : Int32) &&& 31).toUInt32).toInt32) = kk)) (hj0 : (¬ (((15 : Int32) &&& kk) < 0))) (hjn : (((15 : Int32) &&& kk).toNatClampNeg = ix)) (hil : (ix < 16)) (V_table_o0 : Ary (ovO Z "java/util/HashMap$Node") Z h0 table_o0 (.object "java/util/HashMap$Node") tl) (hlt : (tl.length = 16)) (hti : (tl[ix]? = some (.ref nd))) (E_nd : Exa Z h0 nd "java/util/HashMap$Node") (F_nd_hash : Fld Z h0 nd "java/util/HashMap$Node" "hash" "I" (.int kk)) (F_nd_key : Fld Z h0 nd "java/util/HashMap$Node" "key" "Ljava/lang/Object;" (.ref key_nd)) (E_key_nd : Exa Z h0 key_nd "java/lang/String") (F_key_nd_coder : Fld Z h0 key_nd "java/lang/String" "coder" "B" (.int (0 : Int32))) (F_key_nd_value : Fld Z h0 key_nd "java/lang/String" "value" "[B" (.ref value_key_nd)) (V_value_key_nd : Ary tr Z h0 value_key_nd .byte [(.int by0)]) (ne_value_key_nd_key_nd : value_key_nd ≠ key_nd) (ne_key_nd_o1 : key_nd ≠ o1) (g_o1 : n0 ≤ o1) (ne_o0_o1 : o0 ≠ o1) (ne_table_o0_o1 : table_o0 ≠ o1) (ne_nd_o1 : nd ≠ o1) (ne_value_key_nd_o1 : value_key_nd ≠ o1) (E_o0 : Exa Z h0 o0 "java/util/HashMap") :
    MetFree l (⟨"java/util/HashMap", "containsKey", "(Ljava/lang/Object;)Z"⟩ : MethodName) (head1 (Jvm.Cond.code (⟨"java/util/HashMap", "containsKey", "(Ljava/lang/Object;)Z"⟩ : MethodName) jdk_69_method_14_code 2 (some .boolean) :: ws) ({ frames := 4, cells := 0, slots := 0, locals := 59 } : Room)) (fun a U => a = #[(.ref o0), (.ref o1)] ∧ Z.Warmed39 U.vm ∧ U.heap = h0) (fun _ _ _ _ _ => True) (fun _ U o U' => ∃ v L, o = .returned v ∧ Q47p Z o0 o1 st_COMPACT_STRINGS table_o0 nd by0 value_o1 hh kk ix tl key_nd value_key_nd h0 n0 v U'.heap L ∧ FrameEnd U o U' L ({ frames := 4, cells := 0, slots := 0, locals := 59 } : Room).cells ({ frames := 4, cells := 0, slots := 0, locals := 59 } : Room).slots) := by
  refine MetFree.of_bodySF (plainFor_of_name pn_java_util_HashMap) hisR ?_
  intro p e s m args below meth c s₁ Bd hml0 hP hK
  obtain ⟨rfl, hZ, hhp⟩ := hP
  have hx := Bd.exec
  have hby := Bd.bytes
  have hml : c.maxLocals = 2 := hml0
  have hown : s.vm.findClass "java/util/HashMap" = some m.cls := findClass_of_methodNamed Bd.named
  have hnm := (name_of_methodNamed Bd.named Bd.method).1
  have X0 : Stand p l e ({ frames := 4, cells := 0, slots := 0, locals := 59 } : Room) s m #[(.ref o0), (.ref o1)] below meth c s₁ [] 0 0 := Stand.of_body Bd
  have eH0 : s₁.heap = h0 := by rw [← hhp, Bd.state]; rfl
  have N0 := Fr.nil n0
  have K0 := Keep.refl h0 [o1]
  show Gt p.tables e below (fun o U' => ∃ v L, o = .returned v ∧ Q47p Z o0 o1 st_COMPACT_STRINGS table_o0 nd by0 value_o1 hh kk ix tl key_nd value_key_nd h0 n0 v U'.heap L ∧ FrameEnd s o U' L ({ frames := 4, cells := 0, slots := 0, locals := 59 } : Room).cells ({ frames := 4, cells := 0, slots := 0, locals := 59 } : Room).slots) _
  refine own_cast (ef47p m o0 o1) ?_
  refine own_aloadN X0 hx hby rfl rfl d47_0 (pc' := 1) rfl ?_
  refine own_aloadN X0 hx hby rfl rfl d47_1 (pc' := 2) rfl ?_
  refine own_virtual X0 hx hby hZ (y := (⟨"java/util/HashMap", "getNode", "(Ljava/lang/Object;)Ljava/util/HashMap$Node;"⟩ : MethodName)) (y' := (⟨"java/util/HashMap", "getNode", "(Ljava/lang/Object;)Ljava/util/HashMap$Node;"⟩ : MethodName)) (C := "java/util/HashMap") (rest := []) hown (hw _ (mi 313 rfl)) (hw _ (mi 314 rfl)) (notFace_of_selects (args := #[]) (mvT hZ (hw _ (mi 316 rfl)))) (hw _ (mi 316 rfl)) (hw _ (mi 315 rfl)) (hw _ (mi 317 rfl)) (hw _ (mi 51 rfl)) (by decide) (rm48p l Z a0 hw [] o0 o1 st_COMPACT_STRINGS table_o0 nd by0 value_o1 hh kk ix tl key_nd value_key_nd h0 n0 Z0 S_COMPACT_STRINGS hcs F_o0_table E_o1 F_o1_hash F_o1_hashIsZero F_o1_coder F_o1_value V_value_o1 ne_value_o1_o1 hhh hhz hkk hj0 hjn hil V_table_o0 hlt hti E_nd F_nd_hash F_nd_key E_key_nd F_key_nd_coder F_key_nd_value V_value_key_nd ne_value_key_nd_key_nd ne_key_nd_o1 g_o1 ne_o0_o1 ne_table_o0_o1 ne_nd_o1 ne_value_key_nd_o1) eH0 (by rw [hml]; rfl) (a := o0) E_o0 (argsL := [(.ref o1)]) rfl (lenOf pd_16 rfl) rfl d47_2 (pc' := 5) rfl (by decide) (W := 0) (Nat.le_of_eq rfl) (by decide) (by decide) (by decide) (fun T1 h1 Lc1 v1r X1 eH1 hQ1 => ?_)
  obtain ⟨rfl, Nq1, Kq1, gq1_0, gq1_1, gq1_2, gq1_3, gq1_4⟩ := hQ1
  have N1 := Fr.app N0 Nq1
  replace S_COMPACT_STRINGS := own_skn S_COMPACT_STRINGS Kq1 (own_skS E_o1 own_sk0)
  replace E_o0 := E_o0.keep Kq1
  replace F_o0_table := F_o0_table.keep Kq1 (ninS ne_o0_o1 nin0)
  replace E_o1 := E_o1.keep Kq1
  replace V_table_o0 := V_table_o0.keep Kq1 (ninS ne_table_o0_o1 nin0)
  replace E_nd := E_nd.keep Kq1
  replace F_nd_hash := F_nd_hash.keep Kq1 (ninS ne_nd_o1 nin0)
  replace F_nd_key := F_nd_key.keep Kq1 (ninS ne_nd_o1 nin0)
  replace V_value_o1 := V_value_o1.keep Kq1 (ninS ne_value_o1_o1 nin0)
  replace E_key_nd := E_key_nd.keep Kq1
  replace F_key_nd_coder := F_key_nd_coder.keep Kq1 (ninS ne_key_nd_o1 nin0)
  replace F_key_nd_value := F_key_nd_value.keep Kq1 (ninS ne_key_nd_o1 nin0)
  replace V_value_key_nd := V_value_key_nd.keep Kq1 (ninS ne_value_key_nd_o1 nin0)
  replace K0 := K0.trans Kq1 (allS (Or.inl (by simp)) all0)
  have E_o1 := gq1_0
  have F_o1_value := gq1_1
  have F_o1_coder := gq1_2
  have F_o1_hash := gq1_3
  have F_o1_hashIsZero := gq1_4
  replace Z0 := Nat.le_trans Z0 Kq1.1
  refine own_ifnullF X1 hx hby d47_5 (pc' := 8) rfl ?_
  refine own_iconst X1 hx hby (v := (1 : Int32)) (by decide) d47_8 (pc' := 9) rfl ?_
  refine own_goto X1 hx hby d47_9 (by decide) (pc' := 13) (by decide) ?_
  exact own_retZ X1 hx hby Bd.notSynchronized Bd.returns (Or.inr rfl) d47_13 (by decide) (by decide) eH1 ⟨rfl, N1, K0, E_o1, F_o1_value, F_o1_coder, F_o1_hash, F_o1_hashIsZero⟩
theorem ef46p (m : MethodId) (x0 : Addr) (x1 : Addr) : entryFrame m #[(.ref x0), (.ref x1)] 2 = mkF m 0 #[.val (.ref x0), .val (.ref x1)] [] := by first | (simp [entryFrame, mkF, argsToLocals, Value.category]; done) | rfl
def Q46p (Z : State) (o0 : Addr) (o1 : Addr) (st_COMPACT_STRINGS : Int32) (map_o0 : Addr) (table_map_o0 : Addr) (nd : Addr) (by0 : Int32) (value_o1 : Addr) (hh : Int32) (kk : Int32) (ix : Nat) (tl : List Value) (key_nd : Addr) (value_key_nd : Addr) (h0 : Heap) (n0 : Nat) (v : Option Value) (h : Heap) (L : List Loc) : Prop := v = some (.int (1 : Int32)) ∧ Fr n0 L ∧ Keep h0 h [o1] ∧ Exa Z h o1 "java/lang/String" ∧ Fld Z h o1 "java/lang/String" "value" "[B" (.ref value_o1) ∧ Fld Z h o1 "java/lang/String" "coder" "B" (.int (0 : Int32)) ∧ Fld Z h o1 "java/lang/String" "hash" "I" (.int hh) ∧ Fld Z h o1 "java/lang/String" "hashIsZero" "Z" (.int (0 : Int32))
theorem rm46p (l : Launch) (Z : State) (a0 : Array Value) (hw : ∀ d ∈ tables_1, d.before a0 Z = true) (ws : List Jvm.Cond) (o0 : Addr) (o1 : Addr) (st_COMPACT_STRINGS : Int32) (map_o0 : Addr) (table_map_o0 : Addr) (nd : Addr) (by0 : Int32) (value_o1 : Addr) (hh : Int32) (kk : Int32) (ix : Nat) (tl : List Value) (key_nd : Addr) (value_key_nd : Addr) (h0 : Heap) (n0 : Nat) (Z0 : n0 ≤ h0.size) (S_COMPACT_STRINGS : Sta Z h0 "java/lang/String" "COMPACT_STRINGS" "Z" (.int st_COMPACT_STRINGS)) (hcs : (¬ (st_COMPACT_STRINGS = 0))) (F_o0_map : Fld Z h0 o0 "java/util/HashSet" "map" "Ljava/util/HashMap;" (.ref map_o0)) (E_map_o0 : Exa Z h0 map_o0 "java/util/HashMap") (F_map_o0_table : Fld Z h0 map_o0 "java/util/HashMap" "table" "[Ljava/util/HashMap$Node;" (.ref table_map_o0)) (E_o1 : Exa Z h0 o1 "java/lang/String") (F_o1_hash : Fld Z h0 o1 "java/lang/String" "hash" "I" (.int (0 : Int32))) (F_o1_hashIsZero : Fld Z h0 o1 "java/lang/String" "hashIsZero" "Z" (.int (0 : Int32))) (F_o1_coder : Fld Z h0 o1 "java/lang/String" "coder" "B" (.int (0 : Int32))) (F_o1_value : Fld Z h0 o1 "java/lang/String" "value" "[B" (.ref value_o1)) (V_value_o1 : Ary tr Z h0 value_o1 .byte [(.int by0)]) (ne_value_o1_o1 : value_o1 ≠ o1) (hhh : ((by0 &&& (255 : Int32)) = hh)) (hhz : (¬ (hh = 0))) (hkk : ((hh ^^^ (hh.toUInt32 >>> ((16 : Int32) &&& 31).toUInt32).toInt32) = kk)) (hj0 : (¬ (((15 : Int32) &&& kk) < 0))) (hjn : (((15 : Int32) &&& kk).toNatClampNeg = ix)) (hil : (ix < 16)) (V_table_map_o0 : Ary (ovO Z "java/util/HashMap$Node") Z h0 table_map_o0 (.object "java/util/HashMap$Node") tl) (hlt : (tl.length = 16)) (hti : (tl[ix]? = some (.ref nd))) (E_nd : Exa Z h0 nd "java/util/HashMap$Node") (F_nd_hash : Fld Z h0 nd "java/util/HashMap$Node" "hash" "I" (.int kk)) (F_nd_key : Fld Z h0 nd "java/util/HashMap$Node" "key" "Ljava/lang/Object;" (.ref key_nd)) (E_key_nd : Exa Z h0 key_nd "java/lang/String") (F_key_nd_coder : Fld Z h0 key_nd "java/lang/String" "coder" "B" (.int (0 : Int32))) (F_key_nd_value : Fld Z h0 key_nd "java/lang/String" "value" "[B" (.ref value_key_nd)) (V_value_key_nd : Ary tr Z h0 value_key_nd .byte [(.int by0)]) (ne_value_key_nd_key_nd : value_key_nd ≠ key_nd) (ne_key_nd_o1 : key_nd ≠ o1) (g_o1 : n0 ≤ o1) (ne_map_o0_o1 : map_o0 ≠ o1) (ne_table_map_o0_o1 : table_map_o0 ≠ o1) (ne_nd_o1 : nd ≠ o1) (ne_value_key_nd_o1 : value_key_nd ≠ o1) (ne_o0_o1 : o0 ≠ o1) :
    MetFree l (⟨"java/util/HashSet", "contains", "(Ljava/lang/Object;)Z"⟩ : MethodName) (head1 (Jvm.Cond.code (⟨"java/util/HashSet", "contains", "(Ljava/lang/Object;)Z"⟩ : MethodName) jdk_93_method_9_code 2 (some .boolean) :: ws) ({ frames := 5, cells := 0, slots := 0, locals := 72 } : Room)) (fun a U => a = #[(.ref o0), (.ref o1)] ∧ Z.Warmed39 U.vm ∧ U.heap = h0) (fun _ _ _ _ _ => True) (fun _ U o U' => ∃ v L, o = .returned v ∧ Q46p Z o0 o1 st_COMPACT_STRINGS map_o0 table_map_o0 nd by0 value_o1 hh kk ix tl key_nd value_key_nd h0 n0 v U'.heap L ∧ FrameEnd U o U' L ({ frames := 5, cells := 0, slots := 0, locals := 72 } : Room).cells ({ frames := 5, cells := 0, slots := 0, locals := 72 } : Room).slots) := by
  refine MetFree.of_bodySF (plainFor_of_name pn_java_util_HashSet) hisR ?_
  intro p e s m args below meth c s₁ Bd hml0 hP hK
  obtain ⟨rfl, hZ, hhp⟩ := hP
  have hx := Bd.exec
  have hby := Bd.bytes
  have hml : c.maxLocals = 2 := hml0
  have hown : s.vm.findClass "java/util/HashSet" = some m.cls := findClass_of_methodNamed Bd.named
  have hnm := (name_of_methodNamed Bd.named Bd.method).1
  have X0 : Stand p l e ({ frames := 5, cells := 0, slots := 0, locals := 72 } : Room) s m #[(.ref o0), (.ref o1)] below meth c s₁ [] 0 0 := Stand.of_body Bd
  have eH0 : s₁.heap = h0 := by rw [← hhp, Bd.state]; rfl
  have N0 := Fr.nil n0
  have K0 := Keep.refl h0 [o1]
  show Gt p.tables e below (fun o U' => ∃ v L, o = .returned v ∧ Q46p Z o0 o1 st_COMPACT_STRINGS map_o0 table_map_o0 nd by0 value_o1 hh kk ix tl key_nd value_key_nd h0 n0 v U'.heap L ∧ FrameEnd s o U' L ({ frames := 5, cells := 0, slots := 0, locals := 72 } : Room).cells ({ frames := 5, cells := 0, slots := 0, locals := 72 } : Room).slots) _
  refine own_cast (ef46p m o0 o1) ?_
  refine own_aloadN X0 hx hby rfl rfl d46_0 (pc' := 1) rfl ?_
  refine own_getF X0 hx hby hZ hown (host := "") (Or.inl (hw _ (mi 66 rfl))) Via.refl eH0 F_o0_map d46_1 (pc' := 4) rfl (fun T1 X1 eH1 => ?_)
  refine own_aloadN X1 hx hby rfl rfl d46_4 (pc' := 5) rfl ?_
  refine own_virtual X1 hx hby hZ (y := (⟨"java/util/HashMap", "containsKey", "(Ljava/lang/Object;)Z"⟩ : MethodName)) (y' := (⟨"java/util/HashMap", "containsKey", "(Ljava/lang/Object;)Z"⟩ : MethodName)) (C := "java/util/HashMap") (rest := []) hown (hw _ (mi 308 rfl)) (hw _ (mi 309 rfl)) (notFace_of_selects (args := #[]) (mvT hZ (hw _ (mi 311 rfl)))) (hw _ (mi 311 rfl)) (hw _ (mi 310 rfl)) (hw _ (mi 312 rfl)) (hw _ (mi 51 rfl)) (by decide) (rm47p l Z a0 hw [] map_o0 o1 st_COMPACT_STRINGS table_map_o0 nd by0 value_o1 hh kk ix tl key_nd value_key_nd h0 n0 Z0 S_COMPACT_STRINGS hcs F_map_o0_table E_o1 F_o1_hash F_o1_hashIsZero F_o1_coder F_o1_value V_value_o1 ne_value_o1_o1 hhh hhz hkk hj0 hjn hil V_table_map_o0 hlt hti E_nd F_nd_hash F_nd_key E_key_nd F_key_nd_coder F_key_nd_value V_value_key_nd ne_value_key_nd_key_nd ne_key_nd_o1 g_o1 ne_map_o0_o1 ne_table_map_o0_o1 ne_nd_o1 ne_value_key_nd_o1 E_map_o0) eH1 (by rw [hml]; rfl) (a := map_o0) E_map_o0 (argsL := [(.ref o1)]) rfl (lenOf pd_15 rfl) rfl d46_5 (pc' := 8) rfl (by decide) (W := 0) (Nat.le_of_eq rfl) (by decide) (by decide) (by decide) (fun T2 h2 Lc2 v2r X2 eH2 hQ2 => ?_)
  obtain ⟨rfl, Nq2, Kq2, gq2_0, gq2_1, gq2_2, gq2_3, gq2_4⟩ := hQ2
  have N2 := Fr.app N0 Nq2
  replace S_COMPACT_STRINGS := own_skn S_COMPACT_STRINGS Kq2 (own_skS E_o1 own_sk0)
  replace F_o0_map := F_o0_map.keep Kq2 (ninS ne_o0_o1 nin0)
  replace E_o1 := E_o1.keep Kq2
  replace E_map_o0 := E_map_o0.keep Kq2
  replace F_map_o0_table := F_map_o0_table.keep Kq2 (ninS ne_map_o0_o1 nin0)
  replace V_table_map_o0 := V_table_map_o0.keep Kq2 (ninS ne_table_map_o0_o1 nin0)
  replace E_nd := E_nd.keep Kq2
  replace F_nd_hash := F_nd_hash.keep Kq2 (ninS ne_nd_o1 nin0)
  replace F_nd_key := F_nd_key.keep Kq2 (ninS ne_nd_o1 nin0)
  replace V_value_o1 := V_value_o1.keep Kq2 (ninS ne_value_o1_o1 nin0)
  replace E_key_nd := E_key_nd.keep Kq2
  replace F_key_nd_coder := F_key_nd_coder.keep Kq2 (ninS ne_key_nd_o1 nin0)
  replace F_key_nd_value := F_key_nd_value.keep Kq2 (ninS ne_key_nd_o1 nin0)
  replace V_value_key_nd := V_value_key_nd.keep Kq2 (ninS ne_value_key_nd_o1 nin0)
  replace K0 := K0.trans Kq2 (allS (Or.inl (by simp)) all0)
  have E_o1 := gq2_0
  have F_o1_value := gq2_1
  have F_o1_coder := gq2_2
  have F_o1_hash := gq2_3
  have F_o1_hashIsZero := gq2_4
  replace Z0 := Nat.le_trans Z0 Kq2.1
  exact own_retZ X2 hx hby Bd.notSynchronized Bd.returns (Or.inr rfl) d46_8 (by decide) (by decide) eH2 ⟨rfl, N2, K0, E_o1, F_o1_value, F_o1_coder, F_o1_hash, F_o1_hashIsZero⟩
theorem ef48a (m : MethodId) (x0 : Addr) (x1 : Addr) : entryFrame m #[(.ref x0), (.ref x1)] 8 = mkF m 0 #[.val (.ref x0), .val (.ref x1), .unset, .unset, .unset, .unset, .unset, .unset] [] := by first | (simp [entryFrame, mkF, argsToLocals, Value.category]; done) | rfl
def Q48a (Z : State) (o0 : Addr) (o1 : Addr) (st_COMPACT_STRINGS : Int32) (table_o0 : Addr) (by0 : Int32) (value_o1 : Addr) (hh : Int32) (kk : Int32) (ix : Nat) (tl : List Value) (h0 : Heap) (n0 : Nat) (v : Option Value) (h : Heap) (L : List Loc) : Prop := v = some .null ∧ Fr n0 L ∧ Keep h0 h [o1] ∧ Exa Z h o1 "java/lang/String" ∧ Fld Z h o1 "java/lang/String" "value" "[B" (.ref value_o1) ∧ Fld Z h o1 "java/lang/String" "coder" "B" (.int (0 : Int32)) ∧ Fld Z h o1 "java/lang/String" "hash" "I" (.int hh) ∧ Fld Z h o1 "java/lang/String" "hashIsZero" "Z" (.int (0 : Int32))
theorem rm48a (l : Launch) (Z : State) (a0 : Array Value) (hw : ∀ d ∈ tables_1, d.before a0 Z = true) (ws : List Jvm.Cond) (o0 : Addr) (o1 : Addr) (st_COMPACT_STRINGS : Int32) (table_o0 : Addr) (by0 : Int32) (value_o1 : Addr) (hh : Int32) (kk : Int32) (ix : Nat) (tl : List Value) (h0 : Heap) (n0 : Nat) (Z0 : n0 ≤ h0.size) (S_COMPACT_STRINGS : Sta Z h0 "java/lang/String" "COMPACT_STRINGS" "Z" (.int st_COMPACT_STRINGS)) (hcs : (¬ (st_COMPACT_STRINGS = 0))) (F_o0_table : Fld Z h0 o0 "java/util/HashMap" "table" "[Ljava/util/HashMap$Node;" (.ref table_o0)) (E_o1 : Exa Z h0 o1 "java/lang/String") (F_o1_hash : Fld Z h0 o1 "java/lang/String" "hash" "I" (.int (0 : Int32))) (F_o1_hashIsZero : Fld Z h0 o1 "java/lang/String" "hashIsZero" "Z" (.int (0 : Int32))) (F_o1_coder : Fld Z h0 o1 "java/lang/String" "coder" "B" (.int (0 : Int32))) (F_o1_value : Fld Z h0 o1 "java/lang/String" "value" "[B" (.ref value_o1)) (V_value_o1 : Ary tr Z h0 value_o1 .byte [(.int by0)]) (ne_value_o1_o1 : value_o1 ≠ o1) (hhh : ((by0 &&& (255 : Int32)) = hh)) (hhz : (¬ (hh = 0))) (hkk : ((hh ^^^ (hh.toUInt32 >>> ((16 : Int32) &&& 31).toUInt32).toInt32) = kk)) (hj0 : (¬ (((15 : Int32) &&& kk) < 0))) (hjn : (((15 : Int32) &&& kk).toNatClampNeg = ix)) (hil : (ix < 16)) (V_table_o0 : Ary (ovO Z "java/util/HashMap$Node") Z h0 table_o0 (.object "java/util/HashMap$Node") tl) (hlt : (tl.length = 16)) (hti : (tl[ix]? = some .null)) (g_o1 : n0 ≤ o1) (ne_o0_o1 : o0 ≠ o1) (ne_table_o0_o1 : table_o0 ≠ o1) :
    MetFree l (⟨"java/util/HashMap", "getNode", "(Ljava/lang/Object;)Ljava/util/HashMap$Node;"⟩ : MethodName) (head1 (Jvm.Cond.code (⟨"java/util/HashMap", "getNode", "(Ljava/lang/Object;)Ljava/util/HashMap$Node;"⟩ : MethodName) jdk_69_method_13_code 8 (some (.object "java/util/HashMap$Node")) :: ws) ({ frames := 3, cells := 0, slots := 0, locals := 40 } : Room)) (fun a U => a = #[(.ref o0), (.ref o1)] ∧ Z.Warmed39 U.vm ∧ U.heap = h0) (fun _ _ _ _ _ => True) (fun _ U o U' => ∃ v L, o = .returned v ∧ Q48a Z o0 o1 st_COMPACT_STRINGS table_o0 by0 value_o1 hh kk ix tl h0 n0 v U'.heap L ∧ FrameEnd U o U' L ({ frames := 3, cells := 0, slots := 0, locals := 40 } : Room).cells ({ frames := 3, cells := 0, slots := 0, locals := 40 } : Room).slots) := by
  refine MetFree.of_bodySF (plainFor_of_name pn_java_util_HashMap) hisR ?_
  intro p e s m args below meth c s₁ Bd hml0 hP hK
  obtain ⟨rfl, hZ, hhp⟩ := hP
  have hx := Bd.exec
  have hby := Bd.bytes
  have hml : c.maxLocals = 8 := hml0
  have hown : s.vm.findClass "java/util/HashMap" = some m.cls := findClass_of_methodNamed Bd.named
  have hnm := (name_of_methodNamed Bd.named Bd.method).1
  have X0 : Stand p l e ({ frames := 3, cells := 0, slots := 0, locals := 40 } : Room) s m #[(.ref o0), (.ref o1)] below meth c s₁ [] 0 0 := Stand.of_body Bd
  have eH0 : s₁.heap = h0 := by rw [← hhp, Bd.state]; rfl
  have N0 := Fr.nil n0
  have K0 := Keep.refl h0 [o1]
  show Gt p.tables e below (fun o U' => ∃ v L, o = .returned v ∧ Q48a Z o0 o1 st_COMPACT_STRINGS table_o0 by0 value_o1 hh kk ix tl h0 n0 v U'.heap L ∧ FrameEnd s o U' L ({ frames := 3, cells := 0, slots := 0, locals := 40 } : Room).cells ({ frames := 3, cells := 0, slots := 0, locals := 40 } : Room).slots) _
  refine own_cast (ef48a m o0 o1) ?_
  refine own_aloadN X0 hx hby rfl rfl d48_0 (pc' := 1) rfl ?_
  refine own_getF X0 hx hby hZ hown (host := "") (Or.inl (hw _ (mi 129 rfl))) Via.refl eH0 F_o0_table d48_1 (pc' := 4) rfl (fun T1 X1 eH1 => ?_)
  refine own_dup X1 hx hby rfl d48_4 (pc' := 5) rfl ?_
  refine own_astoreN X1 hx hby rfl (L' := #[.val (.ref o0), .val (.ref o1), .val (.ref table_o0), .unset, .unset, .unset, .unset, .unset]) rfl d48_5 (pc' := 6) rfl ?_
  refine own_ifnullF X1 hx hby d48_6 (pc' := 9) rfl ?_
  refine own_aloadN X1 hx hby rfl rfl d48_9 (pc' := 10) rfl ?_
  refine own_alen X1 hx hby hZ eH1 V_table_o0 (z := (16 : Int32)) (by rw [hlt]; decide) d48_10 (pc' := 11) rfl ?_
  refine own_dup X1 hx hby rfl d48_11 (pc' := 12) rfl ?_
  refine own_istore X1 hx hby (L' := #[.val (.ref o0), .val (.ref o1), .val (.ref table_o0), .unset, .unset, .val (.int (16 : Int32)), .unset, .unset]) rfl d48_12 (pc' := 14) rfl ?_
  refine own_ifF X1 hx hby d48_14 (by decide) (pc' := 17) rfl ?_
  refine own_aloadN X1 hx hby rfl rfl d48_17 (pc' := 18) rfl ?_
  refine own_iload X1 hx hby rfl d48_18 (pc' := 20) rfl ?_
  refine own_iconst X1 hx hby (v := (1 : Int32)) (by decide) d48_20 (pc' := 21) rfl ?_
  refine own_isub X1 hx hby (v := (15 : Int32)) (by decide) d48_21 (pc' := 22) rfl ?_
  refine own_aloadN X1 hx hby rfl rfl d48_22 (pc' := 23) rfl ?_
  refine own_static X1 hx hby hZ (y := (⟨"java/util/HashMap", "hash", "(Ljava/lang/Object;)I"⟩ : MethodName)) (rest := [(.int (15 : Int32)), (.ref table_o0)]) hown (hw _ (mi 103 rfl)) (hw _ (mi 104 rfl)) (hw _ (mi 105 rfl)) (hw _ (mi 51 rfl)) (by decide) (rm17 l Z a0 hw [] o1 st_COMPACT_STRINGS by0 value_o1 hh kk h0 n0 Z0 S_COMPACT_STRINGS hcs E_o1 F_o1_hash F_o1_hashIsZero F_o1_coder F_o1_value V_value_o1 ne_value_o1_o1 hhh hhz hkk g_o1) eH1 (by rw [hml]; rfl) (argsL := [(.ref o1)]) rfl (lenOf pd_11 rfl) rfl d48_23 (pc' := 26) rfl (by decide) (W := 2) (Nat.le_of_eq rfl) (by decide) (by decide) (by decide) (fun T2 h2 Lc2 v2r X2 eH2 hQ2 => ?_)
  obtain ⟨rfl, Nq2, Kq2, gq2_0, gq2_1, gq2_2, gq2_3, gq2_4⟩ := hQ2
  have N2 := Fr.app N0 Nq2
  replace S_COMPACT_STRINGS := own_skn S_COMPACT_STRINGS Kq2 (own_skS E_o1 own_sk0)
  replace F_o0_table := F_o0_table.keep Kq2 (ninS ne_o0_o1 nin0)
  replace E_o1 := E_o1.keep Kq2
  replace V_table_o0 := V_table_o0.keep Kq2 (ninS ne_table_o0_o1 nin0)
  replace V_value_o1 := V_value_o1.keep Kq2 (ninS ne_value_o1_o1 nin0)
  replace K0 := K0.trans Kq2 (allS (Or.inl (by simp)) all0)
  have E_o1 := gq2_0
  have F_o1_value := gq2_1
  have F_o1_coder := gq2_2
  have F_o1_hash := gq2_3
  have F_o1_hashIsZero := gq2_4
  replace Z0 := Nat.le_trans Z0 Kq2.1
  refine own_dup X2 hx hby rfl d48_26 (pc' := 27) rfl ?_
  refine own_istore X2 hx hby (L' := #[.val (.ref o0), .val (.ref o1), .val (.ref table_o0), .unset, .unset, .val (.int (16 : Int32)), .val (.int kk), .unset]) rfl d48_27 (pc' := 29) rfl ?_
  refine own_iand X2 hx hby rfl d48_29 (pc' := 30) rfl ?_
  refine own_aaload X2 hx hby hZ eH2 V_table_o0 rfl hj0 (v := .null) (by rw [hjn]; exact hti) d48_30 (pc' := 31) rfl ?_
  refine own_dup X2 hx hby rfl d48_31 (pc' := 32) rfl ?_
  refine own_astoreN X2 hx hby rfl (L' := #[.val (.ref o0), .val (.ref o1), .val (.ref table_o0), .val .null, .unset, .val (.int (16 : Int32)), .val (.int kk), .unset]) rfl d48_32 (pc' := 33) rfl ?_
  refine own_ifnullT X2 hx hby d48_33 (by decide) (pc' := 148) (by decide) ?_
  refine own_aconst X2 hx hby d48_148 (pc' := 149) rfl ?_
  exact own_retA X2 hx hby Bd.notSynchronized Bd.returns rfl rfl d48_149 (by decide) (by decide) eH2 ⟨rfl, N2, K0, E_o1, F_o1_value, F_o1_coder, F_o1_hash, F_o1_hashIsZero⟩
theorem ef47a (m : MethodId) (x0 : Addr) (x1 : Addr) : entryFrame m #[(.ref x0), (.ref x1)] 2 = mkF m 0 #[.val (.ref x0), .val (.ref x1)] [] := by first | (simp [entryFrame, mkF, argsToLocals, Value.category]; done) | rfl
def Q47a (Z : State) (o0 : Addr) (o1 : Addr) (st_COMPACT_STRINGS : Int32) (table_o0 : Addr) (by0 : Int32) (value_o1 : Addr) (hh : Int32) (kk : Int32) (ix : Nat) (tl : List Value) (h0 : Heap) (n0 : Nat) (v : Option Value) (h : Heap) (L : List Loc) : Prop := v = some (.int (0 : Int32)) ∧ Fr n0 L ∧ Keep h0 h [o1] ∧ Exa Z h o1 "java/lang/String" ∧ Fld Z h o1 "java/lang/String" "value" "[B" (.ref value_o1) ∧ Fld Z h o1 "java/lang/String" "coder" "B" (.int (0 : Int32)) ∧ Fld Z h o1 "java/lang/String" "hash" "I" (.int hh) ∧ Fld Z h o1 "java/lang/String" "hashIsZero" "Z" (.int (0 : Int32))
theorem rm47a (l : Launch) (Z : State) (a0 : Array Value) (hw : ∀ d ∈ tables_1, d.before a0 Z = true) (ws : List Jvm.Cond) (o0 : Addr) (o1 : Addr) (st_COMPACT_STRINGS : Int32) (table_o0 : Addr) (by0 : Int32) (value_o1 : Addr) (hh : Int32) (kk : Int32) (ix : Nat) (tl : List Value) (h0 : Heap) (n0 : Nat) (Z0 : n0 ≤ h0.size) (S_COMPACT_STRINGS : Sta Z h0 "java/lang/String" "COMPACT_STRINGS" "Z" (.int st_COMPACT_STRINGS)) (hcs : (¬ (st_COMPACT_STRINGS = 0))) (F_o0_table : Fld Z h0 o0 "java/util/HashMap" "table" "[Ljava/util/HashMap$Node;" (.ref table_o0)) (E_o1 : Exa Z h0 o1 "java/lang/String") (F_o1_hash : Fld Z h0 o1 "java/lang/String" "hash" "I" (.int (0 : Int32))) (F_o1_hashIsZero : Fld Z h0 o1 "java/lang/String" "hashIsZero" "Z" (.int (0 : Int32))) (F_o1_coder : Fld Z h0 o1 "java/lang/String" "coder" "B" (.int (0 : Int32))) (F_o1_value : Fld Z h0 o1 "java/lang/String" "value" "[B" (.ref value_o1)) (V_value_o1 : Ary tr Z h0 value_o1 .byte [(.int by0)]) (ne_value_o1_o1 : value_o1 ≠ o1) (hhh : ((by0 &&& (255 : Int32)) = hh)) (hhz : (¬ (hh = 0))) (hkk : ((hh ^^^ (hh.toUInt32 >>> ((16 : Int32) &&& 31).toUInt32).toInt32) = kk)) (hj0 : (¬ (((15 : Int32) &&& kk) < 0))) (hjn : (((15 : Int32) &&& kk).toNatClampNeg = ix)) (hil : (ix < 16)) (V_table_o0 : Ary (ovO Z "java/util/HashMap$Node") Z h0 table_o0 (.object "java/util/HashMap$Node") tl) (hlt : (tl.length = 16)) (hti : (tl[ix]? = some .null)) (g_o1 : n0 ≤ o1) (ne_o0_o1 : o0 ≠ o1) (ne_table_o0_o1 : table_o0 ≠ o1) (E_o0 : Exa Z h0 o0 "java/util/HashMap") :
    MetFree l (⟨"java/util/HashMap", "containsKey", "(Ljava/lang/Object;)Z"⟩ : MethodName) (head1 (Jvm.Cond.code (⟨"java/util/HashMap", "containsKey", "(Ljava/lang/Object;)Z"⟩ : MethodName) jdk_69_method_14_code 2 (some .boolean) :: ws) ({ frames := 4, cells := 0, slots := 0, locals := 59 } : Room)) (fun a U => a = #[(.ref o0), (.ref o1)] ∧ Z.Warmed39 U.vm ∧ U.heap = h0) (fun _ _ _ _ _ => True) (fun _ U o U' => ∃ v L, o = .returned v ∧ Q47a Z o0 o1 st_COMPACT_STRINGS table_o0 by0 value_o1 hh kk ix tl h0 n0 v U'.heap L ∧ FrameEnd U o U' L ({ frames := 4, cells := 0, slots := 0, locals := 59 } : Room).cells ({ frames := 4, cells := 0, slots := 0, locals := 59 } : Room).slots) := by
  refine MetFree.of_bodySF (plainFor_of_name pn_java_util_HashMap) hisR ?_
  intro p e s m args below meth c s₁ Bd hml0 hP hK
  obtain ⟨rfl, hZ, hhp⟩ := hP
  have hx := Bd.exec
  have hby := Bd.bytes
  have hml : c.maxLocals = 2 := hml0
  have hown : s.vm.findClass "java/util/HashMap" = some m.cls := findClass_of_methodNamed Bd.named
  have hnm := (name_of_methodNamed Bd.named Bd.method).1
  have X0 : Stand p l e ({ frames := 4, cells := 0, slots := 0, locals := 59 } : Room) s m #[(.ref o0), (.ref o1)] below meth c s₁ [] 0 0 := Stand.of_body Bd
  have eH0 : s₁.heap = h0 := by rw [← hhp, Bd.state]; rfl
  have N0 := Fr.nil n0
  have K0 := Keep.refl h0 [o1]
  show Gt p.tables e below (fun o U' => ∃ v L, o = .returned v ∧ Q47a Z o0 o1 st_COMPACT_STRINGS table_o0 by0 value_o1 hh kk ix tl h0 n0 v U'.heap L ∧ FrameEnd s o U' L ({ frames := 4, cells := 0, slots := 0, locals := 59 } : Room).cells ({ frames := 4, cells := 0, slots := 0, locals := 59 } : Room).slots) _
  refine own_cast (ef47a m o0 o1) ?_
  refine own_aloadN X0 hx hby rfl rfl d47_0 (pc' := 1) rfl ?_
  refine own_aloadN X0 hx hby rfl rfl d47_1 (pc' := 2) rfl ?_
  refine own_virtual X0 hx hby hZ (y := (⟨"java/util/HashMap", "getNode", "(Ljava/lang/Object;)Ljava/util/HashMap$Node;"⟩ : MethodName)) (y' := (⟨"java/util/HashMap", "getNode", "(Ljava/lang/Object;)Ljava/util/HashMap$Node;"⟩ : MethodName)) (C := "java/util/HashMap") (rest := []) hown (hw _ (mi 313 rfl)) (hw _ (mi 314 rfl)) (notFace_of_selects (args := #[]) (mvT hZ (hw _ (mi 316 rfl)))) (hw _ (mi 316 rfl)) (hw _ (mi 315 rfl)) (hw _ (mi 317 rfl)) (hw _ (mi 51 rfl)) (by decide) (rm48a l Z a0 hw [] o0 o1 st_COMPACT_STRINGS table_o0 by0 value_o1 hh kk ix tl h0 n0 Z0 S_COMPACT_STRINGS hcs F_o0_table E_o1 F_o1_hash F_o1_hashIsZero F_o1_coder F_o1_value V_value_o1 ne_value_o1_o1 hhh hhz hkk hj0 hjn hil V_table_o0 hlt hti g_o1 ne_o0_o1 ne_table_o0_o1) eH0 (by rw [hml]; rfl) (a := o0) E_o0 (argsL := [(.ref o1)]) rfl (lenOf pd_16 rfl) rfl d47_2 (pc' := 5) rfl (by decide) (W := 0) (Nat.le_of_eq rfl) (by decide) (by decide) (by decide) (fun T1 h1 Lc1 v1r X1 eH1 hQ1 => ?_)
  obtain ⟨rfl, Nq1, Kq1, gq1_0, gq1_1, gq1_2, gq1_3, gq1_4⟩ := hQ1
  have N1 := Fr.app N0 Nq1
  replace S_COMPACT_STRINGS := own_skn S_COMPACT_STRINGS Kq1 (own_skS E_o1 own_sk0)
  replace E_o0 := E_o0.keep Kq1
  replace F_o0_table := F_o0_table.keep Kq1 (ninS ne_o0_o1 nin0)
  replace E_o1 := E_o1.keep Kq1
  replace V_table_o0 := V_table_o0.keep Kq1 (ninS ne_table_o0_o1 nin0)
  replace V_value_o1 := V_value_o1.keep Kq1 (ninS ne_value_o1_o1 nin0)
  replace K0 := K0.trans Kq1 (allS (Or.inl (by simp)) all0)
  have E_o1 := gq1_0
  have F_o1_value := gq1_1
  have F_o1_coder := gq1_2
  have F_o1_hash := gq1_3
  have F_o1_hashIsZero := gq1_4
  replace Z0 := Nat.le_trans Z0 Kq1.1
  refine own_ifnullT X1 hx hby d47_5 (by decide) (pc' := 12) (by decide) ?_
  refine own_iconst X1 hx hby (v := (0 : Int32)) (by decide) d47_12 (pc' := 13) rfl ?_
  exact own_retZ X1 hx hby Bd.notSynchronized Bd.returns (Or.inl rfl) d47_13 (by decide) (by decide) eH1 ⟨rfl, N1, K0, E_o1, F_o1_value, F_o1_coder, F_o1_hash, F_o1_hashIsZero⟩
theorem ef46a (m : MethodId) (x0 : Addr) (x1 : Addr) : entryFrame m #[(.ref x0), (.ref x1)] 2 = mkF m 0 #[.val (.ref x0), .val (.ref x1)] [] := by first | (simp [entryFrame, mkF, argsToLocals, Value.category]; done) | rfl
def Q46a (Z : State) (o0 : Addr) (o1 : Addr) (st_COMPACT_STRINGS : Int32) (map_o0 : Addr) (table_map_o0 : Addr) (by0 : Int32) (value_o1 : Addr) (hh : Int32) (kk : Int32) (ix : Nat) (tl : List Value) (h0 : Heap) (n0 : Nat) (v : Option Value) (h : Heap) (L : List Loc) : Prop := v = some (.int (0 : Int32)) ∧ Fr n0 L ∧ Keep h0 h [o1] ∧ Exa Z h o1 "java/lang/String" ∧ Fld Z h o1 "java/lang/String" "value" "[B" (.ref value_o1) ∧ Fld Z h o1 "java/lang/String" "coder" "B" (.int (0 : Int32)) ∧ Fld Z h o1 "java/lang/String" "hash" "I" (.int hh) ∧ Fld Z h o1 "java/lang/String" "hashIsZero" "Z" (.int (0 : Int32))
theorem rm46a (l : Launch) (Z : State) (a0 : Array Value) (hw : ∀ d ∈ tables_1, d.before a0 Z = true) (ws : List Jvm.Cond) (o0 : Addr) (o1 : Addr) (st_COMPACT_STRINGS : Int32) (map_o0 : Addr) (table_map_o0 : Addr) (by0 : Int32) (value_o1 : Addr) (hh : Int32) (kk : Int32) (ix : Nat) (tl : List Value) (h0 : Heap) (n0 : Nat) (Z0 : n0 ≤ h0.size) (S_COMPACT_STRINGS : Sta Z h0 "java/lang/String" "COMPACT_STRINGS" "Z" (.int st_COMPACT_STRINGS)) (hcs : (¬ (st_COMPACT_STRINGS = 0))) (F_o0_map : Fld Z h0 o0 "java/util/HashSet" "map" "Ljava/util/HashMap;" (.ref map_o0)) (E_map_o0 : Exa Z h0 map_o0 "java/util/HashMap") (F_map_o0_table : Fld Z h0 map_o0 "java/util/HashMap" "table" "[Ljava/util/HashMap$Node;" (.ref table_map_o0)) (E_o1 : Exa Z h0 o1 "java/lang/String") (F_o1_hash : Fld Z h0 o1 "java/lang/String" "hash" "I" (.int (0 : Int32))) (F_o1_hashIsZero : Fld Z h0 o1 "java/lang/String" "hashIsZero" "Z" (.int (0 : Int32))) (F_o1_coder : Fld Z h0 o1 "java/lang/String" "coder" "B" (.int (0 : Int32))) (F_o1_value : Fld Z h0 o1 "java/lang/String" "value" "[B" (.ref value_o1)) (V_value_o1 : Ary tr Z h0 value_o1 .byte [(.int by0)]) (ne_value_o1_o1 : value_o1 ≠ o1) (hhh : ((by0 &&& (255 : Int32)) = hh)) (hhz : (¬ (hh = 0))) (hkk : ((hh ^^^ (hh.toUInt32 >>> ((16 : Int32) &&& 31).toUInt32).toInt32) = kk)) (hj0 : (¬ (((15 : Int32) &&& kk) < 0))) (hjn : (((15 : Int32) &&& kk).toNatClampNeg = ix)) (hil : (ix < 16)) (V_table_map_o0 : Ary (ovO Z "java/util/HashMap$Node") Z h0 table_map_o0 (.object "java/util/HashMap$Node") tl) (hlt : (tl.length = 16)) (hti : (tl[ix]? = some .null)) (g_o1 : n0 ≤ o1) (ne_map_o0_o1 : map_o0 ≠ o1) (ne_table_map_o0_o1 : table_map_o0 ≠ o1) (ne_o0_o1 : o0 ≠ o1) :
    MetFree l (⟨"java/util/HashSet", "contains", "(Ljava/lang/Object;)Z"⟩ : MethodName) (head1 (Jvm.Cond.code (⟨"java/util/HashSet", "contains", "(Ljava/lang/Object;)Z"⟩ : MethodName) jdk_93_method_9_code 2 (some .boolean) :: ws) ({ frames := 5, cells := 0, slots := 0, locals := 72 } : Room)) (fun a U => a = #[(.ref o0), (.ref o1)] ∧ Z.Warmed39 U.vm ∧ U.heap = h0) (fun _ _ _ _ _ => True) (fun _ U o U' => ∃ v L, o = .returned v ∧ Q46a Z o0 o1 st_COMPACT_STRINGS map_o0 table_map_o0 by0 value_o1 hh kk ix tl h0 n0 v U'.heap L ∧ FrameEnd U o U' L ({ frames := 5, cells := 0, slots := 0, locals := 72 } : Room).cells ({ frames := 5, cells := 0, slots := 0, locals := 72 } : Room).slots) := by
  refine MetFree.of_bodySF (plainFor_of_name pn_java_util_HashSet) hisR ?_
  intro p e s m args below meth c s₁ Bd hml0 hP hK
  obtain ⟨rfl, hZ, hhp⟩ := hP
  have hx := Bd.exec
  have hby := Bd.bytes
  have hml : c.maxLocals = 2 := hml0
  have hown : s.vm.findClass "java/util/HashSet" = some m.cls := findClass_of_methodNamed Bd.named
  have hnm := (name_of_methodNamed Bd.named Bd.method).1
  have X0 : Stand p l e ({ frames := 5, cells := 0, slots := 0, locals := 72 } : Room) s m #[(.ref o0), (.ref o1)] below meth c s₁ [] 0 0 := Stand.of_body Bd
  have eH0 : s₁.heap = h0 := by rw [← hhp, Bd.state]; rfl
  have N0 := Fr.nil n0
  have K0 := Keep.refl h0 [o1]
  show Gt p.tables e below (fun o U' => ∃ v L, o = .returned v ∧ Q46a Z o0 o1 st_COMPACT_STRINGS map_o0 table_map_o0 by0 value_o1 hh kk ix tl h0 n0 v U'.heap L ∧ FrameEnd s o U' L ({ frames := 5, cells := 0, slots := 0, locals := 72 } : Room).cells ({ frames := 5, cells := 0, slots := 0, locals := 72 } : Room).slots) _
  refine own_cast (ef46a m o0 o1) ?_
  refine own_aloadN X0 hx hby rfl rfl d46_0 (pc' := 1) rfl ?_
  refine own_getF X0 hx hby hZ hown (host := "") (Or.inl (hw _ (mi 66 rfl))) Via.refl eH0 F_o0_map d46_1 (pc' := 4) rfl (fun T1 X1 eH1 => ?_)
  refine own_aloadN X1 hx hby rfl rfl d46_4 (pc' := 5) rfl ?_
  refine own_virtual X1 hx hby hZ (y := (⟨"java/util/HashMap", "containsKey", "(Ljava/lang/Object;)Z"⟩ : MethodName)) (y' := (⟨"java/util/HashMap", "containsKey", "(Ljava/lang/Object;)Z"⟩ : MethodName)) (C := "java/util/HashMap") (rest := []) hown (hw _ (mi 308 rfl)) (hw _ (mi 309 rfl)) (notFace_of_selects (args := #[]) (mvT hZ (hw _ (mi 311 rfl)))) (hw _ (mi 311 rfl)) (hw _ (mi 310 rfl)) (hw _ (mi 312 rfl)) (hw _ (mi 51 rfl)) (by decide) (rm47a l Z a0 hw [] map_o0 o1 st_COMPACT_STRINGS table_map_o0 by0 value_o1 hh kk ix tl h0 n0 Z0 S_COMPACT_STRINGS hcs F_map_o0_table E_o1 F_o1_hash F_o1_hashIsZero F_o1_coder F_o1_value V_value_o1 ne_value_o1_o1 hhh hhz hkk hj0 hjn hil V_table_map_o0 hlt hti g_o1 ne_map_o0_o1 ne_table_map_o0_o1 E_map_o0) eH1 (by rw [hml]; rfl) (a := map_o0) E_map_o0 (argsL := [(.ref o1)]) rfl (lenOf pd_15 rfl) rfl d46_5 (pc' := 8) rfl (by decide) (W := 0) (Nat.le_of_eq rfl) (by decide) (by decide) (by decide) (fun T2 h2 Lc2 v2r X2 eH2 hQ2 => ?_)
  obtain ⟨rfl, Nq2, Kq2, gq2_0, gq2_1, gq2_2, gq2_3, gq2_4⟩ := hQ2
  have N2 := Fr.app N0 Nq2
  replace S_COMPACT_STRINGS := own_skn S_COMPACT_STRINGS Kq2 (own_skS E_o1 own_sk0)
  replace F_o0_map := F_o0_map.keep Kq2 (ninS ne_o0_o1 nin0)
  replace E_o1 := E_o1.keep Kq2
  replace E_map_o0 := E_map_o0.keep Kq2
  replace F_map_o0_table := F_map_o0_table.keep Kq2 (ninS ne_map_o0_o1 nin0)
  replace V_table_map_o0 := V_table_map_o0.keep Kq2 (ninS ne_table_map_o0_o1 nin0)
  replace V_value_o1 := V_value_o1.keep Kq2 (ninS ne_value_o1_o1 nin0)
  replace K0 := K0.trans Kq2 (allS (Or.inl (by simp)) all0)
  have E_o1 := gq2_0
  have F_o1_value := gq2_1
  have F_o1_coder := gq2_2
  have F_o1_hash := gq2_3
  have F_o1_hashIsZero := gq2_4
  replace Z0 := Nat.le_trans Z0 Kq2.1
  exact own_retZ X2 hx hby Bd.notSynchronized Bd.returns (Or.inl rfl) d46_8 (by decide) (by decide) eH2 ⟨rfl, N2, K0, E_o1, F_o1_value, F_o1_coder, F_o1_hash, F_o1_hashIsZero⟩
theorem ef32r (m : MethodId) (x0 : Int32) (x1 : Int32) : entryFrame m #[(.int x0), (.int x1)] 2 = mkF m 0 #[.val (.int x0), .val (.int x1)] [] := by first | (simp [entryFrame, mkF, argsToLocals, Value.category]; done) | rfl
def Q32r (Z : State) (p0 : Int32) (p1 : Int32) (rr : Int32) (h0 : Heap) (n0 : Nat) (v : Option Value) (h : Heap) (L : List Loc) : Prop := v = some (.int rr) ∧ Fr n0 L ∧ h0 = h
theorem rm32r (l : Launch) (Z : State) (a0 : Array Value) (hw : ∀ d ∈ tables_1, d.before a0 Z = true) (ws : List Jvm.Cond) (p0 : Int32) (p1 : Int32) (rr : Int32) (h0 : Heap) (n0 : Nat) (Z0 : n0 ≤ h0.size) (hrr : ((if p1 < p0 then p1 else p0) = rr)) :
    MetFree l (⟨"java/lang/Math", "min", "(II)I"⟩ : MethodName) (head1 (Jvm.Cond.code (⟨"java/lang/Math", "min", "(II)I"⟩ : MethodName) jdk_29_method_69_code 2 (some .int) :: ws) ({ frames := 0, cells := 0, slots := 0, locals := 0 } : Room)) (fun a U => a = #[(.int p0), (.int p1)] ∧ Z.Warmed39 U.vm ∧ U.heap = h0) (fun _ _ _ _ _ => True) (fun _ U o U' => ∃ v L, o = .returned v ∧ Q32r Z p0 p1 rr h0 n0 v U'.heap L ∧ FrameEnd U o U' L ({ frames := 0, cells := 0, slots := 0, locals := 0 } : Room).cells ({ frames := 0, cells := 0, slots := 0, locals := 0 } : Room).slots) := by
  refine MetFree.of_bodySF (Jvm.Free.JP.mathPlain rfl (by decide +kernel)) hisR ?_
  intro p e s m args below meth c s₁ Bd hml0 hP hK
  obtain ⟨rfl, hZ, hhp⟩ := hP
  have hx := Bd.exec
  have hby := Bd.bytes
  have hml : c.maxLocals = 2 := hml0
  have hown : s.vm.findClass "java/lang/Math" = some m.cls := findClass_of_methodNamed Bd.named
  have hnm := (name_of_methodNamed Bd.named Bd.method).1
  have X0 : Stand p l e ({ frames := 0, cells := 0, slots := 0, locals := 0 } : Room) s m #[(.int p0), (.int p1)] below meth c s₁ [] 0 0 := Stand.of_body Bd
  have eH0 : s₁.heap = h0 := by rw [← hhp, Bd.state]; rfl
  have N0 := Fr.nil n0
  show Gt p.tables e below (fun o U' => ∃ v L, o = .returned v ∧ Q32r Z p0 p1 rr h0 n0 v U'.heap L ∧ FrameEnd s o U' L ({ frames := 0, cells := 0, slots := 0, locals := 0 } : Room).cells ({ frames := 0, cells := 0, slots := 0, locals := 0 } : Room).slots) _
  refine own_cast (ef32r m p0 p1) ?_
  refine own_iloadN X0 hx hby rfl d32_0 (pc' := 1) rfl ?_
  refine own_iloadN X0 hx hby rfl d32_1 (pc' := 2) rfl ?_
  by_cases hc1 : p1 < p0
  · refine own_icT X0 hx hby d32_2 (own_ic_gt_p hc1) (by decide) (pc' := 9) (by decide) ?_
    refine own_iloadN X0 hx hby rfl d32_9 (pc' := 10) rfl ?_
    exact own_retI X0 hx hby Bd.notSynchronized Bd.returns d32_10 (by decide) (by decide) eH0 ⟨(by rw [← hrr, if_pos hc1]), N0, rfl⟩
  · refine own_icF X0 hx hby d32_2 (own_ic_gt_n hc1) (pc' := 5) rfl ?_
    refine own_iloadN X0 hx hby rfl d32_5 (pc' := 6) rfl ?_
    refine own_goto X0 hx hby d32_6 (by decide) (pc' := 10) (by decide) ?_
    exact own_retI X0 hx hby Bd.notSynchronized Bd.returns d32_10 (by decide) (by decide) eH0 ⟨(by rw [← hrr, if_neg hc1]), N0, rfl⟩
theorem ef2t (m : MethodId)  : entryFrame m #[(.int (10 : Int32)), (.int (1 : Int32))] 2 = mkF m 0 #[.val (.int (10 : Int32)), .val (.int (1 : Int32))] [] := by first | (simp [entryFrame, mkF, argsToLocals, Value.category]; done) | rfl
def Q2t (Z : State)  (h0 : Heap) (n0 : Nat) (v : Option Value) (h : Heap) (L : List Loc) : Prop := v = some (.int (10 : Int32)) ∧ Fr n0 L ∧ h0 = h
theorem rm2t (l : Launch) (Z : State) (a0 : Array Value) (hw : ∀ d ∈ tables_1, d.before a0 Z = true) (ws : List Jvm.Cond)  (h0 : Heap) (n0 : Nat) (Z0 : n0 ≤ h0.size) :
    MetFree l (⟨"java/lang/Math", "max", "(II)I"⟩ : MethodName) (head1 (Jvm.Cond.code (⟨"java/lang/Math", "max", "(II)I"⟩ : MethodName) jdk_29_method_65_code 2 (some .int) :: ws) ({ frames := 0, cells := 0, slots := 0, locals := 0 } : Room)) (fun a U => a = #[(.int (10 : Int32)), (.int (1 : Int32))] ∧ Z.Warmed39 U.vm ∧ U.heap = h0) (fun _ _ _ _ _ => True) (fun _ U o U' => ∃ v L, o = .returned v ∧ Q2t Z  h0 n0 v U'.heap L ∧ FrameEnd U o U' L ({ frames := 0, cells := 0, slots := 0, locals := 0 } : Room).cells ({ frames := 0, cells := 0, slots := 0, locals := 0 } : Room).slots) := by
  refine MetFree.of_bodySF (Jvm.Free.JP.mathPlain rfl (by decide +kernel)) hisR ?_
  intro p e s m args below meth c s₁ Bd hml0 hP hK
  obtain ⟨rfl, hZ, hhp⟩ := hP
  have hx := Bd.exec
  have hby := Bd.bytes
  have hml : c.maxLocals = 2 := hml0
  have hown : s.vm.findClass "java/lang/Math" = some m.cls := findClass_of_methodNamed Bd.named
  have hnm := (name_of_methodNamed Bd.named Bd.method).1
  have X0 : Stand p l e ({ frames := 0, cells := 0, slots := 0, locals := 0 } : Room) s m #[(.int (10 : Int32)), (.int (1 : Int32))] below meth c s₁ [] 0 0 := Stand.of_body Bd
  have eH0 : s₁.heap = h0 := by rw [← hhp, Bd.state]; rfl
  have N0 := Fr.nil n0
  show Gt p.tables e below (fun o U' => ∃ v L, o = .returned v ∧ Q2t Z  h0 n0 v U'.heap L ∧ FrameEnd s o U' L ({ frames := 0, cells := 0, slots := 0, locals := 0 } : Room).cells ({ frames := 0, cells := 0, slots := 0, locals := 0 } : Room).slots) _
  refine own_cast (ef2t m ) ?_
  refine own_iloadN X0 hx hby rfl d2_0 (pc' := 1) rfl ?_
  refine own_iloadN X0 hx hby rfl d2_1 (pc' := 2) rfl ?_
  refine own_icF X0 hx hby d2_2 (by decide) (pc' := 5) rfl ?_
  refine own_iloadN X0 hx hby rfl d2_5 (pc' := 6) rfl ?_
  refine own_goto X0 hx hby d2_6 (by decide) (pc' := 10) (by decide) ?_
  exact own_retI X0 hx hby Bd.notSynchronized Bd.returns d2_10 (by decide) (by decide) eH0 ⟨rfl, N0, rfl⟩
theorem ef44 (m : MethodId) (x0 : Int32) (x1 : Int32) : entryFrame m #[(.int x0), (.int x1), .null] 3 = mkF m 0 #[.val (.int x0), .val (.int x1), .val .null] [] := by first | (simp [entryFrame, mkF, argsToLocals, Value.category]; done) | rfl
def Q44 (Z : State) (p0 : Int32) (p1 : Int32) (h0 : Heap) (n0 : Nat) (v : Option Value) (h : Heap) (L : List Loc) : Prop := v = some (.int p0) ∧ Fr n0 L ∧ h0 = h
theorem rm44 (l : Launch) (Z : State) (a0 : Array Value) (hw : ∀ d ∈ tables_1, d.before a0 Z = true) (ws : List Jvm.Cond) (p0 : Int32) (p1 : Int32) (h0 : Heap) (n0 : Nat) (Z0 : n0 ≤ h0.size) (hi0 : (¬ (p0 < 0))) (hi1 : (p0 < p1)) :
    MetFree l (⟨"jdk/internal/util/Preconditions", "checkIndex", "(IILjava/util/function/BiFunction;)I"⟩ : MethodName) (head1 (Jvm.Cond.code (⟨"jdk/internal/util/Preconditions", "checkIndex", "(IILjava/util/function/BiFunction;)I"⟩ : MethodName) jdk_41_method_11_code 3 (some .int) :: ws) ({ frames := 0, cells := 0, slots := 0, locals := 0 } : Room)) (fun a U => a = #[(.int p0), (.int p1), .null] ∧ Z.Warmed39 U.vm ∧ U.heap = h0) (fun _ _ _ _ _ => True) (fun _ U o U' => ∃ v L, o = .returned v ∧ Q44 Z p0 p1 h0 n0 v U'.heap L ∧ FrameEnd U o U' L ({ frames := 0, cells := 0, slots := 0, locals := 0 } : Room).cells ({ frames := 0, cells := 0, slots := 0, locals := 0 } : Room).slots) := by
  refine MetFree.of_bodySF (plainFor_of_name pn_jdk_internal_util_Preconditions) hisR ?_
  intro p e s m args below meth c s₁ Bd hml0 hP hK
  obtain ⟨rfl, hZ, hhp⟩ := hP
  have hx := Bd.exec
  have hby := Bd.bytes
  have hml : c.maxLocals = 3 := hml0
  have hown : s.vm.findClass "jdk/internal/util/Preconditions" = some m.cls := findClass_of_methodNamed Bd.named
  have hnm := (name_of_methodNamed Bd.named Bd.method).1
  have X0 : Stand p l e ({ frames := 0, cells := 0, slots := 0, locals := 0 } : Room) s m #[(.int p0), (.int p1), .null] below meth c s₁ [] 0 0 := Stand.of_body Bd
  have eH0 : s₁.heap = h0 := by rw [← hhp, Bd.state]; rfl
  have N0 := Fr.nil n0
  show Gt p.tables e below (fun o U' => ∃ v L, o = .returned v ∧ Q44 Z p0 p1 h0 n0 v U'.heap L ∧ FrameEnd s o U' L ({ frames := 0, cells := 0, slots := 0, locals := 0 } : Room).cells ({ frames := 0, cells := 0, slots := 0, locals := 0 } : Room).slots) _
  refine own_cast (ef44 m p0 p1) ?_
  refine own_iloadN X0 hx hby rfl d44_0 (pc' := 1) rfl ?_
  refine own_ifF X0 hx hby d44_1 (own_i0_lt_n hi0) (pc' := 4) rfl ?_
  refine own_iloadN X0 hx hby rfl d44_4 (pc' := 5) rfl ?_
  refine own_iloadN X0 hx hby rfl d44_5 (pc' := 6) rfl ?_
  refine own_icT X0 hx hby d44_6 (own_ic_lt_p hi1) (by decide) (pc' := 16) (by decide) ?_
  refine own_iloadN X0 hx hby rfl d44_16 (pc' := 17) rfl ?_
  exact own_retI X0 hx hby Bd.notSynchronized Bd.returns d44_17 (by decide) (by decide) eH0 ⟨rfl, N0, rfl⟩
theorem ef43 (m : MethodId) (x0 : Int32) (x1 : Int32) : entryFrame m #[(.int x0), (.int x1)] 2 = mkF m 0 #[.val (.int x0), .val (.int x1)] [] := by first | (simp [entryFrame, mkF, argsToLocals, Value.category]; done) | rfl
def Q43 (Z : State) (p0 : Int32) (p1 : Int32) (h0 : Heap) (n0 : Nat) (v : Option Value) (h : Heap) (L : List Loc) : Prop := v = some (.int p0) ∧ Fr n0 L ∧ h0 = h
theorem rm43 (l : Launch) (Z : State) (a0 : Array Value) (hw : ∀ d ∈ tables_1, d.before a0 Z = true) (ws : List Jvm.Cond) (p0 : Int32) (p1 : Int32) (h0 : Heap) (n0 : Nat) (Z0 : n0 ≤ h0.size) (hi0 : (¬ (p0 < 0))) (hi1 : (p0 < p1)) :
    MetFree l (⟨"java/util/Objects", "checkIndex", "(II)I"⟩ : MethodName) (head1 (Jvm.Cond.code (⟨"java/util/Objects", "checkIndex", "(II)I"⟩ : MethodName) jdk_31_method_17_code 2 (some .int) :: ws) ({ frames := 1, cells := 0, slots := 0, locals := 14 } : Room)) (fun a U => a = #[(.int p0), (.int p1)] ∧ Z.Warmed39 U.vm ∧ U.heap = h0) (fun _ _ _ _ _ => True) (fun _ U o U' => ∃ v L, o = .returned v ∧ Q43 Z p0 p1 h0 n0 v U'.heap L ∧ FrameEnd U o U' L ({ frames := 1, cells := 0, slots := 0, locals := 14 } : Room).cells ({ frames := 1, cells := 0, slots := 0, locals := 14 } : Room).slots) := by
  refine MetFree.of_bodySF (plainFor_of_name pn_java_util_Objects) hisR ?_
  intro p e s m args below meth c s₁ Bd hml0 hP hK
  obtain ⟨rfl, hZ, hhp⟩ := hP
  have hx := Bd.exec
  have hby := Bd.bytes
  have hml : c.maxLocals = 2 := hml0
  have hown : s.vm.findClass "java/util/Objects" = some m.cls := findClass_of_methodNamed Bd.named
  have hnm := (name_of_methodNamed Bd.named Bd.method).1
  have X0 : Stand p l e ({ frames := 1, cells := 0, slots := 0, locals := 14 } : Room) s m #[(.int p0), (.int p1)] below meth c s₁ [] 0 0 := Stand.of_body Bd
  have eH0 : s₁.heap = h0 := by rw [← hhp, Bd.state]; rfl
  have N0 := Fr.nil n0
  show Gt p.tables e below (fun o U' => ∃ v L, o = .returned v ∧ Q43 Z p0 p1 h0 n0 v U'.heap L ∧ FrameEnd s o U' L ({ frames := 1, cells := 0, slots := 0, locals := 14 } : Room).cells ({ frames := 1, cells := 0, slots := 0, locals := 14 } : Room).slots) _
  refine own_cast (ef43 m p0 p1) ?_
  refine own_iloadN X0 hx hby rfl d43_0 (pc' := 1) rfl ?_
  refine own_iloadN X0 hx hby rfl d43_1 (pc' := 2) rfl ?_
  refine own_aconst X0 hx hby d43_2 (pc' := 3) rfl ?_
  refine own_static X0 hx hby hZ (y := (⟨"jdk/internal/util/Preconditions", "checkIndex", "(IILjava/util/function/BiFunction;)I"⟩ : MethodName)) (rest := []) hown (hw _ (mi 291 rfl)) (hw _ (mi 292 rfl)) (hw _ (mi 294 rfl)) (hw _ (mi 293 rfl)) (by decide) (rm44 l Z a0 hw [] p0 p1 h0 n0 Z0 hi0 hi1) eH0 (by rw [hml]; rfl) (argsL := [(.int p0), (.int p1), .null]) rfl (lenOf pd_17 rfl) rfl d43_3 (pc' := 6) rfl (by decide) (W := 0) (Nat.le_of_eq rfl) (by decide) (by decide) (by decide) (fun T1 h1 Lc1 v1r X1 eH1 hQ1 => ?_)
  obtain ⟨rfl, Nq1, rfl⟩ := hQ1
  have N1 := Fr.app N0 Nq1
  exact own_retI X1 hx hby Bd.notSynchronized Bd.returns d43_6 (by decide) (by decide) eH1 ⟨rfl, N1, rfl⟩
theorem ef45 (m : MethodId) (x0 : Addr) (x1 : Int32) : entryFrame m #[(.ref x0), (.int x1)] 2 = mkF m 0 #[.val (.ref x0), .val (.int x1)] [] := by first | (simp [entryFrame, mkF, argsToLocals, Value.category]; done) | rfl
def Q45 (Z : State) (o0 : Addr) (p1 : Int32) (elementData_o0 : Addr) (el : List Value) (xx : Addr) (ix : Nat) (h0 : Heap) (n0 : Nat) (v : Option Value) (h : Heap) (L : List Loc) : Prop := v = some (.ref xx) ∧ Fr n0 L ∧ h0 = h
theorem rm45 (l : Launch) (Z : State) (a0 : Array Value) (hw : ∀ d ∈ tables_1, d.before a0 Z = true) (ws : List Jvm.Cond) (o0 : Addr) (p1 : Int32) (elementData_o0 : Addr) (el : List Value) (xx : Addr) (ix : Nat) (h0 : Heap) (n0 : Nat) (Z0 : n0 ≤ h0.size) (F_o0_elementData : Fld Z h0 o0 "java/util/ArrayList" "elementData" "[Ljava/lang/Object;" (.ref elementData_o0)) (V_elementData_o0 : Ary (ovO Z "java/lang/Object") Z h0 elementData_o0 (.object "java/lang/Object") el) (hi0 : (¬ (p1 < 0))) (hin : (p1.toNatClampNeg = ix)) (hel : (el[ix]? = some (.ref xx))) :
    MetFree l (⟨"java/util/ArrayList", "elementData", "(I)Ljava/lang/Object;"⟩ : MethodName) (head1 (Jvm.Cond.code (⟨"java/util/ArrayList", "elementData", "(I)Ljava/lang/Object;"⟩ : MethodName) jdk_38_method_18_code 2 (some (.object "java/lang/Object")) :: ws) ({ frames := 0, cells := 0, slots := 0, locals := 0 } : Room)) (fun a U => a = #[(.ref o0), (.int p1)] ∧ Z.Warmed39 U.vm ∧ U.heap = h0) (fun _ _ _ _ _ => True) (fun _ U o U' => ∃ v L, o = .returned v ∧ Q45 Z o0 p1 elementData_o0 el xx ix h0 n0 v U'.heap L ∧ FrameEnd U o U' L ({ frames := 0, cells := 0, slots := 0, locals := 0 } : Room).cells ({ frames := 0, cells := 0, slots := 0, locals := 0 } : Room).slots) := by
  refine MetFree.of_bodySF (plainFor_of_name pn_java_util_ArrayList) hisR ?_
  intro p e s m args below meth c s₁ Bd hml0 hP hK
  obtain ⟨rfl, hZ, hhp⟩ := hP
  have hx := Bd.exec
  have hby := Bd.bytes
  have hml : c.maxLocals = 2 := hml0
  have hown : s.vm.findClass "java/util/ArrayList" = some m.cls := findClass_of_methodNamed Bd.named
  have hnm := (name_of_methodNamed Bd.named Bd.method).1
  have X0 : Stand p l e ({ frames := 0, cells := 0, slots := 0, locals := 0 } : Room) s m #[(.ref o0), (.int p1)] below meth c s₁ [] 0 0 := Stand.of_body Bd
  have eH0 : s₁.heap = h0 := by rw [← hhp, Bd.state]; rfl
  have N0 := Fr.nil n0
  show Gt p.tables e below (fun o U' => ∃ v L, o = .returned v ∧ Q45 Z o0 p1 elementData_o0 el xx ix h0 n0 v U'.heap L ∧ FrameEnd s o U' L ({ frames := 0, cells := 0, slots := 0, locals := 0 } : Room).cells ({ frames := 0, cells := 0, slots := 0, locals := 0 } : Room).slots) _
  refine own_cast (ef45 m o0 p1) ?_
  refine own_aloadN X0 hx hby rfl rfl d45_0 (pc' := 1) rfl ?_
  refine own_getF X0 hx hby hZ hown (host := "") (Or.inl (hw _ (mi 33 rfl))) Via.refl eH0 F_o0_elementData d45_1 (pc' := 4) rfl (fun T1 X1 eH1 => ?_)
  refine own_iloadN X1 hx hby rfl d45_4 (pc' := 5) rfl ?_
  refine own_aaload X1 hx hby hZ eH1 V_elementData_o0 rfl hi0 (v := (.ref xx)) (by rw [hin]; exact hel) d45_5 (pc' := 6) rfl ?_
  exact own_retA X1 hx hby Bd.notSynchronized Bd.returns rfl rfl d45_6 (by decide) (by decide) eH1 ⟨rfl, N0, rfl⟩
theorem ef42 (m : MethodId) (x0 : Addr) (x1 : Int32) : entryFrame m #[(.ref x0), (.int x1)] 2 = mkF m 0 #[.val (.ref x0), .val (.int x1)] [] := by first | (simp [entryFrame, mkF, argsToLocals, Value.category]; done) | rfl
def Q42 (Z : State) (o0 : Addr) (p1 : Int32) (elementData_o0 : Addr) (el : List Value) (xx : Addr) (ix : Nat) (size_o0 : Int32) (h0 : Heap) (n0 : Nat) (v : Option Value) (h : Heap) (L : List Loc) : Prop := v = some (.ref xx) ∧ Fr n0 L ∧ h0 = h
theorem rm42 (l : Launch) (Z : State) (a0 : Array Value) (hw : ∀ d ∈ tables_1, d.before a0 Z = true) (ws : List Jvm.Cond) (o0 : Addr) (p1 : Int32) (elementData_o0 : Addr) (el : List Value) (xx : Addr) (ix : Nat) (size_o0 : Int32) (h0 : Heap) (n0 : Nat) (Z0 : n0 ≤ h0.size) (F_o0_elementData : Fld Z h0 o0 "java/util/ArrayList" "elementData" "[Ljava/lang/Object;" (.ref elementData_o0)) (V_elementData_o0 : Ary (ovO Z "java/lang/Object") Z h0 elementData_o0 (.object "java/lang/Object") el) (hi0 : (¬ (p1 < 0))) (hin : (p1.toNatClampNeg = ix)) (hel : (el[ix]? = some (.ref xx))) (F_o0_size : Fld Z h0 o0 "java/util/ArrayList" "size" "I" (.int size_o0)) (hi1 : (p1 < size_o0)) (E_o0 : Exa Z h0 o0 "java/util/ArrayList") :
    MetFree l (⟨"java/util/ArrayList", "get", "(I)Ljava/lang/Object;"⟩ : MethodName) (head1 (Jvm.Cond.code (⟨"java/util/ArrayList", "get", "(I)Ljava/lang/Object;"⟩ : MethodName) jdk_38_method_20_code 2 (some (.object "java/lang/Object")) :: ws) ({ frames := 2, cells := 0, slots := 0, locals := 27 } : Room)) (fun a U => a = #[(.ref o0), (.int p1)] ∧ Z.Warmed39 U.vm ∧ U.heap = h0) (fun _ _ _ _ _ => True) (fun _ U o U' => ∃ v L, o = .returned v ∧ Q42 Z o0 p1 elementData_o0 el xx ix size_o0 h0 n0 v U'.heap L ∧ FrameEnd U o U' L ({ frames := 2, cells := 0, slots := 0, locals := 27 } : Room).cells ({ frames := 2, cells := 0, slots := 0, locals := 27 } : Room).slots) := by
  refine MetFree.of_bodySF (plainFor_of_name pn_java_util_ArrayList) hisR ?_
  intro p e s m args below meth c s₁ Bd hml0 hP hK
  obtain ⟨rfl, hZ, hhp⟩ := hP
  have hx := Bd.exec
  have hby := Bd.bytes
  have hml : c.maxLocals = 2 := hml0
  have hown : s.vm.findClass "java/util/ArrayList" = some m.cls := findClass_of_methodNamed Bd.named
  have hnm := (name_of_methodNamed Bd.named Bd.method).1
  have X0 : Stand p l e ({ frames := 2, cells := 0, slots := 0, locals := 27 } : Room) s m #[(.ref o0), (.int p1)] below meth c s₁ [] 0 0 := Stand.of_body Bd
  have eH0 : s₁.heap = h0 := by rw [← hhp, Bd.state]; rfl
  have N0 := Fr.nil n0
  show Gt p.tables e below (fun o U' => ∃ v L, o = .returned v ∧ Q42 Z o0 p1 elementData_o0 el xx ix size_o0 h0 n0 v U'.heap L ∧ FrameEnd s o U' L ({ frames := 2, cells := 0, slots := 0, locals := 27 } : Room).cells ({ frames := 2, cells := 0, slots := 0, locals := 27 } : Room).slots) _
  refine own_cast (ef42 m o0 p1) ?_
  refine own_iloadN X0 hx hby rfl d42_0 (pc' := 1) rfl ?_
  refine own_aloadN X0 hx hby rfl rfl d42_1 (pc' := 2) rfl ?_
  refine own_getF X0 hx hby hZ hown (host := "") (Or.inl (hw _ (mi 199 rfl))) Via.refl eH0 F_o0_size d42_2 (pc' := 5) rfl (fun T1 X1 eH1 => ?_)
  refine own_static X1 hx hby hZ (y := (⟨"java/util/Objects", "checkIndex", "(II)I"⟩ : MethodName)) (rest := []) hown (hw _ (mi 287 rfl)) (hw _ (mi 288 rfl)) (hw _ (mi 290 rfl)) (hw _ (mi 289 rfl)) (by decide) (rm43 l Z a0 hw [] p1 size_o0 h0 n0 Z0 hi0 hi1) eH1 (by rw [hml]; rfl) (argsL := [(.int p1), (.int size_o0)]) rfl (lenOf pd_18 rfl) rfl d42_5 (pc' := 8) rfl (by decide) (W := 0) (Nat.le_of_eq rfl) (by decide) (by decide) (by decide) (fun T2 h2 Lc2 v2r X2 eH2 hQ2 => ?_)
  obtain ⟨rfl, Nq2, rfl⟩ := hQ2
  have N2 := Fr.app N0 Nq2
  refine own_pop X2 hx hby rfl d42_8 (pc' := 9) rfl ?_
  refine own_aloadN X2 hx hby rfl rfl d42_9 (pc' := 10) rfl ?_
  refine own_iloadN X2 hx hby rfl d42_10 (pc' := 11) rfl ?_
  refine own_virtual X2 hx hby hZ (y := (⟨"java/util/ArrayList", "elementData", "(I)Ljava/lang/Object;"⟩ : MethodName)) (y' := (⟨"java/util/ArrayList", "elementData", "(I)Ljava/lang/Object;"⟩ : MethodName)) (C := "java/util/ArrayList") (rest := []) hown (hw _ (mi 295 rfl)) (hw _ (mi 296 rfl)) (notFace_of_selects (args := #[]) (mvT hZ (hw _ (mi 298 rfl)))) (hw _ (mi 298 rfl)) (hw _ (mi 297 rfl)) (hw _ (mi 299 rfl)) (hw _ (mi 11 rfl)) (by decide) (rm45 l Z a0 hw [] o0 p1 elementData_o0 el xx ix h0 n0 Z0 F_o0_elementData V_elementData_o0 hi0 hin hel) eH2 (by rw [hml]; rfl) (a := o0) E_o0 (argsL := [(.int p1)]) rfl (lenOf pd_19 rfl) rfl d42_11 (pc' := 14) rfl (by decide) (W := 0) (Nat.le_of_eq rfl) (by decide) (by decide) (by decide) (fun T3 h3 Lc3 v3r X3 eH3 hQ3 => ?_)
  obtain ⟨rfl, Nq3, rfl⟩ := hQ3
  have N3 := Fr.app N2 Nq3
  exact own_retA X3 hx hby Bd.notSynchronized Bd.returns rfl rfl d42_14 (by decide) (by decide) eH3 ⟨rfl, N3, rfl⟩
theorem ef29 (m : MethodId) (x0 : Addr) : entryFrame m #[(.ref x0)] 1 = mkF m 0 #[.val (.ref x0)] [] := by first | (simp [entryFrame, mkF, argsToLocals, Value.category]; done) | rfl
def Q29 (Z : State) (o0 : Addr) (size_o0 : Int32) (h0 : Heap) (n0 : Nat) (v : Option Value) (h : Heap) (L : List Loc) : Prop := v = some (.int size_o0) ∧ Fr n0 L ∧ h0 = h
theorem rm29 (l : Launch) (Z : State) (a0 : Array Value) (hw : ∀ d ∈ tables_1, d.before a0 Z = true) (ws : List Jvm.Cond) (o0 : Addr) (size_o0 : Int32) (h0 : Heap) (n0 : Nat) (Z0 : n0 ≤ h0.size) (F_o0_size : Fld Z h0 o0 "java/util/ArrayList" "size" "I" (.int size_o0)) :
    MetFree l (⟨"java/util/ArrayList", "size", "()I"⟩ : MethodName) (head1 (Jvm.Cond.code (⟨"java/util/ArrayList", "size", "()I"⟩ : MethodName) jdk_38_method_8_code 1 (some .int) :: ws) ({ frames := 0, cells := 0, slots := 0, locals := 0 } : Room)) (fun a U => a = #[(.ref o0)] ∧ Z.Warmed39 U.vm ∧ U.heap = h0) (fun _ _ _ _ _ => True) (fun _ U o U' => ∃ v L, o = .returned v ∧ Q29 Z o0 size_o0 h0 n0 v U'.heap L ∧ FrameEnd U o U' L ({ frames := 0, cells := 0, slots := 0, locals := 0 } : Room).cells ({ frames := 0, cells := 0, slots := 0, locals := 0 } : Room).slots) := by
  refine MetFree.of_bodySF (plainFor_of_name pn_java_util_ArrayList) hisR ?_
  intro p e s m args below meth c s₁ Bd hml0 hP hK
  obtain ⟨rfl, hZ, hhp⟩ := hP
  have hx := Bd.exec
  have hby := Bd.bytes
  have hml : c.maxLocals = 1 := hml0
  have hown : s.vm.findClass "java/util/ArrayList" = some m.cls := findClass_of_methodNamed Bd.named
  have hnm := (name_of_methodNamed Bd.named Bd.method).1
  have X0 : Stand p l e ({ frames := 0, cells := 0, slots := 0, locals := 0 } : Room) s m #[(.ref o0)] below meth c s₁ [] 0 0 := Stand.of_body Bd
  have eH0 : s₁.heap = h0 := by rw [← hhp, Bd.state]; rfl
  have N0 := Fr.nil n0
  show Gt p.tables e below (fun o U' => ∃ v L, o = .returned v ∧ Q29 Z o0 size_o0 h0 n0 v U'.heap L ∧ FrameEnd s o U' L ({ frames := 0, cells := 0, slots := 0, locals := 0 } : Room).cells ({ frames := 0, cells := 0, slots := 0, locals := 0 } : Room).slots) _
  refine own_cast (ef29 m o0) ?_
  refine own_aloadN X0 hx hby rfl rfl d29_0 (pc' := 1) rfl ?_
  refine own_getF X0 hx hby hZ hown (host := "") (Or.inl (hw _ (mi 199 rfl))) Via.refl eH0 F_o0_size d29_1 (pc' := 4) rfl (fun T1 X1 eH1 => ?_)
  exact own_retI X1 hx hby Bd.notSynchronized Bd.returns d29_4 (by decide) (by decide) eH1 ⟨rfl, N0, rfl⟩
theorem ef31 (m : MethodId) (x0 : Addr) : entryFrame m #[(.ref x0)] 1 = mkF m 0 #[.val (.ref x0)] [] := by first | (simp [entryFrame, mkF, argsToLocals, Value.category]; done) | rfl
def Q31 (Z : State) (o0 : Addr) (size_o0 : Int32) (h0 : Heap) (n0 : Nat) (v : Option Value) (h : Heap) (L : List Loc) : Prop := v = some (.int size_o0) ∧ Fr n0 L ∧ h0 = h
theorem rm31 (l : Launch) (Z : State) (a0 : Array Value) (hw : ∀ d ∈ tables_1, d.before a0 Z = true) (ws : List Jvm.Cond) (o0 : Addr) (size_o0 : Int32) (h0 : Heap) (n0 : Nat) (Z0 : n0 ≤ h0.size) (F_o0_size : Fld Z h0 o0 "java/util/HashMap" "size" "I" (.int size_o0)) :
    MetFree l (⟨"java/util/HashMap", "size", "()I"⟩ : MethodName) (head1 (Jvm.Cond.code (⟨"java/util/HashMap", "size", "()I"⟩ : MethodName) jdk_69_method_10_code 1 (some .int) :: ws) ({ frames := 0, cells := 0, slots := 0, locals := 0 } : Room)) (fun a U => a = #[(.ref o0)] ∧ Z.Warmed39 U.vm ∧ U.heap = h0) (fun _ _ _ _ _ => True) (fun _ U o U' => ∃ v L, o = .returned v ∧ Q31 Z o0 size_o0 h0 n0 v U'.heap L ∧ FrameEnd U o U' L ({ frames := 0, cells := 0, slots := 0, locals := 0 } : Room).cells ({ frames := 0, cells := 0, slots := 0, locals := 0 } : Room).slots) := by
  refine MetFree.of_bodySF (plainFor_of_name pn_java_util_HashMap) hisR ?_
  intro p e s m args below meth c s₁ Bd hml0 hP hK
  obtain ⟨rfl, hZ, hhp⟩ := hP
  have hx := Bd.exec
  have hby := Bd.bytes
  have hml : c.maxLocals = 1 := hml0
  have hown : s.vm.findClass "java/util/HashMap" = some m.cls := findClass_of_methodNamed Bd.named
  have hnm := (name_of_methodNamed Bd.named Bd.method).1
  have X0 : Stand p l e ({ frames := 0, cells := 0, slots := 0, locals := 0 } : Room) s m #[(.ref o0)] below meth c s₁ [] 0 0 := Stand.of_body Bd
  have eH0 : s₁.heap = h0 := by rw [← hhp, Bd.state]; rfl
  have N0 := Fr.nil n0
  show Gt p.tables e below (fun o U' => ∃ v L, o = .returned v ∧ Q31 Z o0 size_o0 h0 n0 v U'.heap L ∧ FrameEnd s o U' L ({ frames := 0, cells := 0, slots := 0, locals := 0 } : Room).cells ({ frames := 0, cells := 0, slots := 0, locals := 0 } : Room).slots) _
  refine own_cast (ef31 m o0) ?_
  refine own_aloadN X0 hx hby rfl rfl d31_0 (pc' := 1) rfl ?_
  refine own_getF X0 hx hby hZ hown (host := "") (Or.inl (hw _ (mi 162 rfl))) Via.refl eH0 F_o0_size d31_1 (pc' := 4) rfl (fun T1 X1 eH1 => ?_)
  exact own_retI X1 hx hby Bd.notSynchronized Bd.returns d31_4 (by decide) (by decide) eH1 ⟨rfl, N0, rfl⟩
theorem ef30 (m : MethodId) (x0 : Addr) : entryFrame m #[(.ref x0)] 1 = mkF m 0 #[.val (.ref x0)] [] := by first | (simp [entryFrame, mkF, argsToLocals, Value.category]; done) | rfl
def Q30 (Z : State) (o0 : Addr) (map_o0 : Addr) (size_map_o0 : Int32) (h0 : Heap) (n0 : Nat) (v : Option Value) (h : Heap) (L : List Loc) : Prop := v = some (.int size_map_o0) ∧ Fr n0 L ∧ h0 = h
theorem rm30 (l : Launch) (Z : State) (a0 : Array Value) (hw : ∀ d ∈ tables_1, d.before a0 Z = true) (ws : List Jvm.Cond) (o0 : Addr) (map_o0 : Addr) (size_map_o0 : Int32) (h0 : Heap) (n0 : Nat) (Z0 : n0 ≤ h0.size) (F_o0_map : Fld Z h0 o0 "java/util/HashSet" "map" "Ljava/util/HashMap;" (.ref map_o0)) (F_map_o0_size : Fld Z h0 map_o0 "java/util/HashMap" "size" "I" (.int size_map_o0)) (E_map_o0 : Exa Z h0 map_o0 "java/util/HashMap") :
    MetFree l (⟨"java/util/HashSet", "size", "()I"⟩ : MethodName) (head1 (Jvm.Cond.code (⟨"java/util/HashSet", "size", "()I"⟩ : MethodName) jdk_93_method_7_code 1 (some .int) :: ws) ({ frames := 1, cells := 0, slots := 0, locals := 12 } : Room)) (fun a U => a = #[(.ref o0)] ∧ Z.Warmed39 U.vm ∧ U.heap = h0) (fun _ _ _ _ _ => True) (fun _ U o U' => ∃ v L, o = .returned v ∧ Q30 Z o0 map_o0 size_map_o0 h0 n0 v U'.heap L ∧ FrameEnd U o U' L ({ frames := 1, cells := 0, slots := 0, locals := 12 } : Room).cells ({ frames := 1, cells := 0, slots := 0, locals := 12 } : Room).slots) := by
  refine MetFree.of_bodySF (plainFor_of_name pn_java_util_HashSet) hisR ?_
  intro p e s m args below meth c s₁ Bd hml0 hP hK
  obtain ⟨rfl, hZ, hhp⟩ := hP
  have hx := Bd.exec
  have hby := Bd.bytes
  have hml : c.maxLocals = 1 := hml0
  have hown : s.vm.findClass "java/util/HashSet" = some m.cls := findClass_of_methodNamed Bd.named
  have hnm := (name_of_methodNamed Bd.named Bd.method).1
  have X0 : Stand p l e ({ frames := 1, cells := 0, slots := 0, locals := 12 } : Room) s m #[(.ref o0)] below meth c s₁ [] 0 0 := Stand.of_body Bd
  have eH0 : s₁.heap = h0 := by rw [← hhp, Bd.state]; rfl
  have N0 := Fr.nil n0
  show Gt p.tables e below (fun o U' => ∃ v L, o = .returned v ∧ Q30 Z o0 map_o0 size_map_o0 h0 n0 v U'.heap L ∧ FrameEnd s o U' L ({ frames := 1, cells := 0, slots := 0, locals := 12 } : Room).cells ({ frames := 1, cells := 0, slots := 0, locals := 12 } : Room).slots) _
  refine own_cast (ef30 m o0) ?_
  refine own_aloadN X0 hx hby rfl rfl d30_0 (pc' := 1) rfl ?_
  refine own_getF X0 hx hby hZ hown (host := "") (Or.inl (hw _ (mi 66 rfl))) Via.refl eH0 F_o0_map d30_1 (pc' := 4) rfl (fun T1 X1 eH1 => ?_)
  refine own_virtual X1 hx hby hZ (y := (⟨"java/util/HashMap", "size", "()I"⟩ : MethodName)) (y' := (⟨"java/util/HashMap", "size", "()I"⟩ : MethodName)) (C := "java/util/HashMap") (rest := []) hown (hw _ (mi 209 rfl)) (hw _ (mi 210 rfl)) (notFace_of_selects (args := #[]) (mvT hZ (hw _ (mi 212 rfl)))) (hw _ (mi 212 rfl)) (hw _ (mi 211 rfl)) (hw _ (mi 213 rfl)) (hw _ (mi 51 rfl)) (by decide) (rm31 l Z a0 hw [] map_o0 size_map_o0 h0 n0 Z0 F_map_o0_size) eH1 (by rw [hml]; rfl) (a := map_o0) E_map_o0 (argsL := []) rfl (lenOf pd_6 rfl) rfl d30_4 (pc' := 7) rfl (by decide) (W := 0) (Nat.le_of_eq rfl) (by decide) (by decide) (by decide) (fun T2 h2 Lc2 v2r X2 eH2 hQ2 => ?_)
  obtain ⟨rfl, Nq2, rfl⟩ := hQ2
  have N2 := Fr.app N0 Nq2
  exact own_retI X2 hx hby Bd.notSynchronized Bd.returns d30_7 (by decide) (by decide) eH2 ⟨rfl, N2, rfl⟩
theorem ef28 (m : MethodId) (x0 : Addr) : entryFrame m #[(.ref x0)] 1 = mkF m 0 #[.val (.ref x0)] [] := by first | (simp [entryFrame, mkF, argsToLocals, Value.category]; done) | rfl
def Q28 (Z : State) (o0 : Addr) (size_o0 : Int32) (h0 : Heap) (n0 : Nat) (v : Option Value) (h : Heap) (L : List Loc) : Prop := v = some (.int (0 : Int32)) ∧ Fr n0 L ∧ h0 = h
theorem rm28 (l : Launch) (Z : State) (a0 : Array Value) (hw : ∀ d ∈ tables_1, d.before a0 Z = true) (ws : List Jvm.Cond) (o0 : Addr) (size_o0 : Int32) (h0 : Heap) (n0 : Nat) (Z0 : n0 ≤ h0.size) (F_o0_size : Fld Z h0 o0 "java/util/HashMap" "size" "I" (.int size_o0)) (hs0 : (¬ (size_o0 = 0))) :
    MetFree l (⟨"java/util/HashMap", "isEmpty", "()Z"⟩ : MethodName) (head1 (Jvm.Cond.code (⟨"java/util/HashMap", "isEmpty", "()Z"⟩ : MethodName) jdk_69_method_11_code 1 (some .boolean) :: ws) ({ frames := 0, cells := 0, slots := 0, locals := 0 } : Room)) (fun a U => a = #[(.ref o0)] ∧ Z.Warmed39 U.vm ∧ U.heap = h0) (fun _ _ _ _ _ => True) (fun _ U o U' => ∃ v L, o = .returned v ∧ Q28 Z o0 size_o0 h0 n0 v U'.heap L ∧ FrameEnd U o U' L ({ frames := 0, cells := 0, slots := 0, locals := 0 } : Room).cells ({ frames := 0, cells := 0, slots := 0, locals := 0 } : Room).slots) := by
  refine MetFree.of_bodySF (plainFor_of_name pn_java_util_HashMap) hisR ?_
  intro p e s m args below meth c s₁ Bd hml0 hP hK
  obtain ⟨rfl, hZ, hhp⟩ := hP
  have hx := Bd.exec
  have hby := Bd.bytes
  have hml : c.maxLocals = 1 := hml0
  have hown : s.vm.findClass "java/util/HashMap" = some m.cls := findClass_of_methodNamed Bd.named
  have hnm := (name_of_methodNamed Bd.named Bd.method).1
  have X0 : Stand p l e ({ frames := 0, cells := 0, slots := 0, locals := 0 } : Room) s m #[(.ref o0)] below meth c s₁ [] 0 0 := Stand.of_body Bd
  have eH0 : s₁.heap = h0 := by rw [← hhp, Bd.state]; rfl
  have N0 := Fr.nil n0
  show Gt p.tables e below (fun o U' => ∃ v L, o = .returned v ∧ Q28 Z o0 size_o0 h0 n0 v U'.heap L ∧ FrameEnd s o U' L ({ frames := 0, cells := 0, slots := 0, locals := 0 } : Room).cells ({ frames := 0, cells := 0, slots := 0, locals := 0 } : Room).slots) _
  refine own_cast (ef28 m o0) ?_
  refine own_aloadN X0 hx hby rfl rfl d28_0 (pc' := 1) rfl ?_
  refine own_getF X0 hx hby hZ hown (host := "") (Or.inl (hw _ (mi 162 rfl))) Via.refl eH0 F_o0_size d28_1 (pc' := 4) rfl (fun T1 X1 eH1 => ?_)
  refine own_ifT X1 hx hby d28_4 (own_i0_ne_n hs0) (by decide) (pc' := 11) (by decide) ?_
  refine own_iconst X1 hx hby (v := (0 : Int32)) (by decide) d28_11 (pc' := 12) rfl ?_
  exact own_retZ X1 hx hby Bd.notSynchronized Bd.returns (Or.inl rfl) d28_12 (by decide) (by decide) eH1 ⟨rfl, N0, rfl⟩
theorem ef27 (m : MethodId) (x0 : Addr) : entryFrame m #[(.ref x0)] 1 = mkF m 0 #[.val (.ref x0)] [] := by first | (simp [entryFrame, mkF, argsToLocals, Value.category]; done) | rfl
def Q27 (Z : State) (o0 : Addr) (map_o0 : Addr) (size_map_o0 : Int32) (h0 : Heap) (n0 : Nat) (v : Option Value) (h : Heap) (L : List Loc) : Prop := v = some (.int (0 : Int32)) ∧ Fr n0 L ∧ h0 = h
theorem rm27 (l : Launch) (Z : State) (a0 : Array Value) (hw : ∀ d ∈ tables_1, d.before a0 Z = true) (ws : List Jvm.Cond) (o0 : Addr) (map_o0 : Addr) (size_map_o0 : Int32) (h0 : Heap) (n0 : Nat) (Z0 : n0 ≤ h0.size) (F_o0_map : Fld Z h0 o0 "java/util/HashSet" "map" "Ljava/util/HashMap;" (.ref map_o0)) (E_map_o0 : Exa Z h0 map_o0 "java/util/HashMap") (F_map_o0_size : Fld Z h0 map_o0 "java/util/HashMap" "size" "I" (.int size_map_o0)) (hs0 : (¬ (size_map_o0 = 0))) :
    MetFree l (⟨"java/util/HashSet", "isEmpty", "()Z"⟩ : MethodName) (head1 (Jvm.Cond.code (⟨"java/util/HashSet", "isEmpty", "()Z"⟩ : MethodName) jdk_93_method_8_code 1 (some .boolean) :: ws) ({ frames := 1, cells := 0, slots := 0, locals := 12 } : Room)) (fun a U => a = #[(.ref o0)] ∧ Z.Warmed39 U.vm ∧ U.heap = h0) (fun _ _ _ _ _ => True) (fun _ U o U' => ∃ v L, o = .returned v ∧ Q27 Z o0 map_o0 size_map_o0 h0 n0 v U'.heap L ∧ FrameEnd U o U' L ({ frames := 1, cells := 0, slots := 0, locals := 12 } : Room).cells ({ frames := 1, cells := 0, slots := 0, locals := 12 } : Room).slots) := by
  refine MetFree.of_bodySF (plainFor_of_name pn_java_util_HashSet) hisR ?_
  intro p e s m args below meth c s₁ Bd hml0 hP hK
  obtain ⟨rfl, hZ, hhp⟩ := hP
  have hx := Bd.exec
  have hby := Bd.bytes
  have hml : c.maxLocals = 1 := hml0
  have hown : s.vm.findClass "java/util/HashSet" = some m.cls := findClass_of_methodNamed Bd.named
  have hnm := (name_of_methodNamed Bd.named Bd.method).1
  have X0 : Stand p l e ({ frames := 1, cells := 0, slots := 0, locals := 12 } : Room) s m #[(.ref o0)] below meth c s₁ [] 0 0 := Stand.of_body Bd
  have eH0 : s₁.heap = h0 := by rw [← hhp, Bd.state]; rfl
  have N0 := Fr.nil n0
  show Gt p.tables e below (fun o U' => ∃ v L, o = .returned v ∧ Q27 Z o0 map_o0 size_map_o0 h0 n0 v U'.heap L ∧ FrameEnd s o U' L ({ frames := 1, cells := 0, slots := 0, locals := 12 } : Room).cells ({ frames := 1, cells := 0, slots := 0, locals := 12 } : Room).slots) _
  refine own_cast (ef27 m o0) ?_
  refine own_aloadN X0 hx hby rfl rfl d27_0 (pc' := 1) rfl ?_
  refine own_getF X0 hx hby hZ hown (host := "") (Or.inl (hw _ (mi 66 rfl))) Via.refl eH0 F_o0_map d27_1 (pc' := 4) rfl (fun T1 X1 eH1 => ?_)
  refine own_virtual X1 hx hby hZ (y := (⟨"java/util/HashMap", "isEmpty", "()Z"⟩ : MethodName)) (y' := (⟨"java/util/HashMap", "isEmpty", "()Z"⟩ : MethodName)) (C := "java/util/HashMap") (rest := []) hown (hw _ (mi 185 rfl)) (hw _ (mi 186 rfl)) (notFace_of_selects (args := #[]) (mvT hZ (hw _ (mi 188 rfl)))) (hw _ (mi 188 rfl)) (hw _ (mi 187 rfl)) (hw _ (mi 189 rfl)) (hw _ (mi 51 rfl)) (by decide) (rm28 l Z a0 hw [] map_o0 size_map_o0 h0 n0 Z0 F_map_o0_size hs0) eH1 (by rw [hml]; rfl) (a := map_o0) E_map_o0 (argsL := []) rfl (lenOf pd_4 rfl) rfl d27_4 (pc' := 7) rfl (by decide) (W := 0) (Nat.le_of_eq rfl) (by decide) (by decide) (by decide) (fun T2 h2 Lc2 v2r X2 eH2 hQ2 => ?_)
  obtain ⟨rfl, Nq2, rfl⟩ := hQ2
  have N2 := Fr.app N0 Nq2
  exact own_retZ X2 hx hby Bd.notSynchronized Bd.returns (Or.inl rfl) d27_7 (by decide) (by decide) eH2 ⟨rfl, N2, rfl⟩
theorem ef41f (m : MethodId) (x0 : Addr) : entryFrame m #[(.ref x0), (.int (1 : Int32))] 4 = mkF m 0 #[.val (.ref x0), .val (.int (1 : Int32)), .unset, .unset] [] := by first | (simp [entryFrame, mkF, argsToLocals, Value.category]; done) | rfl
def Q41f (Z : State) (o0 : Addr) (modCount_o0 : Int32) (elementData_o0 : Addr) (h0 : Heap) (n0 : Nat) (v : Option Value) (h : Heap) (L : List Loc) : Prop := ∃ b5 : Addr, v = some (.ref b5) ∧ Fr n0 L ∧ Keep h0 h [o0] ∧ h0.size ≤ b5 ∧ Exa Z h o0 "java/util/ArrayList" ∧ Fld Z h o0 "java/util/AbstractList" "modCount" "I" (.int modCount_o0) ∧ Fld Z h o0 "java/util/ArrayList" "elementData" "[Ljava/lang/Object;" (.ref b5) ∧ Fld Z h o0 "java/util/ArrayList" "size" "I" (.int (0 : Int32)) ∧ Exa Z h b5 "[Ljava/lang/Object;" ∧ Ary (ovO Z "java/lang/Object") Z h b5 (.object "java/lang/Object") [.null, .null, .null, .null, .null, .null, .null, .null, .null, .null]
theorem rm41f (l : Launch) (Z : State) (a0 : Array Value) (hw : ∀ d ∈ tables_1, d.before a0 Z = true) (ws : List Jvm.Cond) (o0 : Addr) (modCount_o0 : Int32) (elementData_o0 : Addr) (h0 : Heap) (n0 : Nat) (Z0 : n0 ≤ h0.size) (F_o0_modCount : Fld Z h0 o0 "java/util/AbstractList" "modCount" "I" (.int modCount_o0)) (F_o0_elementData : Fld Z h0 o0 "java/util/ArrayList" "elementData" "[Ljava/lang/Object;" (.ref elementData_o0)) (F_o0_size : Fld Z h0 o0 "java/util/ArrayList" "size" "I" (.int (0 : Int32))) (S_DEFAULTCAPACITY_EMPTY_ELEMENTDATA : Sta Z h0 "java/util/ArrayList" "DEFAULTCAPACITY_EMPTY_ELEMENTDATA" "[Ljava/lang/Object;" (.ref elementData_o0)) (V_elementData_o0 : Ary tr Z h0 elementData_o0 (.object "java/lang/Object") []) (E_o0 : Exa Z h0 o0 "java/util/ArrayList") (g_o0 : n0 ≤ o0) (ne_elementData_o0_o0 : elementData_o0 ≠ o0) :
    MetFree l (⟨"java/util/ArrayList", "grow", "(I)[Ljava/lang/Object;"⟩ : MethodName) (head1 (Jvm.Cond.code (⟨"java/util/ArrayList", "grow", "(I)[Ljava/lang/Object;"⟩ : MethodName) jdk_38_method_6_code 4 (some (.array (.object "java/lang/Object"))) :: ws) ({ frames := 1, cells := 1, slots := 10, locals := 14 } : Room)) (fun a U => a = #[(.ref o0), (.int (1 : Int32))] ∧ Z.Warmed39 U.vm ∧ U.heap = h0) (fun _ _ _ _ _ => True) (fun _ U o U' => ∃ v L, o = .returned v ∧ Q41f Z o0 modCount_o0 elementData_o0 h0 n0 v U'.heap L ∧ FrameEnd U o U' L ({ frames := 1, cells := 1, slots := 10, locals := 14 } : Room).cells ({ frames := 1, cells := 1, slots := 10, locals := 14 } : Room).slots) := by
  refine MetFree.of_bodySF (plainFor_of_name pn_java_util_ArrayList) hisR ?_
  intro p e s m args below meth c s₁ Bd hml0 hP hK
  obtain ⟨rfl, hZ, hhp⟩ := hP
  have hx := Bd.exec
  have hby := Bd.bytes
  have hml : c.maxLocals = 4 := hml0
  have hown : s.vm.findClass "java/util/ArrayList" = some m.cls := findClass_of_methodNamed Bd.named
  have hnm := (name_of_methodNamed Bd.named Bd.method).1
  have X0 : Stand p l e ({ frames := 1, cells := 1, slots := 10, locals := 14 } : Room) s m #[(.ref o0), (.int (1 : Int32))] below meth c s₁ [] 0 0 := Stand.of_body Bd
  have eH0 : s₁.heap = h0 := by rw [← hhp, Bd.state]; rfl
  have N0 := Fr.nil n0
  have K0 := Keep.refl h0 [o0]
  show Gt p.tables e below (fun o U' => ∃ v L, o = .returned v ∧ Q41f Z o0 modCount_o0 elementData_o0 h0 n0 v U'.heap L ∧ FrameEnd s o U' L ({ frames := 1, cells := 1, slots := 10, locals := 14 } : Room).cells ({ frames := 1, cells := 1, slots := 10, locals := 14 } : Room).slots) _
  refine own_cast (ef41f m o0) ?_
  refine own_aloadN X0 hx hby rfl rfl d41_0 (pc' := 1) rfl ?_
  refine own_getF X0 hx hby hZ hown (host := "") (Or.inl (hw _ (mi 33 rfl))) Via.refl eH0 F_o0_elementData d41_1 (pc' := 4) rfl (fun T1 X1 eH1 => ?_)
  refine own_alen X1 hx hby hZ eH1 V_elementData_o0 (z := (0 : Int32)) (by first | rfl | decide) d41_4 (pc' := 5) rfl ?_
  refine own_istoreN X1 hx hby (L' := #[.val (.ref o0), .val (.int (1 : Int32)), .val (.int (0 : Int32)), .unset]) rfl d41_5 (pc' := 6) rfl ?_
  refine own_iloadN X1 hx hby rfl d41_6 (pc' := 7) rfl ?_
  refine own_ifF X1 hx hby d41_7 (by decide) (pc' := 10) rfl ?_
  refine own_aloadN X1 hx hby rfl rfl d41_10 (pc' := 11) rfl ?_
  refine own_getF X1 hx hby hZ hown (host := "") (Or.inl (hw _ (mi 33 rfl))) Via.refl eH1 F_o0_elementData d41_11 (pc' := 14) rfl (fun T2 X2 eH2 => ?_)
  refine own_getS X2 hx hby hZ hown (host := "") (Or.inl (hw _ (mi 32 rfl))) Via.refl eH2 S_DEFAULTCAPACITY_EMPTY_ELEMENTDATA d41_14 (pc' := 17) rfl (fun T3 X3 eH3 => ?_)
  refine own_acmp X3 hx hby rfl rfl (same := true) d41_17 (decide_eq_true rfl) (by decide) (pc' := 45) (by decide) ?_
  refine own_aloadN X3 hx hby rfl rfl d41_45 (pc' := 46) rfl ?_
  refine own_bipush X3 hx hby (v := (10 : Int32)) (by decide) d41_46 (pc' := 48) rfl ?_
  refine own_iloadN X3 hx hby rfl d41_48 (pc' := 49) rfl ?_
  refine own_static X3 hx hby hZ (y := (⟨"java/lang/Math", "max", "(II)I"⟩ : MethodName)) (rest := [(.ref o0)]) hown (hw _ (mi 275 rfl)) (hw _ (mi 6 rfl)) (hw _ (mi 8 rfl)) (hw _ (mi 7 rfl)) (by decide) (rm2t l Z a0 hw []  h0 n0 Z0) eH3 (by rw [hml]; rfl) (argsL := [(.int (10 : Int32)), (.int (1 : Int32))]) rfl (lenOf pd_18 rfl) rfl d41_49 (pc' := 52) rfl (by decide) (W := 1) (Nat.le_of_eq rfl) (by decide) (by decide) (by decide) (fun T4 h4 Lc4 v4r X4 eH4 hQ4 => ?_)
  obtain ⟨rfl, Nq4, rfl⟩ := hQ4
  have N4 := Fr.app N0 Nq4
  refine own_newRO X4 hx hby hZ hown (C := "java/lang/Object") (hw _ (mi 276 rfl)) (hw _ (mi 277 rfl)) eH4 d41_52 (pc' := 55) rfl (by decide) (N := 10) (by decide) (cap := 10) (by decide) (by decide) (by decide) (by decide) (ad := "[Ljava/lang/Object;") (by decide) (fun T5 h5 b5 X5 eH5 E5 g5 E_b5 V_b5 => ?_)
  have g_b5 : n0 ≤ b5 := g5 ▸ Z0
  have sz_b5 : h0.size ≤ b5 := g5 ▸ K0.1
  have ne_o0_b5 : o0 ≠ b5 := Nat.ne_of_lt (g5 ▸ E_o0.lt)
  have ne_elementData_o0_b5 : elementData_o0 ≠ b5 := Nat.ne_of_lt (g5 ▸ V_elementData_o0.lt)
  replace E_o0 := E_o0.ext E5
  replace F_o0_modCount := F_o0_modCount.ext E5
  replace F_o0_elementData := F_o0_elementData.ext E5
  replace F_o0_size := F_o0_size.ext E5
  replace V_elementData_o0 := V_elementData_o0.ext E5
  replace S_DEFAULTCAPACITY_EMPTY_ELEMENTDATA := S_DEFAULTCAPACITY_EMPTY_ELEMENTDATA.ext E5
  replace K0 := K0.ext E5
  replace Z0 := Nat.le_trans Z0 E5.1
  have V_b5 : Ary (ovO Z "java/lang/Object") Z h5 b5 (.object "java/lang/Object") [.null, .null, .null, .null, .null, .null, .null, .null, .null, .null] := V_b5
  refine own_dupX1 X5 hx hby rfl rfl d41_55 (pc' := 56) rfl ?_
  refine own_putF X5 hx hby hZ hown (host := "") (Or.inl (hw _ (mi 33 rfl))) Via.refl eH5 F_o0_elementData E_o0 (Or.inl (hw _ (mi 34 rfl))) (hw _ (mi 10 rfl)) (ty := (.array (.object "java/lang/Object"))) (by decide) rfl rfl d41_56 (pc' := 59) rfl (fun T6 h6 X6 eH6 W6 => ?_)
  replace E_o0 := E_o0.wr W6
  replace F_o0_modCount := F_o0_modCount.other W6 (Or.inr (slot_ne (Or.inl (hw _ (mi 31 rfl))) (Or.inl (hw _ (mi 34 rfl))) (by decide) (t := .int) (t' := (.array (.object "java/lang/Object"))) (by decide) (by decide)))
  replace F_o0_elementData := F_o0_elementData.same W6
  replace F_o0_size := F_o0_size.other W6 (Or.inr (slot_ne (Or.inl (hw _ (mi 200 rfl))) (Or.inl (hw _ (mi 34 rfl))) (by decide) (t := .int) (t' := (.array (.object "java/lang/Object"))) (by decide) (by decide)))
  replace V_elementData_o0 := V_elementData_o0.other W6 ne_elementData_o0_o0
  replace E_b5 := E_b5.wr W6
  replace V_b5 := V_b5.other W6 (Ne.symm ne_o0_b5)
  replace S_DEFAULTCAPACITY_EMPTY_ELEMENTDATA := S_DEFAULTCAPACITY_EMPTY_ELEMENTDATA.wr W6
  have N6 := Fr.snoc X6 N4 g_o0
  replace K0 := K0.wr W6 (Or.inl (by simp))
  replace Z0 := Nat.le_trans Z0 (Nat.le_of_eq W6.size.symm)
  exact own_retA X6 hx hby Bd.notSynchronized Bd.returns rfl rfl d41_59 (by decide) (by decide) eH6 ⟨b5, rfl, N6, K0, sz_b5, E_o0, F_o0_modCount, F_o0_elementData, F_o0_size, E_b5, V_b5⟩
theorem ef40f (m : MethodId) (x0 : Addr) : entryFrame m #[(.ref x0)] 1 = mkF m 0 #[.val (.ref x0)] [] := by first | (simp [entryFrame, mkF, argsToLocals, Value.category]; done) | rfl
def Q40f (Z : State) (o0 : Addr) (modCount_o0 : Int32) (elementData_o0 : Addr) (h0 : Heap) (n0 : Nat) (v : Option Value) (h : Heap) (L : List Loc) : Prop := ∃ b5_2 : Addr, v = some (.ref b5_2) ∧ Fr n0 L ∧ Keep h0 h [o0] ∧ h0.size ≤ b5_2 ∧ Exa Z h o0 "java/util/ArrayList" ∧ Fld Z h o0 "java/util/AbstractList" "modCount" "I" (.int modCount_o0) ∧ Fld Z h o0 "java/util/ArrayList" "elementData" "[Ljava/lang/Object;" (.ref b5_2) ∧ Fld Z h o0 "java/util/ArrayList" "size" "I" (.int (0 : Int32)) ∧ Exa Z h b5_2 "[Ljava/lang/Object;" ∧ Ary (ovO Z "java/lang/Object") Z h b5_2 (.object "java/lang/Object") [.null, .null, .null, .null, .null, .null, .null, .null, .null, .null]
theorem rm40f (l : Launch) (Z : State) (a0 : Array Value) (hw : ∀ d ∈ tables_1, d.before a0 Z = true) (ws : List Jvm.Cond) (o0 : Addr) (modCount_o0 : Int32) (elementData_o0 : Addr) (h0 : Heap) (n0 : Nat) (Z0 : n0 ≤ h0.size) (F_o0_modCount : Fld Z h0 o0 "java/util/AbstractList" "modCount" "I" (.int modCount_o0)) (F_o0_elementData : Fld Z h0 o0 "java/util/ArrayList" "elementData" "[Ljava/lang/Object;" (.ref elementData_o0)) (F_o0_size : Fld Z h0 o0 "java/util/ArrayList" "size" "I" (.int (0 : Int32))) (S_DEFAULTCAPACITY_EMPTY_ELEMENTDATA : Sta Z h0 "java/util/ArrayList" "DEFAULTCAPACITY_EMPTY_ELEMENTDATA" "[Ljava/lang/Object;" (.ref elementData_o0)) (V_elementData_o0 : Ary tr Z h0 elementData_o0 (.object "java/lang/Object") []) (E_o0 : Exa Z h0 o0 "java/util/ArrayList") (g_o0 : n0 ≤ o0) (ne_elementData_o0_o0 : elementData_o0 ≠ o0) :
    MetFree l (⟨"java/util/ArrayList", "grow", "()[Ljava/lang/Object;"⟩ : MethodName) (head1 (Jvm.Cond.code (⟨"java/util/ArrayList", "grow", "()[Ljava/lang/Object;"⟩ : MethodName) jdk_38_method_7_code 1 (some (.array (.object "java/lang/Object"))) :: ws) ({ frames := 2, cells := 1, slots := 10, locals := 29 } : Room)) (fun a U => a = #[(.ref o0)] ∧ Z.Warmed39 U.vm ∧ U.heap = h0) (fun _ _ _ _ _ => True) (fun _ U o U' => ∃ v L, o = .returned v ∧ Q40f Z o0 modCount_o0 elementData_o0 h0 n0 v U'.heap L ∧ FrameEnd U o U' L ({ frames := 2, cells := 1, slots := 10, locals := 29 } : Room).cells ({ frames := 2, cells := 1, slots := 10, locals := 29 } : Room).slots) := by
  refine MetFree.of_bodySF (plainFor_of_name pn_java_util_ArrayList) hisR ?_
  intro p e s m args below meth c s₁ Bd hml0 hP hK
  obtain ⟨rfl, hZ, hhp⟩ := hP
  have hx := Bd.exec
  have hby := Bd.bytes
  have hml : c.maxLocals = 1 := hml0
  have hown : s.vm.findClass "java/util/ArrayList" = some m.cls := findClass_of_methodNamed Bd.named
  have hnm := (name_of_methodNamed Bd.named Bd.method).1
  have X0 : Stand p l e ({ frames := 2, cells := 1, slots := 10, locals := 29 } : Room) s m #[(.ref o0)] below meth c s₁ [] 0 0 := Stand.of_body Bd
  have eH0 : s₁.heap = h0 := by rw [← hhp, Bd.state]; rfl
  have N0 := Fr.nil n0
  have K0 := Keep.refl h0 [o0]
  show Gt p.tables e below (fun o U' => ∃ v L, o = .returned v ∧ Q40f Z o0 modCount_o0 elementData_o0 h0 n0 v U'.heap L ∧ FrameEnd s o U' L ({ frames := 2, cells := 1, slots := 10, locals := 29 } : Room).cells ({ frames := 2, cells := 1, slots := 10, locals := 29 } : Room).slots) _
  refine own_cast (ef40f m o0) ?_
  refine own_aloadN X0 hx hby rfl rfl d40_0 (pc' := 1) rfl ?_
  refine own_aloadN X0 hx hby rfl rfl d40_1 (pc' := 2) rfl ?_
  refine own_getF X0 hx hby hZ hown (host := "") (Or.inl (hw _ (mi 199 rfl))) Via.refl eH0 F_o0_size d40_2 (pc' := 5) rfl (fun T1 X1 eH1 => ?_)
  refine own_iconst X1 hx hby (v := (1 : Int32)) (by decide) d40_5 (pc' := 6) rfl ?_
  refine own_iadd X1 hx hby (v := (1 : Int32)) (by decide) d40_6 (pc' := 7) rfl ?_
  refine own_private X1 hx hby hZ (y := (⟨"java/util/ArrayList", "grow", "(I)[Ljava/lang/Object;"⟩ : MethodName)) (rest := []) hown (hw _ (mi 270 rfl)) (hw _ (mi 271 rfl)) (hw _ (mi 10 rfl)) (hw _ (mi 272 rfl)) (hw _ (mi 274 rfl)) (hw _ (mi 11 rfl)) (by decide) (rm41f l Z a0 hw [] o0 modCount_o0 elementData_o0 h0 n0 Z0 F_o0_modCount F_o0_elementData F_o0_size S_DEFAULTCAPACITY_EMPTY_ELEMENTDATA V_elementData_o0 E_o0 g_o0 ne_elementData_o0_o0) eH1 (by rw [hml]; rfl) (a := o0) E_o0 (argsL := [(.int (1 : Int32))]) rfl (lenOf pd_20 rfl) rfl d40_7 (pc' := 10) rfl (by decide) (W := 0) (Nat.le_of_eq rfl) (by decide) (by decide) (by decide) (fun T2 h2 Lc2 v2r X2 eH2 hQ2 => ?_)
  obtain ⟨b5_2, rfl, Nq2, Kq2, gq2_0, gq2_1, gq2_2, gq2_3, gq2_4, gq2_5, gq2_6⟩ := hQ2
  have N2 := Fr.app N0 Nq2
  have g_b5_2 : n0 ≤ b5_2 := Nat.le_trans Z0 gq2_0
  have sz_b5_2 : h0.size ≤ b5_2 := Nat.le_trans K0.1 gq2_0
  have ne_o0_b5_2 : o0 ≠ b5_2 := Nat.ne_of_lt (Nat.lt_of_lt_of_le E_o0.lt gq2_0)
  have ne_elementData_o0_b5_2 : elementData_o0 ≠ b5_2 := Nat.ne_of_lt (Nat.lt_of_lt_of_le V_elementData_o0.lt gq2_0)
  replace S_DEFAULTCAPACITY_EMPTY_ELEMENTDATA := own_skn S_DEFAULTCAPACITY_EMPTY_ELEMENTDATA Kq2 (own_skS E_o0 own_sk0)
  replace E_o0 := E_o0.keep Kq2
  replace V_elementData_o0 := V_elementData_o0.keep Kq2 (ninS ne_elementData_o0_o0 nin0)
  replace K0 := K0.trans Kq2 (allS (Or.inl (by simp)) all0)
  have E_o0 := gq2_1
  have F_o0_modCount := gq2_2
  have F_o0_elementData := gq2_3
  have F_o0_size := gq2_4
  have E_b5_2 := gq2_5
  have V_b5_2 := gq2_6
  replace Z0 := Nat.le_trans Z0 Kq2.1
  exact own_retA X2 hx hby Bd.notSynchronized Bd.returns rfl rfl d40_10 (by decide) (by decide) eH2 ⟨b5_2, rfl, N2, K0, sz_b5_2, E_o0, F_o0_modCount, F_o0_elementData, F_o0_size, E_b5_2, V_b5_2⟩
theorem ef39f (m : MethodId) (x0 : Addr) (x1 : Addr) (x2 : Addr) : entryFrame m #[(.ref x0), (.ref x1), (.ref x2), (.int (0 : Int32))] 4 = mkF m 0 #[.val (.ref x0), .val (.ref x1), .val (.ref x2), .val (.int (0 : Int32))] [] := by first | (simp [entryFrame, mkF, argsToLocals, Value.category]; done) | rfl
def Q39f (Z : State) (o0 : Addr) (o1 : Addr) (o2 : Addr) (modCount_o0 : Int32) (h0 : Heap) (n0 : Nat) (v : Option Value) (h : Heap) (L : List Loc) : Prop := ∃ b5_2_1 : Addr, v = none ∧ Fr n0 L ∧ Keep h0 h [o0] ∧ h0.size ≤ b5_2_1 ∧ Exa Z h o0 "java/util/ArrayList" ∧ Fld Z h o0 "java/util/AbstractList" "modCount" "I" (.int modCount_o0) ∧ Fld Z h o0 "java/util/ArrayList" "elementData" "[Ljava/lang/Object;" (.ref b5_2_1) ∧ Fld Z h o0 "java/util/ArrayList" "size" "I" (.int (1 : Int32)) ∧ Exa Z h b5_2_1 "[Ljava/lang/Object;" ∧ Ary (ovO Z "java/lang/Object") Z h b5_2_1 (.object "java/lang/Object") [(.ref o1), .null, .null, .null, .null, .null, .null, .null, .null, .null]
theorem rm39f (l : Launch) (Z : State) (a0 : Array Value) (hw : ∀ d ∈ tables_1, d.before a0 Z = true) (ws : List Jvm.Cond) (o0 : Addr) (o1 : Addr) (o2 : Addr) (modCount_o0 : Int32) (h0 : Heap) (n0 : Nat) (Z0 : n0 ≤ h0.size) (F_o0_modCount : Fld Z h0 o0 "java/util/AbstractList" "modCount" "I" (.int modCount_o0)) (F_o0_elementData : Fld Z h0 o0 "java/util/ArrayList" "elementData" "[Ljava/lang/Object;" (.ref o2)) (F_o0_size : Fld Z h0 o0 "java/util/ArrayList" "size" "I" (.int (0 : Int32))) (S_DEFAULTCAPACITY_EMPTY_ELEMENTDATA : Sta Z h0 "java/util/ArrayList" "DEFAULTCAPACITY_EMPTY_ELEMENTDATA" "[Ljava/lang/Object;" (.ref o2)) (V_o2 : Ary tr Z h0 o2 (.object "java/lang/Object") []) (E_o1 : Exa Z h0 o1 "java/lang/String") (E_o0 : Exa Z h0 o0 "java/util/ArrayList") (g_o0 : n0 ≤ o0) (ne_o2_o0 : o2 ≠ o0) :
    MetFree l (⟨"java/util/ArrayList", "add", "(Ljava/lang/Object;[Ljava/lang/Object;I)V"⟩ : MethodName) (head1 (Jvm.Cond.code (⟨"java/util/ArrayList", "add", "(Ljava/lang/Object;[Ljava/lang/Object;I)V"⟩ : MethodName) jdk_38_method_24_code 4 none :: ws) ({ frames := 3, cells := 1, slots := 10, locals := 41 } : Room)) (fun a U => a = #[(.ref o0), (.ref o1), (.ref o2), (.int (0 : Int32))] ∧ Z.Warmed39 U.vm ∧ U.heap = h0) (fun _ _ _ _ _ => True) (fun _ U o U' => ∃ v L, o = .returned v ∧ Q39f Z o0 o1 o2 modCount_o0 h0 n0 v U'.heap L ∧ FrameEnd U o U' L ({ frames := 3, cells := 1, slots := 10, locals := 41 } : Room).cells ({ frames := 3, cells := 1, slots := 10, locals := 41 } : Room).slots) := by
  refine MetFree.of_bodySF (plainFor_of_name pn_java_util_ArrayList) hisR ?_
  intro p e s m args below meth c s₁ Bd hml0 hP hK
  obtain ⟨rfl, hZ, hhp⟩ := hP
  have hx := Bd.exec
  have hby := Bd.bytes
  have hml : c.maxLocals = 4 := hml0
  have hown : s.vm.findClass "java/util/ArrayList" = some m.cls := findClass_of_methodNamed Bd.named
  have hnm := (name_of_methodNamed Bd.named Bd.method).1
  have X0 : Stand p l e ({ frames := 3, cells := 1, slots := 10, locals := 41 } : Room) s m #[(.ref o0), (.ref o1), (.ref o2), (.int (0 : Int32))] below meth c s₁ [] 0 0 := Stand.of_body Bd
  have eH0 : s₁.heap = h0 := by rw [← hhp, Bd.state]; rfl
  have N0 := Fr.nil n0
  have K0 := Keep.refl h0 [o0]
  show Gt p.tables e below (fun o U' => ∃ v L, o = .returned v ∧ Q39f Z o0 o1 o2 modCount_o0 h0 n0 v U'.heap L ∧ FrameEnd s o U' L ({ frames := 3, cells := 1, slots := 10, locals := 41 } : Room).cells ({ frames := 3, cells := 1, slots := 10, locals := 41 } : Room).slots) _
  refine own_cast (ef39f m o0 o1 o2) ?_
  refine own_iloadN X0 hx hby rfl d39_0 (pc' := 1) rfl ?_
  refine own_aloadN X0 hx hby rfl rfl d39_1 (pc' := 2) rfl ?_
  refine own_alen X0 hx hby hZ eH0 V_o2 (z := (0 : Int32)) (by first | rfl | decide) d39_2 (pc' := 3) rfl ?_
  refine own_icF X0 hx hby d39_3 (by decide) (pc' := 6) rfl ?_
  refine own_aloadN X0 hx hby rfl rfl d39_6 (pc' := 7) rfl ?_
  refine own_private X0 hx hby hZ (y := (⟨"java/util/ArrayList", "grow", "()[Ljava/lang/Object;"⟩ : MethodName)) (rest := []) hown (hw _ (mi 265 rfl)) (hw _ (mi 266 rfl)) (hw _ (mi 10 rfl)) (hw _ (mi 267 rfl)) (hw _ (mi 269 rfl)) (hw _ (mi 11 rfl)) (by decide) (rm40f l Z a0 hw [] o0 modCount_o0 o2 h0 n0 Z0 F_o0_modCount F_o0_elementData F_o0_size S_DEFAULTCAPACITY_EMPTY_ELEMENTDATA V_o2 E_o0 g_o0 ne_o2_o0) eH0 (by rw [hml]; rfl) (a := o0) E_o0 (argsL := []) rfl (lenOf pd_21 rfl) rfl d39_7 (pc' := 10) rfl (by decide) (W := 0) (Nat.le_of_eq rfl) (by decide) (by decide) (by decide) (fun T1 h1 Lc1 v1r X1 eH1 hQ1 => ?_)
  obtain ⟨b5_2_1, rfl, Nq1, Kq1, gq1_0, gq1_1, gq1_2, gq1_3, gq1_4, gq1_5, gq1_6⟩ := hQ1
  have N1 := Fr.app N0 Nq1
  have g_b5_2_1 : n0 ≤ b5_2_1 := Nat.le_trans Z0 gq1_0
  have sz_b5_2_1 : h0.size ≤ b5_2_1 := Nat.le_trans K0.1 gq1_0
  have ne_o0_b5_2_1 : o0 ≠ b5_2_1 := Nat.ne_of_lt (Nat.lt_of_lt_of_le E_o0.lt gq1_0)
  have ne_o1_b5_2_1 : o1 ≠ b5_2_1 := Nat.ne_of_lt (Nat.lt_of_lt_of_le E_o1.lt gq1_0)
  have ne_o2_b5_2_1 : o2 ≠ b5_2_1 := Nat.ne_of_lt (Nat.lt_of_lt_of_le V_o2.lt gq1_0)
  replace S_DEFAULTCAPACITY_EMPTY_ELEMENTDATA := own_skn S_DEFAULTCAPACITY_EMPTY_ELEMENTDATA Kq1 (own_skS E_o0 own_sk0)
  replace E_o0 := E_o0.keep Kq1
  replace E_o1 := E_o1.keep Kq1
  replace V_o2 := V_o2.keep Kq1 (ninS ne_o2_o0 nin0)
  replace K0 := K0.trans Kq1 (allS (Or.inl (by simp)) all0)
  have E_o0 := gq1_1
  have F_o0_modCount := gq1_2
  have F_o0_elementData := gq1_3
  have F_o0_size := gq1_4
  have E_b5_2_1 := gq1_5
  have V_b5_2_1 := gq1_6
  replace Z0 := Nat.le_trans Z0 Kq1.1
  refine own_astoreN X1 hx hby rfl (L' := #[.val (.ref o0), .val (.ref o1), .val (.ref b5_2_1), .val (.int (0 : Int32))]) rfl d39_10 (pc' := 11) rfl ?_
  refine own_aloadN X1 hx hby rfl rfl d39_11 (pc' := 12) rfl ?_
  refine own_iloadN X1 hx hby rfl d39_12 (pc' := 13) rfl ?_
  refine own_aloadN X1 hx hby rfl rfl d39_13 (pc' := 14) rfl ?_
  refine own_aastoreI X1 hx hby hZ eH1 V_b5_2_1 (Ins.of_exa E_o1 (hw _ (mi 278 rfl))) (by decide) (n := 0) (by decide) (of_decide_eq_true rfl) d39_14 (pc' := 15) rfl (fun T2 h2 X2 eH2 W2 => ?_)
  replace E_o0 := E_o0.wr W2
  replace F_o0_modCount := F_o0_modCount.other W2 (Or.inl ne_o0_b5_2_1)
  replace F_o0_elementData := F_o0_elementData.other W2 (Or.inl ne_o0_b5_2_1)
  replace F_o0_size := F_o0_size.other W2 (Or.inl ne_o0_b5_2_1)
  replace E_o1 := E_o1.wr W2
  replace V_o2 := V_o2.other W2 ne_o2_b5_2_1
  replace E_b5_2_1 := E_b5_2_1.wr W2
  replace S_DEFAULTCAPACITY_EMPTY_ELEMENTDATA := S_DEFAULTCAPACITY_EMPTY_ELEMENTDATA.wr W2
  have N2 := Fr.snoc X2 N1 g_b5_2_1
  replace K0 := K0.wr W2 (Or.inr sz_b5_2_1)
  replace Z0 := Nat.le_trans Z0 (Nat.le_of_eq W2.size.symm)
  replace V_b5_2_1 : Ary (ovO Z "java/lang/Object") Z h2 b5_2_1 (.object "java/lang/Object") [(.ref o1), .null, .null, .null, .null, .null, .null, .null, .null, .null] := V_b5_2_1.set W2
  refine own_aloadN X2 hx hby rfl rfl d39_15 (pc' := 16) rfl ?_
  refine own_iloadN X2 hx hby rfl d39_16 (pc' := 17) rfl ?_
  refine own_iconst X2 hx hby (v := (1 : Int32)) (by decide) d39_17 (pc' := 18) rfl ?_
  refine own_iadd X2 hx hby (v := (1 : Int32)) (by decide) d39_18 (pc' := 19) rfl ?_
  refine own_putF X2 hx hby hZ hown (host := "") (Or.inl (hw _ (mi 199 rfl))) Via.refl eH2 F_o0_size E_o0 (Or.inl (hw _ (mi 200 rfl))) (hw _ (mi 10 rfl)) (ty := .int) (by decide) rfl rfl d39_19 (pc' := 22) rfl (fun T3 h3 X3 eH3 W3 => ?_)
  replace E_o0 := E_o0.wr W3
  replace F_o0_modCount := F_o0_modCount.other W3 (Or.inr (slot_ne (Or.inl (hw _ (mi 31 rfl))) (Or.inl (hw _ (mi 200 rfl))) (by decide) (t := .int) (t' := .int) (by decide) (by decide)))
  replace F_o0_elementData := F_o0_elementData.other W3 (Or.inr (slot_ne (Or.inl (hw _ (mi 34 rfl))) (Or.inl (hw _ (mi 200 rfl))) (by decide) (t := (.array (.object "java/lang/Object"))) (t' := .int) (by decide) (by decide)))
  replace F_o0_size := F_o0_size.same W3
  replace E_o1 := E_o1.wr W3
  replace V_o2 := V_o2.other W3 ne_o2_o0
  replace E_b5_2_1 := E_b5_2_1.wr W3
  replace V_b5_2_1 := V_b5_2_1.other W3 (Ne.symm ne_o0_b5_2_1)
  replace S_DEFAULTCAPACITY_EMPTY_ELEMENTDATA := S_DEFAULTCAPACITY_EMPTY_ELEMENTDATA.wr W3
  have N3 := Fr.snoc X3 N2 g_o0
  replace K0 := K0.wr W3 (Or.inl (by simp))
  replace Z0 := Nat.le_trans Z0 (Nat.le_of_eq W3.size.symm)
  exact own_retV X3 hx hby Bd.notSynchronized Bd.returns d39_22 (by decide) (by decide) eH3 ⟨b5_2_1, rfl, N3, K0, sz_b5_2_1, E_o0, F_o0_modCount, F_o0_elementData, F_o0_size, E_b5_2_1, V_b5_2_1⟩
theorem ef38f (m : MethodId) (x0 : Addr) (x1 : Addr) : entryFrame m #[(.ref x0), (.ref x1)] 2 = mkF m 0 #[.val (.ref x0), .val (.ref x1)] [] := by first | (simp [entryFrame, mkF, argsToLocals, Value.category]; done) | rfl
def Q38f (Z : State) (o0 : Addr) (o1 : Addr) (modCount_o0 : Int32) (elementData_o0 : Addr) (h0 : Heap) (n0 : Nat) (v : Option Value) (h : Heap) (L : List Loc) : Prop := ∃ b5_2_1_5 : Addr, v = some (.int (1 : Int32)) ∧ Fr n0 L ∧ Keep h0 h [o0] ∧ h0.size ≤ b5_2_1_5 ∧ Exa Z h o0 "java/util/ArrayList" ∧ Fld Z h o0 "java/util/AbstractList" "modCount" "I" (.int (modCount_o0 + (1 : Int32))) ∧ Fld Z h o0 "java/util/ArrayList" "elementData" "[Ljava/lang/Object;" (.ref b5_2_1_5) ∧ Fld Z h o0 "java/util/ArrayList" "size" "I" (.int (1 : Int32)) ∧ Exa Z h b5_2_1_5 "[Ljava/lang/Object;" ∧ Ary (ovO Z "java/lang/Object") Z h b5_2_1_5 (.object "java/lang/Object") [(.ref o1), .null, .null, .null, .null, .null, .null, .null, .null, .null]
theorem rm38f (l : Launch) (Z : State) (a0 : Array Value) (hw : ∀ d ∈ tables_1, d.before a0 Z = true) (ws : List Jvm.Cond) (o0 : Addr) (o1 : Addr) (modCount_o0 : Int32) (elementData_o0 : Addr) (h0 : Heap) (n0 : Nat) (Z0 : n0 ≤ h0.size) (F_o0_modCount : Fld Z h0 o0 "java/util/AbstractList" "modCount" "I" (.int modCount_o0)) (F_o0_elementData : Fld Z h0 o0 "java/util/ArrayList" "elementData" "[Ljava/lang/Object;" (.ref elementData_o0)) (F_o0_size : Fld Z h0 o0 "java/util/ArrayList" "size" "I" (.int (0 : Int32))) (S_DEFAULTCAPACITY_EMPTY_ELEMENTDATA : Sta Z h0 "java/util/ArrayList" "DEFAULTCAPACITY_EMPTY_ELEMENTDATA" "[Ljava/lang/Object;" (.ref elementData_o0)) (V_elementData_o0 : Ary tr Z h0 elementData_o0 (.object "java/lang/Object") []) (E_o1 : Exa Z h0 o1 "java/lang/String") (E_o0 : Exa Z h0 o0 "java/util/ArrayList") (g_o0 : n0 ≤ o0) (ne_elementData_o0_o0 : elementData_o0 ≠ o0) :
    MetFree l (⟨"java/util/ArrayList", "add", "(Ljava/lang/Object;)Z"⟩ : MethodName) (head1 (Jvm.Cond.code (⟨"java/util/ArrayList", "add", "(Ljava/lang/Object;)Z"⟩ : MethodName) jdk_38_method_25_code 2 (some .boolean) :: ws) ({ frames := 4, cells := 1, slots := 10, locals := 56 } : Room)) (fun a U => a = #[(.ref o0), (.ref o1)] ∧ Z.Warmed39 U.vm ∧ U.heap = h0) (fun _ _ _ _ _ => True) (fun _ U o U' => ∃ v L, o = .returned v ∧ Q38f Z o0 o1 modCount_o0 elementData_o0 h0 n0 v U'.heap L ∧ FrameEnd U o U' L ({ frames := 4, cells := 1, slots := 10, locals := 56 } : Room).cells ({ frames := 4, cells := 1, slots := 10, locals := 56 } : Room).slots) := by
  refine MetFree.of_bodySF (plainFor_of_name pn_java_util_ArrayList) hisR ?_
  intro p e s m args below meth c s₁ Bd hml0 hP hK
  obtain ⟨rfl, hZ, hhp⟩ := hP
  have hx := Bd.exec
  have hby := Bd.bytes
  have hml : c.maxLocals = 2 := hml0
  have hown : s.vm.findClass "java/util/ArrayList" = some m.cls := findClass_of_methodNamed Bd.named
  have hnm := (name_of_methodNamed Bd.named Bd.method).1
  have X0 : Stand p l e ({ frames := 4, cells := 1, slots := 10, locals := 56 } : Room) s m #[(.ref o0), (.ref o1)] below meth c s₁ [] 0 0 := Stand.of_body Bd
  have eH0 : s₁.heap = h0 := by rw [← hhp, Bd.state]; rfl
  have N0 := Fr.nil n0
  have K0 := Keep.refl h0 [o0]
  show Gt p.tables e below (fun o U' => ∃ v L, o = .returned v ∧ Q38f Z o0 o1 modCount_o0 elementData_o0 h0 n0 v U'.heap L ∧ FrameEnd s o U' L ({ frames := 4, cells := 1, slots := 10, locals := 56 } : Room).cells ({ frames := 4, cells := 1, slots := 10, locals := 56 } : Room).slots) _
  refine own_cast (ef38f m o0 o1) ?_
  refine own_aloadN X0 hx hby rfl rfl d38_0 (pc' := 1) rfl ?_
  refine own_dup X0 hx hby rfl d38_1 (pc' := 2) rfl ?_
  refine own_getF X0 hx hby hZ hown (host := "") (Or.inl (hw _ (mi 258 rfl))) (Via.of (hw _ (mi 259 rfl))) eH0 F_o0_modCount d38_2 (pc' := 5) rfl (fun T1 X1 eH1 => ?_)
  refine own_iconst X1 hx hby (v := (1 : Int32)) (by decide) d38_5 (pc' := 6) rfl ?_
  refine own_iadd X1 hx hby rfl d38_6 (pc' := 7) rfl ?_
  refine own_putF X1 hx hby hZ hown (host := "") (Or.inl (hw _ (mi 258 rfl))) (Via.of (hw _ (mi 259 rfl))) eH1 F_o0_modCount E_o0 (Or.inl (hw _ (mi 31 rfl))) (hw _ (mi 10 rfl)) (ty := .int) (by decide) rfl rfl d38_7 (pc' := 10) rfl (fun T2 h2 X2 eH2 W2 => ?_)
  replace E_o0 := E_o0.wr W2
  replace F_o0_modCount := F_o0_modCount.same W2
  replace F_o0_elementData := F_o0_elementData.other W2 (Or.inr (slot_ne (Or.inl (hw _ (mi 34 rfl))) (Or.inl (hw _ (mi 31 rfl))) (by decide) (t := (.array (.object "java/lang/Object"))) (t' := .int) (by decide) (by decide)))
  replace F_o0_size := F_o0_size.other W2 (Or.inr (slot_ne (Or.inl (hw _ (mi 200 rfl))) (Or.inl (hw _ (mi 31 rfl))) (by decide) (t := .int) (t' := .int) (by decide) (by decide)))
  replace E_o1 := E_o1.wr W2
  replace V_elementData_o0 := V_elementData_o0.other W2 ne_elementData_o0_o0
  replace S_DEFAULTCAPACITY_EMPTY_ELEMENTDATA := S_DEFAULTCAPACITY_EMPTY_ELEMENTDATA.wr W2
  have N2 := Fr.snoc X2 N0 g_o0
  replace K0 := K0.wr W2 (Or.inl (by simp))
  replace Z0 := Nat.le_trans Z0 (Nat.le_of_eq W2.size.symm)
  refine own_aloadN X2 hx hby rfl rfl d38_10 (pc' := 11) rfl ?_
  refine own_aloadN X2 hx hby rfl rfl d38_11 (pc' := 12) rfl ?_
  refine own_aloadN X2 hx hby rfl rfl d38_12 (pc' := 13) rfl ?_
  refine own_getF X2 hx hby hZ hown (host := "") (Or.inl (hw _ (mi 33 rfl))) Via.refl eH2 F_o0_elementData d38_13 (pc' := 16) rfl (fun T3 X3 eH3 => ?_)
  refine own_aloadN X3 hx hby rfl rfl d38_16 (pc' := 17) rfl ?_
  refine own_getF X3 hx hby hZ hown (host := "") (Or.inl (hw _ (mi 199 rfl))) Via.refl eH3 F_o0_size d38_17 (pc' := 20) rfl (fun T4 X4 eH4 => ?_)
  refine own_private X4 hx hby hZ (y := (⟨"java/util/ArrayList", "add", "(Ljava/lang/Object;[Ljava/lang/Object;I)V"⟩ : MethodName)) (rest := []) hown (hw _ (mi 260 rfl)) (hw _ (mi 261 rfl)) (hw _ (mi 10 rfl)) (hw _ (mi 262 rfl)) (hw _ (mi 264 rfl)) (hw _ (mi 11 rfl)) (by decide) (rm39f l Z a0 hw [] o0 o1 elementData_o0 (modCount_o0 + (1 : Int32)) h2 n0 Z0 F_o0_modCount F_o0_elementData F_o0_size S_DEFAULTCAPACITY_EMPTY_ELEMENTDATA V_elementData_o0 E_o1 E_o0 g_o0 ne_elementData_o0_o0) eH4 (by rw [hml]; rfl) (a := o0) E_o0 (argsL := [(.ref o1), (.ref elementData_o0), (.int (0 : Int32))]) rfl (lenOf pd_22 rfl) rfl d38_20 (pc' := 23) rfl (by decide) (W := 0) (Nat.le_of_eq rfl) (by decide) (by decide) (by decide) (fun T5 h5 Lc5 v5r X5 eH5 hQ5 => ?_)
  obtain ⟨b5_2_1_5, rfl, Nq5, Kq5, gq5_0, gq5_1, gq5_2, gq5_3, gq5_4, gq5_5, gq5_6⟩ := hQ5
  have N5 := Fr.app N2 Nq5
  have g_b5_2_1_5 : n0 ≤ b5_2_1_5 := Nat.le_trans Z0 gq5_0
  have sz_b5_2_1_5 : h0.size ≤ b5_2_1_5 := Nat.le_trans K0.1 gq5_0
  have ne_o0_b5_2_1_5 : o0 ≠ b5_2_1_5 := Nat.ne_of_lt (Nat.lt_of_lt_of_le E_o0.lt gq5_0)
  have ne_o1_b5_2_1_5 : o1 ≠ b5_2_1_5 := Nat.ne_of_lt (Nat.lt_of_lt_of_le E_o1.lt gq5_0)
  have ne_elementData_o0_b5_2_1_5 : elementData_o0 ≠ b5_2_1_5 := Nat.ne_of_lt (Nat.lt_of_lt_of_le V_elementData_o0.lt gq5_0)
  replace S_DEFAULTCAPACITY_EMPTY_ELEMENTDATA := own_skn S_DEFAULTCAPACITY_EMPTY_ELEMENTDATA Kq5 (own_skS E_o0 own_sk0)
  replace E_o0 := E_o0.keep Kq5
  replace E_o1 := E_o1.keep Kq5
  replace V_elementData_o0 := V_elementData_o0.keep Kq5 (ninS ne_elementData_o0_o0 nin0)
  replace K0 := K0.trans Kq5 (allS (Or.inl (by simp)) all0)
  have E_o0 := gq5_1
  have F_o0_modCount := gq5_2
  have F_o0_elementData := gq5_3
  have F_o0_size := gq5_4
  have E_b5_2_1_5 := gq5_5
  have V_b5_2_1_5 := gq5_6
  replace Z0 := Nat.le_trans Z0 Kq5.1
  refine own_iconst X5 hx hby (v := (1 : Int32)) (by decide) d38_23 (pc' := 24) rfl ?_
  exact own_retZ X5 hx hby Bd.notSynchronized Bd.returns (Or.inr rfl) d38_24 (by decide) (by decide) eH5 ⟨b5_2_1_5, rfl, N5, K0, sz_b5_2_1_5, E_o0, F_o0_modCount, F_o0_elementData, F_o0_size, E_b5_2_1_5, V_b5_2_1_5⟩
theorem ef39 (m : MethodId) (x0 : Addr) (x1 : Addr) (x2 : Addr) (x3 : Int32) : entryFrame m #[(.ref x0), (.ref x1), (.ref x2), (.int x3)] 4 = mkF m 0 #[.val (.ref x0), .val (.ref x1), .val (.ref x2), .val (.int x3)] [] := by first | (simp [entryFrame, mkF, argsToLocals, Value.category]; done) | rfl
def Q39 (Z : State) (o0 : Addr) (o1 : Addr) (o2 : Addr) (p3 : Int32) (modCount_o0 : Int32) (elementData_o0 : Addr) (size_o0 : Int32) (el : List Value) (ix : Nat) (h0 : Heap) (n0 : Nat) (v : Option Value) (h : Heap) (L : List Loc) : Prop := v = none ∧ Fr n0 L ∧ Keep h0 h [o2, o0] ∧ Ary (ovO Z "java/lang/Object") Z h o2 (.object "java/lang/Object") (el.set ix (.ref o1)) ∧ Exa Z h o0 "java/util/ArrayList" ∧ Fld Z h o0 "java/util/AbstractList" "modCount" "I" (.int modCount_o0) ∧ Fld Z h o0 "java/util/ArrayList" "elementData" "[Ljava/lang/Object;" (.ref elementData_o0) ∧ Fld Z h o0 "java/util/ArrayList" "size" "I" (.int (p3 + (1 : Int32)))
theorem rm39 (l : Launch) (Z : State) (a0 : Array Value) (hw : ∀ d ∈ tables_1, d.before a0 Z = true) (ws : List Jvm.Cond) (o0 : Addr) (o1 : Addr) (o2 : Addr) (p3 : Int32) (modCount_o0 : Int32) (elementData_o0 : Addr) (size_o0 : Int32) (el : List Value) (ix : Nat) (h0 : Heap) (n0 : Nat) (Z0 : n0 ≤ h0.size) (F_o0_modCount : Fld Z h0 o0 "java/util/AbstractList" "modCount" "I" (.int modCount_o0)) (F_o0_elementData : Fld Z h0 o0 "java/util/ArrayList" "elementData" "[Ljava/lang/Object;" (.ref elementData_o0)) (F_o0_size : Fld Z h0 o0 "java/util/ArrayList" "size" "I" (.int size_o0)) (E_o1 : Exa Z h0 o1 "java/lang/String") (V_o2 : Ary (ovO Z "java/lang/Object") Z h0 o2 (.object "java/lang/Object") el) (hle : (el.length = 10)) (hi0 : (¬ (p3 < 0))) (hin : (p3.toNatClampNeg = ix)) (hil : (ix < 10)) (h10 : (¬ (p3 = (10 : Int32)))) (E_o0 : Exa Z h0 o0 "java/util/ArrayList") (g_o2 : n0 ≤ o2) (ne_o0_o2 : o0 ≠ o2) (g_o0 : n0 ≤ o0) :
    MetFree l (⟨"java/util/ArrayList", "add", "(Ljava/lang/Object;[Ljava/lang/Object;I)V"⟩ : MethodName) (head1 (Jvm.Cond.code (⟨"java/util/ArrayList", "add", "(Ljava/lang/Object;[Ljava/lang/Object;I)V"⟩ : MethodName) jdk_38_method_24_code 4 none :: ws) ({ frames := 0, cells := 0, slots := 0, locals := 0 } : Room)) (fun a U => a = #[(.ref o0), (.ref o1), (.ref o2), (.int p3)] ∧ Z.Warmed39 U.vm ∧ U.heap = h0) (fun _ _ _ _ _ => True) (fun _ U o U' => ∃ v L, o = .returned v ∧ Q39 Z o0 o1 o2 p3 modCount_o0 elementData_o0 size_o0 el ix h0 n0 v U'.heap L ∧ FrameEnd U o U' L ({ frames := 0, cells := 0, slots := 0, locals := 0 } : Room).cells ({ frames := 0, cells := 0, slots := 0, locals := 0 } : Room).slots) := by
  refine MetFree.of_bodySF (plainFor_of_name pn_java_util_ArrayList) hisR ?_
  intro p e s m args below meth c s₁ Bd hml0 hP hK
  obtain ⟨rfl, hZ, hhp⟩ := hP
  have hx := Bd.exec
  have hby := Bd.bytes
  have hml : c.maxLocals = 4 := hml0
  have hown : s.vm.findClass "java/util/ArrayList" = some m.cls := findClass_of_methodNamed Bd.named
  have hnm := (name_of_methodNamed Bd.named Bd.method).1
  have X0 : Stand p l e ({ frames := 0, cells := 0, slots := 0, locals := 0 } : Room) s m #[(.ref o0), (.ref o1), (.ref o2), (.int p3)] below meth c s₁ [] 0 0 := Stand.of_body Bd
  have eH0 : s₁.heap = h0 := by rw [← hhp, Bd.state]; rfl
  have N0 := Fr.nil n0
  have K0 := Keep.refl h0 [o2, o0]
  show Gt p.tables e below (fun o U' => ∃ v L, o = .returned v ∧ Q39 Z o0 o1 o2 p3 modCount_o0 elementData_o0 size_o0 el ix h0 n0 v U'.heap L ∧ FrameEnd s o U' L ({ frames := 0, cells := 0, slots := 0, locals := 0 } : Room).cells ({ frames := 0, cells := 0, slots := 0, locals := 0 } : Room).slots) _
  refine own_cast (ef39 m o0 o1 o2 p3) ?_
  refine own_iloadN X0 hx hby rfl d39_0 (pc' := 1) rfl ?_
  refine own_aloadN X0 hx hby rfl rfl d39_1 (pc' := 2) rfl ?_
  refine own_alen X0 hx hby hZ eH0 V_o2 (z := (10 : Int32)) (by rw [hle]; decide) d39_2 (pc' := 3) rfl ?_
  have hk1 : ¬ (p3 = (10 : Int32)) := h10
  refine own_icT X0 hx hby d39_3 (own_ic_ne_n hk1) (by decide) (pc' := 11) (by decide) ?_
  refine own_aloadN X0 hx hby rfl rfl d39_11 (pc' := 12) rfl ?_
  refine own_iloadN X0 hx hby rfl d39_12 (pc' := 13) rfl ?_
  refine own_aloadN X0 hx hby rfl rfl d39_13 (pc' := 14) rfl ?_
  refine own_aastoreI X0 hx hby hZ eH0 V_o2 (Ins.of_exa E_o1 (hw _ (mi 278 rfl))) hi0 (n := ix) hin (by rw [hle]; exact hil) d39_14 (pc' := 15) rfl (fun T2 h2 X2 eH2 W2 => ?_)
  replace E_o0 := E_o0.wr W2
  replace F_o0_modCount := F_o0_modCount.other W2 (Or.inl ne_o0_o2)
  replace F_o0_elementData := F_o0_elementData.other W2 (Or.inl ne_o0_o2)
  replace F_o0_size := F_o0_size.other W2 (Or.inl ne_o0_o2)
  replace E_o1 := E_o1.wr W2
  have N2 := Fr.snoc X2 N0 g_o2
  replace K0 := K0.wr W2 (Or.inl (by simp))
  replace Z0 := Nat.le_trans Z0 (Nat.le_of_eq W2.size.symm)
  replace V_o2 : Ary (ovO Z "java/lang/Object") Z h2 o2 (.object "java/lang/Object") (el.set ix (.ref o1)) := V_o2.set W2
  refine own_aloadN X2 hx hby rfl rfl d39_15 (pc' := 16) rfl ?_
  refine own_iloadN X2 hx hby rfl d39_16 (pc' := 17) rfl ?_
  refine own_iconst X2 hx hby (v := (1 : Int32)) (by decide) d39_17 (pc' := 18) rfl ?_
  refine own_iadd X2 hx hby rfl d39_18 (pc' := 19) rfl ?_
  refine own_putF X2 hx hby hZ hown (host := "") (Or.inl (hw _ (mi 199 rfl))) Via.refl eH2 F_o0_size E_o0 (Or.inl (hw _ (mi 200 rfl))) (hw _ (mi 10 rfl)) (ty := .int) (by decide) rfl rfl d39_19 (pc' := 22) rfl (fun T3 h3 X3 eH3 W3 => ?_)
  replace E_o0 := E_o0.wr W3
  replace F_o0_modCount := F_o0_modCount.other W3 (Or.inr (slot_ne (Or.inl (hw _ (mi 31 rfl))) (Or.inl (hw _ (mi 200 rfl))) (by decide) (t := .int) (t' := .int) (by decide) (by decide)))
  replace F_o0_elementData := F_o0_elementData.other W3 (Or.inr (slot_ne (Or.inl (hw _ (mi 34 rfl))) (Or.inl (hw _ (mi 200 rfl))) (by decide) (t := (.array (.object "java/lang/Object"))) (t' := .int) (by decide) (by decide)))
  replace F_o0_size := F_o0_size.same W3
  replace E_o1 := E_o1.wr W3
  replace V_o2 := V_o2.other W3 (Ne.symm ne_o0_o2)
  have N3 := Fr.snoc X3 N2 g_o0
  replace K0 := K0.wr W3 (Or.inl (by simp))
  replace Z0 := Nat.le_trans Z0 (Nat.le_of_eq W3.size.symm)
  exact own_retV X3 hx hby Bd.notSynchronized Bd.returns d39_22 (by decide) (by decide) eH3 ⟨rfl, N3, K0, V_o2, E_o0, F_o0_modCount, F_o0_elementData, F_o0_size⟩
theorem ef38 (m : MethodId) (x0 : Addr) (x1 : Addr) : entryFrame m #[(.ref x0), (.ref x1)] 2 = mkF m 0 #[.val (.ref x0), .val (.ref x1)] [] := by first | (simp [entryFrame, mkF, argsToLocals, Value.category]; done) | rfl
def Q38 (Z : State) (o0 : Addr) (o1 : Addr) (modCount_o0 : Int32) (elementData_o0 : Addr) (size_o0 : Int32) (el : List Value) (ix : Nat) (h0 : Heap) (n0 : Nat) (v : Option Value) (h : Heap) (L : List Loc) : Prop := v = some (.int (1 : Int32)) ∧ Fr n0 L ∧ Keep h0 h [o0, elementData_o0] ∧ Exa Z h o0 "java/util/ArrayList" ∧ Fld Z h o0 "java/util/AbstractList" "modCount" "I" (.int (modCount_o0 + (1 : Int32))) ∧ Fld Z h o0 "java/util/ArrayList" "elementData" "[Ljava/lang/Object;" (.ref elementData_o0) ∧ Fld Z h o0 "java/util/ArrayList" "size" "I" (.int (size_o0 + (1 : Int32))) ∧ Ary (ovO Z "java/lang/Object") Z h elementData_o0 (.object "java/lang/Object") (el.set ix (.ref o1))
theorem rm38 (l : Launch) (Z : State) (a0 : Array Value) (hw : ∀ d ∈ tables_1, d.before a0 Z = true) (ws : List Jvm.Cond) (o0 : Addr) (o1 : Addr) (modCount_o0 : Int32) (elementData_o0 : Addr) (size_o0 : Int32) (el : List Value) (ix : Nat) (h0 : Heap) (n0 : Nat) (Z0 : n0 ≤ h0.size) (F_o0_modCount : Fld Z h0 o0 "java/util/AbstractList" "modCount" "I" (.int modCount_o0)) (F_o0_elementData : Fld Z h0 o0 "java/util/ArrayList" "elementData" "[Ljava/lang/Object;" (.ref elementData_o0)) (F_o0_size : Fld Z h0 o0 "java/util/ArrayList" "size" "I" (.int size_o0)) (E_o1 : Exa Z h0 o1 "java/lang/String") (V_elementData_o0 : Ary (ovO Z "java/lang/Object") Z h0 elementData_o0 (.object "java/lang/Object") el) (hle : (el.length = 10)) (hi0 : (¬ (size_o0 < 0))) (hin : (size_o0.toNatClampNeg = ix)) (hil : (ix < 10)) (h10 : (¬ (size_o0 = (10 : Int32)))) (E_o0 : Exa Z h0 o0 "java/util/ArrayList") (g_o0 : n0 ≤ o0) (ne_elementData_o0_o0 : elementData_o0 ≠ o0) (g_elementData_o0 : n0 ≤ elementData_o0) :
    MetFree l (⟨"java/util/ArrayList", "add", "(Ljava/lang/Object;)Z"⟩ : MethodName) (head1 (Jvm.Cond.code (⟨"java/util/ArrayList", "add", "(Ljava/lang/Object;)Z"⟩ : MethodName) jdk_38_method_25_code 2 (some .boolean) :: ws) ({ frames := 1, cells := 0, slots := 0, locals := 15 } : Room)) (fun a U => a = #[(.ref o0), (.ref o1)] ∧ Z.Warmed39 U.vm ∧ U.heap = h0) (fun _ _ _ _ _ => True) (fun _ U o U' => ∃ v L, o = .returned v ∧ Q38 Z o0 o1 modCount_o0 elementData_o0 size_o0 el ix h0 n0 v U'.heap L ∧ FrameEnd U o U' L ({ frames := 1, cells := 0, slots := 0, locals := 15 } : Room).cells ({ frames := 1, cells := 0, slots := 0, locals := 15 } : Room).slots) := by
  refine MetFree.of_bodySF (plainFor_of_name pn_java_util_ArrayList) hisR ?_
  intro p e s m args below meth c s₁ Bd hml0 hP hK
  obtain ⟨rfl, hZ, hhp⟩ := hP
  have hx := Bd.exec
  have hby := Bd.bytes
  have hml : c.maxLocals = 2 := hml0
  have hown : s.vm.findClass "java/util/ArrayList" = some m.cls := findClass_of_methodNamed Bd.named
  have hnm := (name_of_methodNamed Bd.named Bd.method).1
  have X0 : Stand p l e ({ frames := 1, cells := 0, slots := 0, locals := 15 } : Room) s m #[(.ref o0), (.ref o1)] below meth c s₁ [] 0 0 := Stand.of_body Bd
  have eH0 : s₁.heap = h0 := by rw [← hhp, Bd.state]; rfl
  have N0 := Fr.nil n0
  have K0 := Keep.refl h0 [o0, elementData_o0]
  show Gt p.tables e below (fun o U' => ∃ v L, o = .returned v ∧ Q38 Z o0 o1 modCount_o0 elementData_o0 size_o0 el ix h0 n0 v U'.heap L ∧ FrameEnd s o U' L ({ frames := 1, cells := 0, slots := 0, locals := 15 } : Room).cells ({ frames := 1, cells := 0, slots := 0, locals := 15 } : Room).slots) _
  refine own_cast (ef38 m o0 o1) ?_
  refine own_aloadN X0 hx hby rfl rfl d38_0 (pc' := 1) rfl ?_
  refine own_dup X0 hx hby rfl d38_1 (pc' := 2) rfl ?_
  refine own_getF X0 hx hby hZ hown (host := "") (Or.inl (hw _ (mi 258 rfl))) (Via.of (hw _ (mi 259 rfl))) eH0 F_o0_modCount d38_2 (pc' := 5) rfl (fun T1 X1 eH1 => ?_)
  refine own_iconst X1 hx hby (v := (1 : Int32)) (by decide) d38_5 (pc' := 6) rfl ?_
  refine own_iadd X1 hx hby rfl d38_6 (pc' := 7) rfl ?_
  refine own_putF X1 hx hby hZ hown (host := "") (Or.inl (hw _ (mi 258 rfl))) (Via.of (hw _ (mi 259 rfl))) eH1 F_o0_modCount E_o0 (Or.inl (hw _ (mi 31 rfl))) (hw _ (mi 10 rfl)) (ty := .int) (by decide) rfl rfl d38_7 (pc' := 10) rfl (fun T2 h2 X2 eH2 W2 => ?_)
  replace E_o0 := E_o0.wr W2
  replace F_o0_modCount := F_o0_modCount.same W2
  replace F_o0_elementData := F_o0_elementData.other W2 (Or.inr (slot_ne (Or.inl (hw _ (mi 34 rfl))) (Or.inl (hw _ (mi 31 rfl))) (by decide) (t := (.array (.object "java/lang/Object"))) (t' := .int) (by decide) (by decide)))
  replace F_o0_size := F_o0_size.other W2 (Or.inr (slot_ne (Or.inl (hw _ (mi 200 rfl))) (Or.inl (hw _ (mi 31 rfl))) (by decide) (t := .int) (t' := .int) (by decide) (by decide)))
  replace E_o1 := E_o1.wr W2
  replace V_elementData_o0 := V_elementData_o0.other W2 ne_elementData_o0_o0
  have N2 := Fr.snoc X2 N0 g_o0
  replace K0 := K0.wr W2 (Or.inl (by simp))
  replace Z0 := Nat.le_trans Z0 (Nat.le_of_eq W2.size.symm)
  refine own_aloadN X2 hx hby rfl rfl d38_10 (pc' := 11) rfl ?_
  refine own_aloadN X2 hx hby rfl rfl d38_11 (pc' := 12) rfl ?_
  refine own_aloadN X2 hx hby rfl rfl d38_12 (pc' := 13) rfl ?_
  refine own_getF X2 hx hby hZ hown (host := "") (Or.inl (hw _ (mi 33 rfl))) Via.refl eH2 F_o0_elementData d38_13 (pc' := 16) rfl (fun T3 X3 eH3 => ?_)
  refine own_aloadN X3 hx hby rfl rfl d38_16 (pc' := 17) rfl ?_
  refine own_getF X3 hx hby hZ hown (host := "") (Or.inl (hw _ (mi 199 rfl))) Via.refl eH3 F_o0_size d38_17 (pc' := 20) rfl (fun T4 X4 eH4 => ?_)
  refine own_private X4 hx hby hZ (y := (⟨"java/util/ArrayList", "add", "(Ljava/lang/Object;[Ljava/lang/Object;I)V"⟩ : MethodName)) (rest := []) hown (hw _ (mi 260 rfl)) (hw _ (mi 261 rfl)) (hw _ (mi 10 rfl)) (hw _ (mi 262 rfl)) (hw _ (mi 264 rfl)) (hw _ (mi 11 rfl)) (by decide) (rm39 l Z a0 hw [] o0 o1 elementData_o0 size_o0 (modCount_o0 + (1 : Int32)) elementData_o0 size_o0 el ix h2 n0 Z0 F_o0_modCount F_o0_elementData F_o0_size E_o1 V_elementData_o0 hle hi0 hin hil h10 E_o0 g_elementData_o0 (Ne.symm ne_elementData_o0_o0) g_o0) eH4 (by rw [hml]; rfl) (a := o0) E_o0 (argsL := [(.ref o1), (.ref elementData_o0), (.int size_o0)]) rfl (lenOf pd_22 rfl) rfl d38_20 (pc' := 23) rfl (by decide) (W := 0) (Nat.le_of_eq rfl) (by decide) (by decide) (by decide) (fun T5 h5 Lc5 v5r X5 eH5 hQ5 => ?_)
  obtain ⟨rfl, Nq5, Kq5, gq5_0, gq5_1, gq5_2, gq5_3, gq5_4⟩ := hQ5
  have N5 := Fr.app N2 Nq5
  replace E_o0 := E_o0.keep Kq5
  replace E_o1 := E_o1.keep Kq5
  replace K0 := K0.trans Kq5 (allS (Or.inl (by simp)) (allS (Or.inl (by simp)) all0))
  have V_elementData_o0 := gq5_0
  have E_o0 := gq5_1
  have F_o0_modCount := gq5_2
  have F_o0_elementData := gq5_3
  have F_o0_size := gq5_4
  replace Z0 := Nat.le_trans Z0 Kq5.1
  refine own_iconst X5 hx hby (v := (1 : Int32)) (by decide) d38_23 (pc' := 24) rfl ?_
  exact own_retZ X5 hx hby Bd.notSynchronized Bd.returns (Or.inr rfl) d38_24 (by decide) (by decide) eH5 ⟨rfl, N5, K0, E_o0, F_o0_modCount, F_o0_elementData, F_o0_size, V_elementData_o0⟩
theorem ef33c (m : MethodId) (x0 : Addr) (x1 : Int32) : entryFrame m #[(.ref x0), (.int x1)] 3 = mkF m 0 #[.val (.ref x0), .val (.int x1), .unset] [] := by first | (simp [entryFrame, mkF, argsToLocals, Value.category]; done) | rfl
def Q33c (Z : State) (o0 : Addr) (p1 : Int32) (xs : List Int32) (zz : Int32) (h0 : Heap) (n0 : Nat) (v : Option Value) (h : Heap) (L : List Loc) : Prop := ∃ b2 : Addr, v = some (.ref b2) ∧ Fr n0 L ∧ Keep h0 h [] ∧ h0.size ≤ b2 ∧ Exa Z h b2 "[I" ∧ Ary tr Z h b2 .int (xs.map Value.int)
theorem rm33c (l : Launch) (Z : State) (a0 : Array Value) (hw : ∀ d ∈ tables_1, d.before a0 Z = true) (ws : List Jvm.Cond) (o0 : Addr) (p1 : Int32) (xs : List Int32) (zz : Int32) (h0 : Heap) (n0 : Nat) (Z0 : n0 ≤ h0.size) (V_o0 : Ary tr Z h0 o0 .int (xs.map Value.int)) (hzl : ((xs.map Value.int).length.toInt32 = zz)) (hz : (zz.toNatClampNeg = xs.length)) (hz0 : (¬ (zz < 0))) (hsm : (p1 = zz)) (E_o0 : Exa Z h0 o0 "[I") (hx5 : (xs.length ≤ 5)) :
    MetFree l (⟨"java/util/Arrays", "copyOf", "([II)[I"⟩ : MethodName) (head1 (Jvm.Cond.code (⟨"java/util/Arrays", "copyOf", "([II)[I"⟩ : MethodName) jdk_65_method_123_code 3 (some (.array .int)) :: ws) ({ frames := 1, cells := 1, slots := 5, locals := 14 } : Room)) (fun a U => a = #[(.ref o0), (.int p1)] ∧ Z.Warmed39 U.vm ∧ U.heap = h0) (fun _ _ _ _ _ => True) (fun _ U o U' => ∃ v L, o = .returned v ∧ Q33c Z o0 p1 xs zz h0 n0 v U'.heap L ∧ FrameEnd U o U' L ({ frames := 1, cells := 1, slots := 5, locals := 14 } : Room).cells ({ frames := 1, cells := 1, slots := 5, locals := 14 } : Room).slots) := by
  refine MetFree.of_bodySF (plainFor_of_name pn_java_util_Arrays) hisR ?_
  intro p e s m args below meth c s₁ Bd hml0 hP hK
  obtain ⟨rfl, hZ, hhp⟩ := hP
  have hx := Bd.exec
  have hby := Bd.bytes
  have hml : c.maxLocals = 3 := hml0
  have hown : s.vm.findClass "java/util/Arrays" = some m.cls := findClass_of_methodNamed Bd.named
  have hnm := (name_of_methodNamed Bd.named Bd.method).1
  have X0 : Stand p l e ({ frames := 1, cells := 1, slots := 5, locals := 14 } : Room) s m #[(.ref o0), (.int p1)] below meth c s₁ [] 0 0 := Stand.of_body Bd
  have eH0 : s₁.heap = h0 := by rw [← hhp, Bd.state]; rfl
  have N0 := Fr.nil n0
  have K0 := Keep.refl h0 []
  show Gt p.tables e below (fun o U' => ∃ v L, o = .returned v ∧ Q33c Z o0 p1 xs zz h0 n0 v U'.heap L ∧ FrameEnd s o U' L ({ frames := 1, cells := 1, slots := 5, locals := 14 } : Room).cells ({ frames := 1, cells := 1, slots := 5, locals := 14 } : Room).slots) _
  refine own_cast (ef33c m o0 p1) ?_
  refine own_iloadN X0 hx hby rfl d33_0 (pc' := 1) rfl ?_
  refine own_aloadN X0 hx hby rfl rfl d33_1 (pc' := 2) rfl ?_
  refine own_alen X0 hx hby hZ eH0 V_o0 (z := zz) hzl d33_2 (pc' := 3) rfl ?_
  have hk1 : p1 = zz := hsm
  refine own_icF X0 hx hby d33_3 (own_ic_ne_p hk1) (pc' := 6) rfl ?_
  refine own_aloadN X0 hx hby rfl rfl d33_6 (pc' := 7) rfl ?_
  refine own_cloneI X0 hx hby hZ hown (hw _ (mi 222 rfl)) (hw _ (mi 223 rfl)) (hw _ (mi 227 rfl)) (hw _ (mi 225 rfl)) (hw _ (mi 226 rfl)) (hw _ (mi 228 rfl)) eH0 V_o0 E_o0 (z := zz) (by rw [List.length_map]; exact hz) hz0 (fun i _ => own_fitI xs i) (by rw [hml]; rfl) d33_7 (pc' := 10) rfl (by decide) (W := 0) (cap := 5) (Nat.le_of_eq rfl) (by decide) (by rw [List.length_map]; exact hx5) (by decide) (by decide) (fun T2 h2 b2 X2 eH2 E2 g2 E_b2 V_b2 => ?_)
  have g_b2 : n0 ≤ b2 := g2 ▸ Z0
  have sz_b2 : h0.size ≤ b2 := g2 ▸ K0.1
  have ne_o0_b2 : o0 ≠ b2 := Nat.ne_of_lt (g2 ▸ E_o0.lt)
  replace E_o0 := E_o0.ext E2
  replace V_o0 := V_o0.ext E2
  replace K0 := K0.ext E2
  replace Z0 := Nat.le_trans Z0 E2.1
  refine own_castY X2 hx hby hZ hown (hw _ (mi 229 rfl)) eH2 (Ins.self E_b2) d33_10 (pc' := 13) rfl (fun T3 X3 eH3 => ?_)
  exact own_retA X3 hx hby Bd.notSynchronized Bd.returns rfl rfl d33_13 (by decide) (by decide) eH3 ⟨b2, rfl, N0, K0, sz_b2, E_b2, V_b2⟩
theorem ef33n (m : MethodId) (x0 : Addr) (x1 : Int32) : entryFrame m #[(.ref x0), (.int x1)] 3 = mkF m 0 #[.val (.ref x0), .val (.int x1), .unset] [] := by first | (simp [entryFrame, mkF, argsToLocals, Value.category]; done) | rfl
def Q33n (Z : State) (o0 : Addr) (p1 : Int32) (xs : List Int32) (zz : Int32) (nn : Nat) (h0 : Heap) (n0 : Nat) (v : Option Value) (h : Heap) (L : List Loc) : Prop := ∃ b2 : Addr, v = some (.ref b2) ∧ Fr n0 L ∧ Keep h0 h [] ∧ h0.size ≤ b2 ∧ Exa Z h b2 "[I" ∧ Ary tr Z h b2 .int ((xs.take nn).map Value.int)
theorem rm33n (l : Launch) (Z : State) (a0 : Array Value) (hw : ∀ d ∈ tables_1, d.before a0 Z = true) (ws : List Jvm.Cond) (o0 : Addr) (p1 : Int32) (xs : List Int32) (zz : Int32) (nn : Nat) (h0 : Heap) (n0 : Nat) (Z0 : n0 ≤ h0.size) (V_o0 : Ary tr Z h0 o0 .int (xs.map Value.int)) (hzl : ((xs.map Value.int).length.toInt32 = zz)) (hz : (zz.toNatClampNeg = xs.length)) (hz0 : (¬ (zz < 0))) (hsm : (¬ (p1 = zz))) (hp0 : (¬ (p1 < 0))) (hpn : (p1.toNatClampNeg = nn)) (hnl : (nn ≤ xs.length)) (hlt : (p1 < zz)) (hn5 : (nn ≤ 5)) :
    MetFree l (⟨"java/util/Arrays", "copyOf", "([II)[I"⟩ : MethodName) (head1 (Jvm.Cond.code (⟨"java/util/Arrays", "copyOf", "([II)[I"⟩ : MethodName) jdk_65_method_123_code 3 (some (.array .int)) :: ws) ({ frames := 1, cells := 1, slots := 5, locals := 18 } : Room)) (fun a U => a = #[(.ref o0), (.int p1)] ∧ Z.Warmed39 U.vm ∧ U.heap = h0) (fun _ _ _ _ _ => True) (fun _ U o U' => ∃ v L, o = .returned v ∧ Q33n Z o0 p1 xs zz nn h0 n0 v U'.heap L ∧ FrameEnd U o U' L ({ frames := 1, cells := 1, slots := 5, locals := 18 } : Room).cells ({ frames := 1, cells := 1, slots := 5, locals := 18 } : Room).slots) := by
  refine MetFree.of_bodySF (plainFor_of_name pn_java_util_Arrays) hisR ?_
  intro p e s m args below meth c s₁ Bd hml0 hP hK
  obtain ⟨rfl, hZ, hhp⟩ := hP
  have hx := Bd.exec
  have hby := Bd.bytes
  have hml : c.maxLocals = 3 := hml0
  have hown : s.vm.findClass "java/util/Arrays" = some m.cls := findClass_of_methodNamed Bd.named
  have hnm := (name_of_methodNamed Bd.named Bd.method).1
  have X0 : Stand p l e ({ frames := 1, cells := 1, slots := 5, locals := 18 } : Room) s m #[(.ref o0), (.int p1)] below meth c s₁ [] 0 0 := Stand.of_body Bd
  have eH0 : s₁.heap = h0 := by rw [← hhp, Bd.state]; rfl
  have N0 := Fr.nil n0
  have K0 := Keep.refl h0 []
  show Gt p.tables e below (fun o U' => ∃ v L, o = .returned v ∧ Q33n Z o0 p1 xs zz nn h0 n0 v U'.heap L ∧ FrameEnd s o U' L ({ frames := 1, cells := 1, slots := 5, locals := 18 } : Room).cells ({ frames := 1, cells := 1, slots := 5, locals := 18 } : Room).slots) _
  refine own_cast (ef33n m o0 p1) ?_
  refine own_iloadN X0 hx hby rfl d33_0 (pc' := 1) rfl ?_
  refine own_aloadN X0 hx hby rfl rfl d33_1 (pc' := 2) rfl ?_
  refine own_alen X0 hx hby hZ eH0 V_o0 (z := zz) hzl d33_2 (pc' := 3) rfl ?_
  have hk1 : ¬ (p1 = zz) := hsm
  refine own_icT X0 hx hby d33_3 (own_ic_ne_n hk1) (by decide) (pc' := 14) (by decide) ?_
  refine own_iloadN X0 hx hby rfl d33_14 (pc' := 15) rfl ?_
  refine own_newP X0 hx hby hZ (hw _ (mi 217 rfl)) eH0 d33_15 (pc' := 17) rfl hp0 (N := nn) hpn (cap := 5) hn5 (by decide) (by decide) (by decide) (ad := "[I") (by decide) (fun T2 h2 b2 X2 eH2 E2 g2 E_b2 V_b2 => ?_)
  have g_b2 : n0 ≤ b2 := g2 ▸ Z0
  have sz_b2 : h0.size ≤ b2 := g2 ▸ K0.1
  have ne_o0_b2 : o0 ≠ b2 := Nat.ne_of_lt (g2 ▸ V_o0.lt)
  replace V_o0 := V_o0.ext E2
  replace K0 := K0.ext E2
  replace Z0 := Nat.le_trans Z0 E2.1
  have V_b2 : Ary tr Z h2 b2 .int ((List.replicate nn (0 : Int32)).map Value.int) := by rw [List.map_replicate]; exact V_b2
  refine own_astoreN X2 hx hby rfl (L' := #[.val (.ref o0), .val (.int p1), .val (.ref b2)]) rfl d33_17 (pc' := 18) rfl ?_
  refine own_aloadN X2 hx hby rfl rfl d33_18 (pc' := 19) rfl ?_
  refine own_iconst X2 hx hby (v := (0 : Int32)) (by decide) d33_19 (pc' := 20) rfl ?_
  refine own_aloadN X2 hx hby rfl rfl d33_20 (pc' := 21) rfl ?_
  refine own_iconst X2 hx hby (v := (0 : Int32)) (by decide) d33_21 (pc' := 22) rfl ?_
  refine own_aloadN X2 hx hby rfl rfl d33_22 (pc' := 23) rfl ?_
  refine own_alen X2 hx hby hZ eH2 V_o0 (z := zz) hzl d33_23 (pc' := 24) rfl ?_
  refine own_iloadN X2 hx hby rfl d33_24 (pc' := 25) rfl ?_
  refine own_static X2 hx hby hZ (y := (⟨"java/lang/Math", "min", "(II)I"⟩ : MethodName)) (rest := [(.int (0 : Int32)), (.ref b2), (.int (0 : Int32)), (.ref o0)]) hown (hw _ (mi 329 rfl)) (hw _ (mi 215 rfl)) (hw _ (mi 216 rfl)) (hw _ (mi 7 rfl)) (by decide) (rm32r l Z a0 hw [] zz p1 p1 h2 n0 Z0 (if_pos hlt)) eH2 (by rw [hml]; rfl) (argsL := [(.int zz), (.int p1)]) rfl (lenOf pd_18 rfl) rfl d33_25 (pc' := 28) rfl (by decide) (W := 4) (Nat.le_of_eq rfl) (by decide) (by decide) (by decide) (fun T3 h3 Lc3 v3r X3 eH3 hQ3 => ?_)
  obtain ⟨rfl, Nq3, rfl⟩ := hQ3
  have N3 := Fr.app N0 Nq3
  refine own_cpI X3 hx hby hZ hown (hw _ (mi 330 rfl)) (hw _ (mi 333 rfl)) (hw _ (mi 331 rfl)) (hw _ (mi 332 rfl)) eH3 V_o0 V_b2 (z := zz) (z' := p1) (N := nn) hz hz0 (by rw [List.length_replicate]; exact hpn) hp0 hp0 hpn hnl (List.length_replicate ..) N3 g_b2 (by rw [hml]; rfl) d33_28 (pc' := 31) rfl (by decide) (W := 0) (Nat.le_of_eq rfl) (by decide) (fun T4 h4 Lc4 X4 eH4 N4 Kq4 V_b2 => ?_)
  replace V_o0 := V_o0.keep Kq4 (ninS ne_o0_b2 nin0)
  replace E_b2 := E_b2.keep Kq4
  replace K0 := K0.trans Kq4 (allS (Or.inr sz_b2) all0)
  replace Z0 := Nat.le_trans Z0 Kq4.1
  refine own_aloadN X4 hx hby rfl rfl d33_31 (pc' := 32) rfl ?_
  exact own_retA X4 hx hby Bd.notSynchronized Bd.returns rfl rfl d33_32 (by decide) (by decide) eH4 ⟨b2, rfl, N4, K0, sz_b2, E_b2, V_b2⟩
theorem sgC0 {l : Launch} {Z : State} {a0 : Array Value} (hw : ∀ d ∈ tables_1, d.before a0 Z = true) {p : Program} {e : Env} {s : State} {m : MethodId} {args : Array Value} {below : List Frame} {meth : Method} {c : Code} {F : Outcome → State → Prop} (hx : p.tables.exec = Jvm.exec) (hby : c.code = prog_53_method_1_code) (hZ : Z.Warmed39 s.vm) (hml : c.maxLocals = 6) (hown : s.vm.findClass "com/example/prior3/prior3/eval/JudgedRanking" = some m.cls) (hnm : meth.name = "<init>") {s₁ : State} {locs : List Loc} (jr : Addr) (al : Addr) (hs : Addr) (map_hs : Addr) (size_map_hs : Int32) (size_al : Int32) (rr : Int32) (nl : Nat) (h0 : Heap) (n0 : Nat) (Z0 : n0 ≤ h0.size) (N0 : Fr n0 locs) (X0 : Stand p l e ({ frames := 6, cells := 2, slots := 10, locals := 85 } : Room) s m args below meth c s₁ locs 0 0) (eH0 : s₁.heap = h0) (E_hs : Exa Z h0 hs "java/util/HashSet") (F_hs_map : Fld Z h0 hs "java/util/HashSet" "map" "Ljava/util/HashMap;" (.ref map_hs)) (E_map_hs : Exa Z h0 map_hs "java/util/HashMap") (F_map_hs_size : Fld Z h0 map_hs "java/util/HashMap" "size" "I" (.int size_map_hs)) (E_al : Exa Z h0 al "java/util/ArrayList") (F_al_size : Fld Z h0 al "java/util/ArrayList" "size" "I" (.int size_al)) (hs0 : (¬ (size_map_hs = 0))) (hrr : ((if size_map_hs < size_al then size_map_hs else size_al) = rr)) (hr0 : (¬ (rr < 0))) (hrn : (rr.toNatClampNeg = nl)) (hr5 : (nl ≤ 5)) (hrl : (((List.replicate nl (0 : Int32)).map Value.int).length.toInt32 = rr))
    (k : ∀ (T' : State) (h' : Heap) (locs' : List Loc) (b6 : Addr), Stand p l e ({ frames := 6, cells := 2, slots := 10, locals := 85 } : Room) s m args below meth c T' locs' 1 5 → T'.heap = h' → Fr n0 locs' → n0 ≤ h'.size → Keep h0 h' [] → h0.size ≤ b6 → n0 ≤ b6 → Exa Z h' b6 "[I" → Ary tr Z h' b6 .int ((List.replicate nl (0 : Int32)).map Value.int) → Gt p.tables e below F (T'.setTop (mkF m 47 #[.val (.ref jr), .val (.ref al), .val (.ref hs), .val (.ref b6), .val (.int (0 : Int32)), .val (.int (0 : Int32))] []))) :
    Gt p.tables e below F (s₁.setTop (mkF m 0 #[.val (.ref jr), .val (.ref al), .val (.ref hs), .unset, .unset, .unset] [])) := by
  have K0 := Keep.refl h0 []
  refine own_aloadN X0 hx hby rfl rfl d26_0 (pc' := 1) rfl ?_
  refine own_initO X0 hx hby hZ hown (hw _ (mi 175 rfl)) (hw _ (mi 28 rfl)) (hw _ (mi 29 rfl)) eH0 (by rw [hml]; rfl) d26_1 (pc' := 4) rfl (by decide) (W := 0) (Nat.le_of_eq rfl) (by decide) (fun T1 X1 eH1 => ?_)
  refine own_aloadN X1 hx hby rfl rfl d26_4 (pc' := 5) rfl ?_
  refine own_iface X1 hx hby hZ (y := (⟨"java/util/HashSet", "isEmpty", "()Z"⟩ : MethodName)) (y' := (⟨"java/util/Set", "isEmpty", "()Z"⟩ : MethodName)) (C := "java/util/HashSet") (rest := []) hown (hw _ (mi 176 rfl)) (hw _ (mi 177 rfl)) (hw _ (mi 178 rfl)) (hw _ (mi 179 rfl)) (hw _ (mi 180 rfl)) (hw _ (mi 181 rfl)) (hw _ (mi 182 rfl)) (hw _ (mi 183 rfl)) (hw _ (mi 184 rfl)) (hw _ (mi 37 rfl)) (by decide) (rm27 l Z a0 hw [] hs map_hs size_map_hs h0 n0 Z0 F_hs_map E_map_hs F_map_hs_size hs0) eH1 (by rw [hml]; rfl) (a := hs) E_hs (argsL := []) rfl (lenOf pd_4 rfl) rfl d26_5 (pc' := 10) rfl (by decide) (W := 0) (Nat.le_of_eq rfl) (by decide) (by decide) (by decide) (fun T2 h2 Lc2 v2r X2 eH2 hQ2 => ?_)
  obtain ⟨rfl, Nq2, rfl⟩ := hQ2
  have N2 := Fr.app N0 Nq2
  refine own_ifT X2 hx hby d26_10 (by decide) (by decide) (pc' := 23) (by decide) ?_
  refine own_aloadN X2 hx hby rfl rfl d26_23 (pc' := 24) rfl ?_
  refine own_iface X2 hx hby hZ (y := (⟨"java/util/ArrayList", "size", "()I"⟩ : MethodName)) (y' := (⟨"java/util/List", "size", "()I"⟩ : MethodName)) (C := "java/util/ArrayList") (rest := []) hown (hw _ (mi 190 rfl)) (hw _ (mi 191 rfl)) (hw _ (mi 192 rfl)) (hw _ (mi 193 rfl)) (hw _ (mi 194 rfl)) (hw _ (mi 195 rfl)) (hw _ (mi 196 rfl)) (hw _ (mi 197 rfl)) (hw _ (mi 198 rfl)) (hw _ (mi 11 rfl)) (by decide) (rm29 l Z a0 hw [] al size_al h0 n0 Z0 F_al_size) eH2 (by rw [hml]; rfl) (a := al) E_al (argsL := []) rfl (lenOf pd_6 rfl) rfl d26_24 (pc' := 29) rfl (by decide) (W := 0) (Nat.le_of_eq rfl) (by decide) (by decide) (by decide) (fun T3 h3 Lc3 v3r X3 eH3 hQ3 => ?_)
  obtain ⟨rfl, Nq3, rfl⟩ := hQ3
  have N3 := Fr.app N2 Nq3
  refine own_aloadN X3 hx hby rfl rfl d26_29 (pc' := 30) rfl ?_
  refine own_iface X3 hx hby hZ (y := (⟨"java/util/HashSet", "size", "()I"⟩ : MethodName)) (y' := (⟨"java/util/Set", "size", "()I"⟩ : MethodName)) (C := "java/util/HashSet") (rest := [(.int size_al)]) hown (hw _ (mi 201 rfl)) (hw _ (mi 202 rfl)) (hw _ (mi 203 rfl)) (hw _ (mi 204 rfl)) (hw _ (mi 205 rfl)) (hw _ (mi 206 rfl)) (hw _ (mi 207 rfl)) (hw _ (mi 183 rfl)) (hw _ (mi 208 rfl)) (hw _ (mi 37 rfl)) (by decide) (rm30 l Z a0 hw [] hs map_hs size_map_hs h0 n0 Z0 F_hs_map F_map_hs_size E_map_hs) eH3 (by rw [hml]; rfl) (a := hs) E_hs (argsL := []) rfl (lenOf pd_6 rfl) rfl d26_30 (pc' := 35) rfl (by decide) (W := 1) (Nat.le_of_eq rfl) (by decide) (by decide) (by decide) (fun T4 h4 Lc4 v4r X4 eH4 hQ4 => ?_)
  obtain ⟨rfl, Nq4, rfl⟩ := hQ4
  have N4 := Fr.app N3 Nq4
  refine own_static X4 hx hby hZ (y := (⟨"java/lang/Math", "min", "(II)I"⟩ : MethodName)) (rest := []) hown (hw _ (mi 214 rfl)) (hw _ (mi 215 rfl)) (hw _ (mi 216 rfl)) (hw _ (mi 7 rfl)) (by decide) (rm32r l Z a0 hw [] size_al size_map_hs rr h0 n0 Z0 hrr) eH4 (by rw [hml]; rfl) (argsL := [(.int size_al), (.int size_map_hs)]) rfl (lenOf pd_18 rfl) rfl d26_35 (pc' := 38) rfl (by decide) (W := 0) (Nat.le_of_eq rfl) (by decide) (by decide) (by decide) (fun T5 h5 Lc5 v5r X5 eH5 hQ5 => ?_)
  obtain ⟨rfl, Nq5, rfl⟩ := hQ5
  have N5 := Fr.app N4 Nq5
  refine own_newP X5 hx hby hZ (hw _ (mi 217 rfl)) eH5 d26_38 (pc' := 40) rfl hr0 (N := nl) hrn (cap := 5) hr5 (by decide) (by decide) (by decide) (ad := "[I") (by decide) (fun T6 h6 b6 X6 eH6 E6 g6 E_b6 V_b6 => ?_)
  have g_b6 : n0 ≤ b6 := g6 ▸ Z0
  have sz_b6 : h0.size ≤ b6 := g6 ▸ K0.1
  have ne_al_b6 : al ≠ b6 := Nat.ne_of_lt (g6 ▸ E_al.lt)
  have ne_hs_b6 : hs ≠ b6 := Nat.ne_of_lt (g6 ▸ E_hs.lt)
  have ne_map_hs_b6 : map_hs ≠ b6 := Nat.ne_of_lt (g6 ▸ E_map_hs.lt)
  replace E_al := E_al.ext E6
  replace F_al_size := F_al_size.ext E6
  replace E_hs := E_hs.ext E6
  replace F_hs_map := F_hs_map.ext E6
  replace E_map_hs := E_map_hs.ext E6
  replace F_map_hs_size := F_map_hs_size.ext E6
  replace K0 := K0.ext E6
  replace Z0 := Nat.le_trans Z0 E6.1
  have V_b6 : Ary tr Z h6 b6 .int ((List.replicate nl (0 : Int32)).map Value.int) := by rw [List.map_replicate]; exact V_b6
  refine own_astoreN X6 hx hby rfl (L' := #[.val (.ref jr), .val (.ref al), .val (.ref hs), .val (.ref b6), .unset, .unset]) rfl d26_40 (pc' := 41) rfl ?_
  refine own_iconst X6 hx hby (v := (0 : Int32)) (by decide) d26_41 (pc' := 42) rfl ?_
  refine own_istore X6 hx hby (L' := #[.val (.ref jr), .val (.ref al), .val (.ref hs), .val (.ref b6), .val (.int (0 : Int32)), .unset]) rfl d26_42 (pc' := 44) rfl ?_
  refine own_iconst X6 hx hby (v := (0 : Int32)) (by decide) d26_44 (pc' := 45) rfl ?_
  refine own_istore X6 hx hby (L' := #[.val (.ref jr), .val (.ref al), .val (.ref hs), .val (.ref b6), .val (.int (0 : Int32)), .val (.int (0 : Int32))]) rfl d26_45 (pc' := 47) rfl ?_
  exact k T6 h6 _ b6 X6 eH6 N5 Z0 K0 sz_b6 g_b6 E_b6 V_b6
theorem sgC1 {l : Launch} {Z : State} {a0 : Array Value} (hw : ∀ d ∈ tables_1, d.before a0 Z = true) {p : Program} {e : Env} {s : State} {m : MethodId} {args : Array Value} {below : List Frame} {meth : Method} {c : Code} {F : Outcome → State → Prop} (hx : p.tables.exec = Jvm.exec) (hby : c.code = prog_53_method_1_code) (hZ : Z.Warmed39 s.vm) (hml : c.maxLocals = 6) (hown : s.vm.findClass "com/example/prior3/prior3/eval/JudgedRanking" = some m.cls) (hnm : meth.name = "<init>") {s₁ : State} {locs : List Loc} (jr : Addr) (al : Addr) (hs : Addr) (rk : Addr) (ff : Int32) (ii : Int32) (size_al : Int32) (h0 : Heap) (n0 : Nat) (Z0 : n0 ≤ h0.size) (N0 : Fr n0 locs) (X0 : Stand p l e ({ frames := 6, cells := 2, slots := 10, locals := 85 } : Room) s m args below meth c s₁ locs 1 5) (eH0 : s₁.heap = h0) (E_al : Exa Z h0 al "java/util/ArrayList") (F_al_size : Fld Z h0 al "java/util/ArrayList" "size" "I" (.int size_al)) (hge : (¬ (ii < size_al)))
    (k : ∀ (T' : State) (locs' : List Loc), Stand p l e ({ frames := 6, cells := 2, slots := 10, locals := 85 } : Room) s m args below meth c T' locs' 1 5 → T'.heap = h0 → Fr n0 locs' → n0 ≤ h0.size → Gt p.tables e below F (T'.setTop (mkF m 99 #[.val (.ref jr), .val (.ref al), .val (.ref hs), .val (.ref rk), .val (.int ff), .val (.int ii)] []))) :
    Gt p.tables e below F (s₁.setTop (mkF m 47 #[.val (.ref jr), .val (.ref al), .val (.ref hs), .val (.ref rk), .val (.int ff), .val (.int ii)] [])) := by
  refine own_iload X0 hx hby rfl d26_47 (pc' := 49) rfl ?_
  refine own_aloadN X0 hx hby rfl rfl d26_49 (pc' := 50) rfl ?_
  refine own_iface X0 hx hby hZ (y := (⟨"java/util/ArrayList", "size", "()I"⟩ : MethodName)) (y' := (⟨"java/util/List", "size", "()I"⟩ : MethodName)) (C := "java/util/ArrayList") (rest := [(.int ii)]) hown (hw _ (mi 190 rfl)) (hw _ (mi 191 rfl)) (hw _ (mi 192 rfl)) (hw _ (mi 193 rfl)) (hw _ (mi 194 rfl)) (hw _ (mi 195 rfl)) (hw _ (mi 196 rfl)) (hw _ (mi 197 rfl)) (hw _ (mi 198 rfl)) (hw _ (mi 11 rfl)) (by decide) (rm29 l Z a0 hw [] al size_al h0 n0 Z0 F_al_size) eH0 (by rw [hml]; rfl) (a := al) E_al (argsL := []) rfl (lenOf pd_6 rfl) rfl d26_50 (pc' := 55) rfl (by decide) (W := 1) (Nat.le_of_eq rfl) (by decide) (by decide) (by decide) (fun T1 h1 Lc1 v1r X1 eH1 hQ1 => ?_)
  obtain ⟨rfl, Nq1, rfl⟩ := hQ1
  have N1 := Fr.app N0 Nq1
  have hk2 : ¬ (ii < size_al) := hge
  refine own_icT X1 hx hby d26_55 (own_ic_ge_n hk2) (by decide) (pc' := 99) (by decide) ?_
  exact k T1 _ X1 eH1 N1 Z0
theorem sgC2 {l : Launch} {Z : State} {a0 : Array Value} (hw : ∀ d ∈ tables_1, d.before a0 Z = true) {p : Program} {e : Env} {s : State} {m : MethodId} {args : Array Value} {below : List Frame} {meth : Method} {c : Code} {F : Outcome → State → Prop} (hx : p.tables.exec = Jvm.exec) (hby : c.code = prog_53_method_1_code) (hZ : Z.Warmed39 s.vm) (hml : c.maxLocals = 6) (hown : s.vm.findClass "com/example/prior3/prior3/eval/JudgedRanking" = some m.cls) (hnm : meth.name = "<init>") {s₁ : State} {locs : List Loc} (jr : Addr) (al : Addr) (hs : Addr) (rk : Addr) (ff : Int32) (ii : Int32) (size_al : Int32) (rl : List Int32) (ln : Int32) (h0 : Heap) (n0 : Nat) (Z0 : n0 ≤ h0.size) (N0 : Fr n0 locs) (X0 : Stand p l e ({ frames := 6, cells := 2, slots := 10, locals := 85 } : Room) s m args below meth c s₁ locs 1 5) (eH0 : s₁.heap = h0) (E_al : Exa Z h0 al "java/util/ArrayList") (F_al_size : Fld Z h0 al "java/util/ArrayList" "size" "I" (.int size_al)) (E_rk : Exa Z h0 rk "[I") (V_rk : Ary tr Z h0 rk .int (rl.map Value.int)) (hln : ((rl.map Value.int).length.toInt32 = ln)) (hil : (ii < size_al)) (hfg : (¬ (ff < ln)))
    (k : ∀ (T' : State) (locs' : List Loc), Stand p l e ({ frames := 6, cells := 2, slots := 10, locals := 85 } : Room) s m args below meth c T' locs' 1 5 → T'.heap = h0 → Fr n0 locs' → n0 ≤ h0.size → Gt p.tables e below F (T'.setTop (mkF m 99 #[.val (.ref jr), .val (.ref al), .val (.ref hs), .val (.ref rk), .val (.int ff), .val (.int ii)] []))) :
    Gt p.tables e below F (s₁.setTop (mkF m 47 #[.val (.ref jr), .val (.ref al), .val (.ref hs), .val (.ref rk), .val (.int ff), .val (.int ii)] [])) := by
  refine own_iload X0 hx hby rfl d26_47 (pc' := 49) rfl ?_
  refine own_aloadN X0 hx hby rfl rfl d26_49 (pc' := 50) rfl ?_
  refine own_iface X0 hx hby hZ (y := (⟨"java/util/ArrayList", "size", "()I"⟩ : MethodName)) (y' := (⟨"java/util/List", "size", "()I"⟩ : MethodName)) (C := "java/util/ArrayList") (rest := [(.int ii)]) hown (hw _ (mi 190 rfl)) (hw _ (mi 191 rfl)) (hw _ (mi 192 rfl)) (hw _ (mi 193 rfl)) (hw _ (mi 194 rfl)) (hw _ (mi 195 rfl)) (hw _ (mi 196 rfl)) (hw _ (mi 197 rfl)) (hw _ (mi 198 rfl)) (hw _ (mi 11 rfl)) (by decide) (rm29 l Z a0 hw [] al size_al h0 n0 Z0 F_al_size) eH0 (by rw [hml]; rfl) (a := al) E_al (argsL := []) rfl (lenOf pd_6 rfl) rfl d26_50 (pc' := 55) rfl (by decide) (W := 1) (Nat.le_of_eq rfl) (by decide) (by decide) (by decide) (fun T1 h1 Lc1 v1r X1 eH1 hQ1 => ?_)
  obtain ⟨rfl, Nq1, rfl⟩ := hQ1
  have N1 := Fr.app N0 Nq1
  have hk2 : ii < size_al := hil
  refine own_icF X1 hx hby d26_55 (own_ic_ge_p hk2) (pc' := 58) rfl ?_
  refine own_iload X1 hx hby rfl d26_58 (pc' := 60) rfl ?_
  refine own_aloadN X1 hx hby rfl rfl d26_60 (pc' := 61) rfl ?_
  refine own_alen X1 hx hby hZ eH1 V_rk (z := ln) hln d26_61 (pc' := 62) rfl ?_
  have hk3 : ¬ (ff < ln) := hfg
  refine own_icT X1 hx hby d26_62 (own_ic_ge_n hk3) (by decide) (pc' := 99) (by decide) ?_
  exact k T1 _ X1 eH1 N1 Z0
theorem sgCp {l : Launch} {Z : State} {a0 : Array Value} (hw : ∀ d ∈ tables_1, d.before a0 Z = true) {p : Program} {e : Env} {s : State} {m : MethodId} {args : Array Value} {below : List Frame} {meth : Method} {c : Code} {F : Outcome → State → Prop} (hx : p.tables.exec = Jvm.exec) (hby : c.code = prog_53_method_1_code) (hZ : Z.Warmed39 s.vm) (hml : c.maxLocals = 6) (hown : s.vm.findClass "com/example/prior3/prior3/eval/JudgedRanking" = some m.cls) (hnm : meth.name = "<init>") {s₁ : State} {locs : List Loc} (jr : Addr) (al : Addr) (hs : Addr) (rk : Addr) (ff : Int32) (ii : Int32) (size_al : Int32) (rl : List Int32) (ln : Int32) (elementData_al : Addr) (el : List Value) (iN : Nat) (fN : Nat) (so : Addr) (st_COMPACT_STRINGS : Int32) (map_hs : Addr) (table_map_hs : Addr) (nd : Addr) (by0 : Int32) (value_so : Addr) (hh : Int32) (kk : Int32) (ix : Nat) (tl : List Value) (key_nd : Addr) (value_key_nd : Addr) (h0 : Heap) (n0 : Nat) (Z0 : n0 ≤ h0.size) (N0 : Fr n0 locs) (X0 : Stand p l e ({ frames := 6, cells := 2, slots := 10, locals := 85 } : Room) s m args below meth c s₁ locs 1 5) (eH0 : s₁.heap = h0) (E_al : Exa Z h0 al "java/util/ArrayList") (F_al_size : Fld Z h0 al "java/util/ArrayList" "size" "I" (.int size_al)) (E_rk : Exa Z h0 rk "[I") (V_rk : Ary tr Z h0 rk .int (rl.map Value.int)) (hln : ((rl.map Value.int).length.toInt32 = ln)) (F_al_elementData : Fld Z h0 al "java/util/ArrayList" "elementData" "[Ljava/lang/Object;" (.ref elementData_al)) (E_elementData_al : Exa Z h0 elementData_al "[Ljava/lang/Object;") (V_elementData_al : Ary (ovO Z "java/lang/Object") Z h0 elementData_al (.object "java/lang/Object") el) (hil : (ii < size_al)) (hfl : (ff < ln)) (hi0 : (¬ (ii < 0))) (hin : (ii.toNatClampNeg = iN)) (hel : (el[iN]? = some (.ref so))) (S_COMPACT_STRINGS : Sta Z h0 "java/lang/String" "COMPACT_STRINGS" "Z" (.int st_COMPACT_STRINGS)) (hcs : (¬ (st_COMPACT_STRINGS = 0))) (E_hs : Exa Z h0 hs "java/util/HashSet") (F_hs_map : Fld Z h0 hs "java/util/HashSet" "map" "Ljava/util/HashMap;" (.ref map_hs)) (E_map_hs : Exa Z h0 map_hs "java/util/HashMap") (F_map_hs_table : Fld Z h0 map_hs "java/util/HashMap" "table" "[Ljava/util/HashMap$Node;" (.ref table_map_hs)) (E_so : Exa Z h0 so "java/lang/String") (F_so_hash : Fld Z h0 so "java/lang/String" "hash" "I" (.int (0 : Int32))) (F_so_hashIsZero : Fld Z h0 so "java/lang/String" "hashIsZero" "Z" (.int (0 : Int32))) (F_so_coder : Fld Z h0 so "java/lang/String" "coder" "B" (.int (0 : Int32))) (F_so_value : Fld Z h0 so "java/lang/String" "value" "[B" (.ref value_so)) (V_value_so : Ary tr Z h0 value_so .byte [(.int by0)]) (ne_value_so_so : value_so ≠ so) (hhh : ((by0 &&& (255 : Int32)) = hh)) (hhz : (¬ (hh = 0))) (hkk : ((hh ^^^ (hh.toUInt32 >>> ((16 : Int32) &&& 31).toUInt32).toInt32) = kk)) (hj0 : (¬ (((15 : Int32) &&& kk) < 0))) (hjn : (((15 : Int32) &&& kk).toNatClampNeg = ix)) (hil_ : (ix < 16)) (V_table_map_hs : Ary (ovO Z "java/util/HashMap$Node") Z h0 table_map_hs (.object "java/util/HashMap$Node") tl) (hlt : (tl.length = 16)) (hti : (tl[ix]? = some (.ref nd))) (E_table_map_hs : Exa Z h0 table_map_hs "[Ljava/util/HashMap$Node;") (E_nd : Exa Z h0 nd "java/util/HashMap$Node") (F_nd_hash : Fld Z h0 nd "java/util/HashMap$Node" "hash" "I" (.int kk)) (F_nd_key : Fld Z h0 nd "java/util/HashMap$Node" "key" "Ljava/lang/Object;" (.ref key_nd)) (E_key_nd : Exa Z h0 key_nd "java/lang/String") (F_key_nd_coder : Fld Z h0 key_nd "java/lang/String" "coder" "B" (.int (0 : Int32))) (F_key_nd_value : Fld Z h0 key_nd "java/lang/String" "value" "[B" (.ref value_key_nd)) (V_value_key_nd : Ary tr Z h0 value_key_nd .byte [(.int by0)]) (ne_value_key_nd_key_nd : value_key_nd ≠ key_nd) (ne_key_nd_so : key_nd ≠ so) (ne_so_elementData_al : so ≠ elementData_al) (hf0 : (¬ (ff < 0))) (hfn : (ff.toNatClampNeg = fN)) (hfb : (fN < rl.length)) (g_so : n0 ≤ so) (ne_map_hs_so : map_hs ≠ so) (ne_table_map_hs_so : table_map_hs ≠ so) (ne_nd_so : nd ≠ so) (ne_value_key_nd_so : value_key_nd ≠ so) (ne_hs_so : hs ≠ so) (ne_al_so : al ≠ so) (ne_rk_so : rk ≠ so) (g_rk : n0 ≤ rk) (ne_al_rk : al ≠ rk) (ne_hs_rk : hs ≠ rk) (ne_elementData_al_rk : elementData_al ≠ rk) (ne_map_hs_rk : map_hs ≠ rk) (ne_table_map_hs_rk : table_map_hs ≠ rk) (ne_nd_rk : nd ≠ rk) (ne_value_so_rk : value_so ≠ rk) (ne_key_nd_rk : key_nd ≠ rk) (ne_value_key_nd_rk : value_key_nd ≠ rk)
    (k : ∀ (T' : State) (h' : Heap) (locs' : List Loc), Stand p l e ({ frames := 6, cells := 2, slots := 10, locals := 85 } : Room) s m args below meth c T' locs' 1 5 → T'.heap = h' → Fr n0 locs' → n0 ≤ h'.size → Keep h0 h' [so, rk] → Exa Z h' so "java/lang/String" → Fld Z h' so "java/lang/String" "value" "[B" (.ref value_so) → Fld Z h' so "java/lang/String" "coder" "B" (.int (0 : Int32)) → Fld Z h' so "java/lang/String" "hash" "I" (.int hh) → Fld Z h' so "java/lang/String" "hashIsZero" "Z" (.int (0 : Int32)) → Exa Z h' rk "[I" → Ary tr Z h' rk .int ((rl.set fN (ii + (1 : Int32))).map Value.int) → Sta Z h' "java/lang/String" "COMPACT_STRINGS" "Z" (.int st_COMPACT_STRINGS) → Gt p.tables e below F (T'.setTop (mkF m 47 #[.val (.ref jr), .val (.ref al), .val (.ref hs), .val (.ref rk), .val (.int (ff + (1 : Int32))), .val (.int (ii + (1 : Int32)))] []))) :
    Gt p.tables e below F (s₁.setTop (mkF m 47 #[.val (.ref jr), .val (.ref al), .val (.ref hs), .val (.ref rk), .val (.int ff), .val (.int ii)] [])) := by
  have K0 := Keep.refl h0 [so, rk]
  refine own_iload X0 hx hby rfl d26_47 (pc' := 49) rfl ?_
  refine own_aloadN X0 hx hby rfl rfl d26_49 (pc' := 50) rfl ?_
  refine own_iface X0 hx hby hZ (y := (⟨"java/util/ArrayList", "size", "()I"⟩ : MethodName)) (y' := (⟨"java/util/List", "size", "()I"⟩ : MethodName)) (C := "java/util/ArrayList") (rest := [(.int ii)]) hown (hw _ (mi 190 rfl)) (hw _ (mi 191 rfl)) (hw _ (mi 192 rfl)) (hw _ (mi 193 rfl)) (hw _ (mi 194 rfl)) (hw _ (mi 195 rfl)) (hw _ (mi 196 rfl)) (hw _ (mi 197 rfl)) (hw _ (mi 198 rfl)) (hw _ (mi 11 rfl)) (by decide) (rm29 l Z a0 hw [] al size_al h0 n0 Z0 F_al_size) eH0 (by rw [hml]; rfl) (a := al) E_al (argsL := []) rfl (lenOf pd_6 rfl) rfl d26_50 (pc' := 55) rfl (by decide) (W := 1) (Nat.le_of_eq rfl) (by decide) (by decide) (by decide) (fun T1 h1 Lc1 v1r X1 eH1 hQ1 => ?_)
  obtain ⟨rfl, Nq1, rfl⟩ := hQ1
  have N1 := Fr.app N0 Nq1
  have hk2 : ii < size_al := hil
  refine own_icF X1 hx hby d26_55 (own_ic_ge_p hk2) (pc' := 58) rfl ?_
  refine own_iload X1 hx hby rfl d26_58 (pc' := 60) rfl ?_
  refine own_aloadN X1 hx hby rfl rfl d26_60 (pc' := 61) rfl ?_
  refine own_alen X1 hx hby hZ eH1 V_rk (z := ln) hln d26_61 (pc' := 62) rfl ?_
  have hk3 : ff < ln := hfl
  refine own_icF X1 hx hby d26_62 (own_ic_ge_p hk3) (pc' := 65) rfl ?_
  refine own_aloadN X1 hx hby rfl rfl d26_65 (pc' := 66) rfl ?_
  refine own_aloadN X1 hx hby rfl rfl d26_66 (pc' := 67) rfl ?_
  refine own_iload X1 hx hby rfl d26_67 (pc' := 69) rfl ?_
  refine own_iface X1 hx hby hZ (y := (⟨"java/util/ArrayList", "get", "(I)Ljava/lang/Object;"⟩ : MethodName)) (y' := (⟨"java/util/List", "get", "(I)Ljava/lang/Object;"⟩ : MethodName)) (C := "java/util/ArrayList") (rest := [(.ref hs)]) hown (hw _ (mi 279 rfl)) (hw _ (mi 280 rfl)) (hw _ (mi 281 rfl)) (hw _ (mi 282 rfl)) (hw _ (mi 283 rfl)) (hw _ (mi 284 rfl)) (hw _ (mi 285 rfl)) (hw _ (mi 197 rfl)) (hw _ (mi 286 rfl)) (hw _ (mi 11 rfl)) (by decide) (rm42 l Z a0 hw [] al ii elementData_al el so iN size_al h0 n0 Z0 F_al_elementData V_elementData_al hi0 hin hel F_al_size hil E_al) eH1 (by rw [hml]; rfl) (a := al) E_al (argsL := [(.int ii)]) rfl (lenOf pd_19 rfl) rfl d26_69 (pc' := 74) rfl (by decide) (W := 1) (Nat.le_of_eq rfl) (by decide) (by decide) (by decide) (fun T4 h4 Lc4 v4r X4 eH4 hQ4 => ?_)
  obtain ⟨rfl, Nq4, rfl⟩ := hQ4
  have N4 := Fr.app N1 Nq4
  refine own_iface X4 hx hby hZ (y := (⟨"java/util/HashSet", "contains", "(Ljava/lang/Object;)Z"⟩ : MethodName)) (y' := (⟨"java/util/Set", "contains", "(Ljava/lang/Object;)Z"⟩ : MethodName)) (C := "java/util/HashSet") (rest := []) hown (hw _ (mi 300 rfl)) (hw _ (mi 301 rfl)) (hw _ (mi 302 rfl)) (hw _ (mi 303 rfl)) (hw _ (mi 304 rfl)) (hw _ (mi 305 rfl)) (hw _ (mi 306 rfl)) (hw _ (mi 183 rfl)) (hw _ (mi 307 rfl)) (hw _ (mi 37 rfl)) (by decide) (rm46p l Z a0 hw [] hs so st_COMPACT_STRINGS map_hs table_map_hs nd by0 value_so hh kk ix tl key_nd value_key_nd h0 n0 Z0 S_COMPACT_STRINGS hcs F_hs_map E_map_hs F_map_hs_table E_so F_so_hash F_so_hashIsZero F_so_coder F_so_value V_value_so ne_value_so_so hhh hhz hkk hj0 hjn hil_ V_table_map_hs hlt hti E_nd F_nd_hash F_nd_key E_key_nd F_key_nd_coder F_key_nd_value V_value_key_nd ne_value_key_nd_key_nd ne_key_nd_so g_so ne_map_hs_so ne_table_map_hs_so ne_nd_so ne_value_key_nd_so ne_hs_so) eH4 (by rw [hml]; rfl) (a := hs) E_hs (argsL := [(.ref so)]) rfl (lenOf pd_15 rfl) rfl d26_74 (pc' := 79) rfl (by decide) (W := 0) (Nat.le_of_eq rfl) (by decide) (by decide) (by decide) (fun T5 h5 Lc5 v5r X5 eH5 hQ5 => ?_)
  obtain ⟨rfl, Nq5, Kq5, gq5_0, gq5_1, gq5_2, gq5_3, gq5_4⟩ := hQ5
  have N5 := Fr.app N4 Nq5
  replace S_COMPACT_STRINGS := own_skn S_COMPACT_STRINGS Kq5 (own_skS E_so own_sk0)
  replace E_al := E_al.keep Kq5
  replace F_al_size := F_al_size.keep Kq5 (ninS ne_al_so nin0)
  replace F_al_elementData := F_al_elementData.keep Kq5 (ninS ne_al_so nin0)
  replace E_hs := E_hs.keep Kq5
  replace F_hs_map := F_hs_map.keep Kq5 (ninS ne_hs_so nin0)
  replace E_rk := E_rk.keep Kq5
  replace V_rk := V_rk.keep Kq5 (ninS ne_rk_so nin0)
  replace E_elementData_al := E_elementData_al.keep Kq5
  replace V_elementData_al := V_elementData_al.keep Kq5 (ninS (Ne.symm ne_so_elementData_al) nin0)
  replace E_so := E_so.keep Kq5
  replace E_map_hs := E_map_hs.keep Kq5
  replace F_map_hs_table := F_map_hs_table.keep Kq5 (ninS ne_map_hs_so nin0)
  replace E_table_map_hs := E_table_map_hs.keep Kq5
  replace V_table_map_hs := V_table_map_hs.keep Kq5 (ninS ne_table_map_hs_so nin0)
  replace E_nd := E_nd.keep Kq5
  replace F_nd_hash := F_nd_hash.keep Kq5 (ninS ne_nd_so nin0)
  replace F_nd_key := F_nd_key.keep Kq5 (ninS ne_nd_so nin0)
  replace V_value_so := V_value_so.keep Kq5 (ninS ne_value_so_so nin0)
  replace E_key_nd := E_key_nd.keep Kq5
  replace F_key_nd_coder := F_key_nd_coder.keep Kq5 (ninS ne_key_nd_so nin0)
  replace F_key_nd_value := F_key_nd_value.keep Kq5 (ninS ne_key_nd_so nin0)
  replace V_value_key_nd := V_value_key_nd.keep Kq5 (ninS ne_value_key_nd_so nin0)
  replace K0 := K0.trans Kq5 (allS (Or.inl (by simp)) all0)
  have E_so := gq5_0
  have F_so_value := gq5_1
  have F_so_coder := gq5_2
  have F_so_hash := gq5_3
  have F_so_hashIsZero := gq5_4
  replace Z0 := Nat.le_trans Z0 Kq5.1
  refine own_ifF X5 hx hby d26_79 (by decide) (pc' := 82) rfl ?_
  refine own_aloadN X5 hx hby rfl rfl d26_82 (pc' := 83) rfl ?_
  refine own_iload X5 hx hby rfl d26_83 (pc' := 85) rfl ?_
  refine own_iinc X5 hx hby rfl (L' := #[.val (.ref jr), .val (.ref al), .val (.ref hs), .val (.ref rk), .val (.int (ff + (1 : Int32))), .val (.int ii)]) (by first | rfl | decide) d26_85 (pc' := 88) rfl ?_
  refine own_iload X5 hx hby rfl d26_88 (pc' := 90) rfl ?_
  refine own_iconst X5 hx hby (v := (1 : Int32)) (by decide) d26_90 (pc' := 91) rfl ?_
  refine own_iadd X5 hx hby rfl d26_91 (pc' := 92) rfl ?_
  refine own_iastore X5 hx hby hZ eH5 V_rk hf0 (n := fN) hfn (by rw [List.length_map]; exact hfb) d26_92 (pc' := 93) rfl (fun T6 h6 X6 eH6 W6 => ?_)
  replace E_al := E_al.wr W6
  replace F_al_size := F_al_size.other W6 (Or.inl ne_al_rk)
  replace F_al_elementData := F_al_elementData.other W6 (Or.inl ne_al_rk)
  replace E_hs := E_hs.wr W6
  replace F_hs_map := F_hs_map.other W6 (Or.inl ne_hs_rk)
  replace E_rk := E_rk.wr W6
  replace E_elementData_al := E_elementData_al.wr W6
  replace V_elementData_al := V_elementData_al.other W6 ne_elementData_al_rk
  replace E_so := E_so.wr W6
  replace F_so_value := F_so_value.other W6 (Or.inl (Ne.symm ne_rk_so))
  replace F_so_coder := F_so_coder.other W6 (Or.inl (Ne.symm ne_rk_so))
  replace F_so_hash := F_so_hash.other W6 (Or.inl (Ne.symm ne_rk_so))
  replace F_so_hashIsZero := F_so_hashIsZero.other W6 (Or.inl (Ne.symm ne_rk_so))
  replace E_map_hs := E_map_hs.wr W6
  replace F_map_hs_table := F_map_hs_table.other W6 (Or.inl ne_map_hs_rk)
  replace E_table_map_hs := E_table_map_hs.wr W6
  replace V_table_map_hs := V_table_map_hs.other W6 ne_table_map_hs_rk
  replace E_nd := E_nd.wr W6
  replace F_nd_hash := F_nd_hash.other W6 (Or.inl ne_nd_rk)
  replace F_nd_key := F_nd_key.other W6 (Or.inl ne_nd_rk)
  replace V_value_so := V_value_so.other W6 ne_value_so_rk
  replace E_key_nd := E_key_nd.wr W6
  replace F_key_nd_coder := F_key_nd_coder.other W6 (Or.inl ne_key_nd_rk)
  replace F_key_nd_value := F_key_nd_value.other W6 (Or.inl ne_key_nd_rk)
  replace V_value_key_nd := V_value_key_nd.other W6 ne_value_key_nd_rk
  replace S_COMPACT_STRINGS := S_COMPACT_STRINGS.wr W6
  have N6 := Fr.snoc X6 N5 g_rk
  replace K0 := K0.wr W6 (Or.inl (by simp))
  replace Z0 := Nat.le_trans Z0 (Nat.le_of_eq W6.size.symm)
  replace V_rk : Ary tr Z h6 rk .int ((rl.set fN (ii + (1 : Int32))).map Value.int) := by rw [List.map_set]; exact V_rk.set W6
  refine own_iinc X6 hx hby rfl (L' := #[.val (.ref jr), .val (.ref al), .val (.ref hs), .val (.ref rk), .val (.int (ff + (1 : Int32))), .val (.int (ii + (1 : Int32)))]) (by first | rfl | decide) d26_93 (pc' := 96) rfl ?_
  refine own_goto X6 hx hby d26_96 (by decide) (pc' := 47) (by decide) ?_
  exact k T6 h6 _  X6 eH6 N6 Z0 K0 E_so F_so_value F_so_coder F_so_hash F_so_hashIsZero E_rk V_rk S_COMPACT_STRINGS
theorem sgCa {l : Launch} {Z : State} {a0 : Array Value} (hw : ∀ d ∈ tables_1, d.before a0 Z = true) {p : Program} {e : Env} {s : State} {m : MethodId} {args : Array Value} {below : List Frame} {meth : Method} {c : Code} {F : Outcome → State → Prop} (hx : p.tables.exec = Jvm.exec) (hby : c.code = prog_53_method_1_code) (hZ : Z.Warmed39 s.vm) (hml : c.maxLocals = 6) (hown : s.vm.findClass "com/example/prior3/prior3/eval/JudgedRanking" = some m.cls) (hnm : meth.name = "<init>") {s₁ : State} {locs : List Loc} (jr : Addr) (al : Addr) (hs : Addr) (rk : Addr) (ff : Int32) (ii : Int32) (size_al : Int32) (rl : List Int32) (ln : Int32) (elementData_al : Addr) (el : List Value) (iN : Nat) (fN : Nat) (so : Addr) (st_COMPACT_STRINGS : Int32) (map_hs : Addr) (table_map_hs : Addr) (by0 : Int32) (value_so : Addr) (hh : Int32) (kk : Int32) (ix : Nat) (tl : List Value) (h0 : Heap) (n0 : Nat) (Z0 : n0 ≤ h0.size) (N0 : Fr n0 locs) (X0 : Stand p l e ({ frames := 6, cells := 2, slots := 10, locals := 85 } : Room) s m args below meth c s₁ locs 1 5) (eH0 : s₁.heap = h0) (E_al : Exa Z h0 al "java/util/ArrayList") (F_al_size : Fld Z h0 al "java/util/ArrayList" "size" "I" (.int size_al)) (E_rk : Exa Z h0 rk "[I") (V_rk : Ary tr Z h0 rk .int (rl.map Value.int)) (hln : ((rl.map Value.int).length.toInt32 = ln)) (F_al_elementData : Fld Z h0 al "java/util/ArrayList" "elementData" "[Ljava/lang/Object;" (.ref elementData_al)) (E_elementData_al : Exa Z h0 elementData_al "[Ljava/lang/Object;") (V_elementData_al : Ary (ovO Z "java/lang/Object") Z h0 elementData_al (.object "java/lang/Object") el) (hil : (ii < size_al)) (hfl : (ff < ln)) (hi0 : (¬ (ii < 0))) (hin : (ii.toNatClampNeg = iN)) (hel : (el[iN]? = some (.ref so))) (S_COMPACT_STRINGS : Sta Z h0 "java/lang/String" "COMPACT_STRINGS" "Z" (.int st_COMPACT_STRINGS)) (hcs : (¬ (st_COMPACT_STRINGS = 0))) (E_hs : Exa Z h0 hs "java/util/HashSet") (F_hs_map : Fld Z h0 hs "java/util/HashSet" "map" "Ljava/util/HashMap;" (.ref map_hs)) (E_map_hs : Exa Z h0 map_hs "java/util/HashMap") (F_map_hs_table : Fld Z h0 map_hs "java/util/HashMap" "table" "[Ljava/util/HashMap$Node;" (.ref table_map_hs)) (E_so : Exa Z h0 so "java/lang/String") (F_so_hash : Fld Z h0 so "java/lang/String" "hash" "I" (.int (0 : Int32))) (F_so_hashIsZero : Fld Z h0 so "java/lang/String" "hashIsZero" "Z" (.int (0 : Int32))) (F_so_coder : Fld Z h0 so "java/lang/String" "coder" "B" (.int (0 : Int32))) (F_so_value : Fld Z h0 so "java/lang/String" "value" "[B" (.ref value_so)) (V_value_so : Ary tr Z h0 value_so .byte [(.int by0)]) (ne_value_so_so : value_so ≠ so) (hhh : ((by0 &&& (255 : Int32)) = hh)) (hhz : (¬ (hh = 0))) (hkk : ((hh ^^^ (hh.toUInt32 >>> ((16 : Int32) &&& 31).toUInt32).toInt32) = kk)) (hj0 : (¬ (((15 : Int32) &&& kk) < 0))) (hjn : (((15 : Int32) &&& kk).toNatClampNeg = ix)) (hil_ : (ix < 16)) (V_table_map_hs : Ary (ovO Z "java/util/HashMap$Node") Z h0 table_map_hs (.object "java/util/HashMap$Node") tl) (hlt : (tl.length = 16)) (hti : (tl[ix]? = some .null)) (E_table_map_hs : Exa Z h0 table_map_hs "[Ljava/util/HashMap$Node;") (g_so : n0 ≤ so) (ne_map_hs_so : map_hs ≠ so) (ne_table_map_hs_so : table_map_hs ≠ so) (ne_hs_so : hs ≠ so) (ne_al_so : al ≠ so) (ne_rk_so : rk ≠ so) (ne_elementData_al_so : elementData_al ≠ so)
    (k : ∀ (T' : State) (h' : Heap) (locs' : List Loc), Stand p l e ({ frames := 6, cells := 2, slots := 10, locals := 85 } : Room) s m args below meth c T' locs' 1 5 → T'.heap = h' → Fr n0 locs' → n0 ≤ h'.size → Keep h0 h' [so] → Exa Z h' so "java/lang/String" → Fld Z h' so "java/lang/String" "value" "[B" (.ref value_so) → Fld Z h' so "java/lang/String" "coder" "B" (.int (0 : Int32)) → Fld Z h' so "java/lang/String" "hash" "I" (.int hh) → Fld Z h' so "java/lang/String" "hashIsZero" "Z" (.int (0 : Int32)) → Sta Z h' "java/lang/String" "COMPACT_STRINGS" "Z" (.int st_COMPACT_STRINGS) → Gt p.tables e below F (T'.setTop (mkF m 47 #[.val (.ref jr), .val (.ref al), .val (.ref hs), .val (.ref rk), .val (.int ff), .val (.int (ii + (1 : Int32)))] []))) :
    Gt p.tables e below F (s₁.setTop (mkF m 47 #[.val (.ref jr), .val (.ref al), .val (.ref hs), .val (.ref rk), .val (.int ff), .val (.int ii)] [])) := by
  have K0 := Keep.refl h0 [so]
  refine own_iload X0 hx hby rfl d26_47 (pc' := 49) rfl ?_
  refine own_aloadN X0 hx hby rfl rfl d26_49 (pc' := 50) rfl ?_
  refine own_iface X0 hx hby hZ (y := (⟨"java/util/ArrayList", "size", "()I"⟩ : MethodName)) (y' := (⟨"java/util/List", "size", "()I"⟩ : MethodName)) (C := "java/util/ArrayList") (rest := [(.int ii)]) hown (hw _ (mi 190 rfl)) (hw _ (mi 191 rfl)) (hw _ (mi 192 rfl)) (hw _ (mi 193 rfl)) (hw _ (mi 194 rfl)) (hw _ (mi 195 rfl)) (hw _ (mi 196 rfl)) (hw _ (mi 197 rfl)) (hw _ (mi 198 rfl)) (hw _ (mi 11 rfl)) (by decide) (rm29 l Z a0 hw [] al size_al h0 n0 Z0 F_al_size) eH0 (by rw [hml]; rfl) (a := al) E_al (argsL := []) rfl (lenOf pd_6 rfl) rfl d26_50 (pc' := 55) rfl (by decide) (W := 1) (Nat.le_of_eq rfl) (by decide) (by decide) (by decide) (fun T1 h1 Lc1 v1r X1 eH1 hQ1 => ?_)
  obtain ⟨rfl, Nq1, rfl⟩ := hQ1
  have N1 := Fr.app N0 Nq1
  have hk2 : ii < size_al := hil
  refine own_icF X1 hx hby d26_55 (own_ic_ge_p hk2) (pc' := 58) rfl ?_
  refine own_iload X1 hx hby rfl d26_58 (pc' := 60) rfl ?_
  refine own_aloadN X1 hx hby rfl rfl d26_60 (pc' := 61) rfl ?_
  refine own_alen X1 hx hby hZ eH1 V_rk (z := ln) hln d26_61 (pc' := 62) rfl ?_
  have hk3 : ff < ln := hfl
  refine own_icF X1 hx hby d26_62 (own_ic_ge_p hk3) (pc' := 65) rfl ?_
  refine own_aloadN X1 hx hby rfl rfl d26_65 (pc' := 66) rfl ?_
  refine own_aloadN X1 hx hby rfl rfl d26_66 (pc' := 67) rfl ?_
  refine own_iload X1 hx hby rfl d26_67 (pc' := 69) rfl ?_
  refine own_iface X1 hx hby hZ (y := (⟨"java/util/ArrayList", "get", "(I)Ljava/lang/Object;"⟩ : MethodName)) (y' := (⟨"java/util/List", "get", "(I)Ljava/lang/Object;"⟩ : MethodName)) (C := "java/util/ArrayList") (rest := [(.ref hs)]) hown (hw _ (mi 279 rfl)) (hw _ (mi 280 rfl)) (hw _ (mi 281 rfl)) (hw _ (mi 282 rfl)) (hw _ (mi 283 rfl)) (hw _ (mi 284 rfl)) (hw _ (mi 285 rfl)) (hw _ (mi 197 rfl)) (hw _ (mi 286 rfl)) (hw _ (mi 11 rfl)) (by decide) (rm42 l Z a0 hw [] al ii elementData_al el so iN size_al h0 n0 Z0 F_al_elementData V_elementData_al hi0 hin hel F_al_size hil E_al) eH1 (by rw [hml]; rfl) (a := al) E_al (argsL := [(.int ii)]) rfl (lenOf pd_19 rfl) rfl d26_69 (pc' := 74) rfl (by decide) (W := 1) (Nat.le_of_eq rfl) (by decide) (by decide) (by decide) (fun T4 h4 Lc4 v4r X4 eH4 hQ4 => ?_)
  obtain ⟨rfl, Nq4, rfl⟩ := hQ4
  have N4 := Fr.app N1 Nq4
  refine own_iface X4 hx hby hZ (y := (⟨"java/util/HashSet", "contains", "(Ljava/lang/Object;)Z"⟩ : MethodName)) (y' := (⟨"java/util/Set", "contains", "(Ljava/lang/Object;)Z"⟩ : MethodName)) (C := "java/util/HashSet") (rest := []) hown (hw _ (mi 300 rfl)) (hw _ (mi 301 rfl)) (hw _ (mi 302 rfl)) (hw _ (mi 303 rfl)) (hw _ (mi 304 rfl)) (hw _ (mi 305 rfl)) (hw _ (mi 306 rfl)) (hw _ (mi 183 rfl)) (hw _ (mi 307 rfl)) (hw _ (mi 37 rfl)) (by decide) (rm46a l Z a0 hw [] hs so st_COMPACT_STRINGS map_hs table_map_hs by0 value_so hh kk ix tl h0 n0 Z0 S_COMPACT_STRINGS hcs F_hs_map E_map_hs F_map_hs_table E_so F_so_hash F_so_hashIsZero F_so_coder F_so_value V_value_so ne_value_so_so hhh hhz hkk hj0 hjn hil_ V_table_map_hs hlt hti g_so ne_map_hs_so ne_table_map_hs_so ne_hs_so) eH4 (by rw [hml]; rfl) (a := hs) E_hs (argsL := [(.ref so)]) rfl (lenOf pd_15 rfl) rfl d26_74 (pc' := 79) rfl (by decide) (W := 0) (Nat.le_of_eq rfl) (by decide) (by decide) (by decide) (fun T5 h5 Lc5 v5r X5 eH5 hQ5 => ?_)
  obtain ⟨rfl, Nq5, Kq5, gq5_0, gq5_1, gq5_2, gq5_3, gq5_4⟩ := hQ5
  have N5 := Fr.app N4 Nq5
  replace S_COMPACT_STRINGS := own_skn S_COMPACT_STRINGS Kq5 (own_skS E_so own_sk0)
  replace E_al := E_al.keep Kq5
  replace F_al_size := F_al_size.keep Kq5 (ninS ne_al_so nin0)
  replace F_al_elementData := F_al_elementData.keep Kq5 (ninS ne_al_so nin0)
  replace E_hs := E_hs.keep Kq5
  replace F_hs_map := F_hs_map.keep Kq5 (ninS ne_hs_so nin0)
  replace E_rk := E_rk.keep Kq5
  replace V_rk := V_rk.keep Kq5 (ninS ne_rk_so nin0)
  replace E_elementData_al := E_elementData_al.keep Kq5
  replace V_elementData_al := V_elementData_al.keep Kq5 (ninS ne_elementData_al_so nin0)
  replace E_so := E_so.keep Kq5
  replace E_map_hs := E_map_hs.keep Kq5
  replace F_map_hs_table := F_map_hs_table.keep Kq5 (ninS ne_map_hs_so nin0)
  replace E_table_map_hs := E_table_map_hs.keep Kq5
  replace V_table_map_hs := V_table_map_hs.keep Kq5 (ninS ne_table_map_hs_so nin0)
  replace V_value_so := V_value_so.keep Kq5 (ninS ne_value_so_so nin0)
  replace K0 := K0.trans Kq5 (allS (Or.inl (by simp)) all0)
  have E_so := gq5_0
  have F_so_value := gq5_1
  have F_so_coder := gq5_2
  have F_so_hash := gq5_3
  have F_so_hashIsZero := gq5_4
  replace Z0 := Nat.le_trans Z0 Kq5.1
  refine own_ifT X5 hx hby d26_79 (by decide) (by decide) (pc' := 93) (by decide) ?_
  refine own_iinc X5 hx hby rfl (L' := #[.val (.ref jr), .val (.ref al), .val (.ref hs), .val (.ref rk), .val (.int ff), .val (.int (ii + (1 : Int32)))]) (by first | rfl | decide) d26_93 (pc' := 96) rfl ?_
  refine own_goto X5 hx hby d26_96 (by decide) (pc' := 47) (by decide) ?_
  exact k T5 h5 _  X5 eH5 N5 Z0 K0 E_so F_so_value F_so_coder F_so_hash F_so_hashIsZero S_COMPACT_STRINGS
theorem sgCec {l : Launch} {Z : State} {a0 : Array Value} (hw : ∀ d ∈ tables_1, d.before a0 Z = true) {p : Program} {e : Env} {s : State} {m : MethodId} {args : Array Value} {below : List Frame} {meth : Method} {c : Code} {F : Outcome → State → Prop} (hx : p.tables.exec = Jvm.exec) (hby : c.code = prog_53_method_1_code) (hZ : Z.Warmed39 s.vm) (hml : c.maxLocals = 6) (hown : s.vm.findClass "com/example/prior3/prior3/eval/JudgedRanking" = some m.cls) (hnm : meth.name = "<init>") {s₁ : State} {locs : List Loc} (jr : Addr) (al : Addr) (hs : Addr) (rk : Addr) (ff : Int32) (ii : Int32) (rl : List Int32) (ln : Int32) (map_hs : Addr) (size_map_hs : Int32) (u_rr : Value) (relevantCount_jr : Int32) (h0 : Heap) (n0 : Nat) (Z0 : n0 ≤ h0.size) (N0 : Fr n0 locs) (X0 : Stand p l e ({ frames := 6, cells := 2, slots := 10, locals := 85 } : Room) s m args below meth c s₁ locs 1 5) (eH0 : s₁.heap = h0) (E_rk : Exa Z h0 rk "[I") (V_rk : Ary tr Z h0 rk .int (rl.map Value.int)) (hln : ((rl.map Value.int).length.toInt32 = ln)) (E_hs : Exa Z h0 hs "java/util/HashSet") (F_hs_map : Fld Z h0 hs "java/util/HashSet" "map" "Ljava/util/HashMap;" (.ref map_hs)) (E_map_hs : Exa Z h0 map_hs "java/util/HashMap") (F_map_hs_size : Fld Z h0 map_hs "java/util/HashMap" "size" "I" (.int size_map_hs)) (E_jr : Exa Z h0 jr "com/example/prior3/prior3/eval/JudgedRanking") (F_jr_relevantRanks : Fld Z h0 jr "com/example/prior3/prior3/eval/JudgedRanking" "relevantRanks" "[I" u_rr) (F_jr_relevantCount : Fld Z h0 jr "com/example/prior3/prior3/eval/JudgedRanking" "relevantCount" "I" (.int relevantCount_jr)) (hz : (ln.toNatClampNeg = rl.length)) (hz0 : (¬ (ln < 0))) (hsm : (ff = ln)) (hx5 : (rl.length ≤ 5)) (g_jr : n0 ≤ jr) (ne_hs_jr : hs ≠ jr) (ne_rk_jr : rk ≠ jr) (ne_map_hs_jr : map_hs ≠ jr)
    (k : ∀ (T' : State) (h' : Heap) (locs' : List Loc) (b2_1 : Addr), Stand p l e ({ frames := 6, cells := 2, slots := 10, locals := 85 } : Room) s m args below meth c T' locs' 2 10 → T'.heap = h' → Fr n0 locs' → n0 ≤ h'.size → Keep h0 h' [jr] → h0.size ≤ b2_1 → n0 ≤ b2_1 → Exa Z h' jr "com/example/prior3/prior3/eval/JudgedRanking" → Fld Z h' jr "com/example/prior3/prior3/eval/JudgedRanking" "relevantRanks" "[I" (.ref b2_1) → Fld Z h' jr "com/example/prior3/prior3/eval/JudgedRanking" "relevantCount" "I" (.int size_map_hs) → Exa Z h' b2_1 "[I" → Ary tr Z h' b2_1 .int (rl.map Value.int) → Gt p.tables e below F (T'.setTop (mkF m 119 #[.val (.ref jr), .val (.ref al), .val (.ref hs), .val (.ref rk), .val (.int ff), .val (.int ii)] []))) :
    Gt p.tables e below F (s₁.setTop (mkF m 99 #[.val (.ref jr), .val (.ref al), .val (.ref hs), .val (.ref rk), .val (.int ff), .val (.int ii)] [])) := by
  have K0 := Keep.refl h0 [jr]
  refine own_aloadN X0 hx hby rfl rfl d26_99 (pc' := 100) rfl ?_
  refine own_aloadN X0 hx hby rfl rfl d26_100 (pc' := 101) rfl ?_
  refine own_iload X0 hx hby rfl d26_101 (pc' := 103) rfl ?_
  refine own_static X0 hx hby hZ (y := (⟨"java/util/Arrays", "copyOf", "([II)[I"⟩ : MethodName)) (rest := [(.ref jr)]) hown (hw _ (mi 218 rfl)) (hw _ (mi 219 rfl)) (hw _ (mi 221 rfl)) (hw _ (mi 220 rfl)) (by decide) (rm33c l Z a0 hw [] rk ff rl ln h0 n0 Z0 V_rk hln hz hz0 hsm E_rk hx5) eH0 (by rw [hml]; rfl) (argsL := [(.ref rk), (.int ff)]) rfl (lenOf pd_23 rfl) rfl d26_103 (pc' := 106) rfl (by decide) (W := 1) (Nat.le_of_eq rfl) (by decide) (by decide) (by decide) (fun T1 h1 Lc1 v1r X1 eH1 hQ1 => ?_)
  obtain ⟨b2_1, rfl, Nq1, Kq1, gq1_0, gq1_1, gq1_2⟩ := hQ1
  have N1 := Fr.app N0 Nq1
  have g_b2_1 : n0 ≤ b2_1 := Nat.le_trans Z0 gq1_0
  have sz_b2_1 : h0.size ≤ b2_1 := Nat.le_trans K0.1 gq1_0
  have ne_jr_b2_1 : jr ≠ b2_1 := Nat.ne_of_lt (Nat.lt_of_lt_of_le E_jr.lt gq1_0)
  have ne_hs_b2_1 : hs ≠ b2_1 := Nat.ne_of_lt (Nat.lt_of_lt_of_le E_hs.lt gq1_0)
  have ne_rk_b2_1 : rk ≠ b2_1 := Nat.ne_of_lt (Nat.lt_of_lt_of_le E_rk.lt gq1_0)
  have ne_map_hs_b2_1 : map_hs ≠ b2_1 := Nat.ne_of_lt (Nat.lt_of_lt_of_le E_map_hs.lt gq1_0)
  replace E_jr := E_jr.keep Kq1
  replace F_jr_relevantRanks := F_jr_relevantRanks.keep Kq1 nin0
  replace F_jr_relevantCount := F_jr_relevantCount.keep Kq1 nin0
  replace E_hs := E_hs.keep Kq1
  replace F_hs_map := F_hs_map.keep Kq1 nin0
  replace E_rk := E_rk.keep Kq1
  replace V_rk := V_rk.keep Kq1 nin0
  replace E_map_hs := E_map_hs.keep Kq1
  replace F_map_hs_size := F_map_hs_size.keep Kq1 nin0
  replace K0 := K0.trans Kq1 all0
  have E_b2_1 := gq1_1
  have V_b2_1 := gq1_2
  replace Z0 := Nat.le_trans Z0 Kq1.1
  refine own_putF X1 hx hby hZ hown (host := "") (Or.inl (hw _ (mi 231 rfl))) Via.refl eH1 F_jr_relevantRanks E_jr (Or.inr ⟨(hw _ (mi 232 rfl)), rfl, hnm⟩) (hw _ (mi 170 rfl)) (ty := (.array .int)) (by decide) rfl rfl d26_106 (pc' := 109) rfl (fun T2 h2 X2 eH2 W2 => ?_)
  replace E_jr := E_jr.wr W2
  replace F_jr_relevantRanks := F_jr_relevantRanks.same W2
  replace F_jr_relevantCount := F_jr_relevantCount.other W2 (Or.inr (slot_ne (Or.inr (hw _ (mi 234 rfl))) (Or.inr (hw _ (mi 232 rfl))) (by decide) (t := .int) (t' := (.array .int)) (by decide) (by decide)))
  replace E_hs := E_hs.wr W2
  replace F_hs_map := F_hs_map.other W2 (Or.inl ne_hs_jr)
  replace E_rk := E_rk.wr W2
  replace V_rk := V_rk.other W2 ne_rk_jr
  replace E_map_hs := E_map_hs.wr W2
  replace F_map_hs_size := F_map_hs_size.other W2 (Or.inl ne_map_hs_jr)
  replace E_b2_1 := E_b2_1.wr W2
  replace V_b2_1 := V_b2_1.other W2 (Ne.symm ne_jr_b2_1)
  have N2 := Fr.snoc X2 N1 g_jr
  replace K0 := K0.wr W2 (Or.inl (by simp))
  replace Z0 := Nat.le_trans Z0 (Nat.le_of_eq W2.size.symm)
  refine own_aloadN X2 hx hby rfl rfl d26_109 (pc' := 110) rfl ?_
  refine own_aloadN X2 hx hby rfl rfl d26_110 (pc' := 111) rfl ?_
  refine own_iface X2 hx hby hZ (y := (⟨"java/util/HashSet", "size", "()I"⟩ : MethodName)) (y' := (⟨"java/util/Set", "size", "()I"⟩ : MethodName)) (C := "java/util/HashSet") (rest := [(.ref jr)]) hown (hw _ (mi 201 rfl)) (hw _ (mi 202 rfl)) (hw _ (mi 203 rfl)) (hw _ (mi 204 rfl)) (hw _ (mi 205 rfl)) (hw _ (mi 206 rfl)) (hw _ (mi 207 rfl)) (hw _ (mi 183 rfl)) (hw _ (mi 208 rfl)) (hw _ (mi 37 rfl)) (by decide) (rm30 l Z a0 hw [] hs map_hs size_map_hs h2 n0 Z0 F_hs_map F_map_hs_size E_map_hs) eH2 (by rw [hml]; rfl) (a := hs) E_hs (argsL := []) rfl (lenOf pd_6 rfl) rfl d26_111 (pc' := 116) rfl (by decide) (W := 1) (Nat.le_of_eq rfl) (by decide) (by decide) (by decide) (fun T3 h3 Lc3 v3r X3 eH3 hQ3 => ?_)
  obtain ⟨rfl, Nq3, rfl⟩ := hQ3
  have N3 := Fr.app N2 Nq3
  refine own_putF X3 hx hby hZ hown (host := "") (Or.inl (hw _ (mi 233 rfl))) Via.refl eH3 F_jr_relevantCount E_jr (Or.inr ⟨(hw _ (mi 234 rfl)), rfl, hnm⟩) (hw _ (mi 170 rfl)) (ty := .int) (by decide) rfl rfl d26_116 (pc' := 119) rfl (fun T4 h4 X4 eH4 W4 => ?_)
  replace E_jr := E_jr.wr W4
  replace F_jr_relevantRanks := F_jr_relevantRanks.other W4 (Or.inr (slot_ne (Or.inr (hw _ (mi 232 rfl))) (Or.inr (hw _ (mi 234 rfl))) (by decide) (t := (.array .int)) (t' := .int) (by decide) (by decide)))
  replace F_jr_relevantCount := F_jr_relevantCount.same W4
  replace E_hs := E_hs.wr W4
  replace F_hs_map := F_hs_map.other W4 (Or.inl ne_hs_jr)
  replace E_rk := E_rk.wr W4
  replace V_rk := V_rk.other W4 ne_rk_jr
  replace E_map_hs := E_map_hs.wr W4
  replace F_map_hs_size := F_map_hs_size.other W4 (Or.inl ne_map_hs_jr)
  replace E_b2_1 := E_b2_1.wr W4
  replace V_b2_1 := V_b2_1.other W4 (Ne.symm ne_jr_b2_1)
  have N4 := Fr.snoc X4 N3 g_jr
  replace K0 := K0.wr W4 (Or.inl (by simp))
  replace Z0 := Nat.le_trans Z0 (Nat.le_of_eq W4.size.symm)
  exact k T4 h4 _ b2_1 X4 eH4 N4 Z0 K0 sz_b2_1 g_b2_1 E_jr F_jr_relevantRanks F_jr_relevantCount E_b2_1 V_b2_1
theorem sgCen {l : Launch} {Z : State} {a0 : Array Value} (hw : ∀ d ∈ tables_1, d.before a0 Z = true) {p : Program} {e : Env} {s : State} {m : MethodId} {args : Array Value} {below : List Frame} {meth : Method} {c : Code} {F : Outcome → State → Prop} (hx : p.tables.exec = Jvm.exec) (hby : c.code = prog_53_method_1_code) (hZ : Z.Warmed39 s.vm) (hml : c.maxLocals = 6) (hown : s.vm.findClass "com/example/prior3/prior3/eval/JudgedRanking" = some m.cls) (hnm : meth.name = "<init>") {s₁ : State} {locs : List Loc} (jr : Addr) (al : Addr) (hs : Addr) (rk : Addr) (ff : Int32) (ii : Int32) (rl : List Int32) (ln : Int32) (map_hs : Addr) (size_map_hs : Int32) (u_rr : Value) (relevantCount_jr : Int32) (fN : Nat) (h0 : Heap) (n0 : Nat) (Z0 : n0 ≤ h0.size) (N0 : Fr n0 locs) (X0 : Stand p l e ({ frames := 6, cells := 2, slots := 10, locals := 85 } : Room) s m args below meth c s₁ locs 1 5) (eH0 : s₁.heap = h0) (E_rk : Exa Z h0 rk "[I") (V_rk : Ary tr Z h0 rk .int (rl.map Value.int)) (hln : ((rl.map Value.int).length.toInt32 = ln)) (E_hs : Exa Z h0 hs "java/util/HashSet") (F_hs_map : Fld Z h0 hs "java/util/HashSet" "map" "Ljava/util/HashMap;" (.ref map_hs)) (E_map_hs : Exa Z h0 map_hs "java/util/HashMap") (F_map_hs_size : Fld Z h0 map_hs "java/util/HashMap" "size" "I" (.int size_map_hs)) (E_jr : Exa Z h0 jr "com/example/prior3/prior3/eval/JudgedRanking") (F_jr_relevantRanks : Fld Z h0 jr "com/example/prior3/prior3/eval/JudgedRanking" "relevantRanks" "[I" u_rr) (F_jr_relevantCount : Fld Z h0 jr "com/example/prior3/prior3/eval/JudgedRanking" "relevantCount" "I" (.int relevantCount_jr)) (hz : (ln.toNatClampNeg = rl.length)) (hz0 : (¬ (ln < 0))) (hsm : (¬ (ff = ln))) (hp0 : (¬ (ff < 0))) (hpn : (ff.toNatClampNeg = fN)) (hnl : (fN ≤ rl.length)) (hlt : (ff < ln)) (hn5 : (fN ≤ 5)) (g_jr : n0 ≤ jr) (ne_hs_jr : hs ≠ jr) (ne_rk_jr : rk ≠ jr) (ne_map_hs_jr : map_hs ≠ jr)
    (k : ∀ (T' : State) (h' : Heap) (locs' : List Loc) (b2_1 : Addr), Stand p l e ({ frames := 6, cells := 2, slots := 10, locals := 85 } : Room) s m args below meth c T' locs' 2 10 → T'.heap = h' → Fr n0 locs' → n0 ≤ h'.size → Keep h0 h' [jr] → h0.size ≤ b2_1 → n0 ≤ b2_1 → Exa Z h' jr "com/example/prior3/prior3/eval/JudgedRanking" → Fld Z h' jr "com/example/prior3/prior3/eval/JudgedRanking" "relevantRanks" "[I" (.ref b2_1) → Fld Z h' jr "com/example/prior3/prior3/eval/JudgedRanking" "relevantCount" "I" (.int size_map_hs) → Exa Z h' b2_1 "[I" → Ary tr Z h' b2_1 .int ((rl.take fN).map Value.int) → Gt p.tables e below F (T'.setTop (mkF m 119 #[.val (.ref jr), .val (.ref al), .val (.ref hs), .val (.ref rk), .val (.int ff), .val (.int ii)] []))) :
    Gt p.tables e below F (s₁.setTop (mkF m 99 #[.val (.ref jr), .val (.ref al), .val (.ref hs), .val (.ref rk), .val (.int ff), .val (.int ii)] [])) := by
  have K0 := Keep.refl h0 [jr]
  refine own_aloadN X0 hx hby rfl rfl d26_99 (pc' := 100) rfl ?_
  refine own_aloadN X0 hx hby rfl rfl d26_100 (pc' := 101) rfl ?_
  refine own_iload X0 hx hby rfl d26_101 (pc' := 103) rfl ?_
  refine own_static X0 hx hby hZ (y := (⟨"java/util/Arrays", "copyOf", "([II)[I"⟩ : MethodName)) (rest := [(.ref jr)]) hown (hw _ (mi 218 rfl)) (hw _ (mi 219 rfl)) (hw _ (mi 221 rfl)) (hw _ (mi 220 rfl)) (by decide) (rm33n l Z a0 hw [] rk ff rl ln fN h0 n0 Z0 V_rk hln hz hz0 hsm hp0 hpn hnl hlt hn5) eH0 (by rw [hml]; rfl) (argsL := [(.ref rk), (.int ff)]) rfl (lenOf pd_23 rfl) rfl d26_103 (pc' := 106) rfl (by decide) (W := 1) (Nat.le_of_eq rfl) (by decide) (by decide) (by decide) (fun T1 h1 Lc1 v1r X1 eH1 hQ1 => ?_)
  obtain ⟨b2_1, rfl, Nq1, Kq1, gq1_0, gq1_1, gq1_2⟩ := hQ1
  have N1 := Fr.app N0 Nq1
  have g_b2_1 : n0 ≤ b2_1 := Nat.le_trans Z0 gq1_0
  have sz_b2_1 : h0.size ≤ b2_1 := Nat.le_trans K0.1 gq1_0
  have ne_jr_b2_1 : jr ≠ b2_1 := Nat.ne_of_lt (Nat.lt_of_lt_of_le E_jr.lt gq1_0)
  have ne_hs_b2_1 : hs ≠ b2_1 := Nat.ne_of_lt (Nat.lt_of_lt_of_le E_hs.lt gq1_0)
  have ne_rk_b2_1 : rk ≠ b2_1 := Nat.ne_of_lt (Nat.lt_of_lt_of_le E_rk.lt gq1_0)
  have ne_map_hs_b2_1 : map_hs ≠ b2_1 := Nat.ne_of_lt (Nat.lt_of_lt_of_le E_map_hs.lt gq1_0)
  replace E_jr := E_jr.keep Kq1
  replace F_jr_relevantRanks := F_jr_relevantRanks.keep Kq1 nin0
  replace F_jr_relevantCount := F_jr_relevantCount.keep Kq1 nin0
  replace E_hs := E_hs.keep Kq1
  replace F_hs_map := F_hs_map.keep Kq1 nin0
  replace E_rk := E_rk.keep Kq1
  replace V_rk := V_rk.keep Kq1 nin0
  replace E_map_hs := E_map_hs.keep Kq1
  replace F_map_hs_size := F_map_hs_size.keep Kq1 nin0
  replace K0 := K0.trans Kq1 all0
  have E_b2_1 := gq1_1
  have V_b2_1 := gq1_2
  replace Z0 := Nat.le_trans Z0 Kq1.1
  refine own_putF X1 hx hby hZ hown (host := "") (Or.inl (hw _ (mi 231 rfl))) Via.refl eH1 F_jr_relevantRanks E_jr (Or.inr ⟨(hw _ (mi 232 rfl)), rfl, hnm⟩) (hw _ (mi 170 rfl)) (ty := (.array .int)) (by decide) rfl rfl d26_106 (pc' := 109) rfl (fun T2 h2 X2 eH2 W2 => ?_)
  replace E_jr := E_jr.wr W2
  replace F_jr_relevantRanks := F_jr_relevantRanks.same W2
  replace F_jr_relevantCount := F_jr_relevantCount.other W2 (Or.inr (slot_ne (Or.inr (hw _ (mi 234 rfl))) (Or.inr (hw _ (mi 232 rfl))) (by decide) (t := .int) (t' := (.array .int)) (by decide) (by decide)))
  replace E_hs := E_hs.wr W2
  replace F_hs_map := F_hs_map.other W2 (Or.inl ne_hs_jr)
  replace E_rk := E_rk.wr W2
  replace V_rk := V_rk.other W2 ne_rk_jr
  replace E_map_hs := E_map_hs.wr W2
  replace F_map_hs_size := F_map_hs_size.other W2 (Or.inl ne_map_hs_jr)
  replace E_b2_1 := E_b2_1.wr W2
  replace V_b2_1 := V_b2_1.other W2 (Ne.symm ne_jr_b2_1)
  have N2 := Fr.snoc X2 N1 g_jr
  replace K0 := K0.wr W2 (Or.inl (by simp))
  replace Z0 := Nat.le_trans Z0 (Nat.le_of_eq W2.size.symm)
  refine own_aloadN X2 hx hby rfl rfl d26_109 (pc' := 110) rfl ?_
  refine own_aloadN X2 hx hby rfl rfl d26_110 (pc' := 111) rfl ?_
  refine own_iface X2 hx hby hZ (y := (⟨"java/util/HashSet", "size", "()I"⟩ : MethodName)) (y' := (⟨"java/util/Set", "size", "()I"⟩ : MethodName)) (C := "java/util/HashSet") (rest := [(.ref jr)]) hown (hw _ (mi 201 rfl)) (hw _ (mi 202 rfl)) (hw _ (mi 203 rfl)) (hw _ (mi 204 rfl)) (hw _ (mi 205 rfl)) (hw _ (mi 206 rfl)) (hw _ (mi 207 rfl)) (hw _ (mi 183 rfl)) (hw _ (mi 208 rfl)) (hw _ (mi 37 rfl)) (by decide) (rm30 l Z a0 hw [] hs map_hs size_map_hs h2 n0 Z0 F_hs_map F_map_hs_size E_map_hs) eH2 (by rw [hml]; rfl) (a := hs) E_hs (argsL := []) rfl (lenOf pd_6 rfl) rfl d26_111 (pc' := 116) rfl (by decide) (W := 1) (Nat.le_of_eq rfl) (by decide) (by decide) (by decide) (fun T3 h3 Lc3 v3r X3 eH3 hQ3 => ?_)
  obtain ⟨rfl, Nq3, rfl⟩ := hQ3
  have N3 := Fr.app N2 Nq3
  refine own_putF X3 hx hby hZ hown (host := "") (Or.inl (hw _ (mi 233 rfl))) Via.refl eH3 F_jr_relevantCount E_jr (Or.inr ⟨(hw _ (mi 234 rfl)), rfl, hnm⟩) (hw _ (mi 170 rfl)) (ty := .int) (by decide) rfl rfl d26_116 (pc' := 119) rfl (fun T4 h4 X4 eH4 W4 => ?_)
  replace E_jr := E_jr.wr W4
  replace F_jr_relevantRanks := F_jr_relevantRanks.other W4 (Or.inr (slot_ne (Or.inr (hw _ (mi 232 rfl))) (Or.inr (hw _ (mi 234 rfl))) (by decide) (t := (.array .int)) (t' := .int) (by decide) (by decide)))
  replace F_jr_relevantCount := F_jr_relevantCount.same W4
  replace E_hs := E_hs.wr W4
  replace F_hs_map := F_hs_map.other W4 (Or.inl ne_hs_jr)
  replace E_rk := E_rk.wr W4
  replace V_rk := V_rk.other W4 ne_rk_jr
  replace E_map_hs := E_map_hs.wr W4
  replace F_map_hs_size := F_map_hs_size.other W4 (Or.inl ne_map_hs_jr)
  replace E_b2_1 := E_b2_1.wr W4
  replace V_b2_1 := V_b2_1.other W4 (Ne.symm ne_jr_b2_1)
  have N4 := Fr.snoc X4 N3 g_jr
  replace K0 := K0.wr W4 (Or.inl (by simp))
  replace Z0 := Nat.le_trans Z0 (Nat.le_of_eq W4.size.symm)
  exact k T4 h4 _ b2_1 X4 eH4 N4 Z0 K0 sz_b2_1 g_b2_1 E_jr F_jr_relevantRanks F_jr_relevantCount E_b2_1 V_b2_1
theorem loopC {l : Launch} {Z : State} {a0 : Array Value} (hw : ∀ d ∈ tables_1, d.before a0 Z = true) {p : Program} {e : Env} {s : State} {m : MethodId} {args : Array Value} {below : List Frame} {meth : Method} {c : Code} {F : Outcome → State → Prop} (hx : p.tables.exec = Jvm.exec) (hby : c.code = prog_53_method_1_code) (hZ : Z.Warmed39 s.vm) (hml : c.maxLocals = 6) (hown : s.vm.findClass "com/example/prior3/prior3/eval/JudgedRanking" = some m.cls) (hnm : meth.name = "<init>") (jr al hs hm tb rk : Addr) (u : Value) (rC cs : Int32) (n n0 n1 len : Nat) (P : Nat → Bool) (tl : List Value) (hn5 : n ≤ 5) (hl5 : len ≤ 5) (hcs : ¬ (cs = 0)) (gR : n0 ≤ rk) :
    ∀ (k i f : Nat) (rl : List Int32) (T : State) (locs : List Loc) (h : Heap), n < k + i → i ≤ 5 → f ≤ len → rl.length = len → Stand p l e ({ frames := 6, cells := 2, slots := 10, locals := 85 } : Room) s m args below meth c T locs 1 5 → T.heap = h → Fr n0 locs → n0 ≤ h.size → Sta Z h "java/lang/String" "COMPACT_STRINGS" "Z" (.int cs) → SET1 Z h n0 n1 hs hm tb P tl → Exa Z h al "java/util/ArrayList" → Fld Z h al "java/util/ArrayList" "size" "I" (.int (Int32.ofNat n)) → (i < n → ∃ ed el ss vv, LSI Z h n0 n1 al n i ed el ss vv) → Exa Z h rk "[I" → Ary tr Z h rk .int (rl.map Value.int) → Exa Z h jr "com/example/prior3/prior3/eval/JudgedRanking" → Fld Z h jr "com/example/prior3/prior3/eval/JudgedRanking" "relevantRanks" "[I" u → Fld Z h jr "com/example/prior3/prior3/eval/JudgedRanking" "relevantCount" "I" (.int rC) →
      (∀ (T' : State) (locs' : List Loc) (h' : Heap) (f' : Nat) (rl' : List Int32) (z : Int32), Stand p l e ({ frames := 6, cells := 2, slots := 10, locals := 85 } : Room) s m args below meth c T' locs' 1 5 → T'.heap = h' → Fr n0 locs' → n0 ≤ h'.size → SET1 Z h' n0 n1 hs hm tb P tl → f' ≤ len → rl'.length = len → lp P n len k i f rl = rl'.take f' → Exa Z h' rk "[I" → Ary tr Z h' rk .int (rl'.map Value.int) → Exa Z h' jr "com/example/prior3/prior3/eval/JudgedRanking" → Fld Z h' jr "com/example/prior3/prior3/eval/JudgedRanking" "relevantRanks" "[I" u → Fld Z h' jr "com/example/prior3/prior3/eval/JudgedRanking" "relevantCount" "I" (.int rC) → Gt p.tables e below F (T'.setTop (mkF m 99 #[.val (.ref jr), .val (.ref al), .val (.ref hs), .val (.ref rk), .val (.int (Int32.ofNat f')), .val (.int z)] []))) →
      Gt p.tables e below F (T.setTop (mkF m 47 #[.val (.ref jr), .val (.ref al), .val (.ref hs), .val (.ref rk), .val (.int (Int32.ofNat f)), .val (.int (Int32.ofNat i))] [])) := by
  intro k
  induction k with
  | zero =>
    intro i f rl T locs h hk hi hf hrl X0 eH0 N0 Z0 sC S eA fS li eR vR eJ fR fK kend
    have hin : ¬ (i < n) := by omega
    refine sgC1 hw hx hby hZ hml hown hnm jr al hs rk (Int32.ofNat f) (Int32.ofNat i) (Int32.ofNat n) h n0 Z0 N0 X0 eH0 eA fS (fun q => hin ((own_ilt i (by omega) n (by omega)).mp q)) (fun T' locs' X' e' N' Z' => ?_)
    exact kend T' locs' h f rl _ X' e' N' Z' S hf hrl rfl eR vR eJ fR fK
  | succ k ih =>
    intro i f rl T locs h hk hi hf hrl X0 eH0 N0 Z0 sC S eA fS li eR vR eJ fR fK kend
    by_cases hin : i < n
    · by_cases hfl : f < len
      · obtain ⟨ed, el, ss, vv, I⟩ := li hin
        obtain ⟨k1, k2, k3, k4, k5⟩ := I.st i (Nat.le_refl _) hin
        have hH := own_hash1 i (by omega)
        rw [own_btn i (by omega)] at k2
        cases hP : P (i + 1)
        · refine sgCa hw hx hby hZ hml hown hnm jr al hs rk (Int32.ofNat f) (Int32.ofNat i) (Int32.ofNat n) rl (Int32.ofNat len) ed el i f (ss i) cs hm tb (bt (i + 1)) (vv i) (bt (i + 1)) (bt (i + 1)) (i + 1) tl h n0 Z0 N0 X0 eH0 eA fS eR vR (own_lenI hrl) I.fE I.eE I.vE ((own_ilt i (by omega) n (by omega)).mpr hin) ((own_ilt f (by omega) len (by omega)).mpr hfl) (own_i32 i (by omega)).1 (own_i32 i (by omega)).2 k1 sC hcs S.eS S.fM S.eM S.fT k2.1 k3.1 k3.2 k2.2.2.1 k2.2.1 k2.2.2.2.2 (Exa.ne k2.2.2.2.1 k2.1 (by decide)) hH.1 hH.2.1 hH.2.2.1 hH.2.2.2.1 hH.2.2.2.2.1 hH.2.2.2.2.2 S.vT S.ln ((S.en (i + 1) (by omega)).2 hP) S.eT k4 (Exa.ne S.eM k2.1 (by decide)) (Exa.ne S.eT k2.1 (by decide)) (Exa.ne S.eS k2.1 (by decide)) (Exa.ne eA k2.1 (by decide)) (Exa.ne eR k2.1 (by decide)) (Exa.ne I.eE k2.1 (by decide)) (fun T' h' locs' X' e' N' Z' K' E_so F_so_value F_so_coder F_so_hash F_so_hashIsZero S_COMPACT_STRINGS => ?_)
          rw [own_ofs]
          exact ih (i + 1) f rl T' locs' h' (by omega) (by omega) hf hrl X' e' N' Z' S_COMPACT_STRINGS (S.keep K' (fun x C E hC hst => own_nin1 (own_noso k2.1 k5 E hst))) (eA.keep K') (fS.keep K' (own_nin1 (Exa.ne eA k2.1 (by decide)))) (fun _ => ⟨ed, el, ss, vv, I.keep K' (own_nin1 (Exa.ne eA k2.1 (by decide))) (own_nin1 (Exa.ne I.eE k2.1 (by decide))) (Nat.le_succ i) (fun j h1 h2 => own_nin1 (Nat.ne_of_gt (I.inc i j (by omega) h2))) (fun x E => (own_nin1 (Exa.ne E k2.1 (by decide))))⟩) (eR.keep K') (vR.keep K' (own_nin1 (Exa.ne eR k2.1 (by decide)))) (eJ.keep K') (fR.keep K' (own_nin1 (Exa.ne eJ k2.1 (by decide)))) (fK.keep K' (own_nin1 (Exa.ne eJ k2.1 (by decide)))) (fun T2 locs2 h2 f' rl' z a1 a2 a3 a4 a5 a6 a7 a8 => kend T2 locs2 h2 f' rl' z a1 a2 a3 a4 a5 a6 a7 ((lp_a ⟨hin, hfl⟩ hP).trans a8))
        · obtain ⟨nd, ks, vb, hnd, EE⟩ := (S.en (i + 1) (by omega)).1 hP
          have hks : ks ≠ ss i := fun q => Nat.lt_irrefl _ (Nat.lt_of_lt_of_le k5 (q ▸ EE.g))
          refine sgCp hw hx hby hZ hml hown hnm jr al hs rk (Int32.ofNat f) (Int32.ofNat i) (Int32.ofNat n) rl (Int32.ofNat len) ed el i f (ss i) cs hm tb nd (bt (i + 1)) (vv i) (bt (i + 1)) (bt (i + 1)) (i + 1) tl ks vb h n0 Z0 N0 X0 eH0 eA fS eR vR (own_lenI hrl) I.fE I.eE I.vE ((own_ilt i (by omega) n (by omega)).mpr hin) ((own_ilt f (by omega) len (by omega)).mpr hfl) (own_i32 i (by omega)).1 (own_i32 i (by omega)).2 k1 sC hcs S.eS S.fM S.eM S.fT k2.1 k3.1 k3.2 k2.2.2.1 k2.2.1 k2.2.2.2.2 (Exa.ne k2.2.2.2.1 k2.1 (by decide)) hH.1 hH.2.1 hH.2.2.1 hH.2.2.2.1 hH.2.2.2.2.1 hH.2.2.2.2.2 S.vT S.ln hnd S.eT EE.eN EE.fh EE.fk EE.st.1 EE.st.2.2.1 EE.st.2.1 EE.st.2.2.2.2 (Exa.ne EE.st.2.2.2.1 EE.st.1 (by decide)) hks (Exa.ne k2.1 I.eE (by decide)) (own_i32 f (by omega)).1 (own_i32 f (by omega)).2 (by rw [hrl]; exact hfl) k4 (Exa.ne S.eM k2.1 (by decide)) (Exa.ne S.eT k2.1 (by decide)) (Exa.ne EE.eN k2.1 (by decide)) (Exa.ne EE.st.2.2.2.1 k2.1 (by decide)) (Exa.ne S.eS k2.1 (by decide)) (Exa.ne eA k2.1 (by decide)) (Exa.ne eR k2.1 (by decide)) gR (Exa.ne eA eR (by decide)) (Exa.ne S.eS eR (by decide)) (Exa.ne I.eE eR (by decide)) (Exa.ne S.eM eR (by decide)) (Exa.ne S.eT eR (by decide)) (Exa.ne EE.eN eR (by decide)) (Exa.ne k2.2.2.2.1 eR (by decide)) (Exa.ne EE.st.1 eR (by decide)) (Exa.ne EE.st.2.2.2.1 eR (by decide)) (fun T' h' locs' X' e' N' Z' K' E_so F_so_value F_so_coder F_so_hash F_so_hashIsZero E_rk V_rk S_COMPACT_STRINGS => ?_)
          rw [own_ofs, own_ofs]
          exact ih (i + 1) (f + 1) (rl.set f (Int32.ofNat i + 1)) T' locs' h' (by omega) (by omega) hfl (by rw [List.length_set]; exact hrl) X' e' N' Z' S_COMPACT_STRINGS (S.keep K' (fun x C E hC hst => own_nin2 (own_noso k2.1 k5 E hst) (Exa.ne E eR (own_clsI hC)))) (eA.keep K') (fS.keep K' (own_nin2 (Exa.ne eA k2.1 (by decide)) (Exa.ne eA eR (by decide)))) (fun _ => ⟨ed, el, ss, vv, I.keep K' (own_nin2 (Exa.ne eA k2.1 (by decide)) (Exa.ne eA eR (by decide))) (own_nin2 (Exa.ne I.eE k2.1 (by decide)) (Exa.ne I.eE eR (by decide))) (Nat.le_succ i) (fun j h1 h2 => own_nin2 (Nat.ne_of_gt (I.inc i j (by omega) h2)) (Exa.ne (I.st j (by omega) h2).2.1.1 eR (by decide))) (fun x E => (own_nin2 (Exa.ne E k2.1 (by decide)) (Exa.ne E eR (by decide))))⟩) E_rk V_rk (eJ.keep K') (fR.keep K' (own_nin2 (Exa.ne eJ k2.1 (by decide)) (Exa.ne eJ eR (by decide)))) (fK.keep K' (own_nin2 (Exa.ne eJ k2.1 (by decide)) (Exa.ne eJ eR (by decide)))) (fun T2 locs2 h2 f' rl' z a1 a2 a3 a4 a5 a6 a7 a8 => kend T2 locs2 h2 f' rl' z a1 a2 a3 a4 a5 a6 a7 ((lp_p ⟨hin, hfl⟩ hP).trans a8))
      · refine sgC2 hw hx hby hZ hml hown hnm jr al hs rk (Int32.ofNat f) (Int32.ofNat i) (Int32.ofNat n) rl (Int32.ofNat len) h n0 Z0 N0 X0 eH0 eA fS eR vR (own_lenI hrl) ((own_ilt i (by omega) n (by omega)).mpr hin) (fun q => hfl ((own_ilt f (by omega) len (by omega)).mp q)) (fun T' locs' X' e' N' Z' => ?_)
        exact kend T' locs' h f rl _ X' e' N' Z' S hf hrl (lp_x fun q => hfl q.2) eR vR eJ fR fK
    · refine sgC1 hw hx hby hZ hml hown hnm jr al hs rk (Int32.ofNat f) (Int32.ofNat i) (Int32.ofNat n) h n0 Z0 N0 X0 eH0 eA fS (fun q => hin ((own_ilt i (by omega) n (by omega)).mp q)) (fun T' locs' X' e' N' Z' => ?_)
      exact kend T' locs' h f rl _ X' e' N' Z' S hf hrl (lp_x fun q => hin q.1) eR vR eJ fR fK
theorem efC (m : MethodId) (x0 x1 x2 : Addr) : entryFrame m #[(.ref x0), (.ref x1), (.ref x2)] 6 = mkF m 0 #[.val (.ref x0), .val (.ref x1), .val (.ref x2), .unset, .unset, .unset] [] := by first | (simp [entryFrame, mkF, argsToLocals, Value.category]; done) | rfl
theorem rmC (l : Launch) (Z : State) (a0 : Array Value) (hw : ∀ d ∈ tables_1, d.before a0 Z = true) (ws : List Jvm.Cond) (jr al hs : Addr) (u : Value) (rC cs : Int32) (pr df : Addr) (n n1 : Nat) (P : Nat → Bool) (h0 : Heap) (n0 : Nat) (Z0 : n0 ≤ h0.size) (eJ : Exa Z h0 jr "com/example/prior3/prior3/eval/JudgedRanking") (fR : Fld Z h0 jr "com/example/prior3/prior3/eval/JudgedRanking" "relevantRanks" "[I" u) (fK : Fld Z h0 jr "com/example/prior3/prior3/eval/JudgedRanking" "relevantCount" "I" (.int rC)) (gJ : n0 ≤ jr) (S : LL Z h0 n0 n1 al cs pr df n) (Q : SE Z h0 n0 n1 hs P) (hn5 : n ≤ 5) (hc0 : 0 < cnt P) (hc8 : cnt P ≤ 8) :
    MetFree l (⟨"com/example/prior3/prior3/eval/JudgedRanking", "<init>", "(Ljava/util/List;Ljava/util/Set;)V"⟩ : MethodName) (head1 (Jvm.Cond.code (⟨"com/example/prior3/prior3/eval/JudgedRanking", "<init>", "(Ljava/util/List;Ljava/util/Set;)V"⟩ : MethodName) prog_53_method_1_code 6 none :: ws) ({ frames := 6, cells := 2, slots := 10, locals := 85 } : Room)) (fun a U => a = #[(.ref jr), (.ref al), (.ref hs)] ∧ Z.Warmed39 U.vm ∧ U.heap = h0) (fun _ _ _ _ _ => True) (fun _ U o U' => ∃ v L, o = .returned v ∧ QC Z jr n P n0 v U'.heap L ∧ FrameEnd U o U' L ({ frames := 6, cells := 2, slots := 10, locals := 85 } : Room).cells ({ frames := 6, cells := 2, slots := 10, locals := 85 } : Room).slots) := by
  refine MetFree.of_bodySF (plainFor_of_name pn_com_example_prior3_prior3_eval_JudgedRanking) hisR ?_
  intro p e s m args below meth c s₁ Bd hml0 hP hK
  obtain ⟨rfl, hZ, hh⟩ := hP
  have hx := Bd.exec
  have hby := Bd.bytes
  have hml : c.maxLocals = 6 := hml0
  have hown : s.vm.findClass "com/example/prior3/prior3/eval/JudgedRanking" = some m.cls := findClass_of_methodNamed Bd.named
  have hnm := (name_of_methodNamed Bd.named Bd.method).1
  have X0 : Stand p l e ({ frames := 6, cells := 2, slots := 10, locals := 85 } : Room) s m #[(.ref jr), (.ref al), (.ref hs)] below meth c s₁ [] 0 0 := Stand.of_body Bd
  have eH0 : s₁.heap = h0 := by rw [← hh, Bd.state]; rfl
  have N0 := Fr.nil n0
  show Gt p.tables e below (fun o U' => ∃ v L, o = .returned v ∧ QC Z jr n P n0 v U'.heap L ∧ FrameEnd s o U' L ({ frames := 6, cells := 2, slots := 10, locals := 85 } : Room).cells ({ frames := 6, cells := 2, slots := 10, locals := 85 } : Room).slots) _
  refine own_cast (efC m jr al hs) ?_
  rcases Q with ⟨hm, hall, q⟩ | ⟨hm, tb, tl, q⟩
  · rw [own_cnt0 hall] at hc0
    exact absurd hc0 (by decide)
  have hal : Exa Z h0 al "java/util/ArrayList" ∧ Fld Z h0 al "java/util/ArrayList" "size" "I" (.int (Int32.ofNat n)) := by
    rcases S.li with ⟨rfl, k⟩ | ⟨ed, el, ss, vv, -, k⟩
    · exact ⟨k.eA, own_fldi (by decide) k.fS⟩
    · exact ⟨k.eA, k.fS⟩
  obtain ⟨eA, fS⟩ := hal
  refine sgC0 hw hx hby hZ hml hown hnm jr al hs hm (Int32.ofNat (cnt P)) (Int32.ofNat n) (Int32.ofNat (min n (cnt P))) (min n (cnt P)) h0 n0 Z0 N0 X0 eH0 q.eS q.fM q.eM q.fZ eA fS (fun k => by have := (own_ieq (cnt P) hc8 0 (by decide)).mp k; omega) (own_minI n (by omega) (cnt P) hc8) (own_i32 _ (by omega)).1 (own_i32 _ (by omega)).2 (by omega) (own_lenI (List.length_replicate ..)) (fun T' h' locs' b6 X' e' N' Z' K' sz_b6 g_b6 E_b6 V_b6 => ?_)
  refine loopC hw hx hby hZ hml hown hnm jr al hs hm tb b6 u rC cs n n0 n1 (min n (cnt P)) P tl hn5 (by omega) S.hcs g_b6 6 0 0 (List.replicate (min n (cnt P)) 0) T' locs' h' (by omega) (by decide) (Nat.zero_le _) (List.length_replicate ..) X' e' N' Z' (own_skn S.sC K' own_sk0) (q.keep K' fun _ _ _ _ _ => nin0) (eA.keep K') (fS.keep K' nin0) (fun hp => ?_) E_b6 V_b6 (eJ.keep K') (fR.keep K' nin0) (fK.keep K' nin0) ?_
  · rcases S.li with ⟨h1, -⟩ | ⟨ed, el, ss, vv, -, k⟩
    · omega
    · exact ⟨ed, el, ss, vv, (LSI.of k).keep K' nin0 nin0 (Nat.le_refl 0) (fun _ _ _ => nin0) (fun _ _ => nin0)⟩
  · intro T2 locs2 h2 f' rl' z X2 e2 N2 Z2 S2 hf' hrl' hlp eR2 vR2 eJ2 fR2 fK2
    by_cases hsm : f' = min n (cnt P)
    · refine sgCec hw hx hby hZ hml hown hnm jr al hs b6 (Int32.ofNat f') z rl' (Int32.ofNat (min n (cnt P))) hm (Int32.ofNat (cnt P)) u rC h2 n0 Z2 N2 X2 e2 eR2 vR2 (own_lenI hrl') S2.eS S2.fM S2.eM S2.fZ eJ2 fR2 fK2 (by rw [hrl']; exact (own_i32 _ (by omega)).2) (own_i32 _ (by omega)).1 (by rw [hsm]) (by rw [hrl']; omega) gJ (Exa.ne S2.eS eJ2 (by decide)) (Exa.ne eR2 eJ2 (by decide)) (Exa.ne S2.eM eJ2 (by decide)) (fun T3 h3 locs3 b2_1 X3 e3 N3 Z3 K3 sz_b2_1 g_b2_1 E_jr F_jr_relevantRanks F_jr_relevantCount E_b2_1 V_b2_1 => ?_)
      have hr : rks n P = rl' := by rw [rks, hlp, hsm, ← hrl', List.take_length]
      exact own_retV X3 hx hby Bd.notSynchronized Bd.returns d26_119 (by decide) (by decide) e3 ⟨b2_1, rfl, N3, Z3, E_jr, F_jr_relevantRanks, F_jr_relevantCount, by rw [hr]; exact V_b2_1⟩
    · refine sgCen hw hx hby hZ hml hown hnm jr al hs b6 (Int32.ofNat f') z rl' (Int32.ofNat (min n (cnt P))) hm (Int32.ofNat (cnt P)) u rC f' h2 n0 Z2 N2 X2 e2 eR2 vR2 (own_lenI hrl') S2.eS S2.fM S2.eM S2.fZ eJ2 fR2 fK2 (by rw [hrl']; exact (own_i32 _ (by omega)).2) (own_i32 _ (by omega)).1 (fun k => hsm ((own_ieq f' (by omega) _ (by omega)).mp k)) (own_i32 f' (by omega)).1 (own_i32 f' (by omega)).2 (by rw [hrl']; exact hf') ((own_ilt f' (by omega) _ (by omega)).mpr (by omega)) (by omega) gJ (Exa.ne S2.eS eJ2 (by decide)) (Exa.ne eR2 eJ2 (by decide)) (Exa.ne S2.eM eJ2 (by decide)) (fun T3 h3 locs3 b2_1 X3 e3 N3 Z3 K3 sz_b2_1 g_b2_1 E_jr F_jr_relevantRanks F_jr_relevantCount E_b2_1 V_b2_1 => ?_)
      have hr : rks n P = rl'.take f' := by rw [rks, hlp]
      exact own_retV X3 hx hby Bd.notSynchronized Bd.returns d26_119 (by decide) (by decide) e3 ⟨b2_1, rfl, N3, Z3, E_jr, F_jr_relevantRanks, F_jr_relevantCount, by rw [hr]; exact V_b2_1⟩

theorem sgW1 {l : Launch} {Z : State} {a0 : Array Value} (hw : ∀ d ∈ tables_1, d.before a0 Z = true) {p : Program} {e : Env} {s : State} {m : MethodId} {args : Array Value} {below : List Frame} {meth : Method} {c : Code} {F : Outcome → State → Prop} (hx : p.tables.exec = Jvm.exec) (hby : c.code = prog_53_method_8_code) (hZ : Z.Warmed39 s.vm) (hml : c.maxLocals = 3) (hown : s.vm.findClass "com/example/prior3/prior3/eval/JudgedRanking" = some m.cls) {s₁ : State} {locs : List Loc} (o0 : Addr) (p1 : Int32) (ii : Int32) (relevantRanks_o0 : Addr) (xs : List Int32) (ln : Int32) (h0 : Heap) (n0 : Nat) (Z0 : n0 ≤ h0.size) (N0 : Fr n0 locs) (X0 : Stand p l e ({ frames := 0, cells := 0, slots := 0, locals := 0 } : Room) s m args below meth c s₁ locs 0 0) (eH0 : s₁.heap = h0) (F_o0_relevantRanks : Fld Z h0 o0 "com/example/prior3/prior3/eval/JudgedRanking" "relevantRanks" "[I" (.ref relevantRanks_o0)) (V_relevantRanks_o0 : Ary tr Z h0 relevantRanks_o0 .int (xs.map Value.int)) (hln : ((xs.map Value.int).length.toInt32 = ln)) (hge : (¬ (ii < ln)))
    (k : ∀ (T' : State) (locs' : List Loc), Stand p l e ({ frames := 0, cells := 0, slots := 0, locals := 0 } : Room) s m args below meth c T' locs' 0 0 → T'.heap = h0 → Fr n0 locs' → n0 ≤ h0.size → Gt p.tables e below F (T'.setTop (mkF m 27 #[.val (.ref o0), .val (.int p1), .val (.int ii)] []))) :
    Gt p.tables e below F (s₁.setTop (mkF m 2 #[.val (.ref o0), .val (.int p1), .val (.int ii)] [])) := by
  refine own_iloadN X0 hx hby rfl d35_2 (pc' := 3) rfl ?_
  refine own_aloadN X0 hx hby rfl rfl d35_3 (pc' := 4) rfl ?_
  refine own_getF X0 hx hby hZ hown (host := "") (Or.inl (hw _ (mi 231 rfl))) Via.refl eH0 F_o0_relevantRanks d35_4 (pc' := 7) rfl (fun T1 X1 eH1 => ?_)
  refine own_alen X1 hx hby hZ eH1 V_relevantRanks_o0 (z := ln) hln d35_7 (pc' := 8) rfl ?_
  have hk2 : ¬ (ii < ln) := hge
  refine own_icT X1 hx hby d35_8 (own_ic_ge_n hk2) (by decide) (pc' := 27) (by decide) ?_
  exact k T1 _ X1 eH1 N0 Z0
theorem sgW2 {l : Launch} {Z : State} {a0 : Array Value} (hw : ∀ d ∈ tables_1, d.before a0 Z = true) {p : Program} {e : Env} {s : State} {m : MethodId} {args : Array Value} {below : List Frame} {meth : Method} {c : Code} {F : Outcome → State → Prop} (hx : p.tables.exec = Jvm.exec) (hby : c.code = prog_53_method_8_code) (hZ : Z.Warmed39 s.vm) (hml : c.maxLocals = 3) (hown : s.vm.findClass "com/example/prior3/prior3/eval/JudgedRanking" = some m.cls) {s₁ : State} {locs : List Loc} (o0 : Addr) (p1 : Int32) (ii : Int32) (relevantRanks_o0 : Addr) (xs : List Int32) (ln : Int32) (xv : Int32) (h0 : Heap) (n0 : Nat) (Z0 : n0 ≤ h0.size) (N0 : Fr n0 locs) (X0 : Stand p l e ({ frames := 0, cells := 0, slots := 0, locals := 0 } : Room) s m args below meth c s₁ locs 0 0) (eH0 : s₁.heap = h0) (F_o0_relevantRanks : Fld Z h0 o0 "com/example/prior3/prior3/eval/JudgedRanking" "relevantRanks" "[I" (.ref relevantRanks_o0)) (V_relevantRanks_o0 : Ary tr Z h0 relevantRanks_o0 .int (xs.map Value.int)) (hln : ((xs.map Value.int).length.toInt32 = ln)) (hil : (ii < ln)) (hi0 : (¬ (ii < 0))) (hg : ((xs.map Value.int)[ii.toNatClampNeg]? = some (.int xv))) (hst : (p1 < xv))
    (k : ∀ (T' : State) (locs' : List Loc), Stand p l e ({ frames := 0, cells := 0, slots := 0, locals := 0 } : Room) s m args below meth c T' locs' 0 0 → T'.heap = h0 → Fr n0 locs' → n0 ≤ h0.size → Gt p.tables e below F (T'.setTop (mkF m 27 #[.val (.ref o0), .val (.int p1), .val (.int ii)] []))) :
    Gt p.tables e below F (s₁.setTop (mkF m 2 #[.val (.ref o0), .val (.int p1), .val (.int ii)] [])) := by
  refine own_iloadN X0 hx hby rfl d35_2 (pc' := 3) rfl ?_
  refine own_aloadN X0 hx hby rfl rfl d35_3 (pc' := 4) rfl ?_
  refine own_getF X0 hx hby hZ hown (host := "") (Or.inl (hw _ (mi 231 rfl))) Via.refl eH0 F_o0_relevantRanks d35_4 (pc' := 7) rfl (fun T1 X1 eH1 => ?_)
  refine own_alen X1 hx hby hZ eH1 V_relevantRanks_o0 (z := ln) hln d35_7 (pc' := 8) rfl ?_
  have hk2 : ii < ln := hil
  refine own_icF X1 hx hby d35_8 (own_ic_ge_p hk2) (pc' := 11) rfl ?_
  refine own_aloadN X1 hx hby rfl rfl d35_11 (pc' := 12) rfl ?_
  refine own_getF X1 hx hby hZ hown (host := "") (Or.inl (hw _ (mi 231 rfl))) Via.refl eH1 F_o0_relevantRanks d35_12 (pc' := 15) rfl (fun T3 X3 eH3 => ?_)
  refine own_iloadN X3 hx hby rfl d35_15 (pc' := 16) rfl ?_
  refine own_iaload X3 hx hby hZ eH3 V_relevantRanks_o0 hi0 (v := (.int xv)) hg d35_16 (pc' := 17) rfl ?_
  refine own_iloadN X3 hx hby rfl d35_17 (pc' := 18) rfl ?_
  have hk4 : p1 < xv := hst
  refine own_icT X3 hx hby d35_18 (own_ic_gt_p hk4) (by decide) (pc' := 27) (by decide) ?_
  exact k T3 _ X3 eH3 N0 Z0
theorem sgW3 {l : Launch} {Z : State} {a0 : Array Value} (hw : ∀ d ∈ tables_1, d.before a0 Z = true) {p : Program} {e : Env} {s : State} {m : MethodId} {args : Array Value} {below : List Frame} {meth : Method} {c : Code} {F : Outcome → State → Prop} (hx : p.tables.exec = Jvm.exec) (hby : c.code = prog_53_method_8_code) (hZ : Z.Warmed39 s.vm) (hml : c.maxLocals = 3) (hown : s.vm.findClass "com/example/prior3/prior3/eval/JudgedRanking" = some m.cls) {s₁ : State} {locs : List Loc} (o0 : Addr) (p1 : Int32) (ii : Int32) (relevantRanks_o0 : Addr) (xs : List Int32) (ln : Int32) (xv : Int32) (h0 : Heap) (n0 : Nat) (Z0 : n0 ≤ h0.size) (N0 : Fr n0 locs) (X0 : Stand p l e ({ frames := 0, cells := 0, slots := 0, locals := 0 } : Room) s m args below meth c s₁ locs 0 0) (eH0 : s₁.heap = h0) (F_o0_relevantRanks : Fld Z h0 o0 "com/example/prior3/prior3/eval/JudgedRanking" "relevantRanks" "[I" (.ref relevantRanks_o0)) (V_relevantRanks_o0 : Ary tr Z h0 relevantRanks_o0 .int (xs.map Value.int)) (hln : ((xs.map Value.int).length.toInt32 = ln)) (hil : (ii < ln)) (hi0 : (¬ (ii < 0))) (hg : ((xs.map Value.int)[ii.toNatClampNeg]? = some (.int xv))) (hst : (¬ (p1 < xv)))
    (k : ∀ (T' : State) (locs' : List Loc), Stand p l e ({ frames := 0, cells := 0, slots := 0, locals := 0 } : Room) s m args below meth c T' locs' 0 0 → T'.heap = h0 → Fr n0 locs' → n0 ≤ h0.size → Gt p.tables e below F (T'.setTop (mkF m 2 #[.val (.ref o0), .val (.int p1), .val (.int (ii + (1 : Int32)))] []))) :
    Gt p.tables e below F (s₁.setTop (mkF m 2 #[.val (.ref o0), .val (.int p1), .val (.int ii)] [])) := by
  refine own_iloadN X0 hx hby rfl d35_2 (pc' := 3) rfl ?_
  refine own_aloadN X0 hx hby rfl rfl d35_3 (pc' := 4) rfl ?_
  refine own_getF X0 hx hby hZ hown (host := "") (Or.inl (hw _ (mi 231 rfl))) Via.refl eH0 F_o0_relevantRanks d35_4 (pc' := 7) rfl (fun T1 X1 eH1 => ?_)
  refine own_alen X1 hx hby hZ eH1 V_relevantRanks_o0 (z := ln) hln d35_7 (pc' := 8) rfl ?_
  have hk2 : ii < ln := hil
  refine own_icF X1 hx hby d35_8 (own_ic_ge_p hk2) (pc' := 11) rfl ?_
  refine own_aloadN X1 hx hby rfl rfl d35_11 (pc' := 12) rfl ?_
  refine own_getF X1 hx hby hZ hown (host := "") (Or.inl (hw _ (mi 231 rfl))) Via.refl eH1 F_o0_relevantRanks d35_12 (pc' := 15) rfl (fun T3 X3 eH3 => ?_)
  refine own_iloadN X3 hx hby rfl d35_15 (pc' := 16) rfl ?_
  refine own_iaload X3 hx hby hZ eH3 V_relevantRanks_o0 hi0 (v := (.int xv)) hg d35_16 (pc' := 17) rfl ?_
  refine own_iloadN X3 hx hby rfl d35_17 (pc' := 18) rfl ?_
  have hk4 : ¬ (p1 < xv) := hst
  refine own_icF X3 hx hby d35_18 (own_ic_gt_n hk4) (pc' := 21) rfl ?_
  refine own_iinc X3 hx hby rfl (L' := #[.val (.ref o0), .val (.int p1), .val (.int (ii + (1 : Int32)))]) (by first | rfl | decide) d35_21 (pc' := 24) rfl ?_
  refine own_goto X3 hx hby d35_24 (by decide) (pc' := 2) (by decide) ?_
  exact k T3 _ X3 eH3 N0 Z0
theorem loopW {l : Launch} {Z : State} {a0 : Array Value} (hw : ∀ d ∈ tables_1, d.before a0 Z = true) {p : Program} {e : Env} {s : State} {m : MethodId} {args : Array Value} {below : List Frame} {meth : Method} {c : Code} {F : Outcome → State → Prop} (hx : p.tables.exec = Jvm.exec) (hby : c.code = prog_53_method_8_code) (hZ : Z.Warmed39 s.vm) (hml : c.maxLocals = 3) (hown : s.vm.findClass "com/example/prior3/prior3/eval/JudgedRanking" = some m.cls) (o0 ra : Addr) (p1 : Int32) (xs : List Int32) (n0 : Nat) (h0 : Heap) (hx5 : xs.length ≤ 5) (Z0 : n0 ≤ h0.size) (fR : Fld Z h0 o0 "com/example/prior3/prior3/eval/JudgedRanking" "relevantRanks" "[I" (.ref ra)) (vR : Ary tr Z h0 ra .int (xs.map Value.int)) :
    ∀ (k i : Nat) (T : State) (locs : List Loc), xs.length < k + i → i ≤ 5 → Stand p l e ({ frames := 0, cells := 0, slots := 0, locals := 0 } : Room) s m args below meth c T locs 0 0 → T.heap = h0 → Fr n0 locs →
      (∀ (T' : State) (locs' : List Loc), Stand p l e ({ frames := 0, cells := 0, slots := 0, locals := 0 } : Room) s m args below meth c T' locs' 0 0 → T'.heap = h0 → Fr n0 locs' → Gt p.tables e below F (T'.setTop (mkF m 27 #[.val (.ref o0), .val (.int p1), .val (.int (Int32.ofNat (i + tw (xs.drop i) p1)))] []))) → Gt p.tables e below F (T.setTop (mkF m 2 #[.val (.ref o0), .val (.int p1), .val (.int (Int32.ofNat i))] [])) := by
  intro k
  induction k with
  | zero =>
    intro i T locs hk hi X0 eH0 N0 kend
    have hin : ¬ (i < xs.length) := by omega
    refine sgW1 hw hx hby hZ hml hown o0 p1 (Int32.ofNat i) ra xs (Int32.ofNat xs.length) h0 n0 Z0 N0 X0 eH0 fR vR (own_lenI rfl) (fun q => hin ((own_ilt i (by omega) xs.length (by omega)).mp q)) (fun T' locs' X' e' N' Z' => ?_)
    have e := kend T' locs' X' e' N'
    rw [tw_end hin, Nat.add_zero] at e
    exact e
  | succ k ih =>
    intro i T locs hk hi X0 eH0 N0 kend
    by_cases hin : i < xs.length
    · by_cases hst : p1 < xs[i]
      · refine sgW2 hw hx hby hZ hml hown o0 p1 (Int32.ofNat i) ra xs (Int32.ofNat xs.length) xs[i] h0 n0 Z0 N0 X0 eH0 fR vR (own_lenI rfl) ((own_ilt i (by omega) xs.length (by omega)).mpr hin) (own_i32 i (by omega)).1 (by rw [(own_i32 i (by omega)).2]; exact own_mapat hin) hst (fun T' locs' X' e' N' Z' => ?_)
        have e := kend T' locs' X' e' N'
        rw [tw_stop hin hst, Nat.add_zero] at e
        exact e
      · refine sgW3 hw hx hby hZ hml hown o0 p1 (Int32.ofNat i) ra xs (Int32.ofNat xs.length) xs[i] h0 n0 Z0 N0 X0 eH0 fR vR (own_lenI rfl) ((own_ilt i (by omega) xs.length (by omega)).mpr hin) (own_i32 i (by omega)).1 (by rw [(own_i32 i (by omega)).2]; exact own_mapat hin) hst (fun T' locs' X' e' N' Z' => ?_)
        rw [own_ofs]
        refine ih (i + 1) T' locs' (by omega) (by omega) X' e' N' fun T2 locs2 a1 a2 a3 => ?_
        have e := kend T2 locs2 a1 a2 a3
        rw [tw_go hin hst, ← Nat.add_assoc, Nat.add_right_comm] at e
        exact e
    · refine sgW1 hw hx hby hZ hml hown o0 p1 (Int32.ofNat i) ra xs (Int32.ofNat xs.length) h0 n0 Z0 N0 X0 eH0 fR vR (own_lenI rfl) (fun q => hin ((own_ilt i (by omega) xs.length (by omega)).mp q)) (fun T' locs' X' e' N' Z' => ?_)
      have e := kend T' locs' X' e' N'
      rw [tw_end hin, Nat.add_zero] at e
      exact e
def Q35 (Z : State) (o0 : Addr) (p1 : Int32) (relevantRanks_o0 : Addr) (xs : List Int32) (h0 : Heap) (n0 : Nat) (v : Option Value) (h : Heap) (L : List Loc) : Prop := v = some (.int (Int32.ofNat (tw xs p1))) ∧ Fr n0 L ∧ h0 = h
theorem efW (m : MethodId) (x0 : Addr) (x1 : Int32) : entryFrame m #[(.ref x0), (.int x1)] 3 = mkF m 0 #[.val (.ref x0), .val (.int x1), .unset] [] := by first | (simp [entryFrame, mkF, argsToLocals, Value.category]; done) | rfl
theorem rm35 (l : Launch) (Z : State) (a0 : Array Value) (hw : ∀ d ∈ tables_1, d.before a0 Z = true) (ws : List Jvm.Cond) (o0 : Addr) (p1 : Int32) (relevantRanks_o0 : Addr) (xs : List Int32) (h0 : Heap) (n0 : Nat) (Z0 : n0 ≤ h0.size) (F_o0_relevantRanks : Fld Z h0 o0 "com/example/prior3/prior3/eval/JudgedRanking" "relevantRanks" "[I" (.ref relevantRanks_o0)) (V_relevantRanks_o0 : Ary tr Z h0 relevantRanks_o0 .int (xs.map Value.int)) (hx5 : xs.length ≤ 5) :
    MetFree l (⟨"com/example/prior3/prior3/eval/JudgedRanking", "retrievedWithin", "(I)I"⟩ : MethodName) (head1 (Jvm.Cond.code (⟨"com/example/prior3/prior3/eval/JudgedRanking", "retrievedWithin", "(I)I"⟩ : MethodName) prog_53_method_8_code 3 (some .int) :: ws) ({ frames := 0, cells := 0, slots := 0, locals := 0 } : Room)) (fun a U => a = #[(.ref o0), (.int p1)] ∧ Z.Warmed39 U.vm ∧ U.heap = h0) (fun _ _ _ _ _ => True) (fun _ U o U' => ∃ v L, o = .returned v ∧ Q35 Z o0 p1 relevantRanks_o0 xs h0 n0 v U'.heap L ∧ FrameEnd U o U' L ({ frames := 0, cells := 0, slots := 0, locals := 0 } : Room).cells ({ frames := 0, cells := 0, slots := 0, locals := 0 } : Room).slots) := by
  refine MetFree.of_bodySF (plainFor_of_name pn_com_example_prior3_prior3_eval_JudgedRanking) hisR ?_
  intro p e s m args below meth c s₁ Bd hml0 hP hK
  obtain ⟨rfl, hZ, hh⟩ := hP
  have hx := Bd.exec
  have hby := Bd.bytes
  have hml : c.maxLocals = 3 := hml0
  have hown : s.vm.findClass "com/example/prior3/prior3/eval/JudgedRanking" = some m.cls := findClass_of_methodNamed Bd.named
  have X0 : Stand p l e ({ frames := 0, cells := 0, slots := 0, locals := 0 } : Room) s m #[(.ref o0), (.int p1)] below meth c s₁ [] 0 0 := Stand.of_body Bd
  have eH0 : s₁.heap = h0 := by rw [← hh, Bd.state]; rfl
  show Gt p.tables e below (fun o U' => ∃ v L, o = .returned v ∧ Q35 Z o0 p1 relevantRanks_o0 xs h0 n0 v U'.heap L ∧ FrameEnd s o U' L ({ frames := 0, cells := 0, slots := 0, locals := 0 } : Room).cells ({ frames := 0, cells := 0, slots := 0, locals := 0 } : Room).slots) _
  refine own_cast (efW m o0 p1) ?_
  refine own_iconst X0 hx hby (v := (0 : Int32)) (by decide) d35_0 (pc' := 1) rfl ?_
  refine own_istoreN X0 hx hby (L' := #[.val (.ref o0), .val (.int p1), .val (.int (0 : Int32))]) rfl d35_1 (pc' := 2) rfl ?_
  refine loopW hw hx hby hZ hml hown o0 relevantRanks_o0 p1 xs n0 h0 hx5 Z0 F_o0_relevantRanks V_relevantRanks_o0 6 0 s₁ [] (by omega) (by decide) X0 eH0 (Fr.nil n0) fun T' locs' X' e' N' => ?_
  rw [List.drop_zero, Nat.zero_add]
  refine own_iloadN X' hx hby rfl d35_27 (pc' := 28) rfl ?_
  exact own_retI X' hx hby Bd.notSynchronized Bd.returns d35_28 (by decide) (by decide) e' ⟨rfl, N', rfl⟩

theorem sgP0 {l : Launch} {Z : State} {a0 : Array Value} (hw : ∀ d ∈ tables_1, d.before a0 Z = true) {p : Program} {e : Env} {s : State} {m : MethodId} {args : Array Value} {below : List Frame} {meth : Method} {c : Code} {F : Outcome → State → Prop} (hx : p.tables.exec = Jvm.exec) (hby : c.code = prog_53_method_7_code) (hZ : Z.Warmed39 s.vm) (hml : c.maxLocals = 7) (hown : s.vm.findClass "com/example/prior3/prior3/eval/JudgedRanking" = some m.cls) {s₁ : State} {locs : List Loc} (o0 : Addr) (p1 : Int32) (relevantRanks_o0 : Addr) (xs : List Int32) (h0 : Heap) (n0 : Nat) (Z0 : n0 ≤ h0.size) (N0 : Fr n0 locs) (X0 : Stand p l e ({ frames := 1, cells := 0, slots := 0, locals := 14 } : Room) s m args below meth c s₁ locs 0 0) (eH0 : s₁.heap = h0) (E_o0 : Exa Z h0 o0 "com/example/prior3/prior3/eval/JudgedRanking") (F_o0_relevantRanks : Fld Z h0 o0 "com/example/prior3/prior3/eval/JudgedRanking" "relevantRanks" "[I" (.ref relevantRanks_o0)) (V_relevantRanks_o0 : Ary tr Z h0 relevantRanks_o0 .int (xs.map Value.int)) (hx5 : (xs.length ≤ 5))
    (k : ∀ (T' : State) (locs' : List Loc), Stand p l e ({ frames := 1, cells := 0, slots := 0, locals := 14 } : Room) s m args below meth c T' locs' 0 0 → T'.heap = h0 → Fr n0 locs' → n0 ≤ h0.size → Gt p.tables e below F (T'.setTop (mkF m 11 #[.val (.ref o0), .val (.int p1), .val (.int (Int32.ofNat (tw xs p1))), .val (.long (0 : Int64)), .second, .val (.int (0 : Int32)), .unset] []))) :
    Gt p.tables e below F (s₁.setTop (mkF m 0 #[.val (.ref o0), .val (.int p1), .unset, .unset, .unset, .unset, .unset] [])) := by
  refine own_aloadN X0 hx hby rfl rfl d34_0 (pc' := 1) rfl ?_
  refine own_iloadN X0 hx hby rfl d34_1 (pc' := 2) rfl ?_
  refine own_private X0 hx hby hZ (y := (⟨"com/example/prior3/prior3/eval/JudgedRanking", "retrievedWithin", "(I)I"⟩ : MethodName)) (rest := []) hown (hw _ (mi 240 rfl)) (hw _ (mi 241 rfl)) (hw _ (mi 170 rfl)) (hw _ (mi 242 rfl)) (hw _ (mi 243 rfl)) (hw _ (mi 171 rfl)) (by decide) (rm35 l Z a0 hw [] o0 p1 relevantRanks_o0 xs h0 n0 Z0 F_o0_relevantRanks V_relevantRanks_o0 hx5) eH0 (by rw [hml]; rfl) (a := o0) E_o0 (argsL := [(.int p1)]) rfl (lenOf pd_24 rfl) rfl d34_2 (pc' := 5) rfl (by decide) (W := 0) (Nat.le_of_eq rfl) (by decide) (by decide) (by decide) (fun T1 h1 Lc1 v1r X1 eH1 hQ1 => ?_)
  obtain ⟨rfl, Nq1, rfl⟩ := hQ1
  have N1 := Fr.app N0 Nq1
  refine own_istoreN X1 hx hby (L' := #[.val (.ref o0), .val (.int p1), .val (.int (Int32.ofNat (tw xs p1))), .unset, .unset, .unset, .unset]) rfl d34_5 (pc' := 6) rfl ?_
  refine own_lconst X1 hx hby (v := (0 : Int64)) (by decide) d34_6 (pc' := 7) rfl ?_
  refine own_lstoreN X1 hx hby (L' := #[.val (.ref o0), .val (.int p1), .val (.int (Int32.ofNat (tw xs p1))), .val (.long (0 : Int64)), .second, .unset, .unset]) rfl d34_7 (pc' := 8) rfl ?_
  refine own_iconst X1 hx hby (v := (0 : Int32)) (by decide) d34_8 (pc' := 9) rfl ?_
  refine own_istore X1 hx hby (L' := #[.val (.ref o0), .val (.int p1), .val (.int (Int32.ofNat (tw xs p1))), .val (.long (0 : Int64)), .second, .val (.int (0 : Int32)), .unset]) rfl d34_9 (pc' := 11) rfl ?_
  exact k T1 _ X1 eH1 N1 Z0
theorem sgP1 {l : Launch} {Z : State} {a0 : Array Value} (hw : ∀ d ∈ tables_1, d.before a0 Z = true) {p : Program} {e : Env} {s : State} {m : MethodId} {args : Array Value} {below : List Frame} {meth : Method} {c : Code} {F : Outcome → State → Prop} (hx : p.tables.exec = Jvm.exec) (hby : c.code = prog_53_method_7_code) (hZ : Z.Warmed39 s.vm) (hml : c.maxLocals = 7) (hown : s.vm.findClass "com/example/prior3/prior3/eval/JudgedRanking" = some m.cls) {s₁ : State} {locs : List Loc} (o0 : Addr) (p1 : Int32) (ff : Int32) (rs : Int64) (ii : Int32) (h0 : Heap) (n0 : Nat) (Z0 : n0 ≤ h0.size) (N0 : Fr n0 locs) (X0 : Stand p l e ({ frames := 1, cells := 0, slots := 0, locals := 14 } : Room) s m args below meth c s₁ locs 0 0) (eH0 : s₁.heap = h0) (hge : (¬ (ii < ff)))
    (k : ∀ (T' : State) (locs' : List Loc), Stand p l e ({ frames := 1, cells := 0, slots := 0, locals := 14 } : Room) s m args below meth c T' locs' 0 0 → T'.heap = h0 → Fr n0 locs' → n0 ≤ h0.size → Gt p.tables e below F (T'.setTop (mkF m 34 #[.val (.ref o0), .val (.int p1), .val (.int ff), .val (.long rs), .second, .val (.int ii), .unset] []))) :
    Gt p.tables e below F (s₁.setTop (mkF m 11 #[.val (.ref o0), .val (.int p1), .val (.int ff), .val (.long rs), .second, .val (.int ii), .unset] [])) := by
  refine own_iload X0 hx hby rfl d34_11 (pc' := 13) rfl ?_
  refine own_iloadN X0 hx hby rfl d34_13 (pc' := 14) rfl ?_
  have hk1 : ¬ (ii < ff) := hge
  refine own_icT X0 hx hby d34_14 (own_ic_ge_n hk1) (by decide) (pc' := 34) (by decide) ?_
  exact k s₁ _ X0 eH0 N0 Z0
theorem sgP2 {l : Launch} {Z : State} {a0 : Array Value} (hw : ∀ d ∈ tables_1, d.before a0 Z = true) {p : Program} {e : Env} {s : State} {m : MethodId} {args : Array Value} {below : List Frame} {meth : Method} {c : Code} {F : Outcome → State → Prop} (hx : p.tables.exec = Jvm.exec) (hby : c.code = prog_53_method_7_code) (hZ : Z.Warmed39 s.vm) (hml : c.maxLocals = 7) (hown : s.vm.findClass "com/example/prior3/prior3/eval/JudgedRanking" = some m.cls) {s₁ : State} {locs : List Loc} (o0 : Addr) (p1 : Int32) (ff : Int32) (rs : Int64) (ii : Int32) (relevantRanks_o0 : Addr) (xs : List Int32) (xv : Int32) (h0 : Heap) (n0 : Nat) (Z0 : n0 ≤ h0.size) (N0 : Fr n0 locs) (X0 : Stand p l e ({ frames := 1, cells := 0, slots := 0, locals := 14 } : Room) s m args below meth c s₁ locs 0 0) (eH0 : s₁.heap = h0) (E_o0 : Exa Z h0 o0 "com/example/prior3/prior3/eval/JudgedRanking") (F_o0_relevantRanks : Fld Z h0 o0 "com/example/prior3/prior3/eval/JudgedRanking" "relevantRanks" "[I" (.ref relevantRanks_o0)) (V_relevantRanks_o0 : Ary tr Z h0 relevantRanks_o0 .int (xs.map Value.int)) (hx5 : (xs.length ≤ 5)) (hil : (ii < ff)) (hi0 : (¬ (ii < 0))) (hg : ((xs.map Value.int)[ii.toNatClampNeg]? = some (.int xv)))
    (k : ∀ (T' : State) (locs' : List Loc), Stand p l e ({ frames := 1, cells := 0, slots := 0, locals := 14 } : Room) s m args below meth c T' locs' 0 0 → T'.heap = h0 → Fr n0 locs' → n0 ≤ h0.size → Gt p.tables e below F (T'.setTop (mkF m 11 #[.val (.ref o0), .val (.int p1), .val (.int ff), .val (.long (rs + (xv.toInt64))), .second, .val (.int (ii + (1 : Int32))), .unset] []))) :
    Gt p.tables e below F (s₁.setTop (mkF m 11 #[.val (.ref o0), .val (.int p1), .val (.int ff), .val (.long rs), .second, .val (.int ii), .unset] [])) := by
  refine own_iload X0 hx hby rfl d34_11 (pc' := 13) rfl ?_
  refine own_iloadN X0 hx hby rfl d34_13 (pc' := 14) rfl ?_
  have hk1 : ii < ff := hil
  refine own_icF X0 hx hby d34_14 (own_ic_ge_p hk1) (pc' := 17) rfl ?_
  refine own_lloadN X0 hx hby rfl d34_17 (pc' := 18) rfl ?_
  refine own_aloadN X0 hx hby rfl rfl d34_18 (pc' := 19) rfl ?_
  refine own_getF X0 hx hby hZ hown (host := "") (Or.inl (hw _ (mi 231 rfl))) Via.refl eH0 F_o0_relevantRanks d34_19 (pc' := 22) rfl (fun T2 X2 eH2 => ?_)
  refine own_iload X2 hx hby rfl d34_22 (pc' := 24) rfl ?_
  refine own_iaload X2 hx hby hZ eH2 V_relevantRanks_o0 hi0 (v := (.int xv)) hg d34_24 (pc' := 25) rfl ?_
  refine own_i2l X2 hx hby rfl d34_25 (pc' := 26) rfl ?_
  refine own_ladd X2 hx hby rfl d34_26 (pc' := 27) rfl ?_
  refine own_lstoreN X2 hx hby (L' := #[.val (.ref o0), .val (.int p1), .val (.int ff), .val (.long (rs + (xv.toInt64))), .second, .val (.int ii), .unset]) rfl d34_27 (pc' := 28) rfl ?_
  refine own_iinc X2 hx hby rfl (L' := #[.val (.ref o0), .val (.int p1), .val (.int ff), .val (.long (rs + (xv.toInt64))), .second, .val (.int (ii + (1 : Int32))), .unset]) (by first | rfl | decide) d34_28 (pc' := 31) rfl ?_
  refine own_goto X2 hx hby d34_31 (by decide) (pc' := 11) (by decide) ?_
  exact k T2 _ X2 eH2 N0 Z0
theorem sgP3 {l : Launch} {Z : State} {a0 : Array Value} (hw : ∀ d ∈ tables_1, d.before a0 Z = true) {p : Program} {e : Env} {s : State} {m : MethodId} {args : Array Value} {below : List Frame} {meth : Method} {c : Code} {F : Outcome → State → Prop} (hx : p.tables.exec = Jvm.exec) (hby : c.code = prog_53_method_7_code) (hZ : Z.Warmed39 s.vm) (hml : c.maxLocals = 7) (hown : s.vm.findClass "com/example/prior3/prior3/eval/JudgedRanking" = some m.cls) {s₁ : State} {locs : List Loc} (o0 : Addr) (p1 : Int32) (ff : Int32) (rs : Int64) (ii : Int32) (h0 : Heap) (n0 : Nat) (Z0 : n0 ≤ h0.size) (N0 : Fr n0 locs) (X0 : Stand p l e ({ frames := 1, cells := 0, slots := 0, locals := 14 } : Room) s m args below meth c s₁ locs 0 0) (eH0 : s₁.heap = h0)
    (k : ∀ (T' : State) (locs' : List Loc), Stand p l e ({ frames := 1, cells := 0, slots := 0, locals := 14 } : Room) s m args below meth c T' locs' 0 0 → T'.heap = h0 → Fr n0 locs' → n0 ≤ h0.size → Gt p.tables e below F (T'.setTop (mkF m 39 #[.val (.ref o0), .val (.int p1), .val (.int ff), .val (.long rs), .second, .val (.int (ff + (1 : Int32))), .unset] []))) :
    Gt p.tables e below F (s₁.setTop (mkF m 34 #[.val (.ref o0), .val (.int p1), .val (.int ff), .val (.long rs), .second, .val (.int ii), .unset] [])) := by
  refine own_iloadN X0 hx hby rfl d34_34 (pc' := 35) rfl ?_
  refine own_iconst X0 hx hby (v := (1 : Int32)) (by decide) d34_35 (pc' := 36) rfl ?_
  refine own_iadd X0 hx hby rfl d34_36 (pc' := 37) rfl ?_
  refine own_istore X0 hx hby (L' := #[.val (.ref o0), .val (.int p1), .val (.int ff), .val (.long rs), .second, .val (.int (ff + (1 : Int32))), .unset]) rfl d34_37 (pc' := 39) rfl ?_
  exact k s₁ _ X0 eH0 N0 Z0
theorem sgP4 {l : Launch} {Z : State} {a0 : Array Value} (hw : ∀ d ∈ tables_1, d.before a0 Z = true) {p : Program} {e : Env} {s : State} {m : MethodId} {args : Array Value} {below : List Frame} {meth : Method} {c : Code} {F : Outcome → State → Prop} (hx : p.tables.exec = Jvm.exec) (hby : c.code = prog_53_method_7_code) (hZ : Z.Warmed39 s.vm) (hml : c.maxLocals = 7) (hown : s.vm.findClass "com/example/prior3/prior3/eval/JudgedRanking" = some m.cls) {s₁ : State} {locs : List Loc} (o0 : Addr) (p1 : Int32) (ff : Int32) (rs : Int64) (ii : Int32) (relevantCount_o0 : Int32) (h0 : Heap) (n0 : Nat) (Z0 : n0 ≤ h0.size) (N0 : Fr n0 locs) (X0 : Stand p l e ({ frames := 1, cells := 0, slots := 0, locals := 14 } : Room) s m args below meth c s₁ locs 0 0) (eH0 : s₁.heap = h0) (F_o0_relevantCount : Fld Z h0 o0 "com/example/prior3/prior3/eval/JudgedRanking" "relevantCount" "I" (.int relevantCount_o0)) (hgt : (relevantCount_o0 < ii))
    (k : ∀ (T' : State) (locs' : List Loc), Stand p l e ({ frames := 1, cells := 0, slots := 0, locals := 14 } : Room) s m args below meth c T' locs' 0 0 → T'.heap = h0 → Fr n0 locs' → n0 ≤ h0.size → Gt p.tables e below F (T'.setTop (mkF m 63 #[.val (.ref o0), .val (.int p1), .val (.int ff), .val (.long rs), .second, .val (.int ii), .unset] []))) :
    Gt p.tables e below F (s₁.setTop (mkF m 39 #[.val (.ref o0), .val (.int p1), .val (.int ff), .val (.long rs), .second, .val (.int ii), .unset] [])) := by
  refine own_iload X0 hx hby rfl d34_39 (pc' := 41) rfl ?_
  refine own_aloadN X0 hx hby rfl rfl d34_41 (pc' := 42) rfl ?_
  refine own_getF X0 hx hby hZ hown (host := "") (Or.inl (hw _ (mi 233 rfl))) Via.refl eH0 F_o0_relevantCount d34_42 (pc' := 45) rfl (fun T1 X1 eH1 => ?_)
  have hk2 : relevantCount_o0 < ii := hgt
  refine own_icT X1 hx hby d34_45 (own_ic_gt_p hk2) (by decide) (pc' := 63) (by decide) ?_
  exact k T1 _ X1 eH1 N0 Z0
theorem sgP5 {l : Launch} {Z : State} {a0 : Array Value} (hw : ∀ d ∈ tables_1, d.before a0 Z = true) {p : Program} {e : Env} {s : State} {m : MethodId} {args : Array Value} {below : List Frame} {meth : Method} {c : Code} {F : Outcome → State → Prop} (hx : p.tables.exec = Jvm.exec) (hby : c.code = prog_53_method_7_code) (hZ : Z.Warmed39 s.vm) (hml : c.maxLocals = 7) (hown : s.vm.findClass "com/example/prior3/prior3/eval/JudgedRanking" = some m.cls) {s₁ : State} {locs : List Loc} (o0 : Addr) (p1 : Int32) (ff : Int32) (rs : Int64) (ii : Int32) (relevantCount_o0 : Int32) (h0 : Heap) (n0 : Nat) (Z0 : n0 ≤ h0.size) (N0 : Fr n0 locs) (X0 : Stand p l e ({ frames := 1, cells := 0, slots := 0, locals := 14 } : Room) s m args below meth c s₁ locs 0 0) (eH0 : s₁.heap = h0) (F_o0_relevantCount : Fld Z h0 o0 "com/example/prior3/prior3/eval/JudgedRanking" "relevantCount" "I" (.int relevantCount_o0)) (hgt : (¬ (relevantCount_o0 < ii)))
    (k : ∀ (T' : State) (locs' : List Loc), Stand p l e ({ frames := 1, cells := 0, slots := 0, locals := 14 } : Room) s m args below meth c T' locs' 0 0 → T'.heap = h0 → Fr n0 locs' → n0 ≤ h0.size → Gt p.tables e below F (T'.setTop (mkF m 39 #[.val (.ref o0), .val (.int p1), .val (.int ff), .val (.long (rs + ((p1.toInt64) + (ii.toInt64)))), .second, .val (.int (ii + (1 : Int32))), .unset] []))) :
    Gt p.tables e below F (s₁.setTop (mkF m 39 #[.val (.ref o0), .val (.int p1), .val (.int ff), .val (.long rs), .second, .val (.int ii), .unset] [])) := by
  refine own_iload X0 hx hby rfl d34_39 (pc' := 41) rfl ?_
  refine own_aloadN X0 hx hby rfl rfl d34_41 (pc' := 42) rfl ?_
  refine own_getF X0 hx hby hZ hown (host := "") (Or.inl (hw _ (mi 233 rfl))) Via.refl eH0 F_o0_relevantCount d34_42 (pc' := 45) rfl (fun T1 X1 eH1 => ?_)
  have hk2 : ¬ (relevantCount_o0 < ii) := hgt
  refine own_icF X1 hx hby d34_45 (own_ic_gt_n hk2) (pc' := 48) rfl ?_
  refine own_lloadN X1 hx hby rfl d34_48 (pc' := 49) rfl ?_
  refine own_iloadN X1 hx hby rfl d34_49 (pc' := 50) rfl ?_
  refine own_i2l X1 hx hby rfl d34_50 (pc' := 51) rfl ?_
  refine own_iload X1 hx hby rfl d34_51 (pc' := 53) rfl ?_
  refine own_i2l X1 hx hby rfl d34_53 (pc' := 54) rfl ?_
  refine own_ladd X1 hx hby rfl d34_54 (pc' := 55) rfl ?_
  refine own_ladd X1 hx hby rfl d34_55 (pc' := 56) rfl ?_
  refine own_lstoreN X1 hx hby (L' := #[.val (.ref o0), .val (.int p1), .val (.int ff), .val (.long (rs + ((p1.toInt64) + (ii.toInt64)))), .second, .val (.int ii), .unset]) rfl d34_56 (pc' := 57) rfl ?_
  refine own_iinc X1 hx hby rfl (L' := #[.val (.ref o0), .val (.int p1), .val (.int ff), .val (.long (rs + ((p1.toInt64) + (ii.toInt64)))), .second, .val (.int (ii + (1 : Int32))), .unset]) (by first | rfl | decide) d34_57 (pc' := 60) rfl ?_
  refine own_goto X1 hx hby d34_60 (by decide) (pc' := 39) (by decide) ?_
  exact k T1 _ X1 eH1 N0 Z0
theorem loopP {l : Launch} {Z : State} {a0 : Array Value} (hw : ∀ d ∈ tables_1, d.before a0 Z = true) {p : Program} {e : Env} {s : State} {m : MethodId} {args : Array Value} {below : List Frame} {meth : Method} {c : Code} {F : Outcome → State → Prop} (hx : p.tables.exec = Jvm.exec) (hby : c.code = prog_53_method_7_code) (hZ : Z.Warmed39 s.vm) (hml : c.maxLocals = 7) (hown : s.vm.findClass "com/example/prior3/prior3/eval/JudgedRanking" = some m.cls) (o0 ra : Addr) (p1 : Int32) (xs : List Int32) (f n0 : Nat) (h0 : Heap) (hx5 : xs.length ≤ 5) (hf : f ≤ xs.length) (Z0 : n0 ≤ h0.size) (eO : Exa Z h0 o0 "com/example/prior3/prior3/eval/JudgedRanking") (fR : Fld Z h0 o0 "com/example/prior3/prior3/eval/JudgedRanking" "relevantRanks" "[I" (.ref ra)) (vR : Ary tr Z h0 ra .int (xs.map Value.int)) :
    ∀ (k i : Nat) (rs : Int64) (T : State) (locs : List Loc), f < k + i → i ≤ 5 → Stand p l e ({ frames := 1, cells := 0, slots := 0, locals := 14 } : Room) s m args below meth c T locs 0 0 → T.heap = h0 → Fr n0 locs →
      (∀ (T' : State) (locs' : List Loc) (z : Int32), Stand p l e ({ frames := 1, cells := 0, slots := 0, locals := 14 } : Room) s m args below meth c T' locs' 0 0 → T'.heap = h0 → Fr n0 locs' → Gt p.tables e below F (T'.setTop (mkF m 34 #[.val (.ref o0), .val (.int p1), .val (.int (Int32.ofNat f)), .val (.long (s1 ((xs.take f).drop i) rs)), .second, .val (.int z), .unset] []))) → Gt p.tables e below F (T.setTop (mkF m 11 #[.val (.ref o0), .val (.int p1), .val (.int (Int32.ofNat f)), .val (.long rs), .second, .val (.int (Int32.ofNat i)), .unset] [])) := by
  intro k
  induction k with
  | zero =>
    intro i rs T locs hk hi X0 eH0 N0 kend
    have hin : ¬ (i < f) := by omega
    refine sgP1 hw hx hby hZ hml hown o0 p1 (Int32.ofNat f) rs (Int32.ofNat i) h0 n0 Z0 N0 X0 eH0 (fun q => hin ((own_ilt i (by omega) f (by omega)).mp q)) (fun T' locs' X' e' N' Z' => ?_)
    have e := kend T' locs' (Int32.ofNat i) X' e' N'
    rw [s1_end hin] at e
    exact e
  | succ k ih =>
    intro i rs T locs hk hi X0 eH0 N0 kend
    by_cases hin : i < f
    · have hix : i < xs.length := by omega
      refine sgP2 hw hx hby hZ hml hown o0 p1 (Int32.ofNat f) rs (Int32.ofNat i) ra xs xs[i] h0 n0 Z0 N0 X0 eH0 eO fR vR hx5 ((own_ilt i (by omega) f (by omega)).mpr hin) (own_i32 i (by omega)).1 (by rw [(own_i32 i (by omega)).2]; exact own_mapat hix) (fun T' locs' X' e' N' Z' => ?_)
      rw [own_ofs]
      refine ih (i + 1) _ T' locs' (by omega) (by omega) X' e' N' fun T2 locs2 z a1 a2 a3 => ?_
      have e := kend T2 locs2 z a1 a2 a3
      rw [s1_go hin hf hix] at e
      exact e
    · refine sgP1 hw hx hby hZ hml hown o0 p1 (Int32.ofNat f) rs (Int32.ofNat i) h0 n0 Z0 N0 X0 eH0 (fun q => hin ((own_ilt i (by omega) f (by omega)).mp q)) (fun T' locs' X' e' N' Z' => ?_)
      have e := kend T' locs' (Int32.ofNat i) X' e' N'
      rw [s1_end hin] at e
      exact e
theorem loopQ {l : Launch} {Z : State} {a0 : Array Value} (hw : ∀ d ∈ tables_1, d.before a0 Z = true) {p : Program} {e : Env} {s : State} {m : MethodId} {args : Array Value} {below : List Frame} {meth : Method} {c : Code} {F : Outcome → State → Prop} (hx : p.tables.exec = Jvm.exec) (hby : c.code = prog_53_method_7_code) (hZ : Z.Warmed39 s.vm) (hml : c.maxLocals = 7) (hown : s.vm.findClass "com/example/prior3/prior3/eval/JudgedRanking" = some m.cls) (o0 : Addr) (p1 : Int32) (f cN n0 : Nat) (h0 : Heap) (hc7 : cN ≤ 8) (Z0 : n0 ≤ h0.size) (fC : Fld Z h0 o0 "com/example/prior3/prior3/eval/JudgedRanking" "relevantCount" "I" (.int (Int32.ofNat cN))) :
    ∀ (k i : Nat) (rs : Int64) (T : State) (locs : List Loc), cN + 1 = k + i → i ≤ 9 → Stand p l e ({ frames := 1, cells := 0, slots := 0, locals := 14 } : Room) s m args below meth c T locs 0 0 → T.heap = h0 → Fr n0 locs →
      (∀ (T' : State) (locs' : List Loc) (z : Int32), Stand p l e ({ frames := 1, cells := 0, slots := 0, locals := 14 } : Room) s m args below meth c T' locs' 0 0 → T'.heap = h0 → Fr n0 locs' → Gt p.tables e below F (T'.setTop (mkF m 63 #[.val (.ref o0), .val (.int p1), .val (.int (Int32.ofNat f)), .val (.long (s2 k i (p1.toInt64) rs)), .second, .val (.int z), .unset] []))) → Gt p.tables e below F (T.setTop (mkF m 39 #[.val (.ref o0), .val (.int p1), .val (.int (Int32.ofNat f)), .val (.long rs), .second, .val (.int (Int32.ofNat i)), .unset] [])) := by
  intro k
  induction k with
  | zero =>
    intro i rs T locs hk hi X0 eH0 N0 kend
    have hin : cN < i := by omega
    refine sgP4 hw hx hby hZ hml hown o0 p1 (Int32.ofNat f) rs (Int32.ofNat i) (Int32.ofNat cN) h0 n0 Z0 N0 X0 eH0 fC ((own_jlt cN (by omega) i (by omega)).mpr hin) (fun T' locs' X' e' N' Z' => ?_)
    exact kend T' locs' _ X' e' N'
  | succ k ih =>
    intro i rs T locs hk hi X0 eH0 N0 kend
    have hin : ¬ (cN < i) := by omega
    refine sgP5 hw hx hby hZ hml hown o0 p1 (Int32.ofNat f) rs (Int32.ofNat i) (Int32.ofNat cN) h0 n0 Z0 N0 X0 eH0 fC (fun q => hin ((own_jlt cN (by omega) i (by omega)).mp q)) (fun T' locs' X' e' N' Z' => ?_)
    rw [own_ofs]
    exact ih (i + 1) _ T' locs' (by omega) (by omega) X' e' N' fun T2 locs2 z a1 a2 a3 => kend T2 locs2 z a1 a2 a3
def Q34 (Z : State) (o0 : Addr) (p1 : Int32) (relevantRanks_o0 : Addr) (relevantCount_o0 : Int32) (xs : List Int32) (cN : Nat) (h0 : Heap) (n0 : Nat) (v : Option Value) (h : Heap) (L : List Loc) : Prop := v = some (.double (FP.dsub (4607182418800017408 : UInt64) (FP.ddiv (FP.dsub (FP.ddiv (FP.l2d (s2 (cN - tw xs p1) (tw xs p1 + 1) (p1.toInt64) (s1 (xs.take (tw xs p1)) (0 : Int64)))) (FP.i2d relevantCount_o0)) (FP.ddiv (FP.i2d (relevantCount_o0 + (1 : Int32))) (4611686018427387904 : UInt64))) (FP.i2d p1)))) ∧ Fr n0 L ∧ h0 = h
theorem efP (m : MethodId) (x0 : Addr) (x1 : Int32) : entryFrame m #[(.ref x0), (.int x1)] 7 = mkF m 0 #[.val (.ref x0), .val (.int x1), .unset, .unset, .unset, .unset, .unset] [] := by first | (simp [entryFrame, mkF, argsToLocals, Value.category]; done) | rfl
theorem rm34 (l : Launch) (Z : State) (a0 : Array Value) (hw : ∀ d ∈ tables_1, d.before a0 Z = true) (ws : List Jvm.Cond) (o0 : Addr) (p1 : Int32) (relevantRanks_o0 : Addr) (relevantCount_o0 : Int32) (xs : List Int32) (cN : Nat) (h0 : Heap) (n0 : Nat) (Z0 : n0 ≤ h0.size) (E_o0 : Exa Z h0 o0 "com/example/prior3/prior3/eval/JudgedRanking") (F_o0_relevantRanks : Fld Z h0 o0 "com/example/prior3/prior3/eval/JudgedRanking" "relevantRanks" "[I" (.ref relevantRanks_o0)) (F_o0_relevantCount : Fld Z h0 o0 "com/example/prior3/prior3/eval/JudgedRanking" "relevantCount" "I" (.int relevantCount_o0)) (V_relevantRanks_o0 : Ary tr Z h0 relevantRanks_o0 .int (xs.map Value.int)) (hx5 : xs.length ≤ 5) (hcn : relevantCount_o0 = Int32.ofNat cN) (hc8 : cN ≤ 8) (hfc : tw xs p1 ≤ cN) (hcp : 0 < relevantCount_o0.toInt) (hdp : 0 < p1.toInt) :
    MetFree l (⟨"com/example/prior3/prior3/eval/JudgedRanking", "pres", "(I)D"⟩ : MethodName) (head1 (Jvm.Cond.code (⟨"com/example/prior3/prior3/eval/JudgedRanking", "pres", "(I)D"⟩ : MethodName) prog_53_method_7_code 7 (some .double) :: ws) ({ frames := 1, cells := 0, slots := 0, locals := 14 } : Room)) (fun a U => a = #[(.ref o0), (.int p1)] ∧ Z.Warmed39 U.vm ∧ U.heap = h0) (fun _ _ _ _ _ => True) (fun _ U o U' => ∃ v L, o = .returned v ∧ Q34 Z o0 p1 relevantRanks_o0 relevantCount_o0 xs cN h0 n0 v U'.heap L ∧ FrameEnd U o U' L ({ frames := 1, cells := 0, slots := 0, locals := 14 } : Room).cells ({ frames := 1, cells := 0, slots := 0, locals := 14 } : Room).slots) := by
  refine MetFree.of_bodySF (plainFor_of_name pn_com_example_prior3_prior3_eval_JudgedRanking) hisR ?_
  intro p e s m args below meth c s₁ Bd hml0 hP hK
  obtain ⟨rfl, hZ, hh⟩ := hP
  have hx := Bd.exec
  have hby := Bd.bytes
  have hml : c.maxLocals = 7 := hml0
  have hown : s.vm.findClass "com/example/prior3/prior3/eval/JudgedRanking" = some m.cls := findClass_of_methodNamed Bd.named
  have X0 : Stand p l e ({ frames := 1, cells := 0, slots := 0, locals := 14 } : Room) s m #[(.ref o0), (.int p1)] below meth c s₁ [] 0 0 := Stand.of_body Bd
  have eH0 : s₁.heap = h0 := by rw [← hh, Bd.state]; rfl
  have N0 := Fr.nil n0
  show Gt p.tables e below (fun o U' => ∃ v L, o = .returned v ∧ Q34 Z o0 p1 relevantRanks_o0 relevantCount_o0 xs cN h0 n0 v U'.heap L ∧ FrameEnd s o U' L ({ frames := 1, cells := 0, slots := 0, locals := 14 } : Room).cells ({ frames := 1, cells := 0, slots := 0, locals := 14 } : Room).slots) _
  refine own_cast (efP m o0 p1) ?_
  have htl := tw_le xs p1
  have hpn := own_pnn (s2 (cN - tw xs p1) (tw xs p1 + 1) (p1.toInt64) (s1 (xs.take (tw xs p1)) (0 : Int64))) hcp hdp
  refine sgP0 hw hx hby hZ hml hown o0 p1 relevantRanks_o0 xs h0 n0 Z0 N0 X0 eH0 E_o0 F_o0_relevantRanks V_relevantRanks_o0 hx5 (fun T1 locs1 X1 e1 N1 Z1 => ?_)
  refine loopP hw hx hby hZ hml hown o0 relevantRanks_o0 p1 xs (tw xs p1) n0 h0 hx5 htl Z0 E_o0 F_o0_relevantRanks V_relevantRanks_o0 6 0 _ T1 locs1 (by omega) (by decide) X1 e1 N1 fun T2 locs2 z2 X2 e2 N2 => ?_
  rw [List.drop_zero]
  refine sgP3 hw hx hby hZ hml hown o0 p1 (Int32.ofNat (tw xs p1)) (s1 (xs.take (tw xs p1)) (0 : Int64)) z2 h0 n0 Z0 N2 X2 e2  (fun T3 locs3 X3 e3 N3 Z3 => ?_)
  rw [own_ofs]
  refine loopQ hw hx hby hZ hml hown o0 p1 (tw xs p1) cN n0 h0 hc8 Z0 (hcn ▸ F_o0_relevantCount) (cN - tw xs p1) (tw xs p1 + 1) _ T3 locs3 (by omega) (by omega) X3 e3 N3 fun T4 locs4 z4 X4 e4 N4 => ?_
  refine own_lloadN X4 hx hby rfl d34_63 (pc' := 64) rfl ?_
  refine own_l2d X4 hx hby rfl d34_64 (pc' := 65) rfl ?_
  refine own_aloadN X4 hx hby rfl rfl d34_65 (pc' := 66) rfl ?_
  refine own_getF X4 hx hby hZ hown (host := "") (Or.inl (hw _ (mi 233 rfl))) Via.refl e4 F_o0_relevantCount d34_66 (pc' := 69) rfl (fun T1 X1 eH1 => ?_)
  refine own_i2d X1 hx hby rfl d34_69 (pc' := 70) rfl ?_
  refine own_ddiv X1 hx hby hpn.1 rfl d34_70 (pc' := 71) rfl ?_
  refine own_dstore X1 hx hby (L' := #[.val (.ref o0), .val (.int p1), .val (.int (Int32.ofNat (tw xs p1))), .val (.long (s2 (cN - tw xs p1) (tw xs p1 + 1) (p1.toInt64) (s1 (xs.take (tw xs p1)) (0 : Int64)))), .second, .val (.double (FP.ddiv (FP.l2d (s2 (cN - tw xs p1) (tw xs p1 + 1) (p1.toInt64) (s1 (xs.take (tw xs p1)) (0 : Int64)))) (FP.i2d relevantCount_o0))), .second]) rfl d34_71 (pc' := 73) rfl ?_
  refine own_dconst1 X1 hx hby (v := (4607182418800017408 : UInt64)) (by decide) d34_73 (pc' := 74) rfl ?_
  refine own_dload X1 hx hby rfl d34_74 (pc' := 76) rfl ?_
  refine own_aloadN X1 hx hby rfl rfl d34_76 (pc' := 77) rfl ?_
  refine own_getF X1 hx hby hZ hown (host := "") (Or.inl (hw _ (mi 233 rfl))) Via.refl eH1 F_o0_relevantCount d34_77 (pc' := 80) rfl (fun T2 X2 eH2 => ?_)
  refine own_iconst X2 hx hby (v := (1 : Int32)) (by decide) d34_80 (pc' := 81) rfl ?_
  refine own_iadd X2 hx hby rfl d34_81 (pc' := 82) rfl ?_
  refine own_i2d X2 hx hby rfl d34_82 (pc' := 83) rfl ?_
  refine own_ldc2D X2 hx hby hZ hown (hw _ (mi 244 rfl)) d34_83 (pc' := 86) rfl ?_
  refine own_ddiv X2 hx hby hpn.2.1 rfl d34_86 (pc' := 87) rfl ?_
  refine own_dsub X2 hx hby hpn.2.2.1 rfl d34_87 (pc' := 88) rfl ?_
  refine own_iloadN X2 hx hby rfl d34_88 (pc' := 89) rfl ?_
  refine own_i2d X2 hx hby rfl d34_89 (pc' := 90) rfl ?_
  refine own_ddiv X2 hx hby hpn.2.2.2.1 rfl d34_90 (pc' := 91) rfl ?_
  refine own_dsub X2 hx hby hpn.2.2.2.2 rfl d34_91 (pc' := 92) rfl ?_
  exact own_retD X2 hx hby Bd.notSynchronized Bd.returns d34_92 (by decide) (by decide) eH2 ⟨rfl, N4, rfl⟩

theorem ef1 (m : MethodId) (x0 : Int32) : entryFrame m #[(.int x0)] 1 = mkF m 0 #[.val (.int x0)] [] := by first | (simp [entryFrame, mkF, argsToLocals, Value.category]; done) | rfl
def Q1 (Z : State) (p0 : Int32) (h0 : Heap) (n0 : Nat) (v : Option Value) (h : Heap) (L : List Loc) : Prop := v = some (.int (if p0 = 0 then (0 : Int32) else (1 : Int32))) ∧ Fr n0 L ∧ h0 = h
theorem rm1 (l : Launch) (Z : State) (a0 : Array Value) (hw : ∀ d ∈ tables_1, d.before a0 Z = true) (ws : List Jvm.Cond) (p0 : Int32) (h0 : Heap) (n0 : Nat) (Z0 : n0 ≤ h0.size) :
    MetFree l (⟨"com/example/prior3/prior3/eval/JudgedRankingPresPinLaw", "one", "(Z)I"⟩ : MethodName) (head1 (Jvm.Cond.code (⟨"com/example/prior3/prior3/eval/JudgedRankingPresPinLaw", "one", "(Z)I"⟩ : MethodName) method_3_code 1 (some .int) :: ws) ({ frames := 0, cells := 0, slots := 0, locals := 0 } : Room)) (fun a U => a = #[(.int p0)] ∧ Z.Warmed39 U.vm ∧ U.heap = h0) (fun _ _ _ _ _ => True) (fun _ U o U' => ∃ v L, o = .returned v ∧ Q1 Z p0 h0 n0 v U'.heap L ∧ FrameEnd U o U' L ({ frames := 0, cells := 0, slots := 0, locals := 0 } : Room).cells ({ frames := 0, cells := 0, slots := 0, locals := 0 } : Room).slots) := by
  refine MetFree.of_bodySF (plainFor_of_name pn_com_example_prior3_prior3_eval_JudgedRankingPresPinLaw) hisR ?_
  intro p e s m args below meth c s₁ Bd hml0 hP hK
  obtain ⟨rfl, hZ, hhp⟩ := hP
  have hx := Bd.exec
  have hby := Bd.bytes
  have hml : c.maxLocals = 1 := hml0
  have hown : s.vm.findClass "com/example/prior3/prior3/eval/JudgedRankingPresPinLaw" = some m.cls := findClass_of_methodNamed Bd.named
  have hnm := (name_of_methodNamed Bd.named Bd.method).1
  have X0 : Stand p l e ({ frames := 0, cells := 0, slots := 0, locals := 0 } : Room) s m #[(.int p0)] below meth c s₁ [] 0 0 := Stand.of_body Bd
  have eH0 : s₁.heap = h0 := by rw [← hhp, Bd.state]; rfl
  have N0 := Fr.nil n0
  show Gt p.tables e below (fun o U' => ∃ v L, o = .returned v ∧ Q1 Z p0 h0 n0 v U'.heap L ∧ FrameEnd s o U' L ({ frames := 0, cells := 0, slots := 0, locals := 0 } : Room).cells ({ frames := 0, cells := 0, slots := 0, locals := 0 } : Room).slots) _
  refine own_cast (ef1 m p0) ?_
  refine own_iloadN X0 hx hby rfl d1_0 (pc' := 1) rfl ?_
  by_cases hc1 : p0 = 0
  · refine own_ifT X0 hx hby d1_1 (own_i0_eq_p hc1) (by decide) (pc' := 8) (by decide) ?_
    refine own_iconst X0 hx hby (v := (0 : Int32)) (by decide) d1_8 (pc' := 9) rfl ?_
    exact own_retI X0 hx hby Bd.notSynchronized Bd.returns d1_9 (by decide) (by decide) eH0 ⟨(by rw [if_pos hc1]), N0, rfl⟩
  · refine own_ifF X0 hx hby d1_1 (own_i0_eq_n hc1) (pc' := 4) rfl ?_
    refine own_iconst X0 hx hby (v := (1 : Int32)) (by decide) d1_4 (pc' := 5) rfl ?_
    refine own_goto X0 hx hby d1_5 (by decide) (pc' := 9) (by decide) ?_
    exact own_retI X0 hx hby Bd.notSynchronized Bd.returns d1_9 (by decide) (by decide) eH0 ⟨(by rw [if_neg hc1]), N0, rfl⟩
theorem ef36 (m : MethodId) (x0 : Int32) (x1 : Int32) (x2 : Int32) : entryFrame m #[(.int x0), (.int x1), (.int x2)] 3 = mkF m 0 #[.val (.int x0), .val (.int x1), .val (.int x2)] [] := by first | (simp [entryFrame, mkF, argsToLocals, Value.category]; done) | rfl
def Q36 (Z : State) (p0 : Int32) (p1 : Int32) (p2 : Int32) (h0 : Heap) (n0 : Nat) (v : Option Value) (h : Heap) (L : List Loc) : Prop := v = some (.int (if p0 = 0 then (0 : Int32) else (if p2 < p1 then (0 : Int32) else (1 : Int32)))) ∧ Fr n0 L ∧ h0 = h
theorem rm36 (l : Launch) (Z : State) (a0 : Array Value) (hw : ∀ d ∈ tables_1, d.before a0 Z = true) (ws : List Jvm.Cond) (p0 : Int32) (p1 : Int32) (p2 : Int32) (h0 : Heap) (n0 : Nat) (Z0 : n0 ≤ h0.size) :
    MetFree l (⟨"com/example/prior3/prior3/eval/JudgedRankingPresPinLaw", "hit", "(ZII)I"⟩ : MethodName) (head1 (Jvm.Cond.code (⟨"com/example/prior3/prior3/eval/JudgedRankingPresPinLaw", "hit", "(ZII)I"⟩ : MethodName) method_4_code 3 (some .int) :: ws) ({ frames := 0, cells := 0, slots := 0, locals := 0 } : Room)) (fun a U => a = #[(.int p0), (.int p1), (.int p2)] ∧ Z.Warmed39 U.vm ∧ U.heap = h0) (fun _ _ _ _ _ => True) (fun _ U o U' => ∃ v L, o = .returned v ∧ Q36 Z p0 p1 p2 h0 n0 v U'.heap L ∧ FrameEnd U o U' L ({ frames := 0, cells := 0, slots := 0, locals := 0 } : Room).cells ({ frames := 0, cells := 0, slots := 0, locals := 0 } : Room).slots) := by
  refine MetFree.of_bodySF (plainFor_of_name pn_com_example_prior3_prior3_eval_JudgedRankingPresPinLaw) hisR ?_
  intro p e s m args below meth c s₁ Bd hml0 hP hK
  obtain ⟨rfl, hZ, hhp⟩ := hP
  have hx := Bd.exec
  have hby := Bd.bytes
  have hml : c.maxLocals = 3 := hml0
  have hown : s.vm.findClass "com/example/prior3/prior3/eval/JudgedRankingPresPinLaw" = some m.cls := findClass_of_methodNamed Bd.named
  have hnm := (name_of_methodNamed Bd.named Bd.method).1
  have X0 : Stand p l e ({ frames := 0, cells := 0, slots := 0, locals := 0 } : Room) s m #[(.int p0), (.int p1), (.int p2)] below meth c s₁ [] 0 0 := Stand.of_body Bd
  have eH0 : s₁.heap = h0 := by rw [← hhp, Bd.state]; rfl
  have N0 := Fr.nil n0
  show Gt p.tables e below (fun o U' => ∃ v L, o = .returned v ∧ Q36 Z p0 p1 p2 h0 n0 v U'.heap L ∧ FrameEnd s o U' L ({ frames := 0, cells := 0, slots := 0, locals := 0 } : Room).cells ({ frames := 0, cells := 0, slots := 0, locals := 0 } : Room).slots) _
  refine own_cast (ef36 m p0 p1 p2) ?_
  refine own_iloadN X0 hx hby rfl d36_0 (pc' := 1) rfl ?_
  by_cases hc1 : p0 = 0
  · refine own_ifT X0 hx hby d36_1 (own_i0_eq_p hc1) (by decide) (pc' := 13) (by decide) ?_
    refine own_iconst X0 hx hby (v := (0 : Int32)) (by decide) d36_13 (pc' := 14) rfl ?_
    exact own_retI X0 hx hby Bd.notSynchronized Bd.returns d36_14 (by decide) (by decide) eH0 ⟨(by rw [if_pos hc1]), N0, rfl⟩
  · refine own_ifF X0 hx hby d36_1 (own_i0_eq_n hc1) (pc' := 4) rfl ?_
    refine own_iloadN X0 hx hby rfl d36_4 (pc' := 5) rfl ?_
    refine own_iloadN X0 hx hby rfl d36_5 (pc' := 6) rfl ?_
    by_cases hc2 : p2 < p1
    · refine own_icT X0 hx hby d36_6 (own_ic_gt_p hc2) (by decide) (pc' := 13) (by decide) ?_
      refine own_iconst X0 hx hby (v := (0 : Int32)) (by decide) d36_13 (pc' := 14) rfl ?_
      exact own_retI X0 hx hby Bd.notSynchronized Bd.returns d36_14 (by decide) (by decide) eH0 ⟨(by rw [if_neg hc1, if_pos hc2]), N0, rfl⟩
    · refine own_icF X0 hx hby d36_6 (own_ic_gt_n hc2) (pc' := 9) rfl ?_
      refine own_iconst X0 hx hby (v := (1 : Int32)) (by decide) d36_9 (pc' := 10) rfl ?_
      refine own_goto X0 hx hby d36_10 (by decide) (pc' := 14) (by decide) ?_
      exact own_retI X0 hx hby Bd.notSynchronized Bd.returns d36_14 (by decide) (by decide) eH0 ⟨(by rw [if_neg hc1, if_neg hc2]), N0, rfl⟩
theorem ef37 (m : MethodId) (x0 : Int32) (x1 : Int32) (x2 : Int32) : entryFrame m #[(.int x0), (.int x1), (.int x2)] 3 = mkF m 0 #[.val (.int x0), .val (.int x1), .val (.int x2)] [] := by first | (simp [entryFrame, mkF, argsToLocals, Value.category]; done) | rfl
def Q37 (Z : State) (p0 : Int32) (p1 : Int32) (p2 : Int32) (h0 : Heap) (n0 : Nat) (v : Option Value) (h : Heap) (L : List Loc) : Prop := v = some (.long (if p0 = 0 then (0 : Int64) else (if p2 < p1 then (0 : Int64) else (p1.toInt64)))) ∧ Fr n0 L ∧ h0 = h
theorem rm37 (l : Launch) (Z : State) (a0 : Array Value) (hw : ∀ d ∈ tables_1, d.before a0 Z = true) (ws : List Jvm.Cond) (p0 : Int32) (p1 : Int32) (p2 : Int32) (h0 : Heap) (n0 : Nat) (Z0 : n0 ≤ h0.size) :
    MetFree l (⟨"com/example/prior3/prior3/eval/JudgedRankingPresPinLaw", "rankIf", "(ZII)J"⟩ : MethodName) (head1 (Jvm.Cond.code (⟨"com/example/prior3/prior3/eval/JudgedRankingPresPinLaw", "rankIf", "(ZII)J"⟩ : MethodName) method_5_code 3 (some .long) :: ws) ({ frames := 0, cells := 0, slots := 0, locals := 0 } : Room)) (fun a U => a = #[(.int p0), (.int p1), (.int p2)] ∧ Z.Warmed39 U.vm ∧ U.heap = h0) (fun _ _ _ _ _ => True) (fun _ U o U' => ∃ v L, o = .returned v ∧ Q37 Z p0 p1 p2 h0 n0 v U'.heap L ∧ FrameEnd U o U' L ({ frames := 0, cells := 0, slots := 0, locals := 0 } : Room).cells ({ frames := 0, cells := 0, slots := 0, locals := 0 } : Room).slots) := by
  refine MetFree.of_bodySF (plainFor_of_name pn_com_example_prior3_prior3_eval_JudgedRankingPresPinLaw) hisR ?_
  intro p e s m args below meth c s₁ Bd hml0 hP hK
  obtain ⟨rfl, hZ, hhp⟩ := hP
  have hx := Bd.exec
  have hby := Bd.bytes
  have hml : c.maxLocals = 3 := hml0
  have hown : s.vm.findClass "com/example/prior3/prior3/eval/JudgedRankingPresPinLaw" = some m.cls := findClass_of_methodNamed Bd.named
  have hnm := (name_of_methodNamed Bd.named Bd.method).1
  have X0 : Stand p l e ({ frames := 0, cells := 0, slots := 0, locals := 0 } : Room) s m #[(.int p0), (.int p1), (.int p2)] below meth c s₁ [] 0 0 := Stand.of_body Bd
  have eH0 : s₁.heap = h0 := by rw [← hhp, Bd.state]; rfl
  have N0 := Fr.nil n0
  show Gt p.tables e below (fun o U' => ∃ v L, o = .returned v ∧ Q37 Z p0 p1 p2 h0 n0 v U'.heap L ∧ FrameEnd s o U' L ({ frames := 0, cells := 0, slots := 0, locals := 0 } : Room).cells ({ frames := 0, cells := 0, slots := 0, locals := 0 } : Room).slots) _
  refine own_cast (ef37 m p0 p1 p2) ?_
  refine own_iloadN X0 hx hby rfl d37_0 (pc' := 1) rfl ?_
  by_cases hc1 : p0 = 0
  · refine own_ifT X0 hx hby d37_1 (own_i0_eq_p hc1) (by decide) (pc' := 14) (by decide) ?_
    refine own_lconst X0 hx hby (v := (0 : Int64)) (by decide) d37_14 (pc' := 15) rfl ?_
    exact own_retL X0 hx hby Bd.notSynchronized Bd.returns d37_15 (by decide) (by decide) eH0 ⟨(by rw [if_pos hc1]), N0, rfl⟩
  · refine own_ifF X0 hx hby d37_1 (own_i0_eq_n hc1) (pc' := 4) rfl ?_
    refine own_iloadN X0 hx hby rfl d37_4 (pc' := 5) rfl ?_
    refine own_iloadN X0 hx hby rfl d37_5 (pc' := 6) rfl ?_
    by_cases hc2 : p2 < p1
    · refine own_icT X0 hx hby d37_6 (own_ic_gt_p hc2) (by decide) (pc' := 14) (by decide) ?_
      refine own_lconst X0 hx hby (v := (0 : Int64)) (by decide) d37_14 (pc' := 15) rfl ?_
      exact own_retL X0 hx hby Bd.notSynchronized Bd.returns d37_15 (by decide) (by decide) eH0 ⟨(by rw [if_neg hc1, if_pos hc2]), N0, rfl⟩
    · refine own_icF X0 hx hby d37_6 (own_ic_gt_n hc2) (pc' := 9) rfl ?_
      refine own_iloadN X0 hx hby rfl d37_9 (pc' := 10) rfl ?_
      refine own_i2l X0 hx hby rfl d37_10 (pc' := 11) rfl ?_
      refine own_goto X0 hx hby d37_11 (by decide) (pc' := 15) (by decide) ?_
      exact own_retL X0 hx hby Bd.notSynchronized Bd.returns d37_15 (by decide) (by decide) eH0 ⟨(by rw [if_neg hc1, if_neg hc2]), N0, rfl⟩
theorem ef2 (m : MethodId) (x0 : Int32) (x1 : Int32) : entryFrame m #[(.int x0), (.int x1)] 2 = mkF m 0 #[.val (.int x0), .val (.int x1)] [] := by first | (simp [entryFrame, mkF, argsToLocals, Value.category]; done) | rfl
def Q2 (Z : State) (p0 : Int32) (p1 : Int32) (h0 : Heap) (n0 : Nat) (v : Option Value) (h : Heap) (L : List Loc) : Prop := v = some (.int (if p0 < p1 then p1 else p0)) ∧ Fr n0 L ∧ h0 = h
theorem rm2 (l : Launch) (Z : State) (a0 : Array Value) (hw : ∀ d ∈ tables_1, d.before a0 Z = true) (ws : List Jvm.Cond) (p0 : Int32) (p1 : Int32) (h0 : Heap) (n0 : Nat) (Z0 : n0 ≤ h0.size) :
    MetFree l (⟨"java/lang/Math", "max", "(II)I"⟩ : MethodName) (head1 (Jvm.Cond.code (⟨"java/lang/Math", "max", "(II)I"⟩ : MethodName) jdk_29_method_65_code 2 (some .int) :: ws) ({ frames := 0, cells := 0, slots := 0, locals := 0 } : Room)) (fun a U => a = #[(.int p0), (.int p1)] ∧ Z.Warmed39 U.vm ∧ U.heap = h0) (fun _ _ _ _ _ => True) (fun _ U o U' => ∃ v L, o = .returned v ∧ Q2 Z p0 p1 h0 n0 v U'.heap L ∧ FrameEnd U o U' L ({ frames := 0, cells := 0, slots := 0, locals := 0 } : Room).cells ({ frames := 0, cells := 0, slots := 0, locals := 0 } : Room).slots) := by
  refine MetFree.of_bodySF (Jvm.Free.JP.mathPlain rfl (by decide +kernel)) hisR ?_
  intro p e s m args below meth c s₁ Bd hml0 hP hK
  obtain ⟨rfl, hZ, hhp⟩ := hP
  have hx := Bd.exec
  have hby := Bd.bytes
  have hml : c.maxLocals = 2 := hml0
  have hown : s.vm.findClass "java/lang/Math" = some m.cls := findClass_of_methodNamed Bd.named
  have hnm := (name_of_methodNamed Bd.named Bd.method).1
  have X0 : Stand p l e ({ frames := 0, cells := 0, slots := 0, locals := 0 } : Room) s m #[(.int p0), (.int p1)] below meth c s₁ [] 0 0 := Stand.of_body Bd
  have eH0 : s₁.heap = h0 := by rw [← hhp, Bd.state]; rfl
  have N0 := Fr.nil n0
  show Gt p.tables e below (fun o U' => ∃ v L, o = .returned v ∧ Q2 Z p0 p1 h0 n0 v U'.heap L ∧ FrameEnd s o U' L ({ frames := 0, cells := 0, slots := 0, locals := 0 } : Room).cells ({ frames := 0, cells := 0, slots := 0, locals := 0 } : Room).slots) _
  refine own_cast (ef2 m p0 p1) ?_
  refine own_iloadN X0 hx hby rfl d2_0 (pc' := 1) rfl ?_
  refine own_iloadN X0 hx hby rfl d2_1 (pc' := 2) rfl ?_
  by_cases hc1 : p0 < p1
  · refine own_icT X0 hx hby d2_2 (own_ic_lt_p hc1) (by decide) (pc' := 9) (by decide) ?_
    refine own_iloadN X0 hx hby rfl d2_9 (pc' := 10) rfl ?_
    exact own_retI X0 hx hby Bd.notSynchronized Bd.returns d2_10 (by decide) (by decide) eH0 ⟨(by rw [if_pos hc1]), N0, rfl⟩
  · refine own_icF X0 hx hby d2_2 (own_ic_lt_n hc1) (pc' := 5) rfl ?_
    refine own_iloadN X0 hx hby rfl d2_5 (pc' := 6) rfl ?_
    refine own_goto X0 hx hby d2_6 (by decide) (pc' := 10) (by decide) ?_
    exact own_retI X0 hx hby Bd.notSynchronized Bd.returns d2_10 (by decide) (by decide) eH0 ⟨(by rw [if_neg hc1]), N0, rfl⟩
theorem sgSf {l : Launch} {Z : State} {a0 : Array Value} (hw : ∀ d ∈ tables_1, d.before a0 Z = true) {p : Program} {e : Env} {s : State} {m : MethodId} {args : Array Value} {below : List Frame} {meth : Method} {c : Code} {F : Outcome → State → Prop} (hx : p.tables.exec = Jvm.exec) (hby : c.code = code) (hZ : Z.Warmed39 s.vm) (hml : c.maxLocals = 32) (hown : s.vm.findClass "com/example/prior3/prior3/eval/JudgedRankingPresPinLaw" = some m.cls) {s₁ : State} {locs : List Loc} (shape : Int32) (relMask : Int32) (extra : Int32) (dd : Int32) (mode : Int32) (nn : Int32) (mm : Int32) (ee : Int32) (r1 : Int32) (r2 : Int32) (r3 : Int32) (r4 : Int32) (r5 : Int32) (ri : Int32) (tot : Int32) (dp : Int32) (al : Addr) (hs : Addr) (ch : Int32) (chI : Int) (ix : Nat) (map_hs : Addr) (st_COMPACT_STRINGS : Int32) (st_PRESENT : Addr) (loadFactor_map_hs : UInt32) (q0 q1 q2 q3 q4 q5 cells slots : Nat) (hp0 : q0 + 2 = q1) (hd0 : decode code q0 = .ok (.aload 17, 2)) (hp1 : q1 + 2 = q2) (hd1 : decode code q1 = .ok (.bipush chI, 2)) (hp2 : q2 + 3 = q3) (hd2 : decode code q2 = .ok (.invokestatic 23, 3)) (hp3 : q3 + 3 = q4) (hd3 : decode code q3 = .ok (.invokevirtual 36, 3)) (hp4 : q4 + 1 = q5) (hd4 : decode code q4 = .ok (.pop, 1)) (h0 : Heap) (n0 : Nat) (Z0 : n0 ≤ h0.size) (N0 : Fr n0 locs) (X0 : Stand p l e room_1 s m args below meth c s₁ locs cells slots) (eH0 : s₁.heap = h0) (hch : ((Int8.ofInt chI).toInt32 = ch)) (hce : (¬ ((255 : Int32) < ch))) (hhh : (((nar .byte (ch.toInt8.toInt32)) &&& (255 : Int32)) = ch)) (hhz : (¬ (ch = 0))) (hkk : ((ch ^^^ (ch.toUInt32 >>> ((16 : Int32) &&& 31).toUInt32).toInt32) = ch)) (hj0 : (¬ (((15 : Int32) &&& ch) < 0))) (hjn : (((15 : Int32) &&& ch).toNatClampNeg = ix)) (hil : (ix < 16)) (hc1 : (cells + 2 ≤ room_1.cells)) (hs1 : (slots + 5 ≤ room_1.slots)) (hc2 : (cells + 2 + 2 ≤ room_1.cells)) (hs2 : (slots + 5 + 20 ≤ room_1.slots)) (E_hs : Exa Z h0 hs "java/util/HashSet") (F_hs_map : Fld Z h0 hs "java/util/HashSet" "map" "Ljava/util/HashMap;" (.ref map_hs)) (E_map_hs : Exa Z h0 map_hs "java/util/HashMap") (S_COMPACT_STRINGS : Sta Z h0 "java/lang/String" "COMPACT_STRINGS" "Z" (.int st_COMPACT_STRINGS)) (hcs : (¬ (st_COMPACT_STRINGS = 0))) (S_PRESENT : Sta Z h0 "java/util/HashSet" "PRESENT" "Ljava/lang/Object;" (.ref st_PRESENT)) (F_map_hs_table : Fld Z h0 map_hs "java/util/HashMap" "table" "[Ljava/util/HashMap$Node;" .null) (F_map_hs_threshold : Fld Z h0 map_hs "java/util/HashMap" "threshold" "I" (.int (0 : Int32))) (F_map_hs_size : Fld Z h0 map_hs "java/util/HashMap" "size" "I" (.int (0 : Int32))) (F_map_hs_modCount : Fld Z h0 map_hs "java/util/HashMap" "modCount" "I" (.int (0 : Int32))) (F_map_hs_loadFactor : Fld Z h0 map_hs "java/util/HashMap" "loadFactor" "F" (.float loadFactor_map_hs)) (g_map_hs : n0 ≤ map_hs) (ne_hs_map_hs : hs ≠ map_hs)
    (k : ∀ (T' : State) (h' : Heap) (locs' : List Loc) (b4_2_2_3_2 : Addr) (b1_3_2_3_2 : Addr) (b4_1 : Addr) (b1_5_1 : Addr), Stand p l e room_1 s m args below meth c T' locs' (cells + 4) (slots + 25) → T'.heap = h' → Fr n0 locs' → n0 ≤ h'.size → Keep h0 h' [map_hs] → h0.size ≤ b4_2_2_3_2 → n0 ≤ b4_2_2_3_2 → h0.size ≤ b1_3_2_3_2 → n0 ≤ b1_3_2_3_2 → h0.size ≤ b4_1 → n0 ≤ b4_1 → h0.size ≤ b1_5_1 → n0 ≤ b1_5_1 → Exa Z h' map_hs "java/util/HashMap" → Fld Z h' map_hs "java/util/HashMap" "loadFactor" "F" (.float loadFactor_map_hs) → Fld Z h' map_hs "java/util/HashMap" "table" "[Ljava/util/HashMap$Node;" (.ref b4_2_2_3_2) → Fld Z h' map_hs "java/util/HashMap" "threshold" "I" (.int (12 : Int32)) → Fld Z h' map_hs "java/util/HashMap" "modCount" "I" (.int (1 : Int32)) → Fld Z h' map_hs "java/util/HashMap" "size" "I" (.int (1 : Int32)) → Exa Z h' b4_2_2_3_2 "[Ljava/util/HashMap$Node;" → Ary (ovO Z "java/util/HashMap$Node") Z h' b4_2_2_3_2 (.object "java/util/HashMap$Node") ((List.replicate 16 Value.null).set ix (.ref b1_3_2_3_2)) → Exa Z h' b1_3_2_3_2 "java/util/HashMap$Node" → Fld Z h' b1_3_2_3_2 "java/util/HashMap$Node" "hash" "I" (.int ch) → Fld Z h' b1_3_2_3_2 "java/util/HashMap$Node" "key" "Ljava/lang/Object;" (.ref b4_1) → Fld Z h' b1_3_2_3_2 "java/util/HashMap$Node" "value" "Ljava/lang/Object;" (.ref st_PRESENT) → Fld Z h' b1_3_2_3_2 "java/util/HashMap$Node" "next" "Ljava/util/HashMap$Node;" .null → Exa Z h' b4_1 "java/lang/String" → Fld Z h' b4_1 "java/lang/String" "value" "[B" (.ref b1_5_1) → Fld Z h' b4_1 "java/lang/String" "coder" "B" (.int (0 : Int32)) → Fld Z h' b4_1 "java/lang/String" "hash" "I" (.int ch) → Fld Z h' b4_1 "java/lang/String" "hashIsZero" "Z" (.int (0 : Int32)) → Exa Z h' b1_5_1 "[B" → Ary tr Z h' b1_5_1 .byte [(.int (nar .byte (ch.toInt8.toInt32)))] → Sta Z h' "java/lang/String" "COMPACT_STRINGS" "Z" (.int st_COMPACT_STRINGS) → Sta Z h' "java/util/HashSet" "PRESENT" "Ljava/lang/Object;" (.ref st_PRESENT) → Gt p.tables e below F (T'.setTop (mkF m q5 #[.val (.int shape), .val (.int relMask), .val (.int extra), .val (.int dd), .val (.int mode), .val (.int nn), .val (.int mm), .val (.int ee), .val (.int r1), .val (.int r2), .val (.int r3), .val (.int r4), .val (.int r5), .val (.int ri), .val (.int tot), .val (.int dp), .val (.ref al), .val (.ref hs), .unset, .unset, .unset, .unset, .unset, .unset, .unset, .unset, .unset, .unset, .unset, .unset, .unset, .unset] []))) :
    Gt p.tables e below F (s₁.setTop (mkF m q0 #[.val (.int shape), .val (.int relMask), .val (.int extra), .val (.int dd), .val (.int mode), .val (.int nn), .val (.int mm), .val (.int ee), .val (.int r1), .val (.int r2), .val (.int r3), .val (.int r4), .val (.int r5), .val (.int ri), .val (.int tot), .val (.int dp), .val (.ref al), .val (.ref hs), .unset, .unset, .unset, .unset, .unset, .unset, .unset, .unset, .unset, .unset, .unset, .unset, .unset, .unset] [])) := by
  have K0 := Keep.refl h0 [map_hs]
  refine own_aload X0 hx hby rfl rfl hd0 (pc' := q1) hp0 ?_
  refine own_bipush X0 hx hby (v := ch) hch hd1 (pc' := q2) hp1 ?_
  refine own_static X0 hx hby hZ (y := (⟨"java/lang/String", "valueOf", "(C)Ljava/lang/String;"⟩ : MethodName)) (rest := [(.ref hs)]) hown (hw _ (mi 68 rfl)) (hw _ (mi 69 rfl)) (hw _ (mi 71 rfl)) (hw _ (mi 70 rfl)) (by decide) (rm11 l Z a0 hw [] ch st_COMPACT_STRINGS h0 n0 Z0 S_COMPACT_STRINGS hcs hce) eH0 (by rw [hml]; rfl) (argsL := [(.int ch)]) rfl (lenOf pd_29 rfl) rfl hd2 (pc' := q3) hp2 (by decide) (W := 1) (Nat.le_of_eq rfl) (by decide) hc1 hs1 (fun T1 h1 Lc1 v1r X1 eH1 hQ1 => ?_)
  obtain ⟨b4_1, b1_5_1, rfl, Nq1, Kq1, gq1_0, gq1_1, gq1_2, gq1_3, gq1_4, gq1_5, gq1_6, gq1_7, gq1_8, gq1_9⟩ := hQ1
  have N1 := Fr.app N0 Nq1
  have g_b4_1 : n0 ≤ b4_1 := Nat.le_trans Z0 gq1_0
  have sz_b4_1 : h0.size ≤ b4_1 := Nat.le_trans K0.1 gq1_0
  have ne_hs_b4_1 : hs ≠ b4_1 := Nat.ne_of_lt (Nat.lt_of_lt_of_le E_hs.lt gq1_0)
  have ne_map_hs_b4_1 : map_hs ≠ b4_1 := Nat.ne_of_lt (Nat.lt_of_lt_of_le E_map_hs.lt gq1_0)
  have g_b1_5_1 : n0 ≤ b1_5_1 := Nat.le_trans Z0 gq1_1
  have sz_b1_5_1 : h0.size ≤ b1_5_1 := Nat.le_trans K0.1 gq1_1
  have ne_hs_b1_5_1 : hs ≠ b1_5_1 := Nat.ne_of_lt (Nat.lt_of_lt_of_le E_hs.lt gq1_1)
  have ne_map_hs_b1_5_1 : map_hs ≠ b1_5_1 := Nat.ne_of_lt (Nat.lt_of_lt_of_le E_map_hs.lt gq1_1)
  replace S_COMPACT_STRINGS := own_skn S_COMPACT_STRINGS Kq1 own_sk0
  replace S_PRESENT := own_skn S_PRESENT Kq1 own_sk0
  replace E_hs := E_hs.keep Kq1
  replace F_hs_map := F_hs_map.keep Kq1 nin0
  replace E_map_hs := E_map_hs.keep Kq1
  replace F_map_hs_table := F_map_hs_table.keep Kq1 nin0
  replace F_map_hs_threshold := F_map_hs_threshold.keep Kq1 nin0
  replace F_map_hs_size := F_map_hs_size.keep Kq1 nin0
  replace F_map_hs_modCount := F_map_hs_modCount.keep Kq1 nin0
  replace F_map_hs_loadFactor := F_map_hs_loadFactor.keep Kq1 nin0
  replace K0 := K0.trans Kq1 all0
  have ne_b4_1_b1_5_1 := gq1_2
  have E_b4_1 := gq1_3
  have F_b4_1_value := gq1_4
  have F_b4_1_coder := gq1_5
  have F_b4_1_hash := gq1_6
  have F_b4_1_hashIsZero := gq1_7
  have E_b1_5_1 := gq1_8
  have V_b1_5_1 := gq1_9
  replace Z0 := Nat.le_trans Z0 Kq1.1
  refine own_virtual X1 hx hby hZ (y := (⟨"java/util/HashSet", "add", "(Ljava/lang/Object;)Z"⟩ : MethodName)) (y' := (⟨"java/util/HashSet", "add", "(Ljava/lang/Object;)Z"⟩ : MethodName)) (C := "java/util/HashSet") (rest := []) hown (hw _ (mi 92 rfl)) (hw _ (mi 93 rfl)) (notFace_of_selects (args := #[]) (mvT hZ (hw _ (mi 95 rfl)))) (hw _ (mi 95 rfl)) (hw _ (mi 94 rfl)) (hw _ (mi 96 rfl)) (hw _ (mi 37 rfl)) (by decide) (rm15f l Z a0 hw [] hs b4_1 map_hs st_COMPACT_STRINGS loadFactor_map_hs (nar .byte (ch.toInt8.toInt32)) b1_5_1 ch ch ix st_PRESENT h1 n0 Z0 F_hs_map E_map_hs S_COMPACT_STRINGS hcs F_map_hs_table F_map_hs_threshold F_map_hs_size F_map_hs_modCount F_map_hs_loadFactor E_b4_1 F_b4_1_hash F_b4_1_hashIsZero F_b4_1_coder F_b4_1_value V_b1_5_1 (Ne.symm ne_b4_1_b1_5_1) hhh hhz hkk hj0 hjn hil S_PRESENT g_b4_1 ne_map_hs_b4_1 g_map_hs (Ne.symm ne_map_hs_b1_5_1) ne_hs_map_hs ne_hs_b4_1) eH1 (by rw [hml]; rfl) (a := hs) E_hs (argsL := [(.ref b4_1)]) rfl (lenOf pd_15 rfl) rfl hd3 (pc' := q4) hp3 (by decide) (W := 0) (Nat.le_of_eq rfl) (by decide) hc2 hs2 (fun T2 h2 Lc2 v2r X2 eH2 hQ2 => ?_)
  obtain ⟨b4_2_2_3_2, b1_3_2_3_2, rfl, Nq2, Kq2, gq2_0, gq2_1, gq2_2, gq2_3, gq2_4, gq2_5, gq2_6, gq2_7, gq2_8, gq2_9, gq2_10, gq2_11, gq2_12, gq2_13, gq2_14, gq2_15, gq2_16, gq2_17, gq2_18, gq2_19, gq2_20⟩ := hQ2
  have N2 := Fr.app N1 Nq2
  have g_b4_2_2_3_2 : n0 ≤ b4_2_2_3_2 := Nat.le_trans Z0 gq2_0
  have sz_b4_2_2_3_2 : h0.size ≤ b4_2_2_3_2 := Nat.le_trans K0.1 gq2_0
  have ne_hs_b4_2_2_3_2 : hs ≠ b4_2_2_3_2 := Nat.ne_of_lt (Nat.lt_of_lt_of_le E_hs.lt gq2_0)
  have ne_map_hs_b4_2_2_3_2 : map_hs ≠ b4_2_2_3_2 := Nat.ne_of_lt (Nat.lt_of_lt_of_le E_map_hs.lt gq2_0)
  have ne_b4_1_b4_2_2_3_2 : b4_1 ≠ b4_2_2_3_2 := Nat.ne_of_lt (Nat.lt_of_lt_of_le E_b4_1.lt gq2_0)
  have ne_b1_5_1_b4_2_2_3_2 : b1_5_1 ≠ b4_2_2_3_2 := Nat.ne_of_lt (Nat.lt_of_lt_of_le E_b1_5_1.lt gq2_0)
  have g_b1_3_2_3_2 : n0 ≤ b1_3_2_3_2 := Nat.le_trans Z0 gq2_1
  have sz_b1_3_2_3_2 : h0.size ≤ b1_3_2_3_2 := Nat.le_trans K0.1 gq2_1
  have ne_hs_b1_3_2_3_2 : hs ≠ b1_3_2_3_2 := Nat.ne_of_lt (Nat.lt_of_lt_of_le E_hs.lt gq2_1)
  have ne_map_hs_b1_3_2_3_2 : map_hs ≠ b1_3_2_3_2 := Nat.ne_of_lt (Nat.lt_of_lt_of_le E_map_hs.lt gq2_1)
  have ne_b4_1_b1_3_2_3_2 : b4_1 ≠ b1_3_2_3_2 := Nat.ne_of_lt (Nat.lt_of_lt_of_le E_b4_1.lt gq2_1)
  have ne_b1_5_1_b1_3_2_3_2 : b1_5_1 ≠ b1_3_2_3_2 := Nat.ne_of_lt (Nat.lt_of_lt_of_le E_b1_5_1.lt gq2_1)
  replace S_COMPACT_STRINGS := own_skn S_COMPACT_STRINGS Kq2 (own_skS E_map_hs (own_skS E_b4_1 own_sk0))
  replace S_PRESENT := own_skn S_PRESENT Kq2 (own_skS E_map_hs (own_skS E_b4_1 own_sk0))
  replace E_hs := E_hs.keep Kq2
  replace F_hs_map := F_hs_map.keep Kq2 (ninS ne_hs_map_hs (ninS ne_hs_b4_1 nin0))
  replace E_map_hs := E_map_hs.keep Kq2
  replace E_b4_1 := E_b4_1.keep Kq2
  replace E_b1_5_1 := E_b1_5_1.keep Kq2
  replace V_b1_5_1 := V_b1_5_1.keep Kq2 (ninS (Ne.symm ne_map_hs_b1_5_1) (ninS (Ne.symm ne_b4_1_b1_5_1) nin0))
  replace K0 := K0.trans Kq2 (allS (Or.inl (by simp)) (allS (Or.inr sz_b4_1) all0))
  have ne_b4_2_2_3_2_b1_3_2_3_2 := gq2_2
  have E_map_hs := gq2_3
  have F_map_hs_loadFactor := gq2_4
  have F_map_hs_table := gq2_5
  have F_map_hs_threshold := gq2_6
  have F_map_hs_modCount := gq2_7
  have F_map_hs_size := gq2_8
  have E_b4_1 := gq2_9
  have F_b4_1_value := gq2_10
  have F_b4_1_coder := gq2_11
  have F_b4_1_hash := gq2_12
  have F_b4_1_hashIsZero := gq2_13
  have E_b4_2_2_3_2 := gq2_14
  have V_b4_2_2_3_2 := gq2_15
  have E_b1_3_2_3_2 := gq2_16
  have F_b1_3_2_3_2_hash := gq2_17
  have F_b1_3_2_3_2_key := gq2_18
  have F_b1_3_2_3_2_value := gq2_19
  have F_b1_3_2_3_2_next := gq2_20
  replace Z0 := Nat.le_trans Z0 Kq2.1
  refine own_pop X2 hx hby rfl hd4 (pc' := q5) hp4 ?_
  exact k T2 h2 _ b4_2_2_3_2 b1_3_2_3_2 b4_1 b1_5_1 X2 eH2 N2 Z0 K0 sz_b4_2_2_3_2 g_b4_2_2_3_2 sz_b1_3_2_3_2 g_b1_3_2_3_2 sz_b4_1 g_b4_1 sz_b1_5_1 g_b1_5_1 E_map_hs F_map_hs_loadFactor F_map_hs_table F_map_hs_threshold F_map_hs_modCount F_map_hs_size E_b4_2_2_3_2 V_b4_2_2_3_2 E_b1_3_2_3_2 F_b1_3_2_3_2_hash F_b1_3_2_3_2_key F_b1_3_2_3_2_value F_b1_3_2_3_2_next E_b4_1 F_b4_1_value F_b4_1_coder F_b4_1_hash F_b4_1_hashIsZero E_b1_5_1 V_b1_5_1 S_COMPACT_STRINGS S_PRESENT
theorem sgSn {l : Launch} {Z : State} {a0 : Array Value} (hw : ∀ d ∈ tables_1, d.before a0 Z = true) {p : Program} {e : Env} {s : State} {m : MethodId} {args : Array Value} {below : List Frame} {meth : Method} {c : Code} {F : Outcome → State → Prop} (hx : p.tables.exec = Jvm.exec) (hby : c.code = code) (hZ : Z.Warmed39 s.vm) (hml : c.maxLocals = 32) (hown : s.vm.findClass "com/example/prior3/prior3/eval/JudgedRankingPresPinLaw" = some m.cls) {s₁ : State} {locs : List Loc} (shape : Int32) (relMask : Int32) (extra : Int32) (dd : Int32) (mode : Int32) (nn : Int32) (mm : Int32) (ee : Int32) (r1 : Int32) (r2 : Int32) (r3 : Int32) (r4 : Int32) (r5 : Int32) (ri : Int32) (tot : Int32) (dp : Int32) (al : Addr) (hs : Addr) (ch : Int32) (chI : Int) (ix : Nat) (map_hs : Addr) (st_COMPACT_STRINGS : Int32) (st_PRESENT : Addr) (table_map_hs : Addr) (size_map_hs : Int32) (modCount_map_hs : Int32) (loadFactor_map_hs : UInt32) (tl : List Value) (q0 q1 q2 q3 q4 q5 cells slots : Nat) (hp0 : q0 + 2 = q1) (hd0 : decode code q0 = .ok (.aload 17, 2)) (hp1 : q1 + 2 = q2) (hd1 : decode code q1 = .ok (.bipush chI, 2)) (hp2 : q2 + 3 = q3) (hd2 : decode code q2 = .ok (.invokestatic 23, 3)) (hp3 : q3 + 3 = q4) (hd3 : decode code q3 = .ok (.invokevirtual 36, 3)) (hp4 : q4 + 1 = q5) (hd4 : decode code q4 = .ok (.pop, 1)) (h0 : Heap) (n0 : Nat) (Z0 : n0 ≤ h0.size) (N0 : Fr n0 locs) (X0 : Stand p l e room_1 s m args below meth c s₁ locs cells slots) (eH0 : s₁.heap = h0) (hch : ((Int8.ofInt chI).toInt32 = ch)) (hce : (¬ ((255 : Int32) < ch))) (hhh : (((nar .byte (ch.toInt8.toInt32)) &&& (255 : Int32)) = ch)) (hhz : (¬ (ch = 0))) (hkk : ((ch ^^^ (ch.toUInt32 >>> ((16 : Int32) &&& 31).toUInt32).toInt32) = ch)) (hj0 : (¬ (((15 : Int32) &&& ch) < 0))) (hjn : (((15 : Int32) &&& ch).toNatClampNeg = ix)) (hil : (ix < 16)) (hc1 : (cells + 2 ≤ room_1.cells)) (hs1 : (slots + 5 ≤ room_1.slots)) (hc2 : (cells + 2 + 1 ≤ room_1.cells)) (hs2 : (slots + 5 + 4 ≤ room_1.slots)) (E_hs : Exa Z h0 hs "java/util/HashSet") (F_hs_map : Fld Z h0 hs "java/util/HashSet" "map" "Ljava/util/HashMap;" (.ref map_hs)) (E_map_hs : Exa Z h0 map_hs "java/util/HashMap") (S_COMPACT_STRINGS : Sta Z h0 "java/lang/String" "COMPACT_STRINGS" "Z" (.int st_COMPACT_STRINGS)) (hcs : (¬ (st_COMPACT_STRINGS = 0))) (S_PRESENT : Sta Z h0 "java/util/HashSet" "PRESENT" "Ljava/lang/Object;" (.ref st_PRESENT)) (F_map_hs_table : Fld Z h0 map_hs "java/util/HashMap" "table" "[Ljava/util/HashMap$Node;" (.ref table_map_hs)) (F_map_hs_threshold : Fld Z h0 map_hs "java/util/HashMap" "threshold" "I" (.int (12 : Int32))) (F_map_hs_size : Fld Z h0 map_hs "java/util/HashMap" "size" "I" (.int size_map_hs)) (F_map_hs_modCount : Fld Z h0 map_hs "java/util/HashMap" "modCount" "I" (.int modCount_map_hs)) (F_map_hs_loadFactor : Fld Z h0 map_hs "java/util/HashMap" "loadFactor" "F" (.float loadFactor_map_hs)) (E_table_map_hs : Exa Z h0 table_map_hs "[Ljava/util/HashMap$Node;") (V_table_map_hs : Ary (ovO Z "java/util/HashMap$Node") Z h0 table_map_hs (.object "java/util/HashMap$Node") tl) (hlt : (tl.length = 16)) (hti : (tl[ix]? = some .null)) (hsz : (¬ ((12 : Int32) < (size_map_hs + (1 : Int32))))) (g_table_map_hs : n0 ≤ table_map_hs) (ne_map_hs_table_map_hs : map_hs ≠ table_map_hs) (g_map_hs : n0 ≤ map_hs) (ne_hs_table_map_hs : hs ≠ table_map_hs) (ne_hs_map_hs : hs ≠ map_hs)
    (k : ∀ (T' : State) (h' : Heap) (locs' : List Loc) (b1_2_2_3_2 : Addr) (b4_1 : Addr) (b1_5_1 : Addr), Stand p l e room_1 s m args below meth c T' locs' (cells + 3) (slots + 9) → T'.heap = h' → Fr n0 locs' → n0 ≤ h'.size → Keep h0 h' [map_hs, table_map_hs] → h0.size ≤ b1_2_2_3_2 → n0 ≤ b1_2_2_3_2 → h0.size ≤ b4_1 → n0 ≤ b4_1 → h0.size ≤ b1_5_1 → n0 ≤ b1_5_1 → Exa Z h' map_hs "java/util/HashMap" → Fld Z h' map_hs "java/util/HashMap" "loadFactor" "F" (.float loadFactor_map_hs) → Fld Z h' map_hs "java/util/HashMap" "table" "[Ljava/util/HashMap$Node;" (.ref table_map_hs) → Fld Z h' map_hs "java/util/HashMap" "threshold" "I" (.int (12 : Int32)) → Fld Z h' map_hs "java/util/HashMap" "modCount" "I" (.int (modCount_map_hs + (1 : Int32))) → Fld Z h' map_hs "java/util/HashMap" "size" "I" (.int (size_map_hs + (1 : Int32))) → Exa Z h' table_map_hs "[Ljava/util/HashMap$Node;" → Ary (ovO Z "java/util/HashMap$Node") Z h' table_map_hs (.object "java/util/HashMap$Node") (tl.set ix (.ref b1_2_2_3_2)) → Exa Z h' b1_2_2_3_2 "java/util/HashMap$Node" → Fld Z h' b1_2_2_3_2 "java/util/HashMap$Node" "hash" "I" (.int ch) → Fld Z h' b1_2_2_3_2 "java/util/HashMap$Node" "key" "Ljava/lang/Object;" (.ref b4_1) → Fld Z h' b1_2_2_3_2 "java/util/HashMap$Node" "value" "Ljava/lang/Object;" (.ref st_PRESENT) → Fld Z h' b1_2_2_3_2 "java/util/HashMap$Node" "next" "Ljava/util/HashMap$Node;" .null → Exa Z h' b4_1 "java/lang/String" → Fld Z h' b4_1 "java/lang/String" "value" "[B" (.ref b1_5_1) → Fld Z h' b4_1 "java/lang/String" "coder" "B" (.int (0 : Int32)) → Fld Z h' b4_1 "java/lang/String" "hash" "I" (.int ch) → Fld Z h' b4_1 "java/lang/String" "hashIsZero" "Z" (.int (0 : Int32)) → Exa Z h' b1_5_1 "[B" → Ary tr Z h' b1_5_1 .byte [(.int (nar .byte (ch.toInt8.toInt32)))] → Sta Z h' "java/lang/String" "COMPACT_STRINGS" "Z" (.int st_COMPACT_STRINGS) → Sta Z h' "java/util/HashSet" "PRESENT" "Ljava/lang/Object;" (.ref st_PRESENT) → Gt p.tables e below F (T'.setTop (mkF m q5 #[.val (.int shape), .val (.int relMask), .val (.int extra), .val (.int dd), .val (.int mode), .val (.int nn), .val (.int mm), .val (.int ee), .val (.int r1), .val (.int r2), .val (.int r3), .val (.int r4), .val (.int r5), .val (.int ri), .val (.int tot), .val (.int dp), .val (.ref al), .val (.ref hs), .unset, .unset, .unset, .unset, .unset, .unset, .unset, .unset, .unset, .unset, .unset, .unset, .unset, .unset] []))) :
    Gt p.tables e below F (s₁.setTop (mkF m q0 #[.val (.int shape), .val (.int relMask), .val (.int extra), .val (.int dd), .val (.int mode), .val (.int nn), .val (.int mm), .val (.int ee), .val (.int r1), .val (.int r2), .val (.int r3), .val (.int r4), .val (.int r5), .val (.int ri), .val (.int tot), .val (.int dp), .val (.ref al), .val (.ref hs), .unset, .unset, .unset, .unset, .unset, .unset, .unset, .unset, .unset, .unset, .unset, .unset, .unset, .unset] [])) := by
  have K0 := Keep.refl h0 [map_hs, table_map_hs]
  refine own_aload X0 hx hby rfl rfl hd0 (pc' := q1) hp0 ?_
  refine own_bipush X0 hx hby (v := ch) hch hd1 (pc' := q2) hp1 ?_
  refine own_static X0 hx hby hZ (y := (⟨"java/lang/String", "valueOf", "(C)Ljava/lang/String;"⟩ : MethodName)) (rest := [(.ref hs)]) hown (hw _ (mi 68 rfl)) (hw _ (mi 69 rfl)) (hw _ (mi 71 rfl)) (hw _ (mi 70 rfl)) (by decide) (rm11 l Z a0 hw [] ch st_COMPACT_STRINGS h0 n0 Z0 S_COMPACT_STRINGS hcs hce) eH0 (by rw [hml]; rfl) (argsL := [(.int ch)]) rfl (lenOf pd_29 rfl) rfl hd2 (pc' := q3) hp2 (by decide) (W := 1) (Nat.le_of_eq rfl) (by decide) hc1 hs1 (fun T1 h1 Lc1 v1r X1 eH1 hQ1 => ?_)
  obtain ⟨b4_1, b1_5_1, rfl, Nq1, Kq1, gq1_0, gq1_1, gq1_2, gq1_3, gq1_4, gq1_5, gq1_6, gq1_7, gq1_8, gq1_9⟩ := hQ1
  have N1 := Fr.app N0 Nq1
  have g_b4_1 : n0 ≤ b4_1 := Nat.le_trans Z0 gq1_0
  have sz_b4_1 : h0.size ≤ b4_1 := Nat.le_trans K0.1 gq1_0
  have ne_hs_b4_1 : hs ≠ b4_1 := Nat.ne_of_lt (Nat.lt_of_lt_of_le E_hs.lt gq1_0)
  have ne_map_hs_b4_1 : map_hs ≠ b4_1 := Nat.ne_of_lt (Nat.lt_of_lt_of_le E_map_hs.lt gq1_0)
  have ne_table_map_hs_b4_1 : table_map_hs ≠ b4_1 := Nat.ne_of_lt (Nat.lt_of_lt_of_le E_table_map_hs.lt gq1_0)
  have g_b1_5_1 : n0 ≤ b1_5_1 := Nat.le_trans Z0 gq1_1
  have sz_b1_5_1 : h0.size ≤ b1_5_1 := Nat.le_trans K0.1 gq1_1
  have ne_hs_b1_5_1 : hs ≠ b1_5_1 := Nat.ne_of_lt (Nat.lt_of_lt_of_le E_hs.lt gq1_1)
  have ne_map_hs_b1_5_1 : map_hs ≠ b1_5_1 := Nat.ne_of_lt (Nat.lt_of_lt_of_le E_map_hs.lt gq1_1)
  have ne_table_map_hs_b1_5_1 : table_map_hs ≠ b1_5_1 := Nat.ne_of_lt (Nat.lt_of_lt_of_le E_table_map_hs.lt gq1_1)
  replace S_COMPACT_STRINGS := own_skn S_COMPACT_STRINGS Kq1 own_sk0
  replace S_PRESENT := own_skn S_PRESENT Kq1 own_sk0
  replace E_hs := E_hs.keep Kq1
  replace F_hs_map := F_hs_map.keep Kq1 nin0
  replace E_map_hs := E_map_hs.keep Kq1
  replace F_map_hs_table := F_map_hs_table.keep Kq1 nin0
  replace F_map_hs_threshold := F_map_hs_threshold.keep Kq1 nin0
  replace F_map_hs_size := F_map_hs_size.keep Kq1 nin0
  replace F_map_hs_modCount := F_map_hs_modCount.keep Kq1 nin0
  replace F_map_hs_loadFactor := F_map_hs_loadFactor.keep Kq1 nin0
  replace E_table_map_hs := E_table_map_hs.keep Kq1
  replace V_table_map_hs := V_table_map_hs.keep Kq1 nin0
  replace K0 := K0.trans Kq1 all0
  have ne_b4_1_b1_5_1 := gq1_2
  have E_b4_1 := gq1_3
  have F_b4_1_value := gq1_4
  have F_b4_1_coder := gq1_5
  have F_b4_1_hash := gq1_6
  have F_b4_1_hashIsZero := gq1_7
  have E_b1_5_1 := gq1_8
  have V_b1_5_1 := gq1_9
  replace Z0 := Nat.le_trans Z0 Kq1.1
  refine own_virtual X1 hx hby hZ (y := (⟨"java/util/HashSet", "add", "(Ljava/lang/Object;)Z"⟩ : MethodName)) (y' := (⟨"java/util/HashSet", "add", "(Ljava/lang/Object;)Z"⟩ : MethodName)) (C := "java/util/HashSet") (rest := []) hown (hw _ (mi 92 rfl)) (hw _ (mi 93 rfl)) (notFace_of_selects (args := #[]) (mvT hZ (hw _ (mi 95 rfl)))) (hw _ (mi 95 rfl)) (hw _ (mi 94 rfl)) (hw _ (mi 96 rfl)) (hw _ (mi 37 rfl)) (by decide) (rm15 l Z a0 hw [] hs b4_1 map_hs st_COMPACT_STRINGS table_map_hs size_map_hs modCount_map_hs loadFactor_map_hs (nar .byte (ch.toInt8.toInt32)) b1_5_1 ch ch ix tl st_PRESENT h1 n0 Z0 F_hs_map E_map_hs S_COMPACT_STRINGS hcs F_map_hs_table F_map_hs_threshold F_map_hs_size F_map_hs_modCount F_map_hs_loadFactor E_b4_1 F_b4_1_hash F_b4_1_hashIsZero F_b4_1_coder F_b4_1_value V_b1_5_1 (Ne.symm ne_b4_1_b1_5_1) hhh hhz hkk hj0 hjn hil V_table_map_hs hlt hti hsz S_PRESENT E_table_map_hs g_b4_1 ne_map_hs_b4_1 ne_table_map_hs_b4_1 g_table_map_hs ne_map_hs_table_map_hs g_map_hs (Ne.symm ne_map_hs_b1_5_1) (Ne.symm ne_table_map_hs_b1_5_1) ne_hs_table_map_hs ne_hs_map_hs ne_hs_b4_1) eH1 (by rw [hml]; rfl) (a := hs) E_hs (argsL := [(.ref b4_1)]) rfl (lenOf pd_15 rfl) rfl hd3 (pc' := q4) hp3 (by decide) (W := 0) (Nat.le_of_eq rfl) (by decide) hc2 hs2 (fun T2 h2 Lc2 v2r X2 eH2 hQ2 => ?_)
  obtain ⟨b1_2_2_3_2, rfl, Nq2, Kq2, gq2_0, gq2_1, gq2_2, gq2_3, gq2_4, gq2_5, gq2_6, gq2_7, gq2_8, gq2_9, gq2_10, gq2_11, gq2_12, gq2_13, gq2_14, gq2_15, gq2_16, gq2_17, gq2_18⟩ := hQ2
  have N2 := Fr.app N1 Nq2
  have g_b1_2_2_3_2 : n0 ≤ b1_2_2_3_2 := Nat.le_trans Z0 gq2_0
  have sz_b1_2_2_3_2 : h0.size ≤ b1_2_2_3_2 := Nat.le_trans K0.1 gq2_0
  have ne_hs_b1_2_2_3_2 : hs ≠ b1_2_2_3_2 := Nat.ne_of_lt (Nat.lt_of_lt_of_le E_hs.lt gq2_0)
  have ne_map_hs_b1_2_2_3_2 : map_hs ≠ b1_2_2_3_2 := Nat.ne_of_lt (Nat.lt_of_lt_of_le E_map_hs.lt gq2_0)
  have ne_table_map_hs_b1_2_2_3_2 : table_map_hs ≠ b1_2_2_3_2 := Nat.ne_of_lt (Nat.lt_of_lt_of_le E_table_map_hs.lt gq2_0)
  have ne_b4_1_b1_2_2_3_2 : b4_1 ≠ b1_2_2_3_2 := Nat.ne_of_lt (Nat.lt_of_lt_of_le E_b4_1.lt gq2_0)
  have ne_b1_5_1_b1_2_2_3_2 : b1_5_1 ≠ b1_2_2_3_2 := Nat.ne_of_lt (Nat.lt_of_lt_of_le E_b1_5_1.lt gq2_0)
  replace S_COMPACT_STRINGS := own_skn S_COMPACT_STRINGS Kq2 (own_skS E_table_map_hs (own_skS E_map_hs (own_skS E_b4_1 own_sk0)))
  replace S_PRESENT := own_skn S_PRESENT Kq2 (own_skS E_table_map_hs (own_skS E_map_hs (own_skS E_b4_1 own_sk0)))
  replace E_hs := E_hs.keep Kq2
  replace F_hs_map := F_hs_map.keep Kq2 (ninS ne_hs_table_map_hs (ninS ne_hs_map_hs (ninS ne_hs_b4_1 nin0)))
  replace E_map_hs := E_map_hs.keep Kq2
  replace E_table_map_hs := E_table_map_hs.keep Kq2
  replace E_b4_1 := E_b4_1.keep Kq2
  replace E_b1_5_1 := E_b1_5_1.keep Kq2
  replace V_b1_5_1 := V_b1_5_1.keep Kq2 (ninS (Ne.symm ne_table_map_hs_b1_5_1) (ninS (Ne.symm ne_map_hs_b1_5_1) (ninS (Ne.symm ne_b4_1_b1_5_1) nin0)))
  replace K0 := K0.trans Kq2 (allS (Or.inl (by simp)) (allS (Or.inl (by simp)) (allS (Or.inr sz_b4_1) all0)))
  have E_table_map_hs := gq2_1
  have V_table_map_hs := gq2_2
  have E_map_hs := gq2_3
  have F_map_hs_loadFactor := gq2_4
  have F_map_hs_table := gq2_5
  have F_map_hs_threshold := gq2_6
  have F_map_hs_modCount := gq2_7
  have F_map_hs_size := gq2_8
  have E_b4_1 := gq2_9
  have F_b4_1_value := gq2_10
  have F_b4_1_coder := gq2_11
  have F_b4_1_hash := gq2_12
  have F_b4_1_hashIsZero := gq2_13
  have E_b1_2_2_3_2 := gq2_14
  have F_b1_2_2_3_2_hash := gq2_15
  have F_b1_2_2_3_2_key := gq2_16
  have F_b1_2_2_3_2_value := gq2_17
  have F_b1_2_2_3_2_next := gq2_18
  replace Z0 := Nat.le_trans Z0 Kq2.1
  refine own_pop X2 hx hby rfl hd4 (pc' := q5) hp4 ?_
  exact k T2 h2 _ b1_2_2_3_2 b4_1 b1_5_1 X2 eH2 N2 Z0 K0 sz_b1_2_2_3_2 g_b1_2_2_3_2 sz_b4_1 g_b4_1 sz_b1_5_1 g_b1_5_1 E_map_hs F_map_hs_loadFactor F_map_hs_table F_map_hs_threshold F_map_hs_modCount F_map_hs_size E_table_map_hs V_table_map_hs E_b1_2_2_3_2 F_b1_2_2_3_2_hash F_b1_2_2_3_2_key F_b1_2_2_3_2_value F_b1_2_2_3_2_next E_b4_1 F_b4_1_value F_b4_1_coder F_b4_1_hash F_b4_1_hashIsZero E_b1_5_1 V_b1_5_1 S_COMPACT_STRINGS S_PRESENT
theorem gS {l : Launch} {Z : State} {a0 : Array Value} (hw : ∀ d ∈ tables_1, d.before a0 Z = true) {p : Program} {e : Env} {s : State} {m : MethodId} {args : Array Value} {below : List Frame} {meth : Method} {c : Code} {F : Outcome → State → Prop} (hx : p.tables.exec = Jvm.exec) (hby : c.code = code) (hZ : Z.Warmed39 s.vm) (hml : c.maxLocals = 32) (hown : s.vm.findClass "com/example/prior3/prior3/eval/JudgedRankingPresPinLaw" = some m.cls) {s₁ : State} {locs : List Loc} (ch : Int32) (chI : Int) (ix : Nat) (q0 q1 q2 q3 q4 q5 cells slots : Nat) (hp0 : q0 + 2 = q1) (hd0 : decode code q0 = .ok (.aload 17, 2)) (hp1 : q1 + 2 = q2) (hd1 : decode code q1 = .ok (.bipush chI, 2)) (hp2 : q2 + 3 = q3) (hd2 : decode code q2 = .ok (.invokestatic 23, 3)) (hp3 : q3 + 3 = q4) (hd3 : decode code q3 = .ok (.invokevirtual 36, 3)) (hp4 : q4 + 1 = q5) (hd4 : decode code q4 = .ok (.pop, 1)) (hc1 : cells + 2 ≤ room_1.cells) (hs1 : slots + 5 ≤ room_1.slots) (hc2 : cells + 2 + 2 ≤ room_1.cells) (hs2 : slots + 5 + 20 ≤ room_1.slots) (hch : (Int8.ofInt chI).toInt32 = ch) (hce : ¬ ((255 : Int32) < ch)) (hhh : ((nar .byte (ch.toInt8.toInt32)) &&& (255 : Int32)) = ch) (hhz : ¬ (ch = 0)) (hkk : (ch ^^^ (ch.toUInt32 >>> ((16 : Int32) &&& 31).toUInt32).toInt32) = ch) (hj0 : ¬ (((15 : Int32) &&& ch) < 0)) (hjn : ((15 : Int32) &&& ch).toNatClampNeg = ix) (hil : ix < 16) (hbt : ch = bt ix) (hby8 : nar .byte (ch.toInt8.toInt32) = bt ix) (shape : Int32) (relMask : Int32) (extra : Int32) (dd : Int32) (mode : Int32) (nn : Int32) (mm : Int32) (ee : Int32) (r1 : Int32) (r2 : Int32) (r3 : Int32) (r4 : Int32) (r5 : Int32) (ri : Int32) (tot : Int32) (dp : Int32) (al : Addr) (hs : Addr) (cs : Int32) (pr df : Addr) (h0 : Heap) (n0 n1 : Nat) (Z0 : n0 ≤ h0.size) (N0 : Fr n0 locs) (X0 : Stand p l e room_1 s m args below meth c s₁ locs cells slots) (eH0 : s₁.heap = h0) {n : Nat} {P : Nat → Bool} (hn1 : n1 ≤ h0.size) (hP : P ix = false) (hc : cnt P ≤ 11) (S : LL Z h0 n0 n1 al cs pr df n) (Q : SE Z h0 n0 n1 hs P)
    (k : ∀ (T' : State) (h' : Heap) (locs' : List Loc), Stand p l e room_1 s m args below meth c T' locs' (cells + 4) (slots + 25) → T'.heap = h' → Fr n0 locs' → n0 ≤ h'.size → n1 ≤ h'.size → LL Z h' n0 n1 al cs pr df n → SE Z h' n0 n1 hs (upd P ix) → Gt p.tables e below F (T'.setTop (mkF m q5 #[.val (.int shape), .val (.int relMask), .val (.int extra), .val (.int dd), .val (.int mode), .val (.int nn), .val (.int mm), .val (.int ee), .val (.int r1), .val (.int r2), .val (.int r3), .val (.int r4), .val (.int r5), .val (.int ri), .val (.int tot), .val (.int dp), .val (.ref al), .val (.ref hs), .unset, .unset, .unset, .unset, .unset, .unset, .unset, .unset, .unset, .unset, .unset, .unset, .unset, .unset] []))) :
    Gt p.tables e below F (s₁.setTop (mkF m q0 #[.val (.int shape), .val (.int relMask), .val (.int extra), .val (.int dd), .val (.int mode), .val (.int nn), .val (.int mm), .val (.int ee), .val (.int r1), .val (.int r2), .val (.int r3), .val (.int r4), .val (.int r5), .val (.int ri), .val (.int tot), .val (.int dp), .val (.ref al), .val (.ref hs), .unset, .unset, .unset, .unset, .unset, .unset, .unset, .unset, .unset, .unset, .unset, .unset, .unset, .unset] [])) := by
  rcases Q with ⟨hm, hall, q⟩ | ⟨hm, tb, tl, q⟩
  · obtain ⟨lf, fL⟩ := q.fL
    refine sgSf hw hx hby hZ hml hown shape relMask extra dd mode nn mm ee r1 r2 r3 r4 r5 ri tot dp al hs ch chI ix hm cs pr lf q0 q1 q2 q3 q4 q5 cells slots hp0 hd0 hp1 hd1 hp2 hd2 hp3 hd3 hp4 hd4 h0 n0 Z0 N0 X0 eH0 hch hce hhh hhz hkk hj0 hjn hil hc1 hs1 hc2 hs2 q.eS q.fM q.eM S.sC S.hcs S.sP q.fT q.fH q.fZ q.fC fL q.gM (Exa.ne q.eS q.eM (by decide)) (fun T' h' locs' b4_2_2_3_2 b1_3_2_3_2 b4_1 b1_5_1 X' e' N' Z' K' sz_b4_2_2_3_2 g_b4_2_2_3_2 sz_b1_3_2_3_2 g_b1_3_2_3_2 sz_b4_1 g_b4_1 sz_b1_5_1 g_b1_5_1 E_map_hs F_map_hs_loadFactor F_map_hs_table F_map_hs_threshold F_map_hs_modCount F_map_hs_size E_b4_2_2_3_2 V_b4_2_2_3_2 E_b1_3_2_3_2 F_b1_3_2_3_2_hash F_b1_3_2_3_2_key F_b1_3_2_3_2_value F_b1_3_2_3_2_next E_b4_1 F_b4_1_value F_b4_1_coder F_b4_1_hash F_b4_1_hashIsZero E_b1_5_1 V_b1_5_1 S_COMPACT_STRINGS S_PRESENT => ?_)
    have cl : Cl Z h0 [hm] ["java/util/HashMap", "[Ljava/util/HashMap$Node;"] := Cl.cons q.eM (by decide) (Cl.nil)
    exact k T' h' locs' (own_lift X' (Nat.le_refl _) (Nat.le_refl _)) e' N' Z' (Nat.le_trans hn1 K'.1) (S.keep K' cl (Nat.le_refl _) fun C hC => own_clsLH hC) (Or.inr ⟨_, _, _, SET0.add q hall hil K' g_b4_2_2_3_2 E_map_hs F_map_hs_loadFactor F_map_hs_table F_map_hs_threshold F_map_hs_modCount F_map_hs_size E_b4_2_2_3_2 V_b4_2_2_3_2 ⟨E_b1_3_2_3_2, own_fldi hbt F_b1_3_2_3_2_hash, F_b1_3_2_3_2_key, ⟨E_b4_1, F_b4_1_value, F_b4_1_coder, E_b1_5_1, own_aryb hby8 V_b1_5_1⟩, Nat.le_trans hn1 sz_b4_1⟩⟩)
  · obtain ⟨lf, fL⟩ := q.fL
    obtain ⟨mc, fC⟩ := q.fC
    refine sgSn hw hx hby hZ hml hown shape relMask extra dd mode nn mm ee r1 r2 r3 r4 r5 ri tot dp al hs ch chI ix hm cs pr tb (Int32.ofNat (cnt P)) mc lf tl q0 q1 q2 q3 q4 q5 cells slots hp0 hd0 hp1 hd1 hp2 hd2 hp3 hd3 hp4 hd4 h0 n0 Z0 N0 X0 eH0 hch hce hhh hhz hkk hj0 hjn hil hc1 hs1 (by omega) (by omega) q.eS q.fM q.eM S.sC S.hcs S.sP q.fT q.fH q.fZ fC fL q.eT q.vT q.ln ((q.en ix hil).2 hP) (own_hsz _ hc) q.gT (Exa.ne q.eM q.eT (by decide)) q.gM (Exa.ne q.eS q.eT (by decide)) (Exa.ne q.eS q.eM (by decide)) (fun T' h' locs' b1_2_2_3_2 b4_1 b1_5_1 X' e' N' Z' K' sz_b1_2_2_3_2 g_b1_2_2_3_2 sz_b4_1 g_b4_1 sz_b1_5_1 g_b1_5_1 E_map_hs F_map_hs_loadFactor F_map_hs_table F_map_hs_threshold F_map_hs_modCount F_map_hs_size E_table_map_hs V_table_map_hs E_b1_2_2_3_2 F_b1_2_2_3_2_hash F_b1_2_2_3_2_key F_b1_2_2_3_2_value F_b1_2_2_3_2_next E_b4_1 F_b4_1_value F_b4_1_coder F_b4_1_hash F_b4_1_hashIsZero E_b1_5_1 V_b1_5_1 S_COMPACT_STRINGS S_PRESENT => ?_)
    have cl : Cl Z h0 [hm, tb] ["java/util/HashMap", "[Ljava/util/HashMap$Node;"] := Cl.cons q.eM (by decide) (Cl.cons q.eT (by decide) (Cl.nil))
    exact k T' h' locs' (own_lift X' (by omega) (by omega)) e' N' Z' (Nat.le_trans hn1 K'.1) (S.keep K' cl (Nat.le_refl _) fun C hC => own_clsLH hC) (Or.inr ⟨_, _, _, SET1.add q hil hP K' E_map_hs F_map_hs_loadFactor F_map_hs_table F_map_hs_threshold F_map_hs_modCount F_map_hs_size E_table_map_hs V_table_map_hs ⟨E_b1_2_2_3_2, own_fldi hbt F_b1_2_2_3_2_hash, F_b1_2_2_3_2_key, ⟨E_b4_1, F_b4_1_value, F_b4_1_coder, E_b1_5_1, own_aryb hby8 V_b1_5_1⟩, Nat.le_trans hn1 sz_b4_1⟩⟩)

theorem sgL0 {l : Launch} {Z : State} {a0 : Array Value} (hw : ∀ d ∈ tables_1, d.before a0 Z = true) {p : Program} {e : Env} {s : State} {m : MethodId} {args : Array Value} {below : List Frame} {meth : Method} {c : Code} {F : Outcome → State → Prop} (hx : p.tables.exec = Jvm.exec) (hby : c.code = code) (hZ : Z.Warmed39 s.vm) (hml : c.maxLocals = 32) (hown : s.vm.findClass "com/example/prior3/prior3/eval/JudgedRankingPresPinLaw" = some m.cls) {s₁ : State} {locs : List Loc} (shape : Int32) (relMask : Int32) (extra : Int32) (dd : Int32) (mode : Int32) (nn : Int32) (mm : Int32) (ee : Int32) (r1 : Int32) (r2 : Int32) (r3 : Int32) (r4 : Int32) (r5 : Int32) (ri : Int32) (tot : Int32) (dp : Int32) (al : Addr) (ch : Int32) (chI : Int) (st_COMPACT_STRINGS : Int32) (df : Addr) (modCount_al : Int32) (q0 q1 q2 q3 q4 q5 cells slots : Nat) (hp0 : q0 + 2 = q1) (hd0 : decode code q0 = .ok (.aload 16, 2)) (hp1 : q1 + 2 = q2) (hd1 : decode code q1 = .ok (.bipush chI, 2)) (hp2 : q2 + 3 = q3) (hd2 : decode code q2 = .ok (.invokestatic 23, 3)) (hp3 : q3 + 3 = q4) (hd3 : decode code q3 = .ok (.invokevirtual 29, 3)) (hp4 : q4 + 1 = q5) (hd4 : decode code q4 = .ok (.pop, 1)) (h0 : Heap) (n0 : Nat) (Z0 : n0 ≤ h0.size) (N0 : Fr n0 locs) (X0 : Stand p l e room_1 s m args below meth c s₁ locs cells slots) (eH0 : s₁.heap = h0) (hch : ((Int8.ofInt chI).toInt32 = ch)) (hce : (¬ ((255 : Int32) < ch))) (E_al : Exa Z h0 al "java/util/ArrayList") (S_COMPACT_STRINGS : Sta Z h0 "java/lang/String" "COMPACT_STRINGS" "Z" (.int st_COMPACT_STRINGS)) (hcs : (¬ (st_COMPACT_STRINGS = 0))) (F_al_elementData : Fld Z h0 al "java/util/ArrayList" "elementData" "[Ljava/lang/Object;" (.ref df)) (S_DEFAULTCAPACITY_EMPTY_ELEMENTDATA : Sta Z h0 "java/util/ArrayList" "DEFAULTCAPACITY_EMPTY_ELEMENTDATA" "[Ljava/lang/Object;" (.ref df)) (V_df : Ary tr Z h0 df (.object "java/lang/Object") []) (F_al_size : Fld Z h0 al "java/util/ArrayList" "size" "I" (.int (0 : Int32))) (F_al_modCount : Fld Z h0 al "java/util/AbstractList" "modCount" "I" (.int modCount_al)) (hc1 : (cells + 2 ≤ room_1.cells)) (hs1 : (slots + 5 ≤ room_1.slots)) (hc2 : (cells + 2 + 1 ≤ room_1.cells)) (hs2 : (slots + 5 + 10 ≤ room_1.slots)) (g_al : n0 ≤ al) (ne_df_al : df ≠ al)
    (k : ∀ (T' : State) (h' : Heap) (locs' : List Loc) (b5_2_1_5_2 : Addr) (b4_1 : Addr) (b1_5_1 : Addr), Stand p l e room_1 s m args below meth c T' locs' (cells + 3) (slots + 15) → T'.heap = h' → Fr n0 locs' → n0 ≤ h'.size → Keep h0 h' [al] → h0.size ≤ b5_2_1_5_2 → n0 ≤ b5_2_1_5_2 → h0.size ≤ b4_1 → n0 ≤ b4_1 → h0.size ≤ b1_5_1 → n0 ≤ b1_5_1 → Exa Z h' al "java/util/ArrayList" → Fld Z h' al "java/util/AbstractList" "modCount" "I" (.int (modCount_al + (1 : Int32))) → Fld Z h' al "java/util/ArrayList" "elementData" "[Ljava/lang/Object;" (.ref b5_2_1_5_2) → Fld Z h' al "java/util/ArrayList" "size" "I" (.int (1 : Int32)) → Exa Z h' b5_2_1_5_2 "[Ljava/lang/Object;" → Ary (ovO Z "java/lang/Object") Z h' b5_2_1_5_2 (.object "java/lang/Object") [(.ref b4_1), .null, .null, .null, .null, .null, .null, .null, .null, .null] → Exa Z h' b4_1 "java/lang/String" → Fld Z h' b4_1 "java/lang/String" "value" "[B" (.ref b1_5_1) → Fld Z h' b4_1 "java/lang/String" "coder" "B" (.int (0 : Int32)) → Fld Z h' b4_1 "java/lang/String" "hash" "I" (.int (0 : Int32)) → Fld Z h' b4_1 "java/lang/String" "hashIsZero" "Z" (.int (0 : Int32)) → Exa Z h' b1_5_1 "[B" → Ary tr Z h' b1_5_1 .byte [(.int (nar .byte (ch.toInt8.toInt32)))] → Sta Z h' "java/lang/String" "COMPACT_STRINGS" "Z" (.int st_COMPACT_STRINGS) → Sta Z h' "java/util/ArrayList" "DEFAULTCAPACITY_EMPTY_ELEMENTDATA" "[Ljava/lang/Object;" (.ref df) → Gt p.tables e below F (T'.setTop (mkF m q5 #[.val (.int shape), .val (.int relMask), .val (.int extra), .val (.int dd), .val (.int mode), .val (.int nn), .val (.int mm), .val (.int ee), .val (.int r1), .val (.int r2), .val (.int r3), .val (.int r4), .val (.int r5), .val (.int ri), .val (.int tot), .val (.int dp), .val (.ref al), .unset, .unset, .unset, .unset, .unset, .unset, .unset, .unset, .unset, .unset, .unset, .unset, .unset, .unset, .unset] []))) :
    Gt p.tables e below F (s₁.setTop (mkF m q0 #[.val (.int shape), .val (.int relMask), .val (.int extra), .val (.int dd), .val (.int mode), .val (.int nn), .val (.int mm), .val (.int ee), .val (.int r1), .val (.int r2), .val (.int r3), .val (.int r4), .val (.int r5), .val (.int ri), .val (.int tot), .val (.int dp), .val (.ref al), .unset, .unset, .unset, .unset, .unset, .unset, .unset, .unset, .unset, .unset, .unset, .unset, .unset, .unset, .unset] [])) := by
  have K0 := Keep.refl h0 [al]
  refine own_aload X0 hx hby rfl rfl hd0 (pc' := q1) hp0 ?_
  refine own_bipush X0 hx hby (v := ch) hch hd1 (pc' := q2) hp1 ?_
  refine own_static X0 hx hby hZ (y := (⟨"java/lang/String", "valueOf", "(C)Ljava/lang/String;"⟩ : MethodName)) (rest := [(.ref al)]) hown (hw _ (mi 68 rfl)) (hw _ (mi 69 rfl)) (hw _ (mi 71 rfl)) (hw _ (mi 70 rfl)) (by decide) (rm11 l Z a0 hw [] ch st_COMPACT_STRINGS h0 n0 Z0 S_COMPACT_STRINGS hcs hce) eH0 (by rw [hml]; rfl) (argsL := [(.int ch)]) rfl (lenOf pd_29 rfl) rfl hd2 (pc' := q3) hp2 (by decide) (W := 1) (Nat.le_of_eq rfl) (by decide) hc1 hs1 (fun T1 h1 Lc1 v1r X1 eH1 hQ1 => ?_)
  obtain ⟨b4_1, b1_5_1, rfl, Nq1, Kq1, gq1_0, gq1_1, gq1_2, gq1_3, gq1_4, gq1_5, gq1_6, gq1_7, gq1_8, gq1_9⟩ := hQ1
  have N1 := Fr.app N0 Nq1
  have g_b4_1 : n0 ≤ b4_1 := Nat.le_trans Z0 gq1_0
  have sz_b4_1 : h0.size ≤ b4_1 := Nat.le_trans K0.1 gq1_0
  have ne_al_b4_1 : al ≠ b4_1 := Nat.ne_of_lt (Nat.lt_of_lt_of_le E_al.lt gq1_0)
  have ne_df_b4_1 : df ≠ b4_1 := Nat.ne_of_lt (Nat.lt_of_lt_of_le V_df.lt gq1_0)
  have g_b1_5_1 : n0 ≤ b1_5_1 := Nat.le_trans Z0 gq1_1
  have sz_b1_5_1 : h0.size ≤ b1_5_1 := Nat.le_trans K0.1 gq1_1
  have ne_al_b1_5_1 : al ≠ b1_5_1 := Nat.ne_of_lt (Nat.lt_of_lt_of_le E_al.lt gq1_1)
  have ne_df_b1_5_1 : df ≠ b1_5_1 := Nat.ne_of_lt (Nat.lt_of_lt_of_le V_df.lt gq1_1)
  replace S_COMPACT_STRINGS := own_skn S_COMPACT_STRINGS Kq1 own_sk0
  replace S_DEFAULTCAPACITY_EMPTY_ELEMENTDATA := own_skn S_DEFAULTCAPACITY_EMPTY_ELEMENTDATA Kq1 own_sk0
  replace E_al := E_al.keep Kq1
  replace F_al_elementData := F_al_elementData.keep Kq1 nin0
  replace F_al_size := F_al_size.keep Kq1 nin0
  replace F_al_modCount := F_al_modCount.keep Kq1 nin0
  replace V_df := V_df.keep Kq1 nin0
  replace K0 := K0.trans Kq1 all0
  have ne_b4_1_b1_5_1 := gq1_2
  have E_b4_1 := gq1_3
  have F_b4_1_value := gq1_4
  have F_b4_1_coder := gq1_5
  have F_b4_1_hash := gq1_6
  have F_b4_1_hashIsZero := gq1_7
  have E_b1_5_1 := gq1_8
  have V_b1_5_1 := gq1_9
  replace Z0 := Nat.le_trans Z0 Kq1.1
  refine own_virtual X1 hx hby hZ (y := (⟨"java/util/ArrayList", "add", "(Ljava/lang/Object;)Z"⟩ : MethodName)) (y' := (⟨"java/util/ArrayList", "add", "(Ljava/lang/Object;)Z"⟩ : MethodName)) (C := "java/util/ArrayList") (rest := []) hown (hw _ (mi 253 rfl)) (hw _ (mi 254 rfl)) (notFace_of_selects (args := #[]) (mvT hZ (hw _ (mi 256 rfl)))) (hw _ (mi 256 rfl)) (hw _ (mi 255 rfl)) (hw _ (mi 257 rfl)) (hw _ (mi 11 rfl)) (by decide) (rm38f l Z a0 hw [] al b4_1 modCount_al df h1 n0 Z0 F_al_modCount F_al_elementData F_al_size S_DEFAULTCAPACITY_EMPTY_ELEMENTDATA V_df E_b4_1 E_al g_al ne_df_al) eH1 (by rw [hml]; rfl) (a := al) E_al (argsL := [(.ref b4_1)]) rfl (lenOf pd_15 rfl) rfl hd3 (pc' := q4) hp3 (by decide) (W := 0) (Nat.le_of_eq rfl) (by decide) hc2 hs2 (fun T2 h2 Lc2 v2r X2 eH2 hQ2 => ?_)
  obtain ⟨b5_2_1_5_2, rfl, Nq2, Kq2, gq2_0, gq2_1, gq2_2, gq2_3, gq2_4, gq2_5, gq2_6⟩ := hQ2
  have N2 := Fr.app N1 Nq2
  have g_b5_2_1_5_2 : n0 ≤ b5_2_1_5_2 := Nat.le_trans Z0 gq2_0
  have sz_b5_2_1_5_2 : h0.size ≤ b5_2_1_5_2 := Nat.le_trans K0.1 gq2_0
  have ne_al_b5_2_1_5_2 : al ≠ b5_2_1_5_2 := Nat.ne_of_lt (Nat.lt_of_lt_of_le E_al.lt gq2_0)
  have ne_df_b5_2_1_5_2 : df ≠ b5_2_1_5_2 := Nat.ne_of_lt (Nat.lt_of_lt_of_le V_df.lt gq2_0)
  have ne_b4_1_b5_2_1_5_2 : b4_1 ≠ b5_2_1_5_2 := Nat.ne_of_lt (Nat.lt_of_lt_of_le E_b4_1.lt gq2_0)
  have ne_b1_5_1_b5_2_1_5_2 : b1_5_1 ≠ b5_2_1_5_2 := Nat.ne_of_lt (Nat.lt_of_lt_of_le E_b1_5_1.lt gq2_0)
  replace S_COMPACT_STRINGS := own_skn S_COMPACT_STRINGS Kq2 (own_skS E_al own_sk0)
  replace S_DEFAULTCAPACITY_EMPTY_ELEMENTDATA := own_skn S_DEFAULTCAPACITY_EMPTY_ELEMENTDATA Kq2 (own_skS E_al own_sk0)
  replace E_al := E_al.keep Kq2
  replace V_df := V_df.keep Kq2 (ninS ne_df_al nin0)
  replace E_b4_1 := E_b4_1.keep Kq2
  replace F_b4_1_value := F_b4_1_value.keep Kq2 (ninS (Ne.symm ne_al_b4_1) nin0)
  replace F_b4_1_coder := F_b4_1_coder.keep Kq2 (ninS (Ne.symm ne_al_b4_1) nin0)
  replace F_b4_1_hash := F_b4_1_hash.keep Kq2 (ninS (Ne.symm ne_al_b4_1) nin0)
  replace F_b4_1_hashIsZero := F_b4_1_hashIsZero.keep Kq2 (ninS (Ne.symm ne_al_b4_1) nin0)
  replace E_b1_5_1 := E_b1_5_1.keep Kq2
  replace V_b1_5_1 := V_b1_5_1.keep Kq2 (ninS (Ne.symm ne_al_b1_5_1) nin0)
  replace K0 := K0.trans Kq2 (allS (Or.inl (by simp)) all0)
  have E_al := gq2_1
  have F_al_modCount := gq2_2
  have F_al_elementData := gq2_3
  have F_al_size := gq2_4
  have E_b5_2_1_5_2 := gq2_5
  have V_b5_2_1_5_2 := gq2_6
  replace Z0 := Nat.le_trans Z0 Kq2.1
  refine own_pop X2 hx hby rfl hd4 (pc' := q5) hp4 ?_
  exact k T2 h2 _ b5_2_1_5_2 b4_1 b1_5_1 X2 eH2 N2 Z0 K0 sz_b5_2_1_5_2 g_b5_2_1_5_2 sz_b4_1 g_b4_1 sz_b1_5_1 g_b1_5_1 E_al F_al_modCount F_al_elementData F_al_size E_b5_2_1_5_2 V_b5_2_1_5_2 E_b4_1 F_b4_1_value F_b4_1_coder F_b4_1_hash F_b4_1_hashIsZero E_b1_5_1 V_b1_5_1 S_COMPACT_STRINGS S_DEFAULTCAPACITY_EMPTY_ELEMENTDATA
theorem gL0 {l : Launch} {Z : State} {a0 : Array Value} (hw : ∀ d ∈ tables_1, d.before a0 Z = true) {p : Program} {e : Env} {s : State} {m : MethodId} {args : Array Value} {below : List Frame} {meth : Method} {c : Code} {F : Outcome → State → Prop} (hx : p.tables.exec = Jvm.exec) (hby : c.code = code) (hZ : Z.Warmed39 s.vm) (hml : c.maxLocals = 32) (hown : s.vm.findClass "com/example/prior3/prior3/eval/JudgedRankingPresPinLaw" = some m.cls) {s₁ : State} {locs : List Loc} (ch : Int32) (chI : Int) (q0 q1 q2 q3 q4 q5 cells slots : Nat) (hp0 : q0 + 2 = q1) (hd0 : decode code q0 = .ok (.aload 16, 2)) (hp1 : q1 + 2 = q2) (hd1 : decode code q1 = .ok (.bipush chI, 2)) (hp2 : q2 + 3 = q3) (hd2 : decode code q2 = .ok (.invokestatic 23, 3)) (hp3 : q3 + 3 = q4) (hd3 : decode code q3 = .ok (.invokevirtual 29, 3)) (hp4 : q4 + 1 = q5) (hd4 : decode code q4 = .ok (.pop, 1)) (hc1 : cells + 2 ≤ room_1.cells) (hs1 : slots + 5 ≤ room_1.slots) (hc2 : cells + 2 + 1 ≤ room_1.cells) (hs2 : slots + 5 + 10 ≤ room_1.slots) (hch : (Int8.ofInt chI).toInt32 = ch) (hce : ¬ ((255 : Int32) < ch)) (hby8 : nar .byte (ch.toInt8.toInt32) = Int32.ofNat (97 + 0)) (shape : Int32) (relMask : Int32) (extra : Int32) (dd : Int32) (mode : Int32) (nn : Int32) (mm : Int32) (ee : Int32) (r1 : Int32) (r2 : Int32) (r3 : Int32) (r4 : Int32) (r5 : Int32) (ri : Int32) (tot : Int32) (dp : Int32) (al : Addr) (cs : Int32) (pr df : Addr) (h0 : Heap) (n0 : Nat) (Z0 : n0 ≤ h0.size) (N0 : Fr n0 locs) (X0 : Stand p l e room_1 s m args below meth c s₁ locs cells slots) (eH0 : s₁.heap = h0) (S : LL Z h0 n0 h0.size al cs pr df 0)
    (k : ∀ (T' : State) (h' : Heap) (locs' : List Loc), Stand p l e room_1 s m args below meth c T' locs' (cells + 3) (slots + 15) → T'.heap = h' → Fr n0 locs' → n0 ≤ h'.size → (∀ hs hm, SET0 Z h0 n0 hs hm → SET0 Z h' n0 hs hm) → LL Z h' n0 h'.size al cs pr df 1 → Gt p.tables e below F (T'.setTop (mkF m q5 #[.val (.int shape), .val (.int relMask), .val (.int extra), .val (.int dd), .val (.int mode), .val (.int nn), .val (.int mm), .val (.int ee), .val (.int r1), .val (.int r2), .val (.int r3), .val (.int r4), .val (.int r5), .val (.int ri), .val (.int tot), .val (.int dp), .val (.ref al), .unset, .unset, .unset, .unset, .unset, .unset, .unset, .unset, .unset, .unset, .unset, .unset, .unset, .unset, .unset] []))) :
    Gt p.tables e below F (s₁.setTop (mkF m q0 #[.val (.int shape), .val (.int relMask), .val (.int extra), .val (.int dd), .val (.int mode), .val (.int nn), .val (.int mm), .val (.int ee), .val (.int r1), .val (.int r2), .val (.int r3), .val (.int r4), .val (.int r5), .val (.int ri), .val (.int tot), .val (.int dp), .val (.ref al), .unset, .unset, .unset, .unset, .unset, .unset, .unset, .unset, .unset, .unset, .unset, .unset, .unset, .unset, .unset] [])) := by
  rcases S.li with ⟨hz, li⟩ | ⟨ed, el, ss, vv, hz, li⟩
  · obtain ⟨mc, fC⟩ := li.fC
    refine sgL0 hw hx hby hZ hml hown shape relMask extra dd mode nn mm ee r1 r2 r3 r4 r5 ri tot dp al ch chI cs df mc q0 q1 q2 q3 q4 q5 cells slots hp0 hd0 hp1 hd1 hp2 hd2 hp3 hd3 hp4 hd4 h0 n0 Z0 N0 X0 eH0 hch hce li.eA S.sC S.hcs li.fE S.sD li.vD li.fS fC hc1 hs1 hc2 hs2 li.gA (Exa.ne li.eD li.eA (by decide)) (fun T' h' locs' b5_2_1_5_2 b4_1 b1_5_1 X' e' N' Z' K' sz_b5_2_1_5_2 g_b5_2_1_5_2 sz_b4_1 g_b4_1 sz_b1_5_1 g_b1_5_1 E_al F_al_modCount F_al_elementData F_al_size E_b5_2_1_5_2 V_b5_2_1_5_2 E_b4_1 F_b4_1_value F_b4_1_coder F_b4_1_hash F_b4_1_hashIsZero E_b1_5_1 V_b1_5_1 S_COMPACT_STRINGS S_DEFAULTCAPACITY_EMPTY_ELEMENTDATA => ?_)
    have cl : Cl Z h0 [al] ["java/util/ArrayList", "[Ljava/lang/Object;"] := Cl.cons li.eA (by decide) (Cl.nil)
    exact k T' h' locs' (own_lift X' (Nat.le_refl _) (Nat.le_refl _)) e' N' Z' (fun hs hm Q => Q.keep (n1 := 0) K' fun x C E q _ => cl.nin E (own_clsSA q)) ⟨cl.sta S.sC K', S.hcs, cl.sta S.sP K', cl.sta S.sD K', Or.inr ⟨_, _, _, _, by decide, LST0.add li K' g_b5_2_1_5_2 g_b4_1 E_b4_1.lt E_al F_al_elementData F_al_size F_al_modCount E_b5_2_1_5_2 V_b5_2_1_5_2 ⟨E_b4_1, F_b4_1_value, F_b4_1_coder, E_b1_5_1, own_aryb hby8 V_b1_5_1⟩ ⟨F_b4_1_hash, F_b4_1_hashIsZero⟩⟩⟩
  · exact absurd hz (by decide)

theorem sgLn {l : Launch} {Z : State} {a0 : Array Value} (hw : ∀ d ∈ tables_1, d.before a0 Z = true) {p : Program} {e : Env} {s : State} {m : MethodId} {args : Array Value} {below : List Frame} {meth : Method} {c : Code} {F : Outcome → State → Prop} (hx : p.tables.exec = Jvm.exec) (hby : c.code = code) (hZ : Z.Warmed39 s.vm) (hml : c.maxLocals = 32) (hown : s.vm.findClass "com/example/prior3/prior3/eval/JudgedRankingPresPinLaw" = some m.cls) {s₁ : State} {locs : List Loc} (shape : Int32) (relMask : Int32) (extra : Int32) (dd : Int32) (mode : Int32) (nn : Int32) (mm : Int32) (ee : Int32) (r1 : Int32) (r2 : Int32) (r3 : Int32) (r4 : Int32) (r5 : Int32) (ri : Int32) (tot : Int32) (dp : Int32) (al : Addr) (ch : Int32) (chI : Int) (st_COMPACT_STRINGS : Int32) (elementData_al : Addr) (el : List Value) (ix : Nat) (size_al : Int32) (modCount_al : Int32) (q0 q1 q2 q3 q4 q5 cells slots : Nat) (hp0 : q0 + 2 = q1) (hd0 : decode code q0 = .ok (.aload 16, 2)) (hp1 : q1 + 2 = q2) (hd1 : decode code q1 = .ok (.bipush chI, 2)) (hp2 : q2 + 3 = q3) (hd2 : decode code q2 = .ok (.invokestatic 23, 3)) (hp3 : q3 + 3 = q4) (hd3 : decode code q3 = .ok (.invokevirtual 29, 3)) (hp4 : q4 + 1 = q5) (hd4 : decode code q4 = .ok (.pop, 1)) (h0 : Heap) (n0 : Nat) (Z0 : n0 ≤ h0.size) (N0 : Fr n0 locs) (X0 : Stand p l e room_1 s m args below meth c s₁ locs cells slots) (eH0 : s₁.heap = h0) (hch : ((Int8.ofInt chI).toInt32 = ch)) (hce : (¬ ((255 : Int32) < ch))) (E_al : Exa Z h0 al "java/util/ArrayList") (S_COMPACT_STRINGS : Sta Z h0 "java/lang/String" "COMPACT_STRINGS" "Z" (.int st_COMPACT_STRINGS)) (hcs : (¬ (st_COMPACT_STRINGS = 0))) (F_al_elementData : Fld Z h0 al "java/util/ArrayList" "elementData" "[Ljava/lang/Object;" (.ref elementData_al)) (E_elementData_al : Exa Z h0 elementData_al "[Ljava/lang/Object;") (V_elementData_al : Ary (ovO Z "java/lang/Object") Z h0 elementData_al (.object "java/lang/Object") el) (F_al_size : Fld Z h0 al "java/util/ArrayList" "size" "I" (.int size_al)) (hle : (el.length = 10)) (hi0 : (¬ (size_al < 0))) (hin : (size_al.toNatClampNeg = ix)) (hil : (ix < 10)) (h10 : (¬ (size_al = (10 : Int32)))) (F_al_modCount : Fld Z h0 al "java/util/AbstractList" "modCount" "I" (.int modCount_al)) (hc1 : (cells + 2 ≤ room_1.cells)) (hs1 : (slots + 5 ≤ room_1.slots)) (hc2 : (cells + 2 + 0 ≤ room_1.cells)) (hs2 : (slots + 5 + 0 ≤ room_1.slots)) (g_al : n0 ≤ al) (ne_elementData_al_al : elementData_al ≠ al) (g_elementData_al : n0 ≤ elementData_al)
    (k : ∀ (T' : State) (h' : Heap) (locs' : List Loc) (b4_1 : Addr) (b1_5_1 : Addr), Stand p l e room_1 s m args below meth c T' locs' (cells + 2) (slots + 5) → T'.heap = h' → Fr n0 locs' → n0 ≤ h'.size → Keep h0 h' [elementData_al, al] → h0.size ≤ b4_1 → n0 ≤ b4_1 → h0.size ≤ b1_5_1 → n0 ≤ b1_5_1 → Exa Z h' elementData_al "[Ljava/lang/Object;" → Ary (ovO Z "java/lang/Object") Z h' elementData_al (.object "java/lang/Object") (el.set ix (.ref b4_1)) → Exa Z h' al "java/util/ArrayList" → Fld Z h' al "java/util/AbstractList" "modCount" "I" (.int (modCount_al + (1 : Int32))) → Fld Z h' al "java/util/ArrayList" "elementData" "[Ljava/lang/Object;" (.ref elementData_al) → Fld Z h' al "java/util/ArrayList" "size" "I" (.int (size_al + (1 : Int32))) → Exa Z h' b4_1 "java/lang/String" → Fld Z h' b4_1 "java/lang/String" "value" "[B" (.ref b1_5_1) → Fld Z h' b4_1 "java/lang/String" "coder" "B" (.int (0 : Int32)) → Fld Z h' b4_1 "java/lang/String" "hash" "I" (.int (0 : Int32)) → Fld Z h' b4_1 "java/lang/String" "hashIsZero" "Z" (.int (0 : Int32)) → Exa Z h' b1_5_1 "[B" → Ary tr Z h' b1_5_1 .byte [(.int (nar .byte (ch.toInt8.toInt32)))] → Sta Z h' "java/lang/String" "COMPACT_STRINGS" "Z" (.int st_COMPACT_STRINGS) → Gt p.tables e below F (T'.setTop (mkF m q5 #[.val (.int shape), .val (.int relMask), .val (.int extra), .val (.int dd), .val (.int mode), .val (.int nn), .val (.int mm), .val (.int ee), .val (.int r1), .val (.int r2), .val (.int r3), .val (.int r4), .val (.int r5), .val (.int ri), .val (.int tot), .val (.int dp), .val (.ref al), .unset, .unset, .unset, .unset, .unset, .unset, .unset, .unset, .unset, .unset, .unset, .unset, .unset, .unset, .unset] []))) :
    Gt p.tables e below F (s₁.setTop (mkF m q0 #[.val (.int shape), .val (.int relMask), .val (.int extra), .val (.int dd), .val (.int mode), .val (.int nn), .val (.int mm), .val (.int ee), .val (.int r1), .val (.int r2), .val (.int r3), .val (.int r4), .val (.int r5), .val (.int ri), .val (.int tot), .val (.int dp), .val (.ref al), .unset, .unset, .unset, .unset, .unset, .unset, .unset, .unset, .unset, .unset, .unset, .unset, .unset, .unset, .unset] [])) := by
  have K0 := Keep.refl h0 [elementData_al, al]
  refine own_aload X0 hx hby rfl rfl hd0 (pc' := q1) hp0 ?_
  refine own_bipush X0 hx hby (v := ch) hch hd1 (pc' := q2) hp1 ?_
  refine own_static X0 hx hby hZ (y := (⟨"java/lang/String", "valueOf", "(C)Ljava/lang/String;"⟩ : MethodName)) (rest := [(.ref al)]) hown (hw _ (mi 68 rfl)) (hw _ (mi 69 rfl)) (hw _ (mi 71 rfl)) (hw _ (mi 70 rfl)) (by decide) (rm11 l Z a0 hw [] ch st_COMPACT_STRINGS h0 n0 Z0 S_COMPACT_STRINGS hcs hce) eH0 (by rw [hml]; rfl) (argsL := [(.int ch)]) rfl (lenOf pd_29 rfl) rfl hd2 (pc' := q3) hp2 (by decide) (W := 1) (Nat.le_of_eq rfl) (by decide) hc1 hs1 (fun T1 h1 Lc1 v1r X1 eH1 hQ1 => ?_)
  obtain ⟨b4_1, b1_5_1, rfl, Nq1, Kq1, gq1_0, gq1_1, gq1_2, gq1_3, gq1_4, gq1_5, gq1_6, gq1_7, gq1_8, gq1_9⟩ := hQ1
  have N1 := Fr.app N0 Nq1
  have g_b4_1 : n0 ≤ b4_1 := Nat.le_trans Z0 gq1_0
  have sz_b4_1 : h0.size ≤ b4_1 := Nat.le_trans K0.1 gq1_0
  have ne_al_b4_1 : al ≠ b4_1 := Nat.ne_of_lt (Nat.lt_of_lt_of_le E_al.lt gq1_0)
  have ne_elementData_al_b4_1 : elementData_al ≠ b4_1 := Nat.ne_of_lt (Nat.lt_of_lt_of_le E_elementData_al.lt gq1_0)
  have g_b1_5_1 : n0 ≤ b1_5_1 := Nat.le_trans Z0 gq1_1
  have sz_b1_5_1 : h0.size ≤ b1_5_1 := Nat.le_trans K0.1 gq1_1
  have ne_al_b1_5_1 : al ≠ b1_5_1 := Nat.ne_of_lt (Nat.lt_of_lt_of_le E_al.lt gq1_1)
  have ne_elementData_al_b1_5_1 : elementData_al ≠ b1_5_1 := Nat.ne_of_lt (Nat.lt_of_lt_of_le E_elementData_al.lt gq1_1)
  replace S_COMPACT_STRINGS := own_skn S_COMPACT_STRINGS Kq1 own_sk0
  replace E_al := E_al.keep Kq1
  replace F_al_elementData := F_al_elementData.keep Kq1 nin0
  replace F_al_size := F_al_size.keep Kq1 nin0
  replace F_al_modCount := F_al_modCount.keep Kq1 nin0
  replace E_elementData_al := E_elementData_al.keep Kq1
  replace V_elementData_al := V_elementData_al.keep Kq1 nin0
  replace K0 := K0.trans Kq1 all0
  have ne_b4_1_b1_5_1 := gq1_2
  have E_b4_1 := gq1_3
  have F_b4_1_value := gq1_4
  have F_b4_1_coder := gq1_5
  have F_b4_1_hash := gq1_6
  have F_b4_1_hashIsZero := gq1_7
  have E_b1_5_1 := gq1_8
  have V_b1_5_1 := gq1_9
  replace Z0 := Nat.le_trans Z0 Kq1.1
  refine own_virtual X1 hx hby hZ (y := (⟨"java/util/ArrayList", "add", "(Ljava/lang/Object;)Z"⟩ : MethodName)) (y' := (⟨"java/util/ArrayList", "add", "(Ljava/lang/Object;)Z"⟩ : MethodName)) (C := "java/util/ArrayList") (rest := []) hown (hw _ (mi 253 rfl)) (hw _ (mi 254 rfl)) (notFace_of_selects (args := #[]) (mvT hZ (hw _ (mi 256 rfl)))) (hw _ (mi 256 rfl)) (hw _ (mi 255 rfl)) (hw _ (mi 257 rfl)) (hw _ (mi 11 rfl)) (by decide) (rm38 l Z a0 hw [] al b4_1 modCount_al elementData_al size_al el ix h1 n0 Z0 F_al_modCount F_al_elementData F_al_size E_b4_1 V_elementData_al hle hi0 hin hil h10 E_al g_al ne_elementData_al_al g_elementData_al) eH1 (by rw [hml]; rfl) (a := al) E_al (argsL := [(.ref b4_1)]) rfl (lenOf pd_15 rfl) rfl hd3 (pc' := q4) hp3 (by decide) (W := 0) (Nat.le_of_eq rfl) (by decide) hc2 hs2 (fun T2 h2 Lc2 v2r X2 eH2 hQ2 => ?_)
  obtain ⟨rfl, Nq2, Kq2, gq2_0, gq2_1, gq2_2, gq2_3, gq2_4⟩ := hQ2
  have N2 := Fr.app N1 Nq2
  replace S_COMPACT_STRINGS := own_skn S_COMPACT_STRINGS Kq2 (own_skS E_al (own_skS E_elementData_al own_sk0))
  replace E_al := E_al.keep Kq2
  replace E_elementData_al := E_elementData_al.keep Kq2
  replace E_b4_1 := E_b4_1.keep Kq2
  replace F_b4_1_value := F_b4_1_value.keep Kq2 (ninS (Ne.symm ne_al_b4_1) (ninS (Ne.symm ne_elementData_al_b4_1) nin0))
  replace F_b4_1_coder := F_b4_1_coder.keep Kq2 (ninS (Ne.symm ne_al_b4_1) (ninS (Ne.symm ne_elementData_al_b4_1) nin0))
  replace F_b4_1_hash := F_b4_1_hash.keep Kq2 (ninS (Ne.symm ne_al_b4_1) (ninS (Ne.symm ne_elementData_al_b4_1) nin0))
  replace F_b4_1_hashIsZero := F_b4_1_hashIsZero.keep Kq2 (ninS (Ne.symm ne_al_b4_1) (ninS (Ne.symm ne_elementData_al_b4_1) nin0))
  replace E_b1_5_1 := E_b1_5_1.keep Kq2
  replace V_b1_5_1 := V_b1_5_1.keep Kq2 (ninS (Ne.symm ne_al_b1_5_1) (ninS (Ne.symm ne_elementData_al_b1_5_1) nin0))
  replace K0 := K0.trans Kq2 (allS (Or.inl (by simp)) (allS (Or.inl (by simp)) all0))
  have E_al := gq2_0
  have F_al_modCount := gq2_1
  have F_al_elementData := gq2_2
  have F_al_size := gq2_3
  have V_elementData_al := gq2_4
  replace Z0 := Nat.le_trans Z0 Kq2.1
  refine own_pop X2 hx hby rfl hd4 (pc' := q5) hp4 ?_
  exact k T2 h2 _ b4_1 b1_5_1 X2 eH2 N2 Z0 K0 sz_b4_1 g_b4_1 sz_b1_5_1 g_b1_5_1 E_elementData_al V_elementData_al E_al F_al_modCount F_al_elementData F_al_size E_b4_1 F_b4_1_value F_b4_1_coder F_b4_1_hash F_b4_1_hashIsZero E_b1_5_1 V_b1_5_1 S_COMPACT_STRINGS
theorem gLn {l : Launch} {Z : State} {a0 : Array Value} (hw : ∀ d ∈ tables_1, d.before a0 Z = true) {p : Program} {e : Env} {s : State} {m : MethodId} {args : Array Value} {below : List Frame} {meth : Method} {c : Code} {F : Outcome → State → Prop} (hx : p.tables.exec = Jvm.exec) (hby : c.code = code) (hZ : Z.Warmed39 s.vm) (hml : c.maxLocals = 32) (hown : s.vm.findClass "com/example/prior3/prior3/eval/JudgedRankingPresPinLaw" = some m.cls) {s₁ : State} {locs : List Loc} (ch : Int32) (chI : Int) (q0 q1 q2 q3 q4 q5 cells slots n : Nat) (hp0 : q0 + 2 = q1) (hd0 : decode code q0 = .ok (.aload 16, 2)) (hp1 : q1 + 2 = q2) (hd1 : decode code q1 = .ok (.bipush chI, 2)) (hp2 : q2 + 3 = q3) (hd2 : decode code q2 = .ok (.invokestatic 23, 3)) (hp3 : q3 + 3 = q4) (hd3 : decode code q3 = .ok (.invokevirtual 29, 3)) (hp4 : q4 + 1 = q5) (hd4 : decode code q4 = .ok (.pop, 1)) (hc1 : cells + 2 ≤ room_1.cells) (hs1 : slots + 5 ≤ room_1.slots) (hc2 : cells + 2 + 0 ≤ room_1.cells) (hs2 : slots + 5 + 0 ≤ room_1.slots) (hch : (Int8.ofInt chI).toInt32 = ch) (hce : ¬ ((255 : Int32) < ch)) (hby8 : nar .byte (ch.toInt8.toInt32) = Int32.ofNat (97 + n)) (shape : Int32) (relMask : Int32) (extra : Int32) (dd : Int32) (mode : Int32) (nn : Int32) (mm : Int32) (ee : Int32) (r1 : Int32) (r2 : Int32) (r3 : Int32) (r4 : Int32) (r5 : Int32) (ri : Int32) (tot : Int32) (dp : Int32) (al : Addr) (cs : Int32) (pr df : Addr) (h0 : Heap) (n0 : Nat) (Z0 : n0 ≤ h0.size) (N0 : Fr n0 locs) (X0 : Stand p l e room_1 s m args below meth c s₁ locs cells slots) (eH0 : s₁.heap = h0) (hn8 : n ≤ 8) (hnp : 0 < n) (S : LL Z h0 n0 h0.size al cs pr df n)
    (k : ∀ (T' : State) (h' : Heap) (locs' : List Loc), Stand p l e room_1 s m args below meth c T' locs' (cells + 3) (slots + 15) → T'.heap = h' → Fr n0 locs' → n0 ≤ h'.size → (∀ hs hm, SET0 Z h0 n0 hs hm → SET0 Z h' n0 hs hm) → LL Z h' n0 h'.size al cs pr df (n + 1) → Gt p.tables e below F (T'.setTop (mkF m q5 #[.val (.int shape), .val (.int relMask), .val (.int extra), .val (.int dd), .val (.int mode), .val (.int nn), .val (.int mm), .val (.int ee), .val (.int r1), .val (.int r2), .val (.int r3), .val (.int r4), .val (.int r5), .val (.int ri), .val (.int tot), .val (.int dp), .val (.ref al), .unset, .unset, .unset, .unset, .unset, .unset, .unset, .unset, .unset, .unset, .unset, .unset, .unset, .unset, .unset] []))) :
    Gt p.tables e below F (s₁.setTop (mkF m q0 #[.val (.int shape), .val (.int relMask), .val (.int extra), .val (.int dd), .val (.int mode), .val (.int nn), .val (.int mm), .val (.int ee), .val (.int r1), .val (.int r2), .val (.int r3), .val (.int r4), .val (.int r5), .val (.int ri), .val (.int tot), .val (.int dp), .val (.ref al), .unset, .unset, .unset, .unset, .unset, .unset, .unset, .unset, .unset, .unset, .unset, .unset, .unset, .unset, .unset] [])) := by
  rcases S.li with ⟨hz, li⟩ | ⟨ed, el, ss, vv, hz, li⟩
  · omega
  · obtain ⟨mc, fC⟩ := li.fC
    refine sgLn hw hx hby hZ hml hown shape relMask extra dd mode nn mm ee r1 r2 r3 r4 r5 ri tot dp al ch chI cs ed el n (Int32.ofNat n) mc q0 q1 q2 q3 q4 q5 cells slots hp0 hd0 hp1 hd1 hp2 hd2 hp3 hd3 hp4 hd4 h0 n0 Z0 N0 X0 eH0 hch hce li.eA S.sC S.hcs li.fE li.eE li.vE li.fS li.ln (own_i32 n hn8).1 (own_i32 n hn8).2 (by omega) (own_n10 n hn8) fC hc1 hs1 hc2 hs2 li.gA (Exa.ne li.eE li.eA (by decide)) li.gE (fun T' h' locs' b4_1 b1_5_1 X' e' N' Z' K' sz_b4_1 g_b4_1 sz_b1_5_1 g_b1_5_1 E_elementData_al V_elementData_al E_al F_al_modCount F_al_elementData F_al_size E_b4_1 F_b4_1_value F_b4_1_coder F_b4_1_hash F_b4_1_hashIsZero E_b1_5_1 V_b1_5_1 S_COMPACT_STRINGS => ?_)
    have cl : Cl Z h0 [ed, al] ["java/util/ArrayList", "[Ljava/lang/Object;"] := Cl.cons li.eE (by decide) (Cl.cons li.eA (by decide) (Cl.nil))
    exact k T' h' locs' (own_lift X' (by omega) (by omega)) e' N' Z' (fun hs hm Q => Q.keep (n1 := 0) K' fun x C E q _ => cl.nin E (own_clsSA q)) ⟨cl.sta S.sC K', S.hcs, cl.sta S.sP K', cl.sta S.sD K', Or.inr ⟨_, _, _, _, Nat.succ_pos n, LST1.add li (by omega) (own_kswap K') g_b4_1 sz_b4_1 E_b4_1.lt E_al F_al_elementData F_al_size F_al_modCount E_elementData_al V_elementData_al ⟨E_b4_1, F_b4_1_value, F_b4_1_coder, E_b1_5_1, own_aryb hby8 V_b1_5_1⟩ ⟨F_b4_1_hash, F_b4_1_hashIsZero⟩⟩⟩

theorem tEnd {l : Launch} {Z : State} {a0 : Array Value} (hw : ∀ d ∈ tables_1, d.before a0 Z = true) {p : Program} {e : Env} {s : State} {m : MethodId} {args : Array Value} {below : List Frame} {meth : Method} {c : Code} (hx : p.tables.exec = Jvm.exec) (hby : c.code = code) (hZ : Z.Warmed39 s.vm) (hml : c.maxLocals = 32) (hown : s.vm.findClass "com/example/prior3/prior3/eval/JudgedRankingPresPinLaw" = some m.cls) (hlk : meth.locks = false) (hret : meth.sig.returnType = some .boolean) {Q : Option Value → Heap → List Loc → Prop} {n0 : Nat} (hQ : ∀ h L, Fr n0 L → Q (some (.int 1)) h L) {s₁ : State} {locs : List Loc} (shape : Int32) (relMask : Int32) (extra : Int32) (dd : Int32) (mode : Int32) (nn : Int32) (mm : Int32) (dp : Int32) (hdp : 0 < dp.toInt) (b1 b2 b3 b4 b5 : Bool) (E : Nat) (al : Addr) (hs : Addr) (cs : Int32) (pr df : Addr) (h0 : Heap) (n1 : Nat) (Z0 : n0 ≤ h0.size) (N0 : Fr n0 locs) (X0 : Stand p l e room_1 s m args below meth c s₁ locs 52 300) (eH0 : s₁.heap = h0) (n : Nat) (hn1 : n1 ≤ h0.size) (H : (n ≤ 5 ∧ (b1 = true → 1 ≤ n) ∧ (b2 = true → 2 ≤ n) ∧ (b3 = true → 3 ≤ n) ∧ (b4 = true → 4 ≤ n) ∧ (b5 = true → 5 ≤ n) ∧ E ≤ 3 ∧ 0 < b2n b1 + b2n b2 + b2n b3 + b2n b4 + b2n b5 + E)) (x1 x2 x3 : Bool) (hX : (x1 = decide (0 < E)) ∧ (x2 = decide (1 < E)) ∧ (x3 = decide (2 < E))) (S : LL Z h0 n0 n1 al cs pr df n) (W : SE Z h0 n0 n1 hs (pf [(10, x3), (9, x2), (8, x1), (5, b5), (4, b4), (3, b3), (2, b2), (1, b1)])) : Gt p.tables e below (fun o U' => ∃ v Lc, o = .returned v ∧ Q v U'.heap Lc ∧ FrameEnd s o U' Lc 96 384) (s₁.setTop (mkF m 437 #[.val (.int shape), .val (.int relMask), .val (.int extra), .val (.int dd), .val (.int mode), .val (.int nn), .val (.int mm), .val (.int (Int32.ofNat E)), .val (.int (i01 b1)), .val (.int (i01 b2)), .val (.int (i01 b3)), .val (.int (i01 b4)), .val (.int (i01 b5)), .val (.int (Int32.ofNat (b2n b1 + b2n b2 + b2n b3 + b2n b4 + b2n b5))), .val (.int ((Int32.ofNat (b2n b1 + b2n b2 + b2n b3 + b2n b4 + b2n b5)) + (Int32.ofNat E))), .val (.int dp), .val (.ref al), .val (.ref hs), .unset, .unset, .unset, .unset, .unset, .unset, .unset, .unset, .unset, .unset, .unset, .unset, .unset, .unset] [])) := by
  refine own_newO X0 hx hby hZ hown (hw _ (mi 169 rfl)) (hw _ (mi 170 rfl)) (hw _ (mi 171 rfl)) eH0 at_437 (pc' := 440) rfl (by decide) (by decide) (fun T61 h61 b61 X61 eH61 E61 g61 E_b61 D61 => ?_)
  have g_b61 : n0 ≤ b61 := g61 ▸ Z0
  replace Z0 := Nat.le_trans Z0 E61.1
  have F_b61_relevantRanks : Fld Z h61 b61 "com/example/prior3/prior3/eval/JudgedRanking" "relevantRanks" "[I" .null := D61 (Or.inr (hw _ (mi 232 rfl))) (ty := (.array .int)) (by decide)
  have F_b61_relevantCount : Fld Z h61 b61 "com/example/prior3/prior3/eval/JudgedRanking" "relevantCount" "I" (.int (0 : Int32)) := D61 (Or.inr (hw _ (mi 234 rfl))) (ty := .int) (by decide)
  refine own_dup X61 hx hby rfl at_440 (pc' := 441) rfl ?_
  refine own_aload X61 hx hby rfl rfl at_441 (pc' := 443) rfl ?_
  refine own_aload X61 hx hby rfl rfl at_443 (pc' := 445) rfl ?_
  have K0 := (Keep.refl h0 []).ext E61
  refine own_special X61 hx hby hZ (y := (⟨"com/example/prior3/prior3/eval/JudgedRanking", "<init>", "(Ljava/util/List;Ljava/util/Set;)V"⟩ : MethodName)) (rest := [(.ref b61)]) rfl hown (hw _ (mi 172 rfl)) (hw _ (mi 173 rfl)) rfl (hw _ (mi 174 rfl)) (hw _ (mi 171 rfl)) (by decide) (rmC l Z a0 hw [] b61 al hs .null 0 cs pr df n n1 (pf [(10, x3), (9, x2), (8, x1), (5, b5), (4, b4), (3, b3), (2, b2), (1, b1)]) h61 n0 Z0 E_b61 F_b61_relevantRanks F_b61_relevantCount g_b61 (S.keep K0 Cl.nil (Nat.le_refl _) fun _ _ => List.not_mem_nil) (W.keep0 K0) (Nat.le_trans H.1 (by decide)) (own_cpos H hX) (Nat.le_trans (cnt_pf _) (Nat.le_of_ble_eq_true rfl))) eH61 (by rw [hml]; rfl) (a := b61) (argsL := [.ref al, .ref hs]) rfl (lenOf pd_25 rfl) rfl at_445 (pc' := 448) rfl (by decide) (W := 1) (Nat.le_of_eq rfl) (by decide) (by decide) (by decide) (fun T62 h62 Lc62 v62r X62 eH62 hQ62 => ?_)
  obtain ⟨ra, rfl, Nq62, Zq62, Ej62, Fr62, Fc62, V_ra⟩ := hQ62
  have N62 := Fr.app N0 Nq62
  replace Z0 := Zq62
  rw [own_rks H] at V_ra
  rw [own_cnt3 H hX, Int32.ofNat_add] at Fc62
  have E_b61 := Ej62
  have F_b61_relevantRanks := Fr62
  have F_b61_relevantCount := Fc62
  refine own_astore X62 hx hby rfl (L' := #[.val (.int shape), .val (.int relMask), .val (.int extra), .val (.int dd), .val (.int mode), .val (.int nn), .val (.int mm), .val (.int (Int32.ofNat E)), .val (.int (i01 b1)), .val (.int (i01 b2)), .val (.int (i01 b3)), .val (.int (i01 b4)), .val (.int (i01 b5)), .val (.int (Int32.ofNat (b2n b1 + b2n b2 + b2n b3 + b2n b4 + b2n b5))), .val (.int ((Int32.ofNat (b2n b1 + b2n b2 + b2n b3 + b2n b4 + b2n b5)) + (Int32.ofNat E))), .val (.int dp), .val (.ref al), .val (.ref hs), .val (.ref b61), .unset, .unset, .unset, .unset, .unset, .unset, .unset, .unset, .unset, .unset, .unset, .unset, .unset]) rfl at_448 (pc' := 450) rfl ?_
  refine own_aload X62 hx hby rfl rfl at_450 (pc' := 452) rfl ?_
  refine own_iload X62 hx hby rfl at_452 (pc' := 454) rfl ?_
  refine own_virtual X62 hx hby hZ (y := (⟨"com/example/prior3/prior3/eval/JudgedRanking", "pres", "(I)D"⟩ : MethodName)) (y' := (⟨"com/example/prior3/prior3/eval/JudgedRanking", "pres", "(I)D"⟩ : MethodName)) (C := "com/example/prior3/prior3/eval/JudgedRanking") (rest := []) hown (hw _ (mi 235 rfl)) (hw _ (mi 236 rfl)) (notFace_of_selects (args := #[]) (mvT hZ (hw _ (mi 238 rfl)))) (hw _ (mi 238 rfl)) (hw _ (mi 237 rfl)) (hw _ (mi 239 rfl)) (hw _ (mi 171 rfl)) (by decide) (rm34 l Z a0 hw [] b61 dp ra ((Int32.ofNat (b2n b1 + b2n b2 + b2n b3 + b2n b4 + b2n b5)) + (Int32.ofNat E)) (ex5 b1 b2 b3 b4 b5) (b2n b1 + b2n b2 + b2n b3 + b2n b4 + b2n b5 + E) h62 n0 Z0 E_b61 F_b61_relevantRanks F_b61_relevantCount V_ra (own_ex5 b1 b2 b3 b4 b5) (Int32.ofNat_add ..).symm (own_c8 H) (Nat.le_trans (tw_le _ _) (own_len5 b1 b2 b3 b4 b5 E)) (own_totp H) hdp) eH62 (by rw [hml]; rfl) (a := b61) E_b61 (argsL := [(.int dp)]) rfl (lenOf pd_26 rfl) rfl at_454 (pc' := 457) rfl (by decide) (W := 0) (Nat.le_of_eq rfl) (by decide) (by decide) (by decide) (fun T63 h63 Lc63 v63r X63 eH63 hQ63 => ?_)
  obtain ⟨rfl, Nq63, rfl⟩ := hQ63
  have N63 := Fr.app N62 Nq63
  dsimp only [Option.toList, List.cons_append, List.nil_append]
  generalize q_r64 : (FP.dsub (4607182418800017408 : UInt64) (FP.ddiv (FP.dsub (FP.ddiv (FP.l2d (s2 ((b2n b1 + b2n b2 + b2n b3 + b2n b4 + b2n b5 + E) - tw (ex5 b1 b2 b3 b4 b5) dp) (tw (ex5 b1 b2 b3 b4 b5) dp + 1) (dp.toInt64) (s1 ((ex5 b1 b2 b3 b4 b5).take (tw (ex5 b1 b2 b3 b4 b5) dp)) (0 : Int64)))) (FP.i2d ((Int32.ofNat (b2n b1 + b2n b2 + b2n b3 + b2n b4 + b2n b5)) + (Int32.ofNat E)))) (FP.ddiv (FP.i2d (((Int32.ofNat (b2n b1 + b2n b2 + b2n b3 + b2n b4 + b2n b5)) + (Int32.ofNat E)) + (1 : Int32))) (4611686018427387904 : UInt64))) (FP.i2d dp))) = r64
  refine own_dstore X63 hx hby (L' := #[.val (.int shape), .val (.int relMask), .val (.int extra), .val (.int dd), .val (.int mode), .val (.int nn), .val (.int mm), .val (.int (Int32.ofNat E)), .val (.int (i01 b1)), .val (.int (i01 b2)), .val (.int (i01 b3)), .val (.int (i01 b4)), .val (.int (i01 b5)), .val (.int (Int32.ofNat (b2n b1 + b2n b2 + b2n b3 + b2n b4 + b2n b5))), .val (.int ((Int32.ofNat (b2n b1 + b2n b2 + b2n b3 + b2n b4 + b2n b5)) + (Int32.ofNat E))), .val (.int dp), .val (.ref al), .val (.ref hs), .val (.ref b61), .val (.double r64), .second, .unset, .unset, .unset, .unset, .unset, .unset, .unset, .unset, .unset, .unset, .unset]) rfl at_457 (pc' := 459) rfl ?_
  refine own_iload X63 hx hby rfl at_459 (pc' := 461) rfl ?_
  refine own_iconst X63 hx hby (v := (1 : Int32)) (by decide) at_461 (pc' := 462) rfl ?_
  refine own_iload X63 hx hby rfl at_462 (pc' := 464) rfl ?_
  refine own_static X63 hx hby hZ (y := (⟨"com/example/prior3/prior3/eval/JudgedRankingPresPinLaw", "hit", "(ZII)I"⟩ : MethodName)) (rest := []) hown (hw _ (mi 245 rfl)) (hw _ (mi 246 rfl)) (hw _ (mi 247 rfl)) (hw _ (mi 3 rfl)) (by decide) (rm36 l Z a0 hw [] (i01 b1) (1 : Int32) dp h62 n0 Z0) eH63 (by rw [hml]; rfl) (argsL := [(.int (i01 b1)), (.int (1 : Int32)), (.int dp)]) rfl (lenOf pd_27 rfl) rfl at_464 (pc' := 467) rfl (by decide) (W := 0) (Nat.le_of_eq rfl) (by decide) (by decide) (by decide) (fun T65 h65 Lc65 v65r X65 eH65 hQ65 => ?_)
  obtain ⟨rfl, Nq65, rfl⟩ := hQ65
  have N65 := Fr.app N63 Nq65
  dsimp only [Option.toList, List.cons_append, List.nil_append]
  generalize q_r66 : (if (i01 b1) = 0 then (0 : Int32) else (if dp < (1 : Int32) then (0 : Int32) else (1 : Int32))) = r66
  refine own_iload X65 hx hby rfl at_467 (pc' := 469) rfl ?_
  refine own_iconst X65 hx hby (v := (2 : Int32)) (by decide) at_469 (pc' := 470) rfl ?_
  refine own_iload X65 hx hby rfl at_470 (pc' := 472) rfl ?_
  refine own_static X65 hx hby hZ (y := (⟨"com/example/prior3/prior3/eval/JudgedRankingPresPinLaw", "hit", "(ZII)I"⟩ : MethodName)) (rest := [(.int r66)]) hown (hw _ (mi 245 rfl)) (hw _ (mi 246 rfl)) (hw _ (mi 247 rfl)) (hw _ (mi 3 rfl)) (by decide) (rm36 l Z a0 hw [] (i01 b2) (2 : Int32) dp h62 n0 Z0) eH65 (by rw [hml]; rfl) (argsL := [(.int (i01 b2)), (.int (2 : Int32)), (.int dp)]) rfl (lenOf pd_27 rfl) rfl at_472 (pc' := 475) rfl (by decide) (W := 1) (Nat.le_of_eq rfl) (by decide) (by decide) (by decide) (fun T67 h67 Lc67 v67r X67 eH67 hQ67 => ?_)
  obtain ⟨rfl, Nq67, rfl⟩ := hQ67
  have N67 := Fr.app N65 Nq67
  dsimp only [Option.toList, List.cons_append, List.nil_append]
  generalize q_r68 : (if (i01 b2) = 0 then (0 : Int32) else (if dp < (2 : Int32) then (0 : Int32) else (1 : Int32))) = r68
  refine own_iadd X67 hx hby rfl at_475 (pc' := 476) rfl ?_
  refine own_iload X67 hx hby rfl at_476 (pc' := 478) rfl ?_
  refine own_iconst X67 hx hby (v := (3 : Int32)) (by decide) at_478 (pc' := 479) rfl ?_
  refine own_iload X67 hx hby rfl at_479 (pc' := 481) rfl ?_
  refine own_static X67 hx hby hZ (y := (⟨"com/example/prior3/prior3/eval/JudgedRankingPresPinLaw", "hit", "(ZII)I"⟩ : MethodName)) (rest := [(.int (r66 + r68))]) hown (hw _ (mi 245 rfl)) (hw _ (mi 246 rfl)) (hw _ (mi 247 rfl)) (hw _ (mi 3 rfl)) (by decide) (rm36 l Z a0 hw [] (i01 b3) (3 : Int32) dp h62 n0 Z0) eH67 (by rw [hml]; rfl) (argsL := [(.int (i01 b3)), (.int (3 : Int32)), (.int dp)]) rfl (lenOf pd_27 rfl) rfl at_481 (pc' := 484) rfl (by decide) (W := 1) (Nat.le_of_eq rfl) (by decide) (by decide) (by decide) (fun T69 h69 Lc69 v69r X69 eH69 hQ69 => ?_)
  obtain ⟨rfl, Nq69, rfl⟩ := hQ69
  have N69 := Fr.app N67 Nq69
  dsimp only [Option.toList, List.cons_append, List.nil_append]
  generalize q_r70 : (if (i01 b3) = 0 then (0 : Int32) else (if dp < (3 : Int32) then (0 : Int32) else (1 : Int32))) = r70
  refine own_iadd X69 hx hby rfl at_484 (pc' := 485) rfl ?_
  refine own_iload X69 hx hby rfl at_485 (pc' := 487) rfl ?_
  refine own_iconst X69 hx hby (v := (4 : Int32)) (by decide) at_487 (pc' := 488) rfl ?_
  refine own_iload X69 hx hby rfl at_488 (pc' := 490) rfl ?_
  refine own_static X69 hx hby hZ (y := (⟨"com/example/prior3/prior3/eval/JudgedRankingPresPinLaw", "hit", "(ZII)I"⟩ : MethodName)) (rest := [(.int ((r66 + r68) + r70))]) hown (hw _ (mi 245 rfl)) (hw _ (mi 246 rfl)) (hw _ (mi 247 rfl)) (hw _ (mi 3 rfl)) (by decide) (rm36 l Z a0 hw [] (i01 b4) (4 : Int32) dp h62 n0 Z0) eH69 (by rw [hml]; rfl) (argsL := [(.int (i01 b4)), (.int (4 : Int32)), (.int dp)]) rfl (lenOf pd_27 rfl) rfl at_490 (pc' := 493) rfl (by decide) (W := 1) (Nat.le_of_eq rfl) (by decide) (by decide) (by decide) (fun T71 h71 Lc71 v71r X71 eH71 hQ71 => ?_)
  obtain ⟨rfl, Nq71, rfl⟩ := hQ71
  have N71 := Fr.app N69 Nq71
  dsimp only [Option.toList, List.cons_append, List.nil_append]
  generalize q_r72 : (if (i01 b4) = 0 then (0 : Int32) else (if dp < (4 : Int32) then (0 : Int32) else (1 : Int32))) = r72
  refine own_iadd X71 hx hby rfl at_493 (pc' := 494) rfl ?_
  refine own_iload X71 hx hby rfl at_494 (pc' := 496) rfl ?_
  refine own_iconst X71 hx hby (v := (5 : Int32)) (by decide) at_496 (pc' := 497) rfl ?_
  refine own_iload X71 hx hby rfl at_497 (pc' := 499) rfl ?_
  refine own_static X71 hx hby hZ (y := (⟨"com/example/prior3/prior3/eval/JudgedRankingPresPinLaw", "hit", "(ZII)I"⟩ : MethodName)) (rest := [(.int (((r66 + r68) + r70) + r72))]) hown (hw _ (mi 245 rfl)) (hw _ (mi 246 rfl)) (hw _ (mi 247 rfl)) (hw _ (mi 3 rfl)) (by decide) (rm36 l Z a0 hw [] (i01 b5) (5 : Int32) dp h62 n0 Z0) eH71 (by rw [hml]; rfl) (argsL := [(.int (i01 b5)), (.int (5 : Int32)), (.int dp)]) rfl (lenOf pd_27 rfl) rfl at_499 (pc' := 502) rfl (by decide) (W := 1) (Nat.le_of_eq rfl) (by decide) (by decide) (by decide) (fun T73 h73 Lc73 v73r X73 eH73 hQ73 => ?_)
  obtain ⟨rfl, Nq73, rfl⟩ := hQ73
  have N73 := Fr.app N71 Nq73
  dsimp only [Option.toList, List.cons_append, List.nil_append]
  generalize q_r74 : (if (i01 b5) = 0 then (0 : Int32) else (if dp < (5 : Int32) then (0 : Int32) else (1 : Int32))) = r74
  refine own_iadd X73 hx hby rfl at_502 (pc' := 503) rfl ?_
  generalize q_n75 : ((((r66 + r68) + r70) + r72) + r74) = n75
  refine own_istore X73 hx hby (L' := #[.val (.int shape), .val (.int relMask), .val (.int extra), .val (.int dd), .val (.int mode), .val (.int nn), .val (.int mm), .val (.int (Int32.ofNat E)), .val (.int (i01 b1)), .val (.int (i01 b2)), .val (.int (i01 b3)), .val (.int (i01 b4)), .val (.int (i01 b5)), .val (.int (Int32.ofNat (b2n b1 + b2n b2 + b2n b3 + b2n b4 + b2n b5))), .val (.int ((Int32.ofNat (b2n b1 + b2n b2 + b2n b3 + b2n b4 + b2n b5)) + (Int32.ofNat E))), .val (.int dp), .val (.ref al), .val (.ref hs), .val (.ref b61), .val (.double r64), .second, .val (.int n75), .unset, .unset, .unset, .unset, .unset, .unset, .unset, .unset, .unset, .unset]) rfl at_503 (pc' := 505) rfl ?_
  refine own_iload X73 hx hby rfl at_505 (pc' := 507) rfl ?_
  refine own_iconst X73 hx hby (v := (1 : Int32)) (by decide) at_507 (pc' := 508) rfl ?_
  refine own_iload X73 hx hby rfl at_508 (pc' := 510) rfl ?_
  refine own_static X73 hx hby hZ (y := (⟨"com/example/prior3/prior3/eval/JudgedRankingPresPinLaw", "rankIf", "(ZII)J"⟩ : MethodName)) (rest := []) hown (hw _ (mi 248 rfl)) (hw _ (mi 249 rfl)) (hw _ (mi 250 rfl)) (hw _ (mi 3 rfl)) (by decide) (rm37 l Z a0 hw [] (i01 b1) (1 : Int32) dp h62 n0 Z0) eH73 (by rw [hml]; rfl) (argsL := [(.int (i01 b1)), (.int (1 : Int32)), (.int dp)]) rfl (lenOf pd_28 rfl) rfl at_510 (pc' := 513) rfl (by decide) (W := 0) (Nat.le_of_eq rfl) (by decide) (by decide) (by decide) (fun T76 h76 Lc76 v76r X76 eH76 hQ76 => ?_)
  obtain ⟨rfl, Nq76, rfl⟩ := hQ76
  have N76 := Fr.app N73 Nq76
  dsimp only [Option.toList, List.cons_append, List.nil_append]
  generalize q_r77 : (if (i01 b1) = 0 then (0 : Int64) else (if dp < (1 : Int32) then (0 : Int64) else ((1 : Int32).toInt64))) = r77
  refine own_iload X76 hx hby rfl at_513 (pc' := 515) rfl ?_
  refine own_iconst X76 hx hby (v := (2 : Int32)) (by decide) at_515 (pc' := 516) rfl ?_
  refine own_iload X76 hx hby rfl at_516 (pc' := 518) rfl ?_
  refine own_static X76 hx hby hZ (y := (⟨"com/example/prior3/prior3/eval/JudgedRankingPresPinLaw", "rankIf", "(ZII)J"⟩ : MethodName)) (rest := [(.long r77)]) hown (hw _ (mi 248 rfl)) (hw _ (mi 249 rfl)) (hw _ (mi 250 rfl)) (hw _ (mi 3 rfl)) (by decide) (rm37 l Z a0 hw [] (i01 b2) (2 : Int32) dp h62 n0 Z0) eH76 (by rw [hml]; rfl) (argsL := [(.int (i01 b2)), (.int (2 : Int32)), (.int dp)]) rfl (lenOf pd_28 rfl) rfl at_518 (pc' := 521) rfl (by decide) (W := 2) (Nat.le_of_eq rfl) (by decide) (by decide) (by decide) (fun T78 h78 Lc78 v78r X78 eH78 hQ78 => ?_)
  obtain ⟨rfl, Nq78, rfl⟩ := hQ78
  have N78 := Fr.app N76 Nq78
  dsimp only [Option.toList, List.cons_append, List.nil_append]
  generalize q_r79 : (if (i01 b2) = 0 then (0 : Int64) else (if dp < (2 : Int32) then (0 : Int64) else ((2 : Int32).toInt64))) = r79
  refine own_ladd X78 hx hby rfl at_521 (pc' := 522) rfl ?_
  refine own_iload X78 hx hby rfl at_522 (pc' := 524) rfl ?_
  refine own_iconst X78 hx hby (v := (3 : Int32)) (by decide) at_524 (pc' := 525) rfl ?_
  refine own_iload X78 hx hby rfl at_525 (pc' := 527) rfl ?_
  refine own_static X78 hx hby hZ (y := (⟨"com/example/prior3/prior3/eval/JudgedRankingPresPinLaw", "rankIf", "(ZII)J"⟩ : MethodName)) (rest := [(.long (r77 + r79))]) hown (hw _ (mi 248 rfl)) (hw _ (mi 249 rfl)) (hw _ (mi 250 rfl)) (hw _ (mi 3 rfl)) (by decide) (rm37 l Z a0 hw [] (i01 b3) (3 : Int32) dp h62 n0 Z0) eH78 (by rw [hml]; rfl) (argsL := [(.int (i01 b3)), (.int (3 : Int32)), (.int dp)]) rfl (lenOf pd_28 rfl) rfl at_527 (pc' := 530) rfl (by decide) (W := 2) (Nat.le_of_eq rfl) (by decide) (by decide) (by decide) (fun T80 h80 Lc80 v80r X80 eH80 hQ80 => ?_)
  obtain ⟨rfl, Nq80, rfl⟩ := hQ80
  have N80 := Fr.app N78 Nq80
  dsimp only [Option.toList, List.cons_append, List.nil_append]
  generalize q_r81 : (if (i01 b3) = 0 then (0 : Int64) else (if dp < (3 : Int32) then (0 : Int64) else ((3 : Int32).toInt64))) = r81
  refine own_ladd X80 hx hby rfl at_530 (pc' := 531) rfl ?_
  refine own_iload X80 hx hby rfl at_531 (pc' := 533) rfl ?_
  refine own_iconst X80 hx hby (v := (4 : Int32)) (by decide) at_533 (pc' := 534) rfl ?_
  refine own_iload X80 hx hby rfl at_534 (pc' := 536) rfl ?_
  refine own_static X80 hx hby hZ (y := (⟨"com/example/prior3/prior3/eval/JudgedRankingPresPinLaw", "rankIf", "(ZII)J"⟩ : MethodName)) (rest := [(.long ((r77 + r79) + r81))]) hown (hw _ (mi 248 rfl)) (hw _ (mi 249 rfl)) (hw _ (mi 250 rfl)) (hw _ (mi 3 rfl)) (by decide) (rm37 l Z a0 hw [] (i01 b4) (4 : Int32) dp h62 n0 Z0) eH80 (by rw [hml]; rfl) (argsL := [(.int (i01 b4)), (.int (4 : Int32)), (.int dp)]) rfl (lenOf pd_28 rfl) rfl at_536 (pc' := 539) rfl (by decide) (W := 2) (Nat.le_of_eq rfl) (by decide) (by decide) (by decide) (fun T82 h82 Lc82 v82r X82 eH82 hQ82 => ?_)
  obtain ⟨rfl, Nq82, rfl⟩ := hQ82
  have N82 := Fr.app N80 Nq82
  dsimp only [Option.toList, List.cons_append, List.nil_append]
  generalize q_r83 : (if (i01 b4) = 0 then (0 : Int64) else (if dp < (4 : Int32) then (0 : Int64) else ((4 : Int32).toInt64))) = r83
  refine own_ladd X82 hx hby rfl at_539 (pc' := 540) rfl ?_
  refine own_iload X82 hx hby rfl at_540 (pc' := 542) rfl ?_
  refine own_iconst X82 hx hby (v := (5 : Int32)) (by decide) at_542 (pc' := 543) rfl ?_
  refine own_iload X82 hx hby rfl at_543 (pc' := 545) rfl ?_
  refine own_static X82 hx hby hZ (y := (⟨"com/example/prior3/prior3/eval/JudgedRankingPresPinLaw", "rankIf", "(ZII)J"⟩ : MethodName)) (rest := [(.long (((r77 + r79) + r81) + r83))]) hown (hw _ (mi 248 rfl)) (hw _ (mi 249 rfl)) (hw _ (mi 250 rfl)) (hw _ (mi 3 rfl)) (by decide) (rm37 l Z a0 hw [] (i01 b5) (5 : Int32) dp h62 n0 Z0) eH82 (by rw [hml]; rfl) (argsL := [(.int (i01 b5)), (.int (5 : Int32)), (.int dp)]) rfl (lenOf pd_28 rfl) rfl at_545 (pc' := 548) rfl (by decide) (W := 2) (Nat.le_of_eq rfl) (by decide) (by decide) (by decide) (fun T84 h84 Lc84 v84r X84 eH84 hQ84 => ?_)
  obtain ⟨rfl, Nq84, rfl⟩ := hQ84
  have N84 := Fr.app N82 Nq84
  dsimp only [Option.toList, List.cons_append, List.nil_append]
  generalize q_r85 : (if (i01 b5) = 0 then (0 : Int64) else (if dp < (5 : Int32) then (0 : Int64) else ((5 : Int32).toInt64))) = r85
  refine own_ladd X84 hx hby rfl at_548 (pc' := 549) rfl ?_
  generalize q_n86 : ((((r77 + r79) + r81) + r83) + r85) = n86
  refine own_lstore X84 hx hby (L' := #[.val (.int shape), .val (.int relMask), .val (.int extra), .val (.int dd), .val (.int mode), .val (.int nn), .val (.int mm), .val (.int (Int32.ofNat E)), .val (.int (i01 b1)), .val (.int (i01 b2)), .val (.int (i01 b3)), .val (.int (i01 b4)), .val (.int (i01 b5)), .val (.int (Int32.ofNat (b2n b1 + b2n b2 + b2n b3 + b2n b4 + b2n b5))), .val (.int ((Int32.ofNat (b2n b1 + b2n b2 + b2n b3 + b2n b4 + b2n b5)) + (Int32.ofNat E))), .val (.int dp), .val (.ref al), .val (.ref hs), .val (.ref b61), .val (.double r64), .second, .val (.int n75), .val (.long n86), .second, .unset, .unset, .unset, .unset, .unset, .unset, .unset, .unset]) rfl at_549 (pc' := 551) rfl ?_
  refine own_iload X84 hx hby rfl at_551 (pc' := 553) rfl ?_
  refine own_iload X84 hx hby rfl at_553 (pc' := 555) rfl ?_
  as_aux_lemma =>
    refine own_isub X84 hx hby rfl at_555 (pc' := 556) rfl ?_
    refine own_i2l X84 hx hby rfl at_556 (pc' := 557) rfl ?_
    refine own_iload X84 hx hby rfl at_557 (pc' := 559) rfl ?_
    refine own_i2l X84 hx hby rfl at_559 (pc' := 560) rfl ?_
    refine own_lmul X84 hx hby rfl at_560 (pc' := 561) rfl ?_
    refine own_iload X84 hx hby rfl at_561 (pc' := 563) rfl ?_
    refine own_i2l X84 hx hby rfl at_563 (pc' := 564) rfl ?_
    refine own_iload X84 hx hby rfl at_564 (pc' := 566) rfl ?_
    refine own_iconst X84 hx hby (v := (1 : Int32)) (by decide) at_566 (pc' := 567) rfl ?_
    refine own_iadd X84 hx hby rfl at_567 (pc' := 568) rfl ?_
    refine own_i2l X84 hx hby rfl at_568 (pc' := 569) rfl ?_
    refine own_lmul X84 hx hby rfl at_569 (pc' := 570) rfl ?_
    refine own_iload X84 hx hby rfl at_570 (pc' := 572) rfl ?_
    refine own_i2l X84 hx hby rfl at_572 (pc' := 573) rfl ?_
    refine own_iload X84 hx hby rfl at_573 (pc' := 575) rfl ?_
    refine own_iconst X84 hx hby (v := (1 : Int32)) (by decide) at_575 (pc' := 576) rfl ?_
    refine own_iadd X84 hx hby rfl at_576 (pc' := 577) rfl ?_
    refine own_i2l X84 hx hby rfl at_577 (pc' := 578) rfl ?_
    refine own_lmul X84 hx hby rfl at_578 (pc' := 579) rfl ?_
    refine own_lsub X84 hx hby rfl at_579 (pc' := 580) rfl ?_
    refine own_ldc2L X84 hx hby hZ hown (hw _ (mi 251 rfl)) at_580 (pc' := 583) rfl ?_
    refine own_ldiv X84 hx hby (by decide) rfl at_583 (pc' := 584) rfl ?_
    refine own_ladd X84 hx hby rfl at_584 (pc' := 585) rfl ?_
    generalize q_n87 : ((((((Int32.ofNat (b2n b1 + b2n b2 + b2n b3 + b2n b4 + b2n b5)) + (Int32.ofNat E)) - n75).toInt64) * (dp.toInt64)) + ((((((Int32.ofNat (b2n b1 + b2n b2 + b2n b3 + b2n b4 + b2n b5)) + (Int32.ofNat E)).toInt64) * ((((Int32.ofNat (b2n b1 + b2n b2 + b2n b3 + b2n b4 + b2n b5)) + (Int32.ofNat E)) + (1 : Int32)).toInt64)) - ((n75.toInt64) * ((n75 + (1 : Int32)).toInt64))) / (2 : Int64))) = n87
    refine own_lstore X84 hx hby (L' := #[.val (.int shape), .val (.int relMask), .val (.int extra), .val (.int dd), .val (.int mode), .val (.int nn), .val (.int mm), .val (.int (Int32.ofNat E)), .val (.int (i01 b1)), .val (.int (i01 b2)), .val (.int (i01 b3)), .val (.int (i01 b4)), .val (.int (i01 b5)), .val (.int (Int32.ofNat (b2n b1 + b2n b2 + b2n b3 + b2n b4 + b2n b5))), .val (.int ((Int32.ofNat (b2n b1 + b2n b2 + b2n b3 + b2n b4 + b2n b5)) + (Int32.ofNat E))), .val (.int dp), .val (.ref al), .val (.ref hs), .val (.ref b61), .val (.double r64), .second, .val (.int n75), .val (.long n86), .second, .val (.long n87), .second, .unset, .unset, .unset, .unset, .unset, .unset]) rfl at_585 (pc' := 587) rfl ?_
    refine own_lload X84 hx hby rfl at_587 (pc' := 589) rfl ?_
    refine own_lload X84 hx hby rfl at_589 (pc' := 591) rfl ?_
    refine own_ladd X84 hx hby rfl at_591 (pc' := 592) rfl ?_
    generalize q_n88 : (n86 + n87) = n88
    refine own_lstore X84 hx hby (L' := #[.val (.int shape), .val (.int relMask), .val (.int extra), .val (.int dd), .val (.int mode), .val (.int nn), .val (.int mm), .val (.int (Int32.ofNat E)), .val (.int (i01 b1)), .val (.int (i01 b2)), .val (.int (i01 b3)), .val (.int (i01 b4)), .val (.int (i01 b5)), .val (.int (Int32.ofNat (b2n b1 + b2n b2 + b2n b3 + b2n b4 + b2n b5))), .val (.int ((Int32.ofNat (b2n b1 + b2n b2 + b2n b3 + b2n b4 + b2n b5)) + (Int32.ofNat E))), .val (.int dp), .val (.ref al), .val (.ref hs), .val (.ref b61), .val (.double r64), .second, .val (.int n75), .val (.long n86), .second, .val (.long n87), .second, .val (.long n88), .second, .unset, .unset, .unset, .unset]) rfl at_592 (pc' := 594) rfl ?_
    refine own_lload X84 hx hby rfl at_594 (pc' := 596) rfl ?_
    have hpn := own_pnn n88 (own_totp H) hdp
    obtain ⟨v89, q_v89⟩ : ∃ z : UInt64, (FP.l2d n88) = z := ⟨_, rfl⟩
    refine own_l2d X84 hx hby q_v89 at_596 (pc' := 597) rfl ?_
    refine own_iload X84 hx hby rfl at_597 (pc' := 599) rfl ?_
    obtain ⟨v90, q_v90⟩ : ∃ z : UInt64, (FP.i2d ((Int32.ofNat (b2n b1 + b2n b2 + b2n b3 + b2n b4 + b2n b5)) + (Int32.ofNat E))) = z := ⟨_, rfl⟩
    refine own_i2d X84 hx hby q_v90 at_599 (pc' := 600) rfl ?_
    obtain ⟨v91, q_v91⟩ : ∃ z : UInt64, (FP.ddiv v89 v90) = z := ⟨_, rfl⟩
    have nn_v91 : NoNaN64 v91 := by rw [← q_v91, ← q_v89, ← q_v90]; exact hpn.1
    refine own_ddiv X84 hx hby (by rw [q_v91]; exact nn_v91) q_v91 at_600 (pc' := 601) rfl ?_
    refine own_dstore X84 hx hby (L' := #[.val (.int shape), .val (.int relMask), .val (.int extra), .val (.int dd), .val (.int mode), .val (.int nn), .val (.int mm), .val (.int (Int32.ofNat E)), .val (.int (i01 b1)), .val (.int (i01 b2)), .val (.int (i01 b3)), .val (.int (i01 b4)), .val (.int (i01 b5)), .val (.int (Int32.ofNat (b2n b1 + b2n b2 + b2n b3 + b2n b4 + b2n b5))), .val (.int ((Int32.ofNat (b2n b1 + b2n b2 + b2n b3 + b2n b4 + b2n b5)) + (Int32.ofNat E))), .val (.int dp), .val (.ref al), .val (.ref hs), .val (.ref b61), .val (.double r64), .second, .val (.int n75), .val (.long n86), .second, .val (.long n87), .second, .val (.long n88), .second, .val (.double v91), .second, .unset, .unset]) rfl at_601 (pc' := 603) rfl ?_
    refine own_dconst1 X84 hx hby (v := (4607182418800017408 : UInt64)) (by decide) at_603 (pc' := 604) rfl ?_
    refine own_dload X84 hx hby rfl at_604 (pc' := 606) rfl ?_
    refine own_iload X84 hx hby rfl at_606 (pc' := 608) rfl ?_
    refine own_iconst X84 hx hby (v := (1 : Int32)) (by decide) at_608 (pc' := 609) rfl ?_
    refine own_iadd X84 hx hby rfl at_609 (pc' := 610) rfl ?_
    obtain ⟨v92, q_v92⟩ : ∃ z : UInt64, (FP.i2d (((Int32.ofNat (b2n b1 + b2n b2 + b2n b3 + b2n b4 + b2n b5)) + (Int32.ofNat E)) + (1 : Int32))) = z := ⟨_, rfl⟩
    refine own_i2d X84 hx hby q_v92 at_610 (pc' := 611) rfl ?_
    refine own_ldc2D X84 hx hby hZ hown (hw _ (mi 252 rfl)) at_611 (pc' := 614) rfl ?_
    obtain ⟨v93, q_v93⟩ : ∃ z : UInt64, (FP.ddiv v92 (4611686018427387904 : UInt64)) = z := ⟨_, rfl⟩
    have nn_v93 : NoNaN64 v93 := by rw [← q_v93, ← q_v92]; exact hpn.2.1
    refine own_ddiv X84 hx hby (by rw [q_v93]; exact nn_v93) q_v93 at_614 (pc' := 615) rfl ?_
    obtain ⟨v94, q_v94⟩ : ∃ z : UInt64, (FP.dsub v91 v93) = z := ⟨_, rfl⟩
    have nn_v94 : NoNaN64 v94 := by rw [← q_v94, ← q_v91, ← q_v89, ← q_v90, ← q_v93, ← q_v92]; exact hpn.2.2.1
    refine own_dsub X84 hx hby (by rw [q_v94]; exact nn_v94) q_v94 at_615 (pc' := 616) rfl ?_
    refine own_iload X84 hx hby rfl at_616 (pc' := 618) rfl ?_
    obtain ⟨v95, q_v95⟩ : ∃ z : UInt64, (FP.i2d dp) = z := ⟨_, rfl⟩
    refine own_i2d X84 hx hby q_v95 at_618 (pc' := 619) rfl ?_
    obtain ⟨v96, q_v96⟩ : ∃ z : UInt64, (FP.ddiv v94 v95) = z := ⟨_, rfl⟩
    have nn_v96 : NoNaN64 v96 := by rw [← q_v96, ← q_v94, ← q_v91, ← q_v89, ← q_v90, ← q_v93, ← q_v92, ← q_v95]; exact hpn.2.2.2.1
    refine own_ddiv X84 hx hby (by rw [q_v96]; exact nn_v96) q_v96 at_619 (pc' := 620) rfl ?_
    obtain ⟨v97, q_v97⟩ : ∃ z : UInt64, (FP.dsub (4607182418800017408 : UInt64) v96) = z := ⟨_, rfl⟩
    have nn_v97 : NoNaN64 v97 := by rw [← q_v97, ← q_v96, ← q_v94, ← q_v91, ← q_v89, ← q_v90, ← q_v93, ← q_v92, ← q_v95]; exact hpn.2.2.2.2
    refine own_dsub X84 hx hby (by rw [q_v97]; exact nn_v97) q_v97 at_620 (pc' := 621) rfl ?_
    refine own_dstore X84 hx hby (L' := #[.val (.int shape), .val (.int relMask), .val (.int extra), .val (.int dd), .val (.int mode), .val (.int nn), .val (.int mm), .val (.int (Int32.ofNat E)), .val (.int (i01 b1)), .val (.int (i01 b2)), .val (.int (i01 b3)), .val (.int (i01 b4)), .val (.int (i01 b5)), .val (.int (Int32.ofNat (b2n b1 + b2n b2 + b2n b3 + b2n b4 + b2n b5))), .val (.int ((Int32.ofNat (b2n b1 + b2n b2 + b2n b3 + b2n b4 + b2n b5)) + (Int32.ofNat E))), .val (.int dp), .val (.ref al), .val (.ref hs), .val (.ref b61), .val (.double r64), .second, .val (.int n75), .val (.long n86), .second, .val (.long n87), .second, .val (.long n88), .second, .val (.double v91), .second, .val (.double v97), .second]) rfl at_621 (pc' := 623) rfl ?_
    refine own_dload X84 hx hby rfl at_623 (pc' := 625) rfl ?_
    refine own_dload X84 hx hby rfl at_625 (pc' := 627) rfl ?_
    refine own_dcmp X84 hx hby rfl at_627 (pc' := 628) rfl ?_
    by_cases hc98 : deq r64 v97
    · refine own_ifF X84 hx hby at_628 (own_dl_ne_p hc98) (pc' := 631) rfl ?_
      refine own_iconst X84 hx hby (v := (1 : Int32)) (by decide) at_631 (pc' := 632) rfl ?_
      refine own_goto X84 hx hby at_632 (by decide) (pc' := 636) (by decide) ?_
      exact own_retZ X84 hx hby hlk hret (Or.inr rfl) at_636 (by decide) (by decide) eH84 (hQ _ _ N84)
    · refine own_ifT X84 hx hby at_628 (own_dl_ne_n hc98) (by decide) (pc' := 635) (by decide) ?_
      refine own_iconst X84 hx hby (v := (0 : Int32)) (by decide) at_635 (pc' := 636) rfl ?_
      have e : r64 = v97 := by rw [← q_r64, ← q_v97, ← q_v96, ← q_v94, ← q_v91, ← q_v89, ← q_v90, ← q_v93, ← q_v92, ← q_v95, own_rank b1 b2 b3 b4 b5 E (own_E3 H) dp q_r66 q_r68 q_r70 q_r72 q_r74 q_n75 q_r77 q_r79 q_r81 q_r83 q_r85 q_n86 q_n87 q_n88]
      exact absurd (own_deq e (by rw [e]; exact nn_v97)) hc98
theorem tX {l : Launch} {Z : State} {a0 : Array Value} (hw : ∀ d ∈ tables_1, d.before a0 Z = true) {p : Program} {e : Env} {s : State} {m : MethodId} {args : Array Value} {below : List Frame} {meth : Method} {c : Code} (hx : p.tables.exec = Jvm.exec) (hby : c.code = code) (hZ : Z.Warmed39 s.vm) (hml : c.maxLocals = 32) (hown : s.vm.findClass "com/example/prior3/prior3/eval/JudgedRankingPresPinLaw" = some m.cls) (hlk : meth.locks = false) (hret : meth.sig.returnType = some .boolean) {Q : Option Value → Heap → List Loc → Prop} {n0 : Nat} (hQ : ∀ h L, Fr n0 L → Q (some (.int 1)) h L) {s₁ : State} {locs : List Loc} (shape : Int32) (relMask : Int32) (extra : Int32) (dd : Int32) (mode : Int32) (nn : Int32) (mm : Int32) (dp : Int32) (hdp : 0 < dp.toInt) (b1 b2 b3 b4 b5 : Bool) (E : Nat) (al : Addr) (hs : Addr) (cs : Int32) (pr df : Addr) (h0 : Heap) (n1 : Nat) (Z0 : n0 ≤ h0.size) (N0 : Fr n0 locs) (X0 : Stand p l e room_1 s m args below meth c s₁ locs 40 225) (eH0 : s₁.heap = h0) (n : Nat) (hn1 : n1 ≤ h0.size) (H : (n ≤ 5 ∧ (b1 = true → 1 ≤ n) ∧ (b2 = true → 2 ≤ n) ∧ (b3 = true → 3 ≤ n) ∧ (b4 = true → 4 ≤ n) ∧ (b5 = true → 5 ≤ n) ∧ E ≤ 3 ∧ 0 < b2n b1 + b2n b2 + b2n b3 + b2n b4 + b2n b5 + E)) (S : LL Z h0 n0 n1 al cs pr df n) (W : SE Z h0 n0 n1 hs (pf [(5, b5), (4, b4), (3, b3), (2, b2), (1, b1)])) : Gt p.tables e below (fun o U' => ∃ v Lc, o = .returned v ∧ Q v U'.heap Lc ∧ FrameEnd s o U' Lc 96 384) (s₁.setTop (mkF m 386 #[.val (.int shape), .val (.int relMask), .val (.int extra), .val (.int dd), .val (.int mode), .val (.int nn), .val (.int mm), .val (.int (Int32.ofNat E)), .val (.int (i01 b1)), .val (.int (i01 b2)), .val (.int (i01 b3)), .val (.int (i01 b4)), .val (.int (i01 b5)), .val (.int (Int32.ofNat (b2n b1 + b2n b2 + b2n b3 + b2n b4 + b2n b5))), .val (.int ((Int32.ofNat (b2n b1 + b2n b2 + b2n b3 + b2n b4 + b2n b5)) + (Int32.ofNat E))), .val (.int dp), .val (.ref al), .val (.ref hs), .unset, .unset, .unset, .unset, .unset, .unset, .unset, .unset, .unset, .unset, .unset, .unset, .unset, .unset] [])) := by
  rcases E with _ | _ | _ | _ | E
  · refine own_iload X0 hx hby rfl at_386 (pc' := 388) rfl ?_
    refine own_iconst X0 hx hby (v := (1 : Int32)) (by decide) at_388 (pc' := 389) rfl ?_
    refine own_icT X0 hx hby at_389 (by decide) (by decide) (pc' := 403) (by decide) ?_
    refine own_iload X0 hx hby rfl at_403 (pc' := 405) rfl ?_
    refine own_iconst X0 hx hby (v := (2 : Int32)) (by decide) at_405 (pc' := 406) rfl ?_
    refine own_icT X0 hx hby at_406 (by decide) (by decide) (pc' := 420) (by decide) ?_
    refine own_iload X0 hx hby rfl at_420 (pc' := 422) rfl ?_
    refine own_iconst X0 hx hby (v := (3 : Int32)) (by decide) at_422 (pc' := 423) rfl ?_
    refine own_icT X0 hx hby at_423 (by decide) (by decide) (pc' := 437) (by decide) ?_
    exact tEnd hw hx hby hZ hml hown hlk hret hQ shape relMask extra dd mode nn mm dp hdp b1 b2 b3 b4 b5 0 al hs cs pr df h0 n1 Z0 N0 (own_lift X0 (by decide) (by decide)) eH0 n hn1 H false false false (by decide) S (SE.congr (SE.congr (SE.congr W (pf_false 8 _)) (pf_false 9 _)) (pf_false 10 _))
  · refine own_iload X0 hx hby rfl at_386 (pc' := 388) rfl ?_
    refine own_iconst X0 hx hby (v := (1 : Int32)) (by decide) at_388 (pc' := 389) rfl ?_
    refine own_icF X0 hx hby at_389 (by decide) (pc' := 392) rfl ?_
    refine gS hw hx hby hZ hml hown (120 : Int32) 120 8 392 394 396 399 402 403 40 225 rfl at_392 rfl at_394 rfl at_396 rfl at_399 rfl at_402 (by decide) (by decide) (by decide) (by decide) (by decide) (by decide) (by decide) (by decide) (by decide) (by decide) (by decide) (by decide) (by decide) (by decide) shape relMask extra dd mode nn mm (Int32.ofNat 1) (i01 b1) (i01 b2) (i01 b3) (i01 b4) (i01 b5) (Int32.ofNat (b2n b1 + b2n b2 + b2n b3 + b2n b4 + b2n b5)) ((Int32.ofNat (b2n b1 + b2n b2 + b2n b3 + b2n b4 + b2n b5)) + (Int32.ofNat 1)) dp al hs cs pr df h0 n0 n1 Z0 N0 X0 eH0 hn1 (by simp [pf]) (Nat.le_trans (cnt_pf _) (Nat.le_of_ble_eq_true rfl)) S W (fun T5 h5 locs5 X5 e5 N5 Z5 hn5 S5 W5 => ?_)
    refine own_iload X5 hx hby rfl at_403 (pc' := 405) rfl ?_
    refine own_iconst X5 hx hby (v := (2 : Int32)) (by decide) at_405 (pc' := 406) rfl ?_
    refine own_icT X5 hx hby at_406 (by decide) (by decide) (pc' := 420) (by decide) ?_
    refine own_iload X5 hx hby rfl at_420 (pc' := 422) rfl ?_
    refine own_iconst X5 hx hby (v := (3 : Int32)) (by decide) at_422 (pc' := 423) rfl ?_
    refine own_icT X5 hx hby at_423 (by decide) (by decide) (pc' := 437) (by decide) ?_
    exact tEnd hw hx hby hZ hml hown hlk hret hQ shape relMask extra dd mode nn mm dp hdp b1 b2 b3 b4 b5 1 al hs cs pr df h5 n1 Z5 N5 (own_lift X5 (by decide) (by decide)) e5 n hn5 H true false false (by decide) S5 (SE.congr (SE.congr (W5.congr (pf_true 8 _)) (pf_false 9 _)) (pf_false 10 _))
  · refine own_iload X0 hx hby rfl at_386 (pc' := 388) rfl ?_
    refine own_iconst X0 hx hby (v := (1 : Int32)) (by decide) at_388 (pc' := 389) rfl ?_
    refine own_icF X0 hx hby at_389 (by decide) (pc' := 392) rfl ?_
    refine gS hw hx hby hZ hml hown (120 : Int32) 120 8 392 394 396 399 402 403 40 225 rfl at_392 rfl at_394 rfl at_396 rfl at_399 rfl at_402 (by decide) (by decide) (by decide) (by decide) (by decide) (by decide) (by decide) (by decide) (by decide) (by decide) (by decide) (by decide) (by decide) (by decide) shape relMask extra dd mode nn mm (Int32.ofNat 2) (i01 b1) (i01 b2) (i01 b3) (i01 b4) (i01 b5) (Int32.ofNat (b2n b1 + b2n b2 + b2n b3 + b2n b4 + b2n b5)) ((Int32.ofNat (b2n b1 + b2n b2 + b2n b3 + b2n b4 + b2n b5)) + (Int32.ofNat 2)) dp al hs cs pr df h0 n0 n1 Z0 N0 X0 eH0 hn1 (by simp [pf]) (Nat.le_trans (cnt_pf _) (Nat.le_of_ble_eq_true rfl)) S W (fun T5 h5 locs5 X5 e5 N5 Z5 hn5 S5 W5 => ?_)
    refine own_iload X5 hx hby rfl at_403 (pc' := 405) rfl ?_
    refine own_iconst X5 hx hby (v := (2 : Int32)) (by decide) at_405 (pc' := 406) rfl ?_
    refine own_icF X5 hx hby at_406 (by decide) (pc' := 409) rfl ?_
    refine gS hw hx hby hZ hml hown (121 : Int32) 121 9 409 411 413 416 419 420 44 250 rfl at_409 rfl at_411 rfl at_413 rfl at_416 rfl at_419 (by decide) (by decide) (by decide) (by decide) (by decide) (by decide) (by decide) (by decide) (by decide) (by decide) (by decide) (by decide) (by decide) (by decide) shape relMask extra dd mode nn mm (Int32.ofNat 2) (i01 b1) (i01 b2) (i01 b3) (i01 b4) (i01 b5) (Int32.ofNat (b2n b1 + b2n b2 + b2n b3 + b2n b4 + b2n b5)) ((Int32.ofNat (b2n b1 + b2n b2 + b2n b3 + b2n b4 + b2n b5)) + (Int32.ofNat 2)) dp al hs cs pr df h5 n0 n1 Z5 N5 X5 e5 hn5 (by simp [pf]) (Nat.le_trans (cnt_pf _) (Nat.le_of_ble_eq_true rfl)) S5 (W5.congr (pf_true 8 _)) (fun T6 h6 locs6 X6 e6 N6 Z6 hn6 S6 W6 => ?_)
    refine own_iload X6 hx hby rfl at_420 (pc' := 422) rfl ?_
    refine own_iconst X6 hx hby (v := (3 : Int32)) (by decide) at_422 (pc' := 423) rfl ?_
    refine own_icT X6 hx hby at_423 (by decide) (by decide) (pc' := 437) (by decide) ?_
    exact tEnd hw hx hby hZ hml hown hlk hret hQ shape relMask extra dd mode nn mm dp hdp b1 b2 b3 b4 b5 2 al hs cs pr df h6 n1 Z6 N6 (own_lift X6 (by decide) (by decide)) e6 n hn6 H true true false (by decide) S6 (SE.congr (W6.congr (pf_true 9 _)) (pf_false 10 _))
  · refine own_iload X0 hx hby rfl at_386 (pc' := 388) rfl ?_
    refine own_iconst X0 hx hby (v := (1 : Int32)) (by decide) at_388 (pc' := 389) rfl ?_
    refine own_icF X0 hx hby at_389 (by decide) (pc' := 392) rfl ?_
    refine gS hw hx hby hZ hml hown (120 : Int32) 120 8 392 394 396 399 402 403 40 225 rfl at_392 rfl at_394 rfl at_396 rfl at_399 rfl at_402 (by decide) (by decide) (by decide) (by decide) (by decide) (by decide) (by decide) (by decide) (by decide) (by decide) (by decide) (by decide) (by decide) (by decide) shape relMask extra dd mode nn mm (Int32.ofNat 3) (i01 b1) (i01 b2) (i01 b3) (i01 b4) (i01 b5) (Int32.ofNat (b2n b1 + b2n b2 + b2n b3 + b2n b4 + b2n b5)) ((Int32.ofNat (b2n b1 + b2n b2 + b2n b3 + b2n b4 + b2n b5)) + (Int32.ofNat 3)) dp al hs cs pr df h0 n0 n1 Z0 N0 X0 eH0 hn1 (by simp [pf]) (Nat.le_trans (cnt_pf _) (Nat.le_of_ble_eq_true rfl)) S W (fun T5 h5 locs5 X5 e5 N5 Z5 hn5 S5 W5 => ?_)
    refine own_iload X5 hx hby rfl at_403 (pc' := 405) rfl ?_
    refine own_iconst X5 hx hby (v := (2 : Int32)) (by decide) at_405 (pc' := 406) rfl ?_
    refine own_icF X5 hx hby at_406 (by decide) (pc' := 409) rfl ?_
    refine gS hw hx hby hZ hml hown (121 : Int32) 121 9 409 411 413 416 419 420 44 250 rfl at_409 rfl at_411 rfl at_413 rfl at_416 rfl at_419 (by decide) (by decide) (by decide) (by decide) (by decide) (by decide) (by decide) (by decide) (by decide) (by decide) (by decide) (by decide) (by decide) (by decide) shape relMask extra dd mode nn mm (Int32.ofNat 3) (i01 b1) (i01 b2) (i01 b3) (i01 b4) (i01 b5) (Int32.ofNat (b2n b1 + b2n b2 + b2n b3 + b2n b4 + b2n b5)) ((Int32.ofNat (b2n b1 + b2n b2 + b2n b3 + b2n b4 + b2n b5)) + (Int32.ofNat 3)) dp al hs cs pr df h5 n0 n1 Z5 N5 X5 e5 hn5 (by simp [pf]) (Nat.le_trans (cnt_pf _) (Nat.le_of_ble_eq_true rfl)) S5 (W5.congr (pf_true 8 _)) (fun T6 h6 locs6 X6 e6 N6 Z6 hn6 S6 W6 => ?_)
    refine own_iload X6 hx hby rfl at_420 (pc' := 422) rfl ?_
    refine own_iconst X6 hx hby (v := (3 : Int32)) (by decide) at_422 (pc' := 423) rfl ?_
    refine own_icF X6 hx hby at_423 (by decide) (pc' := 426) rfl ?_
    refine gS hw hx hby hZ hml hown (122 : Int32) 122 10 426 428 430 433 436 437 48 275 rfl at_426 rfl at_428 rfl at_430 rfl at_433 rfl at_436 (by decide) (by decide) (by decide) (by decide) (by decide) (by decide) (by decide) (by decide) (by decide) (by decide) (by decide) (by decide) (by decide) (by decide) shape relMask extra dd mode nn mm (Int32.ofNat 3) (i01 b1) (i01 b2) (i01 b3) (i01 b4) (i01 b5) (Int32.ofNat (b2n b1 + b2n b2 + b2n b3 + b2n b4 + b2n b5)) ((Int32.ofNat (b2n b1 + b2n b2 + b2n b3 + b2n b4 + b2n b5)) + (Int32.ofNat 3)) dp al hs cs pr df h6 n0 n1 Z6 N6 X6 e6 hn6 (by simp [pf]) (Nat.le_trans (cnt_pf _) (Nat.le_of_ble_eq_true rfl)) S6 (W6.congr (pf_true 9 _)) (fun T7 h7 locs7 X7 e7 N7 Z7 hn7 S7 W7 => ?_)
    exact tEnd hw hx hby hZ hml hown hlk hret hQ shape relMask extra dd mode nn mm dp hdp b1 b2 b3 b4 b5 3 al hs cs pr df h7 n1 Z7 N7 (own_lift X7 (by decide) (by decide)) e7 n hn7 H true true true (by decide) S7 (W7.congr (pf_true 10 _))
  · exact absurd H.2.2.2.2.2.2.1 (by omega)

theorem tS4 {l : Launch} {Z : State} {a0 : Array Value} (hw : ∀ d ∈ tables_1, d.before a0 Z = true) {p : Program} {e : Env} {s : State} {m : MethodId} {args : Array Value} {below : List Frame} {meth : Method} {c : Code} (hx : p.tables.exec = Jvm.exec) (hby : c.code = code) (hZ : Z.Warmed39 s.vm) (hml : c.maxLocals = 32) (hown : s.vm.findClass "com/example/prior3/prior3/eval/JudgedRankingPresPinLaw" = some m.cls) (hlk : meth.locks = false) (hret : meth.sig.returnType = some .boolean) {Q : Option Value → Heap → List Loc → Prop} {n0 : Nat} (hQ : ∀ h L, Fr n0 L → Q (some (.int 1)) h L) {s₁ : State} {locs : List Loc} (shape : Int32) (relMask : Int32) (extra : Int32) (dd : Int32) (mode : Int32) (nn : Int32) (mm : Int32) (dp : Int32) (hdp : 0 < dp.toInt) (b1 b2 b3 b4 b5 : Bool) (E : Nat) (al : Addr) (hs : Addr) (cs : Int32) (pr df : Addr) (h0 : Heap) (n1 : Nat) (Z0 : n0 ≤ h0.size) (N0 : Fr n0 locs) (X0 : Stand p l e room_1 s m args below meth c s₁ locs 36 200) (eH0 : s₁.heap = h0) (n : Nat) (hn1 : n1 ≤ h0.size) (H : (n ≤ 5 ∧ (b1 = true → 1 ≤ n) ∧ (b2 = true → 2 ≤ n) ∧ (b3 = true → 3 ≤ n) ∧ (b4 = true → 4 ≤ n) ∧ (b5 = true → 5 ≤ n) ∧ E ≤ 3 ∧ 0 < b2n b1 + b2n b2 + b2n b3 + b2n b4 + b2n b5 + E)) (S : LL Z h0 n0 n1 al cs pr df n) (W : SE Z h0 n0 n1 hs (pf [(4, b4), (3, b3), (2, b2), (1, b1)])) : Gt p.tables e below (fun o U' => ∃ v Lc, o = .returned v ∧ Q v U'.heap Lc ∧ FrameEnd s o U' Lc 96 384) (s₁.setTop (mkF m 370 #[.val (.int shape), .val (.int relMask), .val (.int extra), .val (.int dd), .val (.int mode), .val (.int nn), .val (.int mm), .val (.int (Int32.ofNat E)), .val (.int (i01 b1)), .val (.int (i01 b2)), .val (.int (i01 b3)), .val (.int (i01 b4)), .val (.int (i01 b5)), .val (.int (Int32.ofNat (b2n b1 + b2n b2 + b2n b3 + b2n b4 + b2n b5))), .val (.int ((Int32.ofNat (b2n b1 + b2n b2 + b2n b3 + b2n b4 + b2n b5)) + (Int32.ofNat E))), .val (.int dp), .val (.ref al), .val (.ref hs), .unset, .unset, .unset, .unset, .unset, .unset, .unset, .unset, .unset, .unset, .unset, .unset, .unset, .unset] [])) := by
  cases b5
  · refine own_iload X0 hx hby rfl at_370 (pc' := 372) rfl ?_
    refine own_ifT X0 hx hby at_372 (by decide) (by decide) (pc' := 386) (by decide) ?_
    exact tX hw hx hby hZ hml hown hlk hret hQ shape relMask extra dd mode nn mm dp hdp b1 b2 b3 b4 false E al hs cs pr df h0 n1 Z0 N0 (own_lift X0 (by decide) (by decide)) eH0 n hn1 H S (W.congr (pf_false 5 _))
  · refine own_iload X0 hx hby rfl at_370 (pc' := 372) rfl ?_
    refine own_ifF X0 hx hby at_372 (by decide) (pc' := 375) rfl ?_
    refine gS hw hx hby hZ hml hown (101 : Int32) 101 5 375 377 379 382 385 386 36 200 rfl at_375 rfl at_377 rfl at_379 rfl at_382 rfl at_385 (by decide) (by decide) (by decide) (by decide) (by decide) (by decide) (by decide) (by decide) (by decide) (by decide) (by decide) (by decide) (by decide) (by decide) shape relMask extra dd mode nn mm (Int32.ofNat E) (i01 b1) (i01 b2) (i01 b3) (i01 b4) (i01 true) (Int32.ofNat (b2n b1 + b2n b2 + b2n b3 + b2n b4 + b2n true)) ((Int32.ofNat (b2n b1 + b2n b2 + b2n b3 + b2n b4 + b2n true)) + (Int32.ofNat E)) dp al hs cs pr df h0 n0 n1 Z0 N0 X0 eH0 hn1 (by simp [pf]) (Nat.le_trans (cnt_pf _) (Nat.le_of_ble_eq_true rfl)) S W (fun T' h' locs' X' e' N' Z' hn' S' W' => ?_)
    exact tX hw hx hby hZ hml hown hlk hret hQ shape relMask extra dd mode nn mm dp hdp b1 b2 b3 b4 true E al hs cs pr df h' n1 Z' N' X' e' n hn' H S' (W'.congr (pf_true 5 _))

theorem tS3 {l : Launch} {Z : State} {a0 : Array Value} (hw : ∀ d ∈ tables_1, d.before a0 Z = true) {p : Program} {e : Env} {s : State} {m : MethodId} {args : Array Value} {below : List Frame} {meth : Method} {c : Code} (hx : p.tables.exec = Jvm.exec) (hby : c.code = code) (hZ : Z.Warmed39 s.vm) (hml : c.maxLocals = 32) (hown : s.vm.findClass "com/example/prior3/prior3/eval/JudgedRankingPresPinLaw" = some m.cls) (hlk : meth.locks = false) (hret : meth.sig.returnType = some .boolean) {Q : Option Value → Heap → List Loc → Prop} {n0 : Nat} (hQ : ∀ h L, Fr n0 L → Q (some (.int 1)) h L) {s₁ : State} {locs : List Loc} (shape : Int32) (relMask : Int32) (extra : Int32) (dd : Int32) (mode : Int32) (nn : Int32) (mm : Int32) (dp : Int32) (hdp : 0 < dp.toInt) (b1 b2 b3 b4 b5 : Bool) (E : Nat) (al : Addr) (hs : Addr) (cs : Int32) (pr df : Addr) (h0 : Heap) (n1 : Nat) (Z0 : n0 ≤ h0.size) (N0 : Fr n0 locs) (X0 : Stand p l e room_1 s m args below meth c s₁ locs 32 175) (eH0 : s₁.heap = h0) (n : Nat) (hn1 : n1 ≤ h0.size) (H : (n ≤ 5 ∧ (b1 = true → 1 ≤ n) ∧ (b2 = true → 2 ≤ n) ∧ (b3 = true → 3 ≤ n) ∧ (b4 = true → 4 ≤ n) ∧ (b5 = true → 5 ≤ n) ∧ E ≤ 3 ∧ 0 < b2n b1 + b2n b2 + b2n b3 + b2n b4 + b2n b5 + E)) (S : LL Z h0 n0 n1 al cs pr df n) (W : SE Z h0 n0 n1 hs (pf [(3, b3), (2, b2), (1, b1)])) : Gt p.tables e below (fun o U' => ∃ v Lc, o = .returned v ∧ Q v U'.heap Lc ∧ FrameEnd s o U' Lc 96 384) (s₁.setTop (mkF m 354 #[.val (.int shape), .val (.int relMask), .val (.int extra), .val (.int dd), .val (.int mode), .val (.int nn), .val (.int mm), .val (.int (Int32.ofNat E)), .val (.int (i01 b1)), .val (.int (i01 b2)), .val (.int (i01 b3)), .val (.int (i01 b4)), .val (.int (i01 b5)), .val (.int (Int32.ofNat (b2n b1 + b2n b2 + b2n b3 + b2n b4 + b2n b5))), .val (.int ((Int32.ofNat (b2n b1 + b2n b2 + b2n b3 + b2n b4 + b2n b5)) + (Int32.ofNat E))), .val (.int dp), .val (.ref al), .val (.ref hs), .unset, .unset, .unset, .unset, .unset, .unset, .unset, .unset, .unset, .unset, .unset, .unset, .unset, .unset] [])) := by
  cases b4
  · refine own_iload X0 hx hby rfl at_354 (pc' := 356) rfl ?_
    refine own_ifT X0 hx hby at_356 (by decide) (by decide) (pc' := 370) (by decide) ?_
    exact tS4 hw hx hby hZ hml hown hlk hret hQ shape relMask extra dd mode nn mm dp hdp b1 b2 b3 false b5 E al hs cs pr df h0 n1 Z0 N0 (own_lift X0 (by decide) (by decide)) eH0 n hn1 H S (W.congr (pf_false 4 _))
  · refine own_iload X0 hx hby rfl at_354 (pc' := 356) rfl ?_
    refine own_ifF X0 hx hby at_356 (by decide) (pc' := 359) rfl ?_
    refine gS hw hx hby hZ hml hown (100 : Int32) 100 4 359 361 363 366 369 370 32 175 rfl at_359 rfl at_361 rfl at_363 rfl at_366 rfl at_369 (by decide) (by decide) (by decide) (by decide) (by decide) (by decide) (by decide) (by decide) (by decide) (by decide) (by decide) (by decide) (by decide) (by decide) shape relMask extra dd mode nn mm (Int32.ofNat E) (i01 b1) (i01 b2) (i01 b3) (i01 true) (i01 b5) (Int32.ofNat (b2n b1 + b2n b2 + b2n b3 + b2n true + b2n b5)) ((Int32.ofNat (b2n b1 + b2n b2 + b2n b3 + b2n true + b2n b5)) + (Int32.ofNat E)) dp al hs cs pr df h0 n0 n1 Z0 N0 X0 eH0 hn1 (by simp [pf]) (Nat.le_trans (cnt_pf _) (Nat.le_of_ble_eq_true rfl)) S W (fun T' h' locs' X' e' N' Z' hn' S' W' => ?_)
    exact tS4 hw hx hby hZ hml hown hlk hret hQ shape relMask extra dd mode nn mm dp hdp b1 b2 b3 true b5 E al hs cs pr df h' n1 Z' N' X' e' n hn' H S' (W'.congr (pf_true 4 _))

theorem tS2 {l : Launch} {Z : State} {a0 : Array Value} (hw : ∀ d ∈ tables_1, d.before a0 Z = true) {p : Program} {e : Env} {s : State} {m : MethodId} {args : Array Value} {below : List Frame} {meth : Method} {c : Code} (hx : p.tables.exec = Jvm.exec) (hby : c.code = code) (hZ : Z.Warmed39 s.vm) (hml : c.maxLocals = 32) (hown : s.vm.findClass "com/example/prior3/prior3/eval/JudgedRankingPresPinLaw" = some m.cls) (hlk : meth.locks = false) (hret : meth.sig.returnType = some .boolean) {Q : Option Value → Heap → List Loc → Prop} {n0 : Nat} (hQ : ∀ h L, Fr n0 L → Q (some (.int 1)) h L) {s₁ : State} {locs : List Loc} (shape : Int32) (relMask : Int32) (extra : Int32) (dd : Int32) (mode : Int32) (nn : Int32) (mm : Int32) (dp : Int32) (hdp : 0 < dp.toInt) (b1 b2 b3 b4 b5 : Bool) (E : Nat) (al : Addr) (hs : Addr) (cs : Int32) (pr df : Addr) (h0 : Heap) (n1 : Nat) (Z0 : n0 ≤ h0.size) (N0 : Fr n0 locs) (X0 : Stand p l e room_1 s m args below meth c s₁ locs 28 150) (eH0 : s₁.heap = h0) (n : Nat) (hn1 : n1 ≤ h0.size) (H : (n ≤ 5 ∧ (b1 = true → 1 ≤ n) ∧ (b2 = true → 2 ≤ n) ∧ (b3 = true → 3 ≤ n) ∧ (b4 = true → 4 ≤ n) ∧ (b5 = true → 5 ≤ n) ∧ E ≤ 3 ∧ 0 < b2n b1 + b2n b2 + b2n b3 + b2n b4 + b2n b5 + E)) (S : LL Z h0 n0 n1 al cs pr df n) (W : SE Z h0 n0 n1 hs (pf [(2, b2), (1, b1)])) : Gt p.tables e below (fun o U' => ∃ v Lc, o = .returned v ∧ Q v U'.heap Lc ∧ FrameEnd s o U' Lc 96 384) (s₁.setTop (mkF m 338 #[.val (.int shape), .val (.int relMask), .val (.int extra), .val (.int dd), .val (.int mode), .val (.int nn), .val (.int mm), .val (.int (Int32.ofNat E)), .val (.int (i01 b1)), .val (.int (i01 b2)), .val (.int (i01 b3)), .val (.int (i01 b4)), .val (.int (i01 b5)), .val (.int (Int32.ofNat (b2n b1 + b2n b2 + b2n b3 + b2n b4 + b2n b5))), .val (.int ((Int32.ofNat (b2n b1 + b2n b2 + b2n b3 + b2n b4 + b2n b5)) + (Int32.ofNat E))), .val (.int dp), .val (.ref al), .val (.ref hs), .unset, .unset, .unset, .unset, .unset, .unset, .unset, .unset, .unset, .unset, .unset, .unset, .unset, .unset] [])) := by
  cases b3
  · refine own_iload X0 hx hby rfl at_338 (pc' := 340) rfl ?_
    refine own_ifT X0 hx hby at_340 (by decide) (by decide) (pc' := 354) (by decide) ?_
    exact tS3 hw hx hby hZ hml hown hlk hret hQ shape relMask extra dd mode nn mm dp hdp b1 b2 false b4 b5 E al hs cs pr df h0 n1 Z0 N0 (own_lift X0 (by decide) (by decide)) eH0 n hn1 H S (W.congr (pf_false 3 _))
  · refine own_iload X0 hx hby rfl at_338 (pc' := 340) rfl ?_
    refine own_ifF X0 hx hby at_340 (by decide) (pc' := 343) rfl ?_
    refine gS hw hx hby hZ hml hown (99 : Int32) 99 3 343 345 347 350 353 354 28 150 rfl at_343 rfl at_345 rfl at_347 rfl at_350 rfl at_353 (by decide) (by decide) (by decide) (by decide) (by decide) (by decide) (by decide) (by decide) (by decide) (by decide) (by decide) (by decide) (by decide) (by decide) shape relMask extra dd mode nn mm (Int32.ofNat E) (i01 b1) (i01 b2) (i01 true) (i01 b4) (i01 b5) (Int32.ofNat (b2n b1 + b2n b2 + b2n true + b2n b4 + b2n b5)) ((Int32.ofNat (b2n b1 + b2n b2 + b2n true + b2n b4 + b2n b5)) + (Int32.ofNat E)) dp al hs cs pr df h0 n0 n1 Z0 N0 X0 eH0 hn1 (by simp [pf]) (Nat.le_trans (cnt_pf _) (Nat.le_of_ble_eq_true rfl)) S W (fun T' h' locs' X' e' N' Z' hn' S' W' => ?_)
    exact tS3 hw hx hby hZ hml hown hlk hret hQ shape relMask extra dd mode nn mm dp hdp b1 b2 true b4 b5 E al hs cs pr df h' n1 Z' N' X' e' n hn' H S' (W'.congr (pf_true 3 _))

theorem tS1 {l : Launch} {Z : State} {a0 : Array Value} (hw : ∀ d ∈ tables_1, d.before a0 Z = true) {p : Program} {e : Env} {s : State} {m : MethodId} {args : Array Value} {below : List Frame} {meth : Method} {c : Code} (hx : p.tables.exec = Jvm.exec) (hby : c.code = code) (hZ : Z.Warmed39 s.vm) (hml : c.maxLocals = 32) (hown : s.vm.findClass "com/example/prior3/prior3/eval/JudgedRankingPresPinLaw" = some m.cls) (hlk : meth.locks = false) (hret : meth.sig.returnType = some .boolean) {Q : Option Value → Heap → List Loc → Prop} {n0 : Nat} (hQ : ∀ h L, Fr n0 L → Q (some (.int 1)) h L) {s₁ : State} {locs : List Loc} (shape : Int32) (relMask : Int32) (extra : Int32) (dd : Int32) (mode : Int32) (nn : Int32) (mm : Int32) (dp : Int32) (hdp : 0 < dp.toInt) (b1 b2 b3 b4 b5 : Bool) (E : Nat) (al : Addr) (hs : Addr) (cs : Int32) (pr df : Addr) (h0 : Heap) (n1 : Nat) (Z0 : n0 ≤ h0.size) (N0 : Fr n0 locs) (X0 : Stand p l e room_1 s m args below meth c s₁ locs 24 125) (eH0 : s₁.heap = h0) (n : Nat) (hn1 : n1 ≤ h0.size) (H : (n ≤ 5 ∧ (b1 = true → 1 ≤ n) ∧ (b2 = true → 2 ≤ n) ∧ (b3 = true → 3 ≤ n) ∧ (b4 = true → 4 ≤ n) ∧ (b5 = true → 5 ≤ n) ∧ E ≤ 3 ∧ 0 < b2n b1 + b2n b2 + b2n b3 + b2n b4 + b2n b5 + E)) (S : LL Z h0 n0 n1 al cs pr df n) (W : SE Z h0 n0 n1 hs (pf [(1, b1)])) : Gt p.tables e below (fun o U' => ∃ v Lc, o = .returned v ∧ Q v U'.heap Lc ∧ FrameEnd s o U' Lc 96 384) (s₁.setTop (mkF m 322 #[.val (.int shape), .val (.int relMask), .val (.int extra), .val (.int dd), .val (.int mode), .val (.int nn), .val (.int mm), .val (.int (Int32.ofNat E)), .val (.int (i01 b1)), .val (.int (i01 b2)), .val (.int (i01 b3)), .val (.int (i01 b4)), .val (.int (i01 b5)), .val (.int (Int32.ofNat (b2n b1 + b2n b2 + b2n b3 + b2n b4 + b2n b5))), .val (.int ((Int32.ofNat (b2n b1 + b2n b2 + b2n b3 + b2n b4 + b2n b5)) + (Int32.ofNat E))), .val (.int dp), .val (.ref al), .val (.ref hs), .unset, .unset, .unset, .unset, .unset, .unset, .unset, .unset, .unset, .unset, .unset, .unset, .unset, .unset] [])) := by
  cases b2
  · refine own_iload X0 hx hby rfl at_322 (pc' := 324) rfl ?_
    refine own_ifT X0 hx hby at_324 (by decide) (by decide) (pc' := 338) (by decide) ?_
    exact tS2 hw hx hby hZ hml hown hlk hret hQ shape relMask extra dd mode nn mm dp hdp b1 false b3 b4 b5 E al hs cs pr df h0 n1 Z0 N0 (own_lift X0 (by decide) (by decide)) eH0 n hn1 H S (W.congr (pf_false 2 _))
  · refine own_iload X0 hx hby rfl at_322 (pc' := 324) rfl ?_
    refine own_ifF X0 hx hby at_324 (by decide) (pc' := 327) rfl ?_
    refine gS hw hx hby hZ hml hown (98 : Int32) 98 2 327 329 331 334 337 338 24 125 rfl at_327 rfl at_329 rfl at_331 rfl at_334 rfl at_337 (by decide) (by decide) (by decide) (by decide) (by decide) (by decide) (by decide) (by decide) (by decide) (by decide) (by decide) (by decide) (by decide) (by decide) shape relMask extra dd mode nn mm (Int32.ofNat E) (i01 b1) (i01 true) (i01 b3) (i01 b4) (i01 b5) (Int32.ofNat (b2n b1 + b2n true + b2n b3 + b2n b4 + b2n b5)) ((Int32.ofNat (b2n b1 + b2n true + b2n b3 + b2n b4 + b2n b5)) + (Int32.ofNat E)) dp al hs cs pr df h0 n0 n1 Z0 N0 X0 eH0 hn1 (by simp [pf]) (Nat.le_trans (cnt_pf _) (Nat.le_of_ble_eq_true rfl)) S W (fun T' h' locs' X' e' N' Z' hn' S' W' => ?_)
    exact tS2 hw hx hby hZ hml hown hlk hret hQ shape relMask extra dd mode nn mm dp hdp b1 true b3 b4 b5 E al hs cs pr df h' n1 Z' N' X' e' n hn' H S' (W'.congr (pf_true 2 _))

theorem tS0 {l : Launch} {Z : State} {a0 : Array Value} (hw : ∀ d ∈ tables_1, d.before a0 Z = true) {p : Program} {e : Env} {s : State} {m : MethodId} {args : Array Value} {below : List Frame} {meth : Method} {c : Code} (hx : p.tables.exec = Jvm.exec) (hby : c.code = code) (hZ : Z.Warmed39 s.vm) (hml : c.maxLocals = 32) (hown : s.vm.findClass "com/example/prior3/prior3/eval/JudgedRankingPresPinLaw" = some m.cls) (hlk : meth.locks = false) (hret : meth.sig.returnType = some .boolean) {Q : Option Value → Heap → List Loc → Prop} {n0 : Nat} (hQ : ∀ h L, Fr n0 L → Q (some (.int 1)) h L) {s₁ : State} {locs : List Loc} (shape : Int32) (relMask : Int32) (extra : Int32) (dd : Int32) (mode : Int32) (nn : Int32) (mm : Int32) (dp : Int32) (hdp : 0 < dp.toInt) (b1 b2 b3 b4 b5 : Bool) (E : Nat) (al : Addr) (hs : Addr) (cs : Int32) (pr df : Addr) (h0 : Heap) (n1 : Nat) (Z0 : n0 ≤ h0.size) (N0 : Fr n0 locs) (X0 : Stand p l e room_1 s m args below meth c s₁ locs 20 100) (eH0 : s₁.heap = h0) (n : Nat) (hn1 : n1 ≤ h0.size) (H : (n ≤ 5 ∧ (b1 = true → 1 ≤ n) ∧ (b2 = true → 2 ≤ n) ∧ (b3 = true → 3 ≤ n) ∧ (b4 = true → 4 ≤ n) ∧ (b5 = true → 5 ≤ n) ∧ E ≤ 3 ∧ 0 < b2n b1 + b2n b2 + b2n b3 + b2n b4 + b2n b5 + E)) (S : LL Z h0 n0 n1 al cs pr df n) (W : SE Z h0 n0 n1 hs (pf [])) : Gt p.tables e below (fun o U' => ∃ v Lc, o = .returned v ∧ Q v U'.heap Lc ∧ FrameEnd s o U' Lc 96 384) (s₁.setTop (mkF m 306 #[.val (.int shape), .val (.int relMask), .val (.int extra), .val (.int dd), .val (.int mode), .val (.int nn), .val (.int mm), .val (.int (Int32.ofNat E)), .val (.int (i01 b1)), .val (.int (i01 b2)), .val (.int (i01 b3)), .val (.int (i01 b4)), .val (.int (i01 b5)), .val (.int (Int32.ofNat (b2n b1 + b2n b2 + b2n b3 + b2n b4 + b2n b5))), .val (.int ((Int32.ofNat (b2n b1 + b2n b2 + b2n b3 + b2n b4 + b2n b5)) + (Int32.ofNat E))), .val (.int dp), .val (.ref al), .val (.ref hs), .unset, .unset, .unset, .unset, .unset, .unset, .unset, .unset, .unset, .unset, .unset, .unset, .unset, .unset] [])) := by
  cases b1
  · refine own_iload X0 hx hby rfl at_306 (pc' := 308) rfl ?_
    refine own_ifT X0 hx hby at_308 (by decide) (by decide) (pc' := 322) (by decide) ?_
    exact tS1 hw hx hby hZ hml hown hlk hret hQ shape relMask extra dd mode nn mm dp hdp false b2 b3 b4 b5 E al hs cs pr df h0 n1 Z0 N0 (own_lift X0 (by decide) (by decide)) eH0 n hn1 H S (W.congr (pf_false 1 _))
  · refine own_iload X0 hx hby rfl at_306 (pc' := 308) rfl ?_
    refine own_ifF X0 hx hby at_308 (by decide) (pc' := 311) rfl ?_
    refine gS hw hx hby hZ hml hown (97 : Int32) 97 1 311 313 315 318 321 322 20 100 rfl at_311 rfl at_313 rfl at_315 rfl at_318 rfl at_321 (by decide) (by decide) (by decide) (by decide) (by decide) (by decide) (by decide) (by decide) (by decide) (by decide) (by decide) (by decide) (by decide) (by decide) shape relMask extra dd mode nn mm (Int32.ofNat E) (i01 true) (i01 b2) (i01 b3) (i01 b4) (i01 b5) (Int32.ofNat (b2n true + b2n b2 + b2n b3 + b2n b4 + b2n b5)) ((Int32.ofNat (b2n true + b2n b2 + b2n b3 + b2n b4 + b2n b5)) + (Int32.ofNat E)) dp al hs cs pr df h0 n0 n1 Z0 N0 X0 eH0 hn1 (by simp [pf]) (Nat.le_trans (cnt_pf _) (Nat.le_of_ble_eq_true rfl)) S W (fun T' h' locs' X' e' N' Z' hn' S' W' => ?_)
    exact tS1 hw hx hby hZ hml hown hlk hret hQ shape relMask extra dd mode nn mm dp hdp true b2 b3 b4 b5 E al hs cs pr df h' n1 Z' N' X' e' n hn' H S' (W'.congr (pf_true 1 _))

theorem sgH {l : Launch} {Z : State} {a0 : Array Value} (hw : ∀ d ∈ tables_1, d.before a0 Z = true) {p : Program} {e : Env} {s : State} {m : MethodId} {args : Array Value} {below : List Frame} {meth : Method} {c : Code} {F : Outcome → State → Prop} (hx : p.tables.exec = Jvm.exec) (hby : c.code = code) (hZ : Z.Warmed39 s.vm) (hml : c.maxLocals = 32) (hown : s.vm.findClass "com/example/prior3/prior3/eval/JudgedRankingPresPinLaw" = some m.cls) {s₁ : State} {locs : List Loc} (shape : Int32) (relMask : Int32) (extra : Int32) (dd : Int32) (mode : Int32) (nn : Int32) (mm : Int32) (ee : Int32) (r1 : Int32) (r2 : Int32) (r3 : Int32) (r4 : Int32) (r5 : Int32) (ri : Int32) (tot : Int32) (dp : Int32) (al : Addr) (h0 : Heap) (n0 : Nat) (Z0 : n0 ≤ h0.size) (N0 : Fr n0 locs) (X0 : Stand p l e room_1 s m args below meth c s₁ locs 17 83) (eH0 : s₁.heap = h0)
    (k : ∀ (T' : State) (h' : Heap) (locs' : List Loc) (b61 : Addr) (b2_62 : Addr), Stand p l e room_1 s m args below meth c T' locs' 19 92 → T'.heap = h' → Fr n0 locs' → n0 ≤ h'.size → Keep h0 h' [] → h0.size ≤ b61 → n0 ≤ b61 → h0.size ≤ b2_62 → n0 ≤ b2_62 → Exa Z h' b61 "java/util/HashSet" → Fld Z h' b61 "java/util/HashSet" "map" "Ljava/util/HashMap;" (.ref b2_62) → Exa Z h' b2_62 "java/util/HashMap" → Fld Z h' b2_62 "java/util/HashMap" "loadFactor" "F" (.float (1061158912 : UInt32)) → Fld Z h' b2_62 "java/util/HashMap" "table" "[Ljava/util/HashMap$Node;" .null → Fld Z h' b2_62 "java/util/HashMap" "threshold" "I" (.int (0 : Int32)) → Fld Z h' b2_62 "java/util/HashMap" "modCount" "I" (.int (0 : Int32)) → Fld Z h' b2_62 "java/util/HashMap" "size" "I" (.int (0 : Int32)) → Gt p.tables e below F (T'.setTop (mkF m 306 #[.val (.int shape), .val (.int relMask), .val (.int extra), .val (.int dd), .val (.int mode), .val (.int nn), .val (.int mm), .val (.int ee), .val (.int r1), .val (.int r2), .val (.int r3), .val (.int r4), .val (.int r5), .val (.int ri), .val (.int tot), .val (.int dp), .val (.ref al), .val (.ref b61), .unset, .unset, .unset, .unset, .unset, .unset, .unset, .unset, .unset, .unset, .unset, .unset, .unset, .unset] []))) :
    Gt p.tables e below F (s₁.setTop (mkF m 297 #[.val (.int shape), .val (.int relMask), .val (.int extra), .val (.int dd), .val (.int mode), .val (.int nn), .val (.int mm), .val (.int ee), .val (.int r1), .val (.int r2), .val (.int r3), .val (.int r4), .val (.int r5), .val (.int ri), .val (.int tot), .val (.int dp), .val (.ref al), .unset, .unset, .unset, .unset, .unset, .unset, .unset, .unset, .unset, .unset, .unset, .unset, .unset, .unset, .unset] [])) := by
  have K0 := Keep.refl h0 []
  refine own_newO X0 hx hby hZ hown (hw _ (mi 35 rfl)) (hw _ (mi 36 rfl)) (hw _ (mi 37 rfl)) eH0 at_297 (pc' := 300) rfl (by decide) (by decide) (fun T61 h61 b61 X61 eH61 E61 g61 E_b61 D61 => ?_)
  have g_b61 : n0 ≤ b61 := g61 ▸ Z0
  have sz_b61 : h0.size ≤ b61 := g61 ▸ K0.1
  replace K0 := K0.ext E61
  replace Z0 := Nat.le_trans Z0 E61.1
  have F_b61_map : Fld Z h61 b61 "java/util/HashSet" "map" "Ljava/util/HashMap;" .null := D61 (Or.inl (hw _ (mi 67 rfl))) (ty := (.object "java/util/HashMap")) (by decide)
  refine own_dup X61 hx hby rfl at_300 (pc' := 301) rfl ?_
  refine own_special X61 hx hby hZ (y := (⟨"java/util/HashSet", "<init>", "()V"⟩ : MethodName)) (rest := [(.ref b61)]) rfl hown (hw _ (mi 38 rfl)) (hw _ (mi 39 rfl)) rfl (hw _ (mi 40 rfl)) (hw _ (mi 37 rfl)) (by decide) (rm7 l Z a0 hw [] b61 .null h61 n0 Z0 F_b61_map E_b61 g_b61) eH61 (by rw [hml]; rfl) (a := b61) (argsL := []) rfl (lenOf pd_0 rfl) rfl at_301 (pc' := 304) rfl (by decide) (W := 1) (Nat.le_of_eq rfl) (by decide) (by decide) (by decide) (fun T62 h62 Lc62 v62r X62 eH62 hQ62 => ?_)
  obtain ⟨b2_62, rfl, Nq62, Kq62, gq62_0, gq62_1, gq62_2, gq62_3, gq62_4, gq62_5, gq62_6, gq62_7, gq62_8⟩ := hQ62
  have N62 := Fr.app N0 Nq62
  have g_b2_62 : n0 ≤ b2_62 := Nat.le_trans Z0 gq62_0
  have sz_b2_62 : h0.size ≤ b2_62 := Nat.le_trans K0.1 gq62_0
  have ne_b61_b2_62 : b61 ≠ b2_62 := Nat.ne_of_lt (Nat.lt_of_lt_of_le E_b61.lt gq62_0)
  replace E_b61 := E_b61.keep Kq62
  replace K0 := K0.trans Kq62 (allS (Or.inr sz_b61) all0)
  have E_b61 := gq62_1
  have F_b61_map := gq62_2
  have E_b2_62 := gq62_3
  have F_b2_62_loadFactor := gq62_4
  have F_b2_62_table := gq62_5
  have F_b2_62_threshold := gq62_6
  have F_b2_62_modCount := gq62_7
  have F_b2_62_size := gq62_8
  replace Z0 := Nat.le_trans Z0 Kq62.1
  refine own_astore X62 hx hby rfl (L' := #[.val (.int shape), .val (.int relMask), .val (.int extra), .val (.int dd), .val (.int mode), .val (.int nn), .val (.int mm), .val (.int ee), .val (.int r1), .val (.int r2), .val (.int r3), .val (.int r4), .val (.int r5), .val (.int ri), .val (.int tot), .val (.int dp), .val (.ref al), .val (.ref b61), .unset, .unset, .unset, .unset, .unset, .unset, .unset, .unset, .unset, .unset, .unset, .unset, .unset, .unset]) rfl at_304 (pc' := 306) rfl ?_
  exact k T62 h62 _ b61 b2_62 X62 eH62 N62 Z0 K0 sz_b61 g_b61 sz_b2_62 g_b2_62 E_b61 F_b61_map E_b2_62 F_b2_62_loadFactor F_b2_62_table F_b2_62_threshold F_b2_62_modCount F_b2_62_size
theorem tH {l : Launch} {Z : State} {a0 : Array Value} (hw : ∀ d ∈ tables_1, d.before a0 Z = true) {p : Program} {e : Env} {s : State} {m : MethodId} {args : Array Value} {below : List Frame} {meth : Method} {c : Code} (hx : p.tables.exec = Jvm.exec) (hby : c.code = code) (hZ : Z.Warmed39 s.vm) (hml : c.maxLocals = 32) (hown : s.vm.findClass "com/example/prior3/prior3/eval/JudgedRankingPresPinLaw" = some m.cls) (hlk : meth.locks = false) (hret : meth.sig.returnType = some .boolean) {Q : Option Value → Heap → List Loc → Prop} {n0 : Nat} (hQ : ∀ h L, Fr n0 L → Q (some (.int 1)) h L) {s₁ : State} {locs : List Loc} (shape : Int32) (relMask : Int32) (extra : Int32) (dd : Int32) (mode : Int32) (nn : Int32) (mm : Int32) (dp : Int32) (hdp : 0 < dp.toInt) (b1 b2 b3 b4 b5 : Bool) (E : Nat) (al : Addr) (cs : Int32) (pr df : Addr) (h0 : Heap) (Z0 : n0 ≤ h0.size) (N0 : Fr n0 locs) (X0 : Stand p l e room_1 s m args below meth c s₁ locs 17 83) (eH0 : s₁.heap = h0) (n : Nat) (H : (n ≤ 5 ∧ (b1 = true → 1 ≤ n) ∧ (b2 = true → 2 ≤ n) ∧ (b3 = true → 3 ≤ n) ∧ (b4 = true → 4 ≤ n) ∧ (b5 = true → 5 ≤ n) ∧ E ≤ 3 ∧ 0 < b2n b1 + b2n b2 + b2n b3 + b2n b4 + b2n b5 + E)) (S : LL Z h0 n0 h0.size al cs pr df n) : Gt p.tables e below (fun o U' => ∃ v Lc, o = .returned v ∧ Q v U'.heap Lc ∧ FrameEnd s o U' Lc 96 384) (s₁.setTop (mkF m 297 #[.val (.int shape), .val (.int relMask), .val (.int extra), .val (.int dd), .val (.int mode), .val (.int nn), .val (.int mm), .val (.int (Int32.ofNat E)), .val (.int (i01 b1)), .val (.int (i01 b2)), .val (.int (i01 b3)), .val (.int (i01 b4)), .val (.int (i01 b5)), .val (.int (Int32.ofNat (b2n b1 + b2n b2 + b2n b3 + b2n b4 + b2n b5))), .val (.int ((Int32.ofNat (b2n b1 + b2n b2 + b2n b3 + b2n b4 + b2n b5)) + (Int32.ofNat E))), .val (.int dp), .val (.ref al), .unset, .unset, .unset, .unset, .unset, .unset, .unset, .unset, .unset, .unset, .unset, .unset, .unset, .unset, .unset] [])) := by
  refine sgH hw hx hby hZ hml hown shape relMask extra dd mode nn mm (Int32.ofNat E) (i01 b1) (i01 b2) (i01 b3) (i01 b4) (i01 b5) (Int32.ofNat (b2n b1 + b2n b2 + b2n b3 + b2n b4 + b2n b5)) ((Int32.ofNat (b2n b1 + b2n b2 + b2n b3 + b2n b4 + b2n b5)) + (Int32.ofNat E)) dp al h0 n0 Z0 N0 X0 eH0  (fun T' h' locs' b61 b2_62 X' e' N' Z' K' sz_b61 g_b61 sz_b2_62 g_b2_62 E_b61 F_b61_map E_b2_62 F_b2_62_loadFactor F_b2_62_table F_b2_62_threshold F_b2_62_modCount F_b2_62_size => ?_)
  exact tS0 hw hx hby hZ hml hown hlk hret hQ shape relMask extra dd mode nn mm dp hdp b1 b2 b3 b4 b5 E al b61 cs pr df h' h'.size Z' N' (own_lift X' (by decide) (by decide)) e' n (Nat.le_refl _) H (S.keep K' Cl.nil K'.1 fun _ _ => List.not_mem_nil) (Or.inl ⟨b2_62, fun _ => rfl, ⟨E_b61, F_b61_map, E_b2_62, F_b2_62_table, F_b2_62_threshold, F_b2_62_size, F_b2_62_modCount, ⟨_, F_b2_62_loadFactor⟩, g_b2_62⟩⟩)

theorem tL {l : Launch} {Z : State} {a0 : Array Value} (hw : ∀ d ∈ tables_1, d.before a0 Z = true) {p : Program} {e : Env} {s : State} {m : MethodId} {args : Array Value} {below : List Frame} {meth : Method} {c : Code} (hx : p.tables.exec = Jvm.exec) (hby : c.code = code) (hZ : Z.Warmed39 s.vm) (hml : c.maxLocals = 32) (hown : s.vm.findClass "com/example/prior3/prior3/eval/JudgedRankingPresPinLaw" = some m.cls) (hlk : meth.locks = false) (hret : meth.sig.returnType = some .boolean) {Q : Option Value → Heap → List Loc → Prop} {n0 : Nat} (hQ : ∀ h L, Fr n0 L → Q (some (.int 1)) h L) {s₁ : State} {locs : List Loc} (shape : Int32) (relMask : Int32) (extra : Int32) (dd : Int32) (mode : Int32) (nn : Int32) (mm : Int32) (dp : Int32) (hdp : 0 < dp.toInt) (b1 b2 b3 b4 b5 : Bool) (E : Nat) (al : Addr) (cs : Int32) (pr df : Addr) (h0 : Heap) (Z0 : n0 ≤ h0.size) (N0 : Fr n0 locs) (X0 : Stand p l e room_1 s m args below meth c s₁ locs 2 8) (eH0 : s₁.heap = h0) (n : Nat) (H : (n ≤ 5 ∧ (b1 = true → 1 ≤ n) ∧ (b2 = true → 2 ≤ n) ∧ (b3 = true → 3 ≤ n) ∧ (b4 = true → 4 ≤ n) ∧ (b5 = true → 5 ≤ n) ∧ E ≤ 3 ∧ 0 < b2n b1 + b2n b2 + b2n b3 + b2n b4 + b2n b5 + E)) (hnn : nn = Int32.ofNat n) (S : LL Z h0 n0 h0.size al cs pr df 0) : Gt p.tables e below (fun o U' => ∃ v Lc, o = .returned v ∧ Q v U'.heap Lc ∧ FrameEnd s o U' Lc 96 384) (s₁.setTop (mkF m 212 #[.val (.int shape), .val (.int relMask), .val (.int extra), .val (.int dd), .val (.int mode), .val (.int nn), .val (.int mm), .val (.int (Int32.ofNat E)), .val (.int (i01 b1)), .val (.int (i01 b2)), .val (.int (i01 b3)), .val (.int (i01 b4)), .val (.int (i01 b5)), .val (.int (Int32.ofNat (b2n b1 + b2n b2 + b2n b3 + b2n b4 + b2n b5))), .val (.int ((Int32.ofNat (b2n b1 + b2n b2 + b2n b3 + b2n b4 + b2n b5)) + (Int32.ofNat E))), .val (.int dp), .val (.ref al), .unset, .unset, .unset, .unset, .unset, .unset, .unset, .unset, .unset, .unset, .unset, .unset, .unset, .unset, .unset] [])) := by
  rcases n with _ | _ | _ | _ | _ | _ | n
  · subst hnn
    refine own_iload X0 hx hby rfl at_212 (pc' := 214) rfl ?_
    refine own_iconst X0 hx hby (v := (1 : Int32)) (by decide) at_214 (pc' := 215) rfl ?_
    refine own_icT X0 hx hby at_215 (by decide) (by decide) (pc' := 229) (by decide) ?_
    refine own_iload X0 hx hby rfl at_229 (pc' := 231) rfl ?_
    refine own_iconst X0 hx hby (v := (2 : Int32)) (by decide) at_231 (pc' := 232) rfl ?_
    refine own_icT X0 hx hby at_232 (by decide) (by decide) (pc' := 246) (by decide) ?_
    refine own_iload X0 hx hby rfl at_246 (pc' := 248) rfl ?_
    refine own_iconst X0 hx hby (v := (3 : Int32)) (by decide) at_248 (pc' := 249) rfl ?_
    refine own_icT X0 hx hby at_249 (by decide) (by decide) (pc' := 263) (by decide) ?_
    refine own_iload X0 hx hby rfl at_263 (pc' := 265) rfl ?_
    refine own_iconst X0 hx hby (v := (4 : Int32)) (by decide) at_265 (pc' := 266) rfl ?_
    refine own_icT X0 hx hby at_266 (by decide) (by decide) (pc' := 280) (by decide) ?_
    refine own_iload X0 hx hby rfl at_280 (pc' := 282) rfl ?_
    refine own_iconst X0 hx hby (v := (5 : Int32)) (by decide) at_282 (pc' := 283) rfl ?_
    refine own_icT X0 hx hby at_283 (by decide) (by decide) (pc' := 297) (by decide) ?_
    exact tH hw hx hby hZ hml hown hlk hret hQ shape relMask extra dd mode (Int32.ofNat 0) mm dp hdp b1 b2 b3 b4 b5 E al cs pr df h0 Z0 N0 (own_lift X0 (by decide) (by decide)) eH0 0 H S
  · subst hnn
    refine own_iload X0 hx hby rfl at_212 (pc' := 214) rfl ?_
    refine own_iconst X0 hx hby (v := (1 : Int32)) (by decide) at_214 (pc' := 215) rfl ?_
    refine own_icF X0 hx hby at_215 (by decide) (pc' := 218) rfl ?_
    refine gL0 hw hx hby hZ hml hown (97 : Int32) 97 218 220 222 225 228 229 2 8 rfl at_218 rfl at_220 rfl at_222 rfl at_225 rfl at_228 (by decide) (by decide) (by decide) (by decide) (by decide) (by decide) (by decide) shape relMask extra dd mode (Int32.ofNat 1) mm (Int32.ofNat E) (i01 b1) (i01 b2) (i01 b3) (i01 b4) (i01 b5) (Int32.ofNat (b2n b1 + b2n b2 + b2n b3 + b2n b4 + b2n b5)) ((Int32.ofNat (b2n b1 + b2n b2 + b2n b3 + b2n b4 + b2n b5)) + (Int32.ofNat E)) dp al cs pr df h0 n0 Z0 N0 X0 eH0 S (fun T0 h0 locs0 X0 e0 N0 Z0 q0 S0 => ?_)
    refine own_iload X0 hx hby rfl at_229 (pc' := 231) rfl ?_
    refine own_iconst X0 hx hby (v := (2 : Int32)) (by decide) at_231 (pc' := 232) rfl ?_
    refine own_icT X0 hx hby at_232 (by decide) (by decide) (pc' := 246) (by decide) ?_
    refine own_iload X0 hx hby rfl at_246 (pc' := 248) rfl ?_
    refine own_iconst X0 hx hby (v := (3 : Int32)) (by decide) at_248 (pc' := 249) rfl ?_
    refine own_icT X0 hx hby at_249 (by decide) (by decide) (pc' := 263) (by decide) ?_
    refine own_iload X0 hx hby rfl at_263 (pc' := 265) rfl ?_
    refine own_iconst X0 hx hby (v := (4 : Int32)) (by decide) at_265 (pc' := 266) rfl ?_
    refine own_icT X0 hx hby at_266 (by decide) (by decide) (pc' := 280) (by decide) ?_
    refine own_iload X0 hx hby rfl at_280 (pc' := 282) rfl ?_
    refine own_iconst X0 hx hby (v := (5 : Int32)) (by decide) at_282 (pc' := 283) rfl ?_
    refine own_icT X0 hx hby at_283 (by decide) (by decide) (pc' := 297) (by decide) ?_
    exact tH hw hx hby hZ hml hown hlk hret hQ shape relMask extra dd mode (Int32.ofNat 1) mm dp hdp b1 b2 b3 b4 b5 E al cs pr df h0 Z0 N0 (own_lift X0 (by decide) (by decide)) e0 1 H S0
  · subst hnn
    refine own_iload X0 hx hby rfl at_212 (pc' := 214) rfl ?_
    refine own_iconst X0 hx hby (v := (1 : Int32)) (by decide) at_214 (pc' := 215) rfl ?_
    refine own_icF X0 hx hby at_215 (by decide) (pc' := 218) rfl ?_
    refine gL0 hw hx hby hZ hml hown (97 : Int32) 97 218 220 222 225 228 229 2 8 rfl at_218 rfl at_220 rfl at_222 rfl at_225 rfl at_228 (by decide) (by decide) (by decide) (by decide) (by decide) (by decide) (by decide) shape relMask extra dd mode (Int32.ofNat 2) mm (Int32.ofNat E) (i01 b1) (i01 b2) (i01 b3) (i01 b4) (i01 b5) (Int32.ofNat (b2n b1 + b2n b2 + b2n b3 + b2n b4 + b2n b5)) ((Int32.ofNat (b2n b1 + b2n b2 + b2n b3 + b2n b4 + b2n b5)) + (Int32.ofNat E)) dp al cs pr df h0 n0 Z0 N0 X0 eH0 S (fun T0 h0 locs0 X0 e0 N0 Z0 q0 S0 => ?_)
    refine own_iload X0 hx hby rfl at_229 (pc' := 231) rfl ?_
    refine own_iconst X0 hx hby (v := (2 : Int32)) (by decide) at_231 (pc' := 232) rfl ?_
    refine own_icF X0 hx hby at_232 (by decide) (pc' := 235) rfl ?_
    refine gLn hw hx hby hZ hml hown (98 : Int32) 98 235 237 239 242 245 246 5 23 1 rfl at_235 rfl at_237 rfl at_239 rfl at_242 rfl at_245 (by decide) (by decide) (by decide) (by decide) (by decide) (by decide) (by decide) shape relMask extra dd mode (Int32.ofNat 2) mm (Int32.ofNat E) (i01 b1) (i01 b2) (i01 b3) (i01 b4) (i01 b5) (Int32.ofNat (b2n b1 + b2n b2 + b2n b3 + b2n b4 + b2n b5)) ((Int32.ofNat (b2n b1 + b2n b2 + b2n b3 + b2n b4 + b2n b5)) + (Int32.ofNat E)) dp al cs pr df h0 n0 Z0 N0 X0 e0 (by decide) (by decide) S0 (fun T1 h1 locs1 X1 e1 N1 Z1 q1 S1 => ?_)
    refine own_iload X1 hx hby rfl at_246 (pc' := 248) rfl ?_
    refine own_iconst X1 hx hby (v := (3 : Int32)) (by decide) at_248 (pc' := 249) rfl ?_
    refine own_icT X1 hx hby at_249 (by decide) (by decide) (pc' := 263) (by decide) ?_
    refine own_iload X1 hx hby rfl at_263 (pc' := 265) rfl ?_
    refine own_iconst X1 hx hby (v := (4 : Int32)) (by decide) at_265 (pc' := 266) rfl ?_
    refine own_icT X1 hx hby at_266 (by decide) (by decide) (pc' := 280) (by decide) ?_
    refine own_iload X1 hx hby rfl at_280 (pc' := 282) rfl ?_
    refine own_iconst X1 hx hby (v := (5 : Int32)) (by decide) at_282 (pc' := 283) rfl ?_
    refine own_icT X1 hx hby at_283 (by decide) (by decide) (pc' := 297) (by decide) ?_
    exact tH hw hx hby hZ hml hown hlk hret hQ shape relMask extra dd mode (Int32.ofNat 2) mm dp hdp b1 b2 b3 b4 b5 E al cs pr df h1 Z1 N1 (own_lift X1 (by decide) (by decide)) e1 2 H S1
  · subst hnn
    refine own_iload X0 hx hby rfl at_212 (pc' := 214) rfl ?_
    refine own_iconst X0 hx hby (v := (1 : Int32)) (by decide) at_214 (pc' := 215) rfl ?_
    refine own_icF X0 hx hby at_215 (by decide) (pc' := 218) rfl ?_
    refine gL0 hw hx hby hZ hml hown (97 : Int32) 97 218 220 222 225 228 229 2 8 rfl at_218 rfl at_220 rfl at_222 rfl at_225 rfl at_228 (by decide) (by decide) (by decide) (by decide) (by decide) (by decide) (by decide) shape relMask extra dd mode (Int32.ofNat 3) mm (Int32.ofNat E) (i01 b1) (i01 b2) (i01 b3) (i01 b4) (i01 b5) (Int32.ofNat (b2n b1 + b2n b2 + b2n b3 + b2n b4 + b2n b5)) ((Int32.ofNat (b2n b1 + b2n b2 + b2n b3 + b2n b4 + b2n b5)) + (Int32.ofNat E)) dp al cs pr df h0 n0 Z0 N0 X0 eH0 S (fun T0 h0 locs0 X0 e0 N0 Z0 q0 S0 => ?_)
    refine own_iload X0 hx hby rfl at_229 (pc' := 231) rfl ?_
    refine own_iconst X0 hx hby (v := (2 : Int32)) (by decide) at_231 (pc' := 232) rfl ?_
    refine own_icF X0 hx hby at_232 (by decide) (pc' := 235) rfl ?_
    refine gLn hw hx hby hZ hml hown (98 : Int32) 98 235 237 239 242 245 246 5 23 1 rfl at_235 rfl at_237 rfl at_239 rfl at_242 rfl at_245 (by decide) (by decide) (by decide) (by decide) (by decide) (by decide) (by decide) shape relMask extra dd mode (Int32.ofNat 3) mm (Int32.ofNat E) (i01 b1) (i01 b2) (i01 b3) (i01 b4) (i01 b5) (Int32.ofNat (b2n b1 + b2n b2 + b2n b3 + b2n b4 + b2n b5)) ((Int32.ofNat (b2n b1 + b2n b2 + b2n b3 + b2n b4 + b2n b5)) + (Int32.ofNat E)) dp al cs pr df h0 n0 Z0 N0 X0 e0 (by decide) (by decide) S0 (fun T1 h1 locs1 X1 e1 N1 Z1 q1 S1 => ?_)
    refine own_iload X1 hx hby rfl at_246 (pc' := 248) rfl ?_
    refine own_iconst X1 hx hby (v := (3 : Int32)) (by decide) at_248 (pc' := 249) rfl ?_
    refine own_icF X1 hx hby at_249 (by decide) (pc' := 252) rfl ?_
    refine gLn hw hx hby hZ hml hown (99 : Int32) 99 252 254 256 259 262 263 8 38 2 rfl at_252 rfl at_254 rfl at_256 rfl at_259 rfl at_262 (by decide) (by decide) (by decide) (by decide) (by decide) (by decide) (by decide) shape relMask extra dd mode (Int32.ofNat 3) mm (Int32.ofNat E) (i01 b1) (i01 b2) (i01 b3) (i01 b4) (i01 b5) (Int32.ofNat (b2n b1 + b2n b2 + b2n b3 + b2n b4 + b2n b5)) ((Int32.ofNat (b2n b1 + b2n b2 + b2n b3 + b2n b4 + b2n b5)) + (Int32.ofNat E)) dp al cs pr df h1 n0 Z1 N1 X1 e1 (by decide) (by decide) S1 (fun T2 h2 locs2 X2 e2 N2 Z2 q2 S2 => ?_)
    refine own_iload X2 hx hby rfl at_263 (pc' := 265) rfl ?_
    refine own_iconst X2 hx hby (v := (4 : Int32)) (by decide) at_265 (pc' := 266) rfl ?_
    refine own_icT X2 hx hby at_266 (by decide) (by decide) (pc' := 280) (by decide) ?_
    refine own_iload X2 hx hby rfl at_280 (pc' := 282) rfl ?_
    refine own_iconst X2 hx hby (v := (5 : Int32)) (by decide) at_282 (pc' := 283) rfl ?_
    refine own_icT X2 hx hby at_283 (by decide) (by decide) (pc' := 297) (by decide) ?_
    exact tH hw hx hby hZ hml hown hlk hret hQ shape relMask extra dd mode (Int32.ofNat 3) mm dp hdp b1 b2 b3 b4 b5 E al cs pr df h2 Z2 N2 (own_lift X2 (by decide) (by decide)) e2 3 H S2
  · subst hnn
    refine own_iload X0 hx hby rfl at_212 (pc' := 214) rfl ?_
    refine own_iconst X0 hx hby (v := (1 : Int32)) (by decide) at_214 (pc' := 215) rfl ?_
    refine own_icF X0 hx hby at_215 (by decide) (pc' := 218) rfl ?_
    refine gL0 hw hx hby hZ hml hown (97 : Int32) 97 218 220 222 225 228 229 2 8 rfl at_218 rfl at_220 rfl at_222 rfl at_225 rfl at_228 (by decide) (by decide) (by decide) (by decide) (by decide) (by decide) (by decide) shape relMask extra dd mode (Int32.ofNat 4) mm (Int32.ofNat E) (i01 b1) (i01 b2) (i01 b3) (i01 b4) (i01 b5) (Int32.ofNat (b2n b1 + b2n b2 + b2n b3 + b2n b4 + b2n b5)) ((Int32.ofNat (b2n b1 + b2n b2 + b2n b3 + b2n b4 + b2n b5)) + (Int32.ofNat E)) dp al cs pr df h0 n0 Z0 N0 X0 eH0 S (fun T0 h0 locs0 X0 e0 N0 Z0 q0 S0 => ?_)
    refine own_iload X0 hx hby rfl at_229 (pc' := 231) rfl ?_
    refine own_iconst X0 hx hby (v := (2 : Int32)) (by decide) at_231 (pc' := 232) rfl ?_
    refine own_icF X0 hx hby at_232 (by decide) (pc' := 235) rfl ?_
    refine gLn hw hx hby hZ hml hown (98 : Int32) 98 235 237 239 242 245 246 5 23 1 rfl at_235 rfl at_237 rfl at_239 rfl at_242 rfl at_245 (by decide) (by decide) (by decide) (by decide) (by decide) (by decide) (by decide) shape relMask extra dd mode (Int32.ofNat 4) mm (Int32.ofNat E) (i01 b1) (i01 b2) (i01 b3) (i01 b4) (i01 b5) (Int32.ofNat (b2n b1 + b2n b2 + b2n b3 + b2n b4 + b2n b5)) ((Int32.ofNat (b2n b1 + b2n b2 + b2n b3 + b2n b4 + b2n b5)) + (Int32.ofNat E)) dp al cs pr df h0 n0 Z0 N0 X0 e0 (by decide) (by decide) S0 (fun T1 h1 locs1 X1 e1 N1 Z1 q1 S1 => ?_)
    refine own_iload X1 hx hby rfl at_246 (pc' := 248) rfl ?_
    refine own_iconst X1 hx hby (v := (3 : Int32)) (by decide) at_248 (pc' := 249) rfl ?_
    refine own_icF X1 hx hby at_249 (by decide) (pc' := 252) rfl ?_
    refine gLn hw hx hby hZ hml hown (99 : Int32) 99 252 254 256 259 262 263 8 38 2 rfl at_252 rfl at_254 rfl at_256 rfl at_259 rfl at_262 (by decide) (by decide) (by decide) (by decide) (by decide) (by decide) (by decide) shape relMask extra dd mode (Int32.ofNat 4) mm (Int32.ofNat E) (i01 b1) (i01 b2) (i01 b3) (i01 b4) (i01 b5) (Int32.ofNat (b2n b1 + b2n b2 + b2n b3 + b2n b4 + b2n b5)) ((Int32.ofNat (b2n b1 + b2n b2 + b2n b3 + b2n b4 + b2n b5)) + (Int32.ofNat E)) dp al cs pr df h1 n0 Z1 N1 X1 e1 (by decide) (by decide) S1 (fun T2 h2 locs2 X2 e2 N2 Z2 q2 S2 => ?_)
    refine own_iload X2 hx hby rfl at_263 (pc' := 265) rfl ?_
    refine own_iconst X2 hx hby (v := (4 : Int32)) (by decide) at_265 (pc' := 266) rfl ?_
    refine own_icF X2 hx hby at_266 (by decide) (pc' := 269) rfl ?_
    refine gLn hw hx hby hZ hml hown (100 : Int32) 100 269 271 273 276 279 280 11 53 3 rfl at_269 rfl at_271 rfl at_273 rfl at_276 rfl at_279 (by decide) (by decide) (by decide) (by decide) (by decide) (by decide) (by decide) shape relMask extra dd mode (Int32.ofNat 4) mm (Int32.ofNat E) (i01 b1) (i01 b2) (i01 b3) (i01 b4) (i01 b5) (Int32.ofNat (b2n b1 + b2n b2 + b2n b3 + b2n b4 + b2n b5)) ((Int32.ofNat (b2n b1 + b2n b2 + b2n b3 + b2n b4 + b2n b5)) + (Int32.ofNat E)) dp al cs pr df h2 n0 Z2 N2 X2 e2 (by decide) (by decide) S2 (fun T3 h3 locs3 X3 e3 N3 Z3 q3 S3 => ?_)
    refine own_iload X3 hx hby rfl at_280 (pc' := 282) rfl ?_
    refine own_iconst X3 hx hby (v := (5 : Int32)) (by decide) at_282 (pc' := 283) rfl ?_
    refine own_icT X3 hx hby at_283 (by decide) (by decide) (pc' := 297) (by decide) ?_
    exact tH hw hx hby hZ hml hown hlk hret hQ shape relMask extra dd mode (Int32.ofNat 4) mm dp hdp b1 b2 b3 b4 b5 E al cs pr df h3 Z3 N3 (own_lift X3 (by decide) (by decide)) e3 4 H S3
  · subst hnn
    refine own_iload X0 hx hby rfl at_212 (pc' := 214) rfl ?_
    refine own_iconst X0 hx hby (v := (1 : Int32)) (by decide) at_214 (pc' := 215) rfl ?_
    refine own_icF X0 hx hby at_215 (by decide) (pc' := 218) rfl ?_
    refine gL0 hw hx hby hZ hml hown (97 : Int32) 97 218 220 222 225 228 229 2 8 rfl at_218 rfl at_220 rfl at_222 rfl at_225 rfl at_228 (by decide) (by decide) (by decide) (by decide) (by decide) (by decide) (by decide) shape relMask extra dd mode (Int32.ofNat 5) mm (Int32.ofNat E) (i01 b1) (i01 b2) (i01 b3) (i01 b4) (i01 b5) (Int32.ofNat (b2n b1 + b2n b2 + b2n b3 + b2n b4 + b2n b5)) ((Int32.ofNat (b2n b1 + b2n b2 + b2n b3 + b2n b4 + b2n b5)) + (Int32.ofNat E)) dp al cs pr df h0 n0 Z0 N0 X0 eH0 S (fun T0 h0 locs0 X0 e0 N0 Z0 q0 S0 => ?_)
    refine own_iload X0 hx hby rfl at_229 (pc' := 231) rfl ?_
    refine own_iconst X0 hx hby (v := (2 : Int32)) (by decide) at_231 (pc' := 232) rfl ?_
    refine own_icF X0 hx hby at_232 (by decide) (pc' := 235) rfl ?_
    refine gLn hw hx hby hZ hml hown (98 : Int32) 98 235 237 239 242 245 246 5 23 1 rfl at_235 rfl at_237 rfl at_239 rfl at_242 rfl at_245 (by decide) (by decide) (by decide) (by decide) (by decide) (by decide) (by decide) shape relMask extra dd mode (Int32.ofNat 5) mm (Int32.ofNat E) (i01 b1) (i01 b2) (i01 b3) (i01 b4) (i01 b5) (Int32.ofNat (b2n b1 + b2n b2 + b2n b3 + b2n b4 + b2n b5)) ((Int32.ofNat (b2n b1 + b2n b2 + b2n b3 + b2n b4 + b2n b5)) + (Int32.ofNat E)) dp al cs pr df h0 n0 Z0 N0 X0 e0 (by decide) (by decide) S0 (fun T1 h1 locs1 X1 e1 N1 Z1 q1 S1 => ?_)
    refine own_iload X1 hx hby rfl at_246 (pc' := 248) rfl ?_
    refine own_iconst X1 hx hby (v := (3 : Int32)) (by decide) at_248 (pc' := 249) rfl ?_
    refine own_icF X1 hx hby at_249 (by decide) (pc' := 252) rfl ?_
    refine gLn hw hx hby hZ hml hown (99 : Int32) 99 252 254 256 259 262 263 8 38 2 rfl at_252 rfl at_254 rfl at_256 rfl at_259 rfl at_262 (by decide) (by decide) (by decide) (by decide) (by decide) (by decide) (by decide) shape relMask extra dd mode (Int32.ofNat 5) mm (Int32.ofNat E) (i01 b1) (i01 b2) (i01 b3) (i01 b4) (i01 b5) (Int32.ofNat (b2n b1 + b2n b2 + b2n b3 + b2n b4 + b2n b5)) ((Int32.ofNat (b2n b1 + b2n b2 + b2n b3 + b2n b4 + b2n b5)) + (Int32.ofNat E)) dp al cs pr df h1 n0 Z1 N1 X1 e1 (by decide) (by decide) S1 (fun T2 h2 locs2 X2 e2 N2 Z2 q2 S2 => ?_)
    refine own_iload X2 hx hby rfl at_263 (pc' := 265) rfl ?_
    refine own_iconst X2 hx hby (v := (4 : Int32)) (by decide) at_265 (pc' := 266) rfl ?_
    refine own_icF X2 hx hby at_266 (by decide) (pc' := 269) rfl ?_
    refine gLn hw hx hby hZ hml hown (100 : Int32) 100 269 271 273 276 279 280 11 53 3 rfl at_269 rfl at_271 rfl at_273 rfl at_276 rfl at_279 (by decide) (by decide) (by decide) (by decide) (by decide) (by decide) (by decide) shape relMask extra dd mode (Int32.ofNat 5) mm (Int32.ofNat E) (i01 b1) (i01 b2) (i01 b3) (i01 b4) (i01 b5) (Int32.ofNat (b2n b1 + b2n b2 + b2n b3 + b2n b4 + b2n b5)) ((Int32.ofNat (b2n b1 + b2n b2 + b2n b3 + b2n b4 + b2n b5)) + (Int32.ofNat E)) dp al cs pr df h2 n0 Z2 N2 X2 e2 (by decide) (by decide) S2 (fun T3 h3 locs3 X3 e3 N3 Z3 q3 S3 => ?_)
    refine own_iload X3 hx hby rfl at_280 (pc' := 282) rfl ?_
    refine own_iconst X3 hx hby (v := (5 : Int32)) (by decide) at_282 (pc' := 283) rfl ?_
    refine own_icF X3 hx hby at_283 (by decide) (pc' := 286) rfl ?_
    refine gLn hw hx hby hZ hml hown (101 : Int32) 101 286 288 290 293 296 297 14 68 4 rfl at_286 rfl at_288 rfl at_290 rfl at_293 rfl at_296 (by decide) (by decide) (by decide) (by decide) (by decide) (by decide) (by decide) shape relMask extra dd mode (Int32.ofNat 5) mm (Int32.ofNat E) (i01 b1) (i01 b2) (i01 b3) (i01 b4) (i01 b5) (Int32.ofNat (b2n b1 + b2n b2 + b2n b3 + b2n b4 + b2n b5)) ((Int32.ofNat (b2n b1 + b2n b2 + b2n b3 + b2n b4 + b2n b5)) + (Int32.ofNat E)) dp al cs pr df h3 n0 Z3 N3 X3 e3 (by decide) (by decide) S3 (fun T4 h4 locs4 X4 e4 N4 Z4 q4 S4 => ?_)
    exact tH hw hx hby hZ hml hown hlk hret hQ shape relMask extra dd mode (Int32.ofNat 5) mm dp hdp b1 b2 b3 b4 b5 E al cs pr df h4 Z4 N4 (own_lift X4 (by decide) (by decide)) e4 5 H S4
  · exact absurd H.1 (by omega)

theorem ef0 (m : MethodId) (x0 : Int32) (x1 : Int32) (x2 : Int32) (x3 : Int32) (x4 : Int32) : entryFrame m #[(.int x0), (.int x1), (.int x2), (.int x3), (.int x4)] maxLocals = mkF m 0 #[.val (.int x0), .val (.int x1), .val (.int x2), .val (.int x3), .val (.int x4), .unset, .unset, .unset, .unset, .unset, .unset, .unset, .unset, .unset, .unset, .unset, .unset, .unset, .unset, .unset, .unset, .unset, .unset, .unset, .unset, .unset, .unset, .unset, .unset, .unset, .unset, .unset] [] := by first | (simp [entryFrame, mkF, argsToLocals, Value.category, maxLocals]; done) | rfl
def Q0 (Z : State) (p0 : Int32) (p1 : Int32) (p2 : Int32) (p3 : Int32) (p4 : Int32) (cs : Int32) (pr : Addr) (df : Addr) (h0 : Heap) (n0 : Nat) (v : Option Value) (h : Heap) (L : List Loc) : Prop := v = some (.int 1) ∧ Fr n0 L
theorem rm0 (l : Launch) (Z : State) (a0 : Array Value) (hw : ∀ d ∈ tables_1, d.before a0 Z = true) (ws : List Jvm.Cond) (p0 : Int32) (p1 : Int32) (p2 : Int32) (p3 : Int32) (p4 : Int32) (cs : Int32) (pr : Addr) (df : Addr) (h0 : Heap) (n0 : Nat) (Z0 : n0 ≤ h0.size) (S_COMPACT_STRINGS : Sta Z h0 "java/lang/String" "COMPACT_STRINGS" "Z" (.int cs)) (hcs : (¬ (cs = 0))) (S_PRESENT : Sta Z h0 "java/util/HashSet" "PRESENT" "Ljava/lang/Object;" (.ref pr)) (S_DEFAULTCAPACITY_EMPTY_ELEMENTDATA : Sta Z h0 "java/util/ArrayList" "DEFAULTCAPACITY_EMPTY_ELEMENTDATA" "[Ljava/lang/Object;" (.ref df)) (E_df : Exa Z h0 df "[Ljava/lang/Object;") (V_df : Ary tr Z h0 df (.object "java/lang/Object") []) :
    MetFree l x (head1 (Jvm.Cond.code x code maxLocals ret :: ws) room_1) (fun a U => a = #[(.int p0), (.int p1), (.int p2), (.int p3), (.int p4)] ∧ Z.Warmed39 U.vm ∧ U.heap = h0) (fun _ _ _ _ _ => True) (fun _ U o U' => ∃ v L, o = .returned v ∧ Q0 Z p0 p1 p2 p3 p4 cs pr df h0 n0 v U'.heap L ∧ FrameEnd U o U' L 96 384) := by
  refine MetFree.of_bodySF (plainFor_of_name pn_com_example_prior3_prior3_eval_JudgedRankingPresPinLaw) hisR ?_
  intro p e s m args below meth c s₁ Bd hml0 hP hK
  obtain ⟨rfl, hZ, hhp⟩ := hP
  have hx := Bd.exec
  have hby := Bd.bytes
  have hml : c.maxLocals = 32 := hml0
  have hown : s.vm.findClass "com/example/prior3/prior3/eval/JudgedRankingPresPinLaw" = some m.cls := findClass_of_methodNamed Bd.named
  have hnm := (name_of_methodNamed Bd.named Bd.method).1
  have X0 : Stand p l e room_1 s m #[(.int p0), (.int p1), (.int p2), (.int p3), (.int p4)] below meth c s₁ [] 0 0 := Stand.of_body Bd
  have eH0 : s₁.heap = h0 := by rw [← hhp, Bd.state]; rfl
  have N0 := Fr.nil n0
  show Gt p.tables e below (fun o U' => ∃ v L, o = .returned v ∧ Q0 Z p0 p1 p2 p3 p4 cs pr df h0 n0 v U'.heap L ∧ FrameEnd s o U' L 96 384) _
  refine own_cast (ef0 m p0 p1 p2 p3 p4) ?_
  refine own_iloadN X0 hx hby rfl at_0 (pc' := 1) rfl ?_
  refine own_ldcI X0 hx hby hZ hown (hw _ (mi 0 rfl)) at_1 (pc' := 3) rfl ?_
  refine own_iand X0 hx hby rfl at_3 (pc' := 4) rfl ?_
  refine own_bipush X0 hx hby (v := (6 : Int32)) (by decide) at_4 (pc' := 6) rfl ?_
  refine own_irem X0 hx hby (by decide) rfl at_6 (pc' := 7) rfl ?_
  generalize q_n1 : ((p0 &&& (2147483647 : Int32)) % (6 : Int32)) = n1
  refine own_istore X0 hx hby (L' := #[.val (.int p0), .val (.int p1), .val (.int p2), .val (.int p3), .val (.int p4), .val (.int n1), .unset, .unset, .unset, .unset, .unset, .unset, .unset, .unset, .unset, .unset, .unset, .unset, .unset, .unset, .unset, .unset, .unset, .unset, .unset, .unset, .unset, .unset, .unset, .unset, .unset, .unset]) rfl at_7 (pc' := 9) rfl ?_
  refine own_iloadN X0 hx hby rfl at_9 (pc' := 10) rfl ?_
  refine own_bipush X0 hx hby (v := (31 : Int32)) (by decide) at_10 (pc' := 12) rfl ?_
  refine own_iand X0 hx hby rfl at_12 (pc' := 13) rfl ?_
  generalize q_n2 : (p1 &&& (31 : Int32)) = n2
  refine own_istore X0 hx hby (L' := #[.val (.int p0), .val (.int p1), .val (.int p2), .val (.int p3), .val (.int p4), .val (.int n1), .val (.int n2), .unset, .unset, .unset, .unset, .unset, .unset, .unset, .unset, .unset, .unset, .unset, .unset, .unset, .unset, .unset, .unset, .unset, .unset, .unset, .unset, .unset, .unset, .unset, .unset, .unset]) rfl at_13 (pc' := 15) rfl ?_
  refine own_iloadN X0 hx hby rfl at_15 (pc' := 16) rfl ?_
  refine own_ldcI X0 hx hby hZ hown (hw _ (mi 0 rfl)) at_16 (pc' := 18) rfl ?_
  refine own_iand X0 hx hby rfl at_18 (pc' := 19) rfl ?_
  refine own_iconst X0 hx hby (v := (4 : Int32)) (by decide) at_19 (pc' := 20) rfl ?_
  refine own_irem X0 hx hby (by decide) rfl at_20 (pc' := 21) rfl ?_
  generalize q_n3 : ((p2 &&& (2147483647 : Int32)) % (4 : Int32)) = n3
  refine own_istore X0 hx hby (L' := #[.val (.int p0), .val (.int p1), .val (.int p2), .val (.int p3), .val (.int p4), .val (.int n1), .val (.int n2), .val (.int n3), .unset, .unset, .unset, .unset, .unset, .unset, .unset, .unset, .unset, .unset, .unset, .unset, .unset, .unset, .unset, .unset, .unset, .unset, .unset, .unset, .unset, .unset, .unset, .unset]) rfl at_21 (pc' := 23) rfl ?_
  refine own_iload X0 hx hby rfl at_23 (pc' := 25) rfl ?_
  refine own_iconst X0 hx hby (v := (1 : Int32)) (by decide) at_25 (pc' := 26) rfl ?_
  obtain ⟨w4, q_w4⟩ : ∃ z : Int32, (if n1 < (1 : Int32) then (0 : Int32) else (if (n2 &&& (1 : Int32)) = 0 then (0 : Int32) else (1 : Int32))) = z := ⟨_, rfl⟩
  refine own_join (S' := s₁.setTop (mkF m 41 #[.val (.int p0), .val (.int p1), .val (.int p2), .val (.int p3), .val (.int p4), .val (.int n1), .val (.int n2), .val (.int n3), .unset, .unset, .unset, .unset, .unset, .unset, .unset, .unset, .unset, .unset, .unset, .unset, .unset, .unset, .unset, .unset, .unset, .unset, .unset, .unset, .unset, .unset, .unset, .unset] [(.int w4)])) (fun F' k' => ?_) ?_
  · rw [← q_w4] at k'
    by_cases hc5 : n1 < (1 : Int32)
    · simp only [if_pos hc5] at k'
      refine own_icT X0 hx hby at_26 (own_ic_lt_p hc5) (by decide) (pc' := 40) (by decide) ?_
      refine own_iconst X0 hx hby (v := (0 : Int32)) (by decide) at_40 (pc' := 41) rfl ?_
      exact k'
    · simp only [if_neg hc5] at k'
      refine own_icF X0 hx hby at_26 (own_ic_lt_n hc5) (pc' := 29) rfl ?_
      refine own_iload X0 hx hby rfl at_29 (pc' := 31) rfl ?_
      refine own_iconst X0 hx hby (v := (1 : Int32)) (by decide) at_31 (pc' := 32) rfl ?_
      refine own_iand X0 hx hby rfl at_32 (pc' := 33) rfl ?_
      by_cases hc6 : (n2 &&& (1 : Int32)) = 0
      · simp only [if_pos hc6] at k'
        refine own_ifT X0 hx hby at_33 (own_i0_eq_p hc6) (by decide) (pc' := 40) (by decide) ?_
        refine own_iconst X0 hx hby (v := (0 : Int32)) (by decide) at_40 (pc' := 41) rfl ?_
        exact k'
      · simp only [if_neg hc6] at k'
        refine own_ifF X0 hx hby at_33 (own_i0_eq_n hc6) (pc' := 36) rfl ?_
        refine own_iconst X0 hx hby (v := (1 : Int32)) (by decide) at_36 (pc' := 37) rfl ?_
        refine own_goto X0 hx hby at_37 (by decide) (pc' := 41) (by decide) ?_
        exact k'
  refine own_istore X0 hx hby (L' := #[.val (.int p0), .val (.int p1), .val (.int p2), .val (.int p3), .val (.int p4), .val (.int n1), .val (.int n2), .val (.int n3), .val (.int w4), .unset, .unset, .unset, .unset, .unset, .unset, .unset, .unset, .unset, .unset, .unset, .unset, .unset, .unset, .unset, .unset, .unset, .unset, .unset, .unset, .unset, .unset, .unset]) rfl at_41 (pc' := 43) rfl ?_
  refine own_iload X0 hx hby rfl at_43 (pc' := 45) rfl ?_
  refine own_iconst X0 hx hby (v := (2 : Int32)) (by decide) at_45 (pc' := 46) rfl ?_
  obtain ⟨w7, q_w7⟩ : ∃ z : Int32, (if n1 < (2 : Int32) then (0 : Int32) else (if (n2 &&& (2 : Int32)) = 0 then (0 : Int32) else (1 : Int32))) = z := ⟨_, rfl⟩
  refine own_join (S' := s₁.setTop (mkF m 61 #[.val (.int p0), .val (.int p1), .val (.int p2), .val (.int p3), .val (.int p4), .val (.int n1), .val (.int n2), .val (.int n3), .val (.int w4), .unset, .unset, .unset, .unset, .unset, .unset, .unset, .unset, .unset, .unset, .unset, .unset, .unset, .unset, .unset, .unset, .unset, .unset, .unset, .unset, .unset, .unset, .unset] [(.int w7)])) (fun F' k' => ?_) ?_
  · rw [← q_w7] at k'
    by_cases hc8 : n1 < (2 : Int32)
    · simp only [if_pos hc8] at k'
      refine own_icT X0 hx hby at_46 (own_ic_lt_p hc8) (by decide) (pc' := 60) (by decide) ?_
      refine own_iconst X0 hx hby (v := (0 : Int32)) (by decide) at_60 (pc' := 61) rfl ?_
      exact k'
    · simp only [if_neg hc8] at k'
      refine own_icF X0 hx hby at_46 (own_ic_lt_n hc8) (pc' := 49) rfl ?_
      refine own_iload X0 hx hby rfl at_49 (pc' := 51) rfl ?_
      refine own_iconst X0 hx hby (v := (2 : Int32)) (by decide) at_51 (pc' := 52) rfl ?_
      refine own_iand X0 hx hby rfl at_52 (pc' := 53) rfl ?_
      by_cases hc9 : (n2 &&& (2 : Int32)) = 0
      · simp only [if_pos hc9] at k'
        refine own_ifT X0 hx hby at_53 (own_i0_eq_p hc9) (by decide) (pc' := 60) (by decide) ?_
        refine own_iconst X0 hx hby (v := (0 : Int32)) (by decide) at_60 (pc' := 61) rfl ?_
        exact k'
      · simp only [if_neg hc9] at k'
        refine own_ifF X0 hx hby at_53 (own_i0_eq_n hc9) (pc' := 56) rfl ?_
        refine own_iconst X0 hx hby (v := (1 : Int32)) (by decide) at_56 (pc' := 57) rfl ?_
        refine own_goto X0 hx hby at_57 (by decide) (pc' := 61) (by decide) ?_
        exact k'
  refine own_istore X0 hx hby (L' := #[.val (.int p0), .val (.int p1), .val (.int p2), .val (.int p3), .val (.int p4), .val (.int n1), .val (.int n2), .val (.int n3), .val (.int w4), .val (.int w7), .unset, .unset, .unset, .unset, .unset, .unset, .unset, .unset, .unset, .unset, .unset, .unset, .unset, .unset, .unset, .unset, .unset, .unset, .unset, .unset, .unset, .unset]) rfl at_61 (pc' := 63) rfl ?_
  refine own_iload X0 hx hby rfl at_63 (pc' := 65) rfl ?_
  refine own_iconst X0 hx hby (v := (3 : Int32)) (by decide) at_65 (pc' := 66) rfl ?_
  obtain ⟨w10, q_w10⟩ : ∃ z : Int32, (if n1 < (3 : Int32) then (0 : Int32) else (if (n2 &&& (4 : Int32)) = 0 then (0 : Int32) else (1 : Int32))) = z := ⟨_, rfl⟩
  refine own_join (S' := s₁.setTop (mkF m 81 #[.val (.int p0), .val (.int p1), .val (.int p2), .val (.int p3), .val (.int p4), .val (.int n1), .val (.int n2), .val (.int n3), .val (.int w4), .val (.int w7), .unset, .unset, .unset, .unset, .unset, .unset, .unset, .unset, .unset, .unset, .unset, .unset, .unset, .unset, .unset, .unset, .unset, .unset, .unset, .unset, .unset, .unset] [(.int w10)])) (fun F' k' => ?_) ?_
  · rw [← q_w10] at k'
    by_cases hc11 : n1 < (3 : Int32)
    · simp only [if_pos hc11] at k'
      refine own_icT X0 hx hby at_66 (own_ic_lt_p hc11) (by decide) (pc' := 80) (by decide) ?_
      refine own_iconst X0 hx hby (v := (0 : Int32)) (by decide) at_80 (pc' := 81) rfl ?_
      exact k'
    · simp only [if_neg hc11] at k'
      refine own_icF X0 hx hby at_66 (own_ic_lt_n hc11) (pc' := 69) rfl ?_
      refine own_iload X0 hx hby rfl at_69 (pc' := 71) rfl ?_
      refine own_iconst X0 hx hby (v := (4 : Int32)) (by decide) at_71 (pc' := 72) rfl ?_
      refine own_iand X0 hx hby rfl at_72 (pc' := 73) rfl ?_
      by_cases hc12 : (n2 &&& (4 : Int32)) = 0
      · simp only [if_pos hc12] at k'
        refine own_ifT X0 hx hby at_73 (own_i0_eq_p hc12) (by decide) (pc' := 80) (by decide) ?_
        refine own_iconst X0 hx hby (v := (0 : Int32)) (by decide) at_80 (pc' := 81) rfl ?_
        exact k'
      · simp only [if_neg hc12] at k'
        refine own_ifF X0 hx hby at_73 (own_i0_eq_n hc12) (pc' := 76) rfl ?_
        refine own_iconst X0 hx hby (v := (1 : Int32)) (by decide) at_76 (pc' := 77) rfl ?_
        refine own_goto X0 hx hby at_77 (by decide) (pc' := 81) (by decide) ?_
        exact k'
  refine own_istore X0 hx hby (L' := #[.val (.int p0), .val (.int p1), .val (.int p2), .val (.int p3), .val (.int p4), .val (.int n1), .val (.int n2), .val (.int n3), .val (.int w4), .val (.int w7), .val (.int w10), .unset, .unset, .unset, .unset, .unset, .unset, .unset, .unset, .unset, .unset, .unset, .unset, .unset, .unset, .unset, .unset, .unset, .unset, .unset, .unset, .unset]) rfl at_81 (pc' := 83) rfl ?_
  refine own_iload X0 hx hby rfl at_83 (pc' := 85) rfl ?_
  refine own_iconst X0 hx hby (v := (4 : Int32)) (by decide) at_85 (pc' := 86) rfl ?_
  obtain ⟨w13, q_w13⟩ : ∃ z : Int32, (if n1 < (4 : Int32) then (0 : Int32) else (if (n2 &&& (8 : Int32)) = 0 then (0 : Int32) else (1 : Int32))) = z := ⟨_, rfl⟩
  refine own_join (S' := s₁.setTop (mkF m 102 #[.val (.int p0), .val (.int p1), .val (.int p2), .val (.int p3), .val (.int p4), .val (.int n1), .val (.int n2), .val (.int n3), .val (.int w4), .val (.int w7), .val (.int w10), .unset, .unset, .unset, .unset, .unset, .unset, .unset, .unset, .unset, .unset, .unset, .unset, .unset, .unset, .unset, .unset, .unset, .unset, .unset, .unset, .unset] [(.int w13)])) (fun F' k' => ?_) ?_
  · rw [← q_w13] at k'
    by_cases hc14 : n1 < (4 : Int32)
    · simp only [if_pos hc14] at k'
      refine own_icT X0 hx hby at_86 (own_ic_lt_p hc14) (by decide) (pc' := 101) (by decide) ?_
      refine own_iconst X0 hx hby (v := (0 : Int32)) (by decide) at_101 (pc' := 102) rfl ?_
      exact k'
    · simp only [if_neg hc14] at k'
      refine own_icF X0 hx hby at_86 (own_ic_lt_n hc14) (pc' := 89) rfl ?_
      refine own_iload X0 hx hby rfl at_89 (pc' := 91) rfl ?_
      refine own_bipush X0 hx hby (v := (8 : Int32)) (by decide) at_91 (pc' := 93) rfl ?_
      refine own_iand X0 hx hby rfl at_93 (pc' := 94) rfl ?_
      by_cases hc15 : (n2 &&& (8 : Int32)) = 0
      · simp only [if_pos hc15] at k'
        refine own_ifT X0 hx hby at_94 (own_i0_eq_p hc15) (by decide) (pc' := 101) (by decide) ?_
        refine own_iconst X0 hx hby (v := (0 : Int32)) (by decide) at_101 (pc' := 102) rfl ?_
        exact k'
      · simp only [if_neg hc15] at k'
        refine own_ifF X0 hx hby at_94 (own_i0_eq_n hc15) (pc' := 97) rfl ?_
        as_aux_lemma =>
          refine own_iconst X0 hx hby (v := (1 : Int32)) (by decide) at_97 (pc' := 98) rfl ?_
          refine own_goto X0 hx hby at_98 (by decide) (pc' := 102) (by decide) ?_
          exact k'
  as_aux_lemma =>
    refine own_istore X0 hx hby (L' := #[.val (.int p0), .val (.int p1), .val (.int p2), .val (.int p3), .val (.int p4), .val (.int n1), .val (.int n2), .val (.int n3), .val (.int w4), .val (.int w7), .val (.int w10), .val (.int w13), .unset, .unset, .unset, .unset, .unset, .unset, .unset, .unset, .unset, .unset, .unset, .unset, .unset, .unset, .unset, .unset, .unset, .unset, .unset, .unset]) rfl at_102 (pc' := 104) rfl ?_
    refine own_iload X0 hx hby rfl at_104 (pc' := 106) rfl ?_
    refine own_iconst X0 hx hby (v := (5 : Int32)) (by decide) at_106 (pc' := 107) rfl ?_
    obtain ⟨w16, q_w16⟩ : ∃ z : Int32, (if n1 < (5 : Int32) then (0 : Int32) else (if (n2 &&& (16 : Int32)) = 0 then (0 : Int32) else (1 : Int32))) = z := ⟨_, rfl⟩
    refine own_join (S' := s₁.setTop (mkF m 123 #[.val (.int p0), .val (.int p1), .val (.int p2), .val (.int p3), .val (.int p4), .val (.int n1), .val (.int n2), .val (.int n3), .val (.int w4), .val (.int w7), .val (.int w10), .val (.int w13), .unset, .unset, .unset, .unset, .unset, .unset, .unset, .unset, .unset, .unset, .unset, .unset, .unset, .unset, .unset, .unset, .unset, .unset, .unset, .unset] [(.int w16)])) (fun F' k' => ?_) ?_
    · rw [← q_w16] at k'
      by_cases hc17 : n1 < (5 : Int32)
      · simp only [if_pos hc17] at k'
        refine own_icT X0 hx hby at_107 (own_ic_lt_p hc17) (by decide) (pc' := 122) (by decide) ?_
        refine own_iconst X0 hx hby (v := (0 : Int32)) (by decide) at_122 (pc' := 123) rfl ?_
        exact k'
      · simp only [if_neg hc17] at k'
        refine own_icF X0 hx hby at_107 (own_ic_lt_n hc17) (pc' := 110) rfl ?_
        refine own_iload X0 hx hby rfl at_110 (pc' := 112) rfl ?_
        refine own_bipush X0 hx hby (v := (16 : Int32)) (by decide) at_112 (pc' := 114) rfl ?_
        refine own_iand X0 hx hby rfl at_114 (pc' := 115) rfl ?_
        by_cases hc18 : (n2 &&& (16 : Int32)) = 0
        · simp only [if_pos hc18] at k'
          refine own_ifT X0 hx hby at_115 (own_i0_eq_p hc18) (by decide) (pc' := 122) (by decide) ?_
          refine own_iconst X0 hx hby (v := (0 : Int32)) (by decide) at_122 (pc' := 123) rfl ?_
          exact k'
        · simp only [if_neg hc18] at k'
          refine own_ifF X0 hx hby at_115 (own_i0_eq_n hc18) (pc' := 118) rfl ?_
          refine own_iconst X0 hx hby (v := (1 : Int32)) (by decide) at_118 (pc' := 119) rfl ?_
          refine own_goto X0 hx hby at_119 (by decide) (pc' := 123) (by decide) ?_
          exact k'
    refine own_istore X0 hx hby (L' := #[.val (.int p0), .val (.int p1), .val (.int p2), .val (.int p3), .val (.int p4), .val (.int n1), .val (.int n2), .val (.int n3), .val (.int w4), .val (.int w7), .val (.int w10), .val (.int w13), .val (.int w16), .unset, .unset, .unset, .unset, .unset, .unset, .unset, .unset, .unset, .unset, .unset, .unset, .unset, .unset, .unset, .unset, .unset, .unset, .unset]) rfl at_123 (pc' := 125) rfl ?_
    refine own_iload X0 hx hby rfl at_125 (pc' := 127) rfl ?_
    refine own_static X0 hx hby hZ (y := (⟨"com/example/prior3/prior3/eval/JudgedRankingPresPinLaw", "one", "(Z)I"⟩ : MethodName)) (rest := []) hown (hw _ (mi 1 rfl)) (hw _ (mi 2 rfl)) (hw _ (mi 4 rfl)) (hw _ (mi 3 rfl)) (by decide) (rm1 l Z a0 hw [] w4 h0 n0 Z0) eH0 (by rw [hml]; rfl) (argsL := [(.int w4)]) rfl (lenOf pd_30 rfl) rfl at_127 (pc' := 130) rfl (by decide) (W := 0) (Nat.le_of_eq rfl) (by decide) (by decide) (by decide) (fun T19 h19 Lc19 v19r X19 eH19 hQ19 => ?_)
    obtain ⟨rfl, Nq19, rfl⟩ := hQ19
    have N19 := Fr.app N0 Nq19
    dsimp only [Option.toList, List.cons_append, List.nil_append]
    generalize q_r20 : (if w4 = 0 then (0 : Int32) else (1 : Int32)) = r20
    refine own_iload X19 hx hby rfl at_130 (pc' := 132) rfl ?_
    refine own_static X19 hx hby hZ (y := (⟨"com/example/prior3/prior3/eval/JudgedRankingPresPinLaw", "one", "(Z)I"⟩ : MethodName)) (rest := [(.int r20)]) hown (hw _ (mi 1 rfl)) (hw _ (mi 2 rfl)) (hw _ (mi 4 rfl)) (hw _ (mi 3 rfl)) (by decide) (rm1 l Z a0 hw [] w7 h0 n0 Z0) eH19 (by rw [hml]; rfl) (argsL := [(.int w7)]) rfl (lenOf pd_30 rfl) rfl at_132 (pc' := 135) rfl (by decide) (W := 1) (Nat.le_of_eq rfl) (by decide) (by decide) (by decide) (fun T21 h21 Lc21 v21r X21 eH21 hQ21 => ?_)
    obtain ⟨rfl, Nq21, rfl⟩ := hQ21
    have N21 := Fr.app N19 Nq21
    dsimp only [Option.toList, List.cons_append, List.nil_append]
    generalize q_r22 : (if w7 = 0 then (0 : Int32) else (1 : Int32)) = r22
    refine own_iadd X21 hx hby rfl at_135 (pc' := 136) rfl ?_
    refine own_iload X21 hx hby rfl at_136 (pc' := 138) rfl ?_
    refine own_static X21 hx hby hZ (y := (⟨"com/example/prior3/prior3/eval/JudgedRankingPresPinLaw", "one", "(Z)I"⟩ : MethodName)) (rest := [(.int (r20 + r22))]) hown (hw _ (mi 1 rfl)) (hw _ (mi 2 rfl)) (hw _ (mi 4 rfl)) (hw _ (mi 3 rfl)) (by decide) (rm1 l Z a0 hw [] w10 h0 n0 Z0) eH21 (by rw [hml]; rfl) (argsL := [(.int w10)]) rfl (lenOf pd_30 rfl) rfl at_138 (pc' := 141) rfl (by decide) (W := 1) (Nat.le_of_eq rfl) (by decide) (by decide) (by decide) (fun T23 h23 Lc23 v23r X23 eH23 hQ23 => ?_)
    obtain ⟨rfl, Nq23, rfl⟩ := hQ23
    have N23 := Fr.app N21 Nq23
    dsimp only [Option.toList, List.cons_append, List.nil_append]
    generalize q_r24 : (if w10 = 0 then (0 : Int32) else (1 : Int32)) = r24
    refine own_iadd X23 hx hby rfl at_141 (pc' := 142) rfl ?_
    refine own_iload X23 hx hby rfl at_142 (pc' := 144) rfl ?_
    refine own_static X23 hx hby hZ (y := (⟨"com/example/prior3/prior3/eval/JudgedRankingPresPinLaw", "one", "(Z)I"⟩ : MethodName)) (rest := [(.int ((r20 + r22) + r24))]) hown (hw _ (mi 1 rfl)) (hw _ (mi 2 rfl)) (hw _ (mi 4 rfl)) (hw _ (mi 3 rfl)) (by decide) (rm1 l Z a0 hw [] w13 h0 n0 Z0) eH23 (by rw [hml]; rfl) (argsL := [(.int w13)]) rfl (lenOf pd_30 rfl) rfl at_144 (pc' := 147) rfl (by decide) (W := 1) (Nat.le_of_eq rfl) (by decide) (by decide) (by decide) (fun T25 h25 Lc25 v25r X25 eH25 hQ25 => ?_)
    obtain ⟨rfl, Nq25, rfl⟩ := hQ25
    have N25 := Fr.app N23 Nq25
    dsimp only [Option.toList, List.cons_append, List.nil_append]
    generalize q_r26 : (if w13 = 0 then (0 : Int32) else (1 : Int32)) = r26
    refine own_iadd X25 hx hby rfl at_147 (pc' := 148) rfl ?_
    refine own_iload X25 hx hby rfl at_148 (pc' := 150) rfl ?_
    refine own_static X25 hx hby hZ (y := (⟨"com/example/prior3/prior3/eval/JudgedRankingPresPinLaw", "one", "(Z)I"⟩ : MethodName)) (rest := [(.int (((r20 + r22) + r24) + r26))]) hown (hw _ (mi 1 rfl)) (hw _ (mi 2 rfl)) (hw _ (mi 4 rfl)) (hw _ (mi 3 rfl)) (by decide) (rm1 l Z a0 hw [] w16 h0 n0 Z0) eH25 (by rw [hml]; rfl) (argsL := [(.int w16)]) rfl (lenOf pd_30 rfl) rfl at_150 (pc' := 153) rfl (by decide) (W := 1) (Nat.le_of_eq rfl) (by decide) (by decide) (by decide) (fun T27 h27 Lc27 v27r X27 eH27 hQ27 => ?_)
    obtain ⟨rfl, Nq27, rfl⟩ := hQ27
    have N27 := Fr.app N25 Nq27
    dsimp only [Option.toList, List.cons_append, List.nil_append]
    generalize q_r28 : (if w16 = 0 then (0 : Int32) else (1 : Int32)) = r28
    refine own_iadd X27 hx hby rfl at_153 (pc' := 154) rfl ?_
    generalize q_n29 : ((((r20 + r22) + r24) + r26) + r28) = n29
    refine own_istore X27 hx hby (L' := #[.val (.int p0), .val (.int p1), .val (.int p2), .val (.int p3), .val (.int p4), .val (.int n1), .val (.int n2), .val (.int n3), .val (.int w4), .val (.int w7), .val (.int w10), .val (.int w13), .val (.int w16), .val (.int n29), .unset, .unset, .unset, .unset, .unset, .unset, .unset, .unset, .unset, .unset, .unset, .unset, .unset, .unset, .unset, .unset, .unset, .unset]) rfl at_154 (pc' := 156) rfl ?_
    refine own_iload X27 hx hby rfl at_156 (pc' := 158) rfl ?_
    refine own_iload X27 hx hby rfl at_158 (pc' := 160) rfl ?_
    refine own_iadd X27 hx hby rfl at_160 (pc' := 161) rfl ?_
    obtain ⟨w30, q_w30⟩ : ∃ z : Int32, (if (n29 + n3) = 0 then (1 : Int32) else n3) = z := ⟨_, rfl⟩
    refine own_join (S' := T27.setTop (mkF m 167 #[.val (.int p0), .val (.int p1), .val (.int p2), .val (.int p3), .val (.int p4), .val (.int n1), .val (.int n2), .val (.int w30), .val (.int w4), .val (.int w7), .val (.int w10), .val (.int w13), .val (.int w16), .val (.int n29), .unset, .unset, .unset, .unset, .unset, .unset, .unset, .unset, .unset, .unset, .unset, .unset, .unset, .unset, .unset, .unset, .unset, .unset] [])) (fun F' k' => ?_) ?_
    · rw [← q_w30] at k'
      by_cases hc31 : (n29 + n3) = 0
      · simp only [if_pos hc31] at k'
        refine own_ifF X27 hx hby at_161 (own_i0_ne_p hc31) (pc' := 164) rfl ?_
        refine own_iconst X27 hx hby (v := (1 : Int32)) (by decide) at_164 (pc' := 165) rfl ?_
        refine own_istore X27 hx hby (L' := #[.val (.int p0), .val (.int p1), .val (.int p2), .val (.int p3), .val (.int p4), .val (.int n1), .val (.int n2), .val (.int (1 : Int32)), .val (.int w4), .val (.int w7), .val (.int w10), .val (.int w13), .val (.int w16), .val (.int n29), .unset, .unset, .unset, .unset, .unset, .unset, .unset, .unset, .unset, .unset, .unset, .unset, .unset, .unset, .unset, .unset, .unset, .unset]) rfl at_165 (pc' := 167) rfl ?_
        exact k'
      · simp only [if_neg hc31] at k'
        refine own_ifT X27 hx hby at_161 (own_i0_ne_n hc31) (by decide) (pc' := 167) (by decide) ?_
        exact k'
    refine own_iload X27 hx hby rfl at_167 (pc' := 169) rfl ?_
    refine own_iload X27 hx hby rfl at_169 (pc' := 171) rfl ?_
    refine own_iadd X27 hx hby rfl at_171 (pc' := 172) rfl ?_
    generalize q_n32 : (n29 + w30) = n32
    refine own_istore X27 hx hby (L' := #[.val (.int p0), .val (.int p1), .val (.int p2), .val (.int p3), .val (.int p4), .val (.int n1), .val (.int n2), .val (.int w30), .val (.int w4), .val (.int w7), .val (.int w10), .val (.int w13), .val (.int w16), .val (.int n29), .val (.int n32), .unset, .unset, .unset, .unset, .unset, .unset, .unset, .unset, .unset, .unset, .unset, .unset, .unset, .unset, .unset, .unset, .unset]) rfl at_172 (pc' := 174) rfl ?_
    refine own_iload X27 hx hby rfl at_174 (pc' := 176) rfl ?_
    refine own_iconst X27 hx hby (v := (1 : Int32)) (by decide) at_176 (pc' := 177) rfl ?_
    refine own_iand X27 hx hby rfl at_177 (pc' := 178) rfl ?_
    by_cases hc33 : (p4 &&& (1 : Int32)) = 0
    · refine own_ifT X27 hx hby at_178 (own_i0_eq_p hc33) (by decide) (pc' := 193) (by decide) ?_
      refine own_iconst X27 hx hby (v := (1 : Int32)) (by decide) at_193 (pc' := 194) rfl ?_
      refine own_iloadN X27 hx hby rfl at_194 (pc' := 195) rfl ?_
      refine own_ldcI X27 hx hby hZ hown (hw _ (mi 0 rfl)) at_195 (pc' := 197) rfl ?_
      refine own_iand X27 hx hby rfl at_197 (pc' := 198) rfl ?_
      refine own_static X27 hx hby hZ (y := (⟨"java/lang/Math", "max", "(II)I"⟩ : MethodName)) (rest := []) hown (hw _ (mi 5 rfl)) (hw _ (mi 6 rfl)) (hw _ (mi 8 rfl)) (hw _ (mi 7 rfl)) (by decide) (rm2 l Z a0 hw [] (1 : Int32) (p3 &&& (2147483647 : Int32)) h0 n0 Z0) eH27 (by rw [hml]; rfl) (argsL := [(.int (1 : Int32)), (.int (p3 &&& (2147483647 : Int32)))]) rfl (lenOf pd_18 rfl) rfl at_198 (pc' := 201) rfl (by decide) (W := 0) (Nat.le_of_eq rfl) (by decide) (by decide) (by decide) (fun T34 h34 Lc34 v34r X34 eH34 hQ34 => ?_)
      obtain ⟨rfl, Nq34, rfl⟩ := hQ34
      have N34 := Fr.app N27 Nq34
      dsimp only [Option.toList, List.cons_append, List.nil_append]
      generalize q_r35 : (if (1 : Int32) < (p3 &&& (2147483647 : Int32)) then (p3 &&& (2147483647 : Int32)) else (1 : Int32)) = r35
      refine own_istore X34 hx hby (L' := #[.val (.int p0), .val (.int p1), .val (.int p2), .val (.int p3), .val (.int p4), .val (.int n1), .val (.int n2), .val (.int w30), .val (.int w4), .val (.int w7), .val (.int w10), .val (.int w13), .val (.int w16), .val (.int n29), .val (.int n32), .val (.int r35), .unset, .unset, .unset, .unset, .unset, .unset, .unset, .unset, .unset, .unset, .unset, .unset, .unset, .unset, .unset, .unset]) rfl at_201 (pc' := 203) rfl ?_
      refine own_newO X34 hx hby hZ hown (hw _ (mi 9 rfl)) (hw _ (mi 10 rfl)) (hw _ (mi 11 rfl)) eH34 at_203 (pc' := 206) rfl (by decide) (by decide) (fun T36 h36 b36 X36 eH36 E36 g36 E_b36 D36 => ?_)
      have g_b36 : n0 ≤ b36 := g36 ▸ Z0
      have ne_df_b36 : df ≠ b36 := Nat.ne_of_lt (g36 ▸ E_df.lt)
      replace E_df := E_df.ext E36
      replace V_df := V_df.ext E36
      replace S_COMPACT_STRINGS := S_COMPACT_STRINGS.ext E36
      replace S_PRESENT := S_PRESENT.ext E36
      replace S_DEFAULTCAPACITY_EMPTY_ELEMENTDATA := S_DEFAULTCAPACITY_EMPTY_ELEMENTDATA.ext E36
      replace Z0 := Nat.le_trans Z0 E36.1
      have F_b36_modCount : Fld Z h36 b36 "java/util/AbstractList" "modCount" "I" (.int (0 : Int32)) := D36 (Or.inl (hw _ (mi 31 rfl))) (ty := .int) (by decide)
      have F_b36_elementData : Fld Z h36 b36 "java/util/ArrayList" "elementData" "[Ljava/lang/Object;" .null := D36 (Or.inl (hw _ (mi 34 rfl))) (ty := (.array (.object "java/lang/Object"))) (by decide)
      have F_b36_size : Fld Z h36 b36 "java/util/ArrayList" "size" "I" (.int (0 : Int32)) := D36 (Or.inl (hw _ (mi 200 rfl))) (ty := .int) (by decide)
      refine own_dup X36 hx hby rfl at_206 (pc' := 207) rfl ?_
      refine own_special X36 hx hby hZ (y := (⟨"java/util/ArrayList", "<init>", "()V"⟩ : MethodName)) (rest := [(.ref b36)]) rfl hown (hw _ (mi 12 rfl)) (hw _ (mi 13 rfl)) rfl (hw _ (mi 14 rfl)) (hw _ (mi 11 rfl)) (by decide) (rm3 l Z a0 hw [] b36 (0 : Int32) .null (0 : Int32) df h36 n0 Z0 F_b36_modCount F_b36_elementData F_b36_size S_DEFAULTCAPACITY_EMPTY_ELEMENTDATA E_b36 g_b36) eH36 (by rw [hml]; rfl) (a := b36) (argsL := []) rfl (lenOf pd_0 rfl) rfl at_207 (pc' := 210) rfl (by decide) (W := 1) (Nat.le_of_eq rfl) (by decide) (by decide) (by decide) (fun T37 h37 Lc37 v37r X37 eH37 hQ37 => ?_)
      obtain ⟨rfl, Nq37, Kq37, gq37_0, gq37_1, gq37_2, gq37_3⟩ := hQ37
      have N37 := Fr.app N34 Nq37
      replace S_COMPACT_STRINGS := own_skn S_COMPACT_STRINGS Kq37 (own_skS E_b36 own_sk0)
      replace S_PRESENT := own_skn S_PRESENT Kq37 (own_skS E_b36 own_sk0)
      replace S_DEFAULTCAPACITY_EMPTY_ELEMENTDATA := own_skn S_DEFAULTCAPACITY_EMPTY_ELEMENTDATA Kq37 (own_skS E_b36 own_sk0)
      replace E_df := E_df.keep Kq37
      replace V_df := V_df.keep Kq37 (ninS ne_df_b36 nin0)
      replace E_b36 := E_b36.keep Kq37
      have E_b36 := gq37_0
      have F_b36_modCount := gq37_1
      have F_b36_elementData := gq37_2
      have F_b36_size := gq37_3
      replace Z0 := Nat.le_trans Z0 Kq37.1
      as_aux_lemma =>
        refine own_astore X37 hx hby rfl (L' := #[.val (.int p0), .val (.int p1), .val (.int p2), .val (.int p3), .val (.int p4), .val (.int n1), .val (.int n2), .val (.int w30), .val (.int w4), .val (.int w7), .val (.int w10), .val (.int w13), .val (.int w16), .val (.int n29), .val (.int n32), .val (.int r35), .val (.ref b36), .unset, .unset, .unset, .unset, .unset, .unset, .unset, .unset, .unset, .unset, .unset, .unset, .unset, .unset, .unset]) rfl at_210 (pc' := 212) rfl ?_
        obtain ⟨hn0, hn1⟩ := own_idx p0 6 6 (by decide) (by decide)
        rw [q_n1] at hn0 hn1
        obtain ⟨N, hN, hN2⟩ := own_toN hn0 hn1 (by decide)
        obtain ⟨b1, hb1, hc1⟩ := own_bn (p := n1 < (1 : Int32)) (q := (n2 &&& (1 : Int32)) = 0)
        rw [q_w4] at hb1
        subst hb1
        obtain ⟨b2, hb2, hc2⟩ := own_bn (p := n1 < (2 : Int32)) (q := (n2 &&& (2 : Int32)) = 0)
        rw [q_w7] at hb2
        subst hb2
        obtain ⟨b3, hb3, hc3⟩ := own_bn (p := n1 < (3 : Int32)) (q := (n2 &&& (4 : Int32)) = 0)
        rw [q_w10] at hb3
        subst hb3
        obtain ⟨b4, hb4, hc4⟩ := own_bn (p := n1 < (4 : Int32)) (q := (n2 &&& (8 : Int32)) = 0)
        rw [q_w13] at hb4
        subst hb4
        obtain ⟨b5, hb5, hc5⟩ := own_bn (p := n1 < (5 : Int32)) (q := (n2 &&& (16 : Int32)) = 0)
        rw [q_w16] at hb5
        subst hb5
        have hs5 := own_sum5 b1 b2 b3 b4 b5 q_r20 q_r22 q_r24 q_r26 q_r28 q_n29
        subst hs5
        obtain ⟨he0, he1⟩ := own_idx p2 4 4 (by decide) (by decide)
        rw [q_n3] at he0 he1
        obtain ⟨E, hE, hE2, hT⟩ := own_extra (b2n b1 + b2n b2 + b2n b3 + b2n b4 + b2n b5) (own_s4 b1 b2 b3 b4 b5) n3 he0 (by omega) q_w30
        subst hE
        subst hN
        subst q_n32
        have H : (N ≤ 5 ∧ (b1 = true → 1 ≤ N) ∧ (b2 = true → 2 ≤ N) ∧ (b3 = true → 3 ≤ N) ∧ (b4 = true → 4 ≤ N) ∧ (b5 = true → 5 ≤ N) ∧ E ≤ 3 ∧ 0 < b2n b1 + b2n b2 + b2n b3 + b2n b4 + b2n b5 + E) := ⟨by omega, fun k => own_ge (by omega) (j := 1) (by decide) (hc1 k), fun k => own_ge (by omega) (j := 2) (by decide) (hc2 k), fun k => own_ge (by omega) (j := 3) (by decide) (hc3 k), fun k => own_ge (by omega) (j := 4) (by decide) (hc4 k), fun k => own_ge (by omega) (j := 5) (by decide) (hc5 k), hE2, hT⟩
        have hdp : 0 < r35.toInt := own_dp2 q_r35
        exact tL hw hx hby hZ hml hown Bd.notSynchronized Bd.returns (fun _ _ k => ⟨rfl, k⟩) p0 p1 p2 p3 p4 (Int32.ofNat N) n2 r35 hdp b1 b2 b3 b4 b5 E b36 cs pr df h37 Z0 N37 (own_lift X37 (by decide) (by decide)) eH37 N H rfl ⟨S_COMPACT_STRINGS, hcs, S_PRESENT, S_DEFAULTCAPACITY_EMPTY_ELEMENTDATA, Or.inl ⟨rfl, ⟨E_b36, F_b36_elementData, F_b36_size, ⟨_, F_b36_modCount⟩, g_b36, E_df, V_df⟩⟩⟩
    · refine own_ifF X27 hx hby at_178 (own_i0_eq_n hc33) (pc' := 181) rfl ?_
      as_aux_lemma =>
        refine own_iconst X27 hx hby (v := (1 : Int32)) (by decide) at_181 (pc' := 182) rfl ?_
        refine own_iloadN X27 hx hby rfl at_182 (pc' := 183) rfl ?_
        refine own_ldcI X27 hx hby hZ hown (hw _ (mi 0 rfl)) at_183 (pc' := 185) rfl ?_
        refine own_iand X27 hx hby rfl at_185 (pc' := 186) rfl ?_
        refine own_bipush X27 hx hby (v := (7 : Int32)) (by decide) at_186 (pc' := 188) rfl ?_
        refine own_irem X27 hx hby (by decide) rfl at_188 (pc' := 189) rfl ?_
        refine own_iadd X27 hx hby rfl at_189 (pc' := 190) rfl ?_
        refine own_goto X27 hx hby at_190 (by decide) (pc' := 201) (by decide) ?_
        generalize q_n38 : ((1 : Int32) + ((p3 &&& (2147483647 : Int32)) % (7 : Int32))) = n38
        refine own_istore X27 hx hby (L' := #[.val (.int p0), .val (.int p1), .val (.int p2), .val (.int p3), .val (.int p4), .val (.int n1), .val (.int n2), .val (.int w30), .val (.int w4), .val (.int w7), .val (.int w10), .val (.int w13), .val (.int w16), .val (.int n29), .val (.int n32), .val (.int n38), .unset, .unset, .unset, .unset, .unset, .unset, .unset, .unset, .unset, .unset, .unset, .unset, .unset, .unset, .unset, .unset]) rfl at_201 (pc' := 203) rfl ?_
        refine own_newO X27 hx hby hZ hown (hw _ (mi 9 rfl)) (hw _ (mi 10 rfl)) (hw _ (mi 11 rfl)) eH27 at_203 (pc' := 206) rfl (by decide) (by decide) (fun T39 h39 b39 X39 eH39 E39 g39 E_b39 D39 => ?_)
        have g_b39 : n0 ≤ b39 := g39 ▸ Z0
        have ne_df_b39 : df ≠ b39 := Nat.ne_of_lt (g39 ▸ E_df.lt)
        replace E_df := E_df.ext E39
        replace V_df := V_df.ext E39
        replace S_COMPACT_STRINGS := S_COMPACT_STRINGS.ext E39
        replace S_PRESENT := S_PRESENT.ext E39
        replace S_DEFAULTCAPACITY_EMPTY_ELEMENTDATA := S_DEFAULTCAPACITY_EMPTY_ELEMENTDATA.ext E39
        replace Z0 := Nat.le_trans Z0 E39.1
        have F_b39_modCount : Fld Z h39 b39 "java/util/AbstractList" "modCount" "I" (.int (0 : Int32)) := D39 (Or.inl (hw _ (mi 31 rfl))) (ty := .int) (by decide)
        have F_b39_elementData : Fld Z h39 b39 "java/util/ArrayList" "elementData" "[Ljava/lang/Object;" .null := D39 (Or.inl (hw _ (mi 34 rfl))) (ty := (.array (.object "java/lang/Object"))) (by decide)
        have F_b39_size : Fld Z h39 b39 "java/util/ArrayList" "size" "I" (.int (0 : Int32)) := D39 (Or.inl (hw _ (mi 200 rfl))) (ty := .int) (by decide)
        refine own_dup X39 hx hby rfl at_206 (pc' := 207) rfl ?_
        refine own_special X39 hx hby hZ (y := (⟨"java/util/ArrayList", "<init>", "()V"⟩ : MethodName)) (rest := [(.ref b39)]) rfl hown (hw _ (mi 12 rfl)) (hw _ (mi 13 rfl)) rfl (hw _ (mi 14 rfl)) (hw _ (mi 11 rfl)) (by decide) (rm3 l Z a0 hw [] b39 (0 : Int32) .null (0 : Int32) df h39 n0 Z0 F_b39_modCount F_b39_elementData F_b39_size S_DEFAULTCAPACITY_EMPTY_ELEMENTDATA E_b39 g_b39) eH39 (by rw [hml]; rfl) (a := b39) (argsL := []) rfl (lenOf pd_0 rfl) rfl at_207 (pc' := 210) rfl (by decide) (W := 1) (Nat.le_of_eq rfl) (by decide) (by decide) (by decide) (fun T40 h40 Lc40 v40r X40 eH40 hQ40 => ?_)
        obtain ⟨rfl, Nq40, Kq40, gq40_0, gq40_1, gq40_2, gq40_3⟩ := hQ40
        have N40 := Fr.app N27 Nq40
        replace S_COMPACT_STRINGS := own_skn S_COMPACT_STRINGS Kq40 (own_skS E_b39 own_sk0)
        replace S_PRESENT := own_skn S_PRESENT Kq40 (own_skS E_b39 own_sk0)
        replace S_DEFAULTCAPACITY_EMPTY_ELEMENTDATA := own_skn S_DEFAULTCAPACITY_EMPTY_ELEMENTDATA Kq40 (own_skS E_b39 own_sk0)
        replace E_df := E_df.keep Kq40
        replace V_df := V_df.keep Kq40 (ninS ne_df_b39 nin0)
        replace E_b39 := E_b39.keep Kq40
        have E_b39 := gq40_0
        have F_b39_modCount := gq40_1
        have F_b39_elementData := gq40_2
        have F_b39_size := gq40_3
        replace Z0 := Nat.le_trans Z0 Kq40.1
        refine own_astore X40 hx hby rfl (L' := #[.val (.int p0), .val (.int p1), .val (.int p2), .val (.int p3), .val (.int p4), .val (.int n1), .val (.int n2), .val (.int w30), .val (.int w4), .val (.int w7), .val (.int w10), .val (.int w13), .val (.int w16), .val (.int n29), .val (.int n32), .val (.int n38), .val (.ref b39), .unset, .unset, .unset, .unset, .unset, .unset, .unset, .unset, .unset, .unset, .unset, .unset, .unset, .unset, .unset]) rfl at_210 (pc' := 212) rfl ?_
        obtain ⟨hn0, hn1⟩ := own_idx p0 6 6 (by decide) (by decide)
        rw [q_n1] at hn0 hn1
        obtain ⟨N, hN, hN2⟩ := own_toN hn0 hn1 (by decide)
        obtain ⟨b1, hb1, hc1⟩ := own_bn (p := n1 < (1 : Int32)) (q := (n2 &&& (1 : Int32)) = 0)
        rw [q_w4] at hb1
        subst hb1
        obtain ⟨b2, hb2, hc2⟩ := own_bn (p := n1 < (2 : Int32)) (q := (n2 &&& (2 : Int32)) = 0)
        rw [q_w7] at hb2
        subst hb2
        obtain ⟨b3, hb3, hc3⟩ := own_bn (p := n1 < (3 : Int32)) (q := (n2 &&& (4 : Int32)) = 0)
        rw [q_w10] at hb3
        subst hb3
        obtain ⟨b4, hb4, hc4⟩ := own_bn (p := n1 < (4 : Int32)) (q := (n2 &&& (8 : Int32)) = 0)
        rw [q_w13] at hb4
        subst hb4
        obtain ⟨b5, hb5, hc5⟩ := own_bn (p := n1 < (5 : Int32)) (q := (n2 &&& (16 : Int32)) = 0)
        rw [q_w16] at hb5
        subst hb5
        have hs5 := own_sum5 b1 b2 b3 b4 b5 q_r20 q_r22 q_r24 q_r26 q_r28 q_n29
        subst hs5
        obtain ⟨he0, he1⟩ := own_idx p2 4 4 (by decide) (by decide)
        rw [q_n3] at he0 he1
        obtain ⟨E, hE, hE2, hT⟩ := own_extra (b2n b1 + b2n b2 + b2n b3 + b2n b4 + b2n b5) (own_s4 b1 b2 b3 b4 b5) n3 he0 (by omega) q_w30
        subst hE
        subst hN
        subst q_n32
        have H : (N ≤ 5 ∧ (b1 = true → 1 ≤ N) ∧ (b2 = true → 2 ≤ N) ∧ (b3 = true → 3 ≤ N) ∧ (b4 = true → 4 ≤ N) ∧ (b5 = true → 5 ≤ N) ∧ E ≤ 3 ∧ 0 < b2n b1 + b2n b2 + b2n b3 + b2n b4 + b2n b5 + E) := ⟨by omega, fun k => own_ge (by omega) (j := 1) (by decide) (hc1 k), fun k => own_ge (by omega) (j := 2) (by decide) (hc2 k), fun k => own_ge (by omega) (j := 3) (by decide) (hc3 k), fun k => own_ge (by omega) (j := 4) (by decide) (hc4 k), fun k => own_ge (by omega) (j := 5) (by decide) (hc5 k), hE2, hT⟩
        have hdp : 0 < n38.toInt := own_dp1 q_n38
        exact tL hw hx hby hZ hml hown Bd.notSynchronized Bd.returns (fun _ _ k => ⟨rfl, k⟩) p0 p1 p2 p3 p4 (Int32.ofNat N) n2 n38 hdp b1 b2 b3 b4 b5 E b39 cs pr df h40 Z0 N40 (own_lift X40 (by decide) (by decide)) eH40 N H rfl ⟨S_COMPACT_STRINGS, hcs, S_PRESENT, S_DEFAULTCAPACITY_EMPTY_ELEMENTDATA, Or.inl ⟨rfl, ⟨E_b39, F_b39_elementData, F_b39_size, ⟨_, F_b39_modCount⟩, g_b39, E_df, V_df⟩⟩⟩
theorem comes_1 {Post : Tables → Env → Array Value → State → Outcome → State → Prop} (hpost : ∀ tb e args s v u, (limb_1_1.after args s (.returned v) u = true ∧ limb_1_2.after args s (.returned v) u = true ∧ True) → FrameEnd s (.returned v) u (Jvm.fieldLocs frame_1_writes args s ++ Jvm.arrayLocs frame_1_arrays args s ++ Jvm.staticLocs frame_1_statics s) 96 384 → Post tb e args s (.returned v) u) :
    ArmFor flags0 classFile x code maxLocals ret World_1 tables_1 room_1 Calls_1 rest_1 Pre_1 Post := by
  intro l hfl _ _ p e ha hc hk s m args below hf hA hF happ hP
  obtain ⟨hcalls, hrest, hpre⟩ := hP
  obtain ⟨-, -, -, hnamed, -, -, -, hat⟩ := (Spec.applies_iff hf).mp happ
  obtain ⟨hg, hn⟩ := and_e (Cond.before_iff.mp (show (Jvm.Cond.and given_1 narrow_1).before args s = true from hpre))
  obtain ⟨gg1, gg2⟩ := and_e hg
  obtain ⟨gg3, gg4⟩ := and_e gg2
  obtain ⟨gg5, gg6⟩ := and_e gg4
  obtain ⟨gg7, gg8⟩ := and_e gg6
  obtain ⟨gg9, gg10⟩ := and_e gg8
  obtain ⟨w0, w1, w2, w3, w4, rfl⟩ : ∃ w0 w1 w2 w3 w4 : Value, args = #[w0, w1, w2, w3, w4] := by
    have hs : args.size = 5 := by simpa [Cond.value, given_1] using gg1
    obtain ⟨L⟩ := args
    match L, hs with
    | [w0, w1, w2, w3, w4], _ => exact ⟨w0, w1, w2, w3, w4, rfl⟩
  have hw := fun d (hd : d ∈ tables_1) => atoms_spec (ws := Jvm.Cond.code x code maxLocals ret :: tables_1) hat d (List.mem_cons_of_mem _ hd)
  have hfit : Fit s := fun {y c} hc i hi => by
    obtain ⟨ha, rfl⟩ := Array.getElem?_eq_some_iff.mp hc
    have q := List.all_eq_true.mp ((Array.all_eq_true_iff_forall_mem.mp hF) _ (Array.getElem_mem ha)) i (List.mem_range.mpr hi)
    simpa [Array.getElem?_eq_getElem hi] using q
  obtain ⟨hsets, hown0⟩ := atoms_of _ (rest_1_c_eq ▸ (show rest_1_c.before _ s = true from hrest))
  have hr0 := Cond.before_iff.mp hown0
  obtain ⟨i0, ei0⟩ := is_v gg3
  obtain rfl : w0 = (.int i0) := Option.some.inj ei0
  obtain ⟨i1, ei1⟩ := is_v gg5
  obtain rfl : w1 = (.int i1) := Option.some.inj ei1
  obtain ⟨i2, ei2⟩ := is_v gg7
  obtain rfl : w2 = (.int i2) := Option.some.inj ei2
  obtain ⟨i3, ei3⟩ := is_v gg9
  obtain rfl : w3 = (.int i3) := Option.some.inj ei3
  obtain ⟨i4, ei4⟩ := is_v gg10
  obtain rfl : w4 = (.int i4) := Option.some.inj ei4
  obtain ⟨zcs, hzcs, sCS⟩ := own_compact (hsets _ (mi 9 rfl)) (hsets _ (mi 10 rfl)) (hsets _ (mi 11 rfl))
  obtain ⟨aPR, sPR⟩ := own_empty (hsets _ (mi 19 rfl)) (hsets _ (mi 20 rfl))
  obtain ⟨aDF, sDF, eDF, vDF⟩ := own_dfl (Or.inr ⟨(hw _ (mi 11 rfl)), (hsets _ (mi 2 rfl))⟩) (hsets _ (mi 6 rfl)) (hsets _ (mi 7 rfl)) (hsets _ (mi 8 rfl))
  obtain ⟨n, o, h1, h2, h3, _, L, rfl, ⟨rfl, N⟩, hq⟩ := rm0 l s _ hw tables_1 i0 i1 i2 i3 i4 zcs aPR aDF s.heap s.heap.size (Nat.le_refl _) sCS hzcs sPR sDF eDF vDF p e ha hc hk s m _ below hf ((Spec.applies_iff_loose hf).mp happ).1 ⟨rfl, State.Warmed39.refl s, rfl⟩ trivial
  refine ⟨n, _, h1, h2, h3, hpost _ _ _ _ _ _ ⟨Cond.after_iff.mpr rfl, Cond.after_iff.mpr (eq_i res_at (Term.int_eval (1)) rfl), trivial⟩ ⟨hq.1, hq.2.1, (hq.2.2.sift fun y hy => Or.inr (N y hy)).mono (by decide) (by decide)⟩⟩
theorem main_1_1 : Claimed_1_1 := comes_1 fun _ _ _ _ _ _ h hF => ⟨h.1, hF⟩
theorem main_1_2 : Claimed_1_2 := comes_1 fun _ _ _ _ _ _ h hF => ⟨h.2.1, hF⟩
end Jvm.Pilot.@@N@@
namespace Jvm.Pilot.@@N@@
open Jvm Jvm.ClassFile Sem Op Lib Jvm.Free Jvm.Stand Jvm.Pilot.@@N@@.Jvm.D
/-! MADE BY PROGRAM (witnessworld.py) out of the Statement's table words and the real class files: 39 classes; the members and pool entries that the words name. The judged class is class 1, her method 1. -/
namespace start1
open Jvm.ClassFile
def u (s : String) : CpInfo := .utf8 (stringToUtf16 s)
/-- a pool by its gaps: so many unusable entries, then the entry; so many at the end -/
def gap : Nat → List CpInfo → List CpInfo
  | 0, r => r
  | n + 1, r => .unusable :: gap n r
def poolList (es : List (Nat × CpInfo)) (last : Nat) : List CpInfo := es.foldr (fun e r => gap e.1 (e.2 :: r)) (gap last [])
def pool (es : List (Nat × CpInfo)) (last : Nat) : Array CpInfo := ⟨poolList es last⟩
def fileOf (pool : Array CpInfo) (this : Nat) (attrs : Array Attribute := #[]) (ms : Array MethodInfo := #[]) (fl : Nat := 33) (sup : Nat := 0) (ifs : Array Nat := #[]) (fds : Array FieldInfo := #[]) : ClassFile where
  minorVersion := 0
  majorVersion := 65
  constantPool := pool
  accessFlags := fl
  thisClass := this
  superClass := sup
  interfaces := ifs
  fields := fds
  methods := ms
  attributes := attrs
def plain (name : String) (sup : Option ClassId) : Class where
  name := name
  kind := .ordinary
  loader := none
  accessFlags := 33
  super := sup
  interfaces := #[]
  cf := none
  fields := #[]
  methods := #[]
  instanceTypes := #[]
  staticTypes := #[]
  resolved := #[]
  callSites := []
  init := .initialized
  statics := none
  mirror := none

def pool0 : Array CpInfo := pool [(5, u "<init>"), (0, u "()V"), (1, .class_ 10), (1, u "java/lang/Object"), (16, u "hashCode"), (0, u "()I"), (63, u "equals"), (0, u "(Ljava/lang/Object;)Z"), (2, u "clone"), (0, u "()Ljava/lang/Object;")] 26

def k0c0 : Code := { maxStack := 0, maxLocals := 1, code := object_method_1_code, exceptionTable := #[], attributes := #[] }
def k0m0 : Method := { name := "<init>", desc := "()V", sig := { parameters := [], returnType := none }, accessFlags := 1, code := some k0c0 }
def k0m1 : Method := { name := "hashCode", desc := "()I", sig := { parameters := [], returnType := some .int }, accessFlags := 257, code := none }
def k0c2 : Code := { maxStack := 2, maxLocals := 2, code := ⟨#[0x2a, 0x2b, 0xa6, 0x00, 0x07, 0x04, 0xa7, 0x00, 0x04, 0x03, 0xac]⟩, exceptionTable := #[], attributes := #[] }
def k0m2 : Method := { name := "equals", desc := "(Ljava/lang/Object;)Z", sig := { parameters := [(.object "java/lang/Object")], returnType := some .boolean }, accessFlags := 1, code := some k0c2 }
def k0m3 : Method := { name := "clone", desc := "()Ljava/lang/Object;", sig := { parameters := [], returnType := some (.object "java/lang/Object") }, accessFlags := 260, code := none }
/-- java/lang/Object -/
def k0 : Class := { plain "java/lang/Object" none with
  accessFlags := 33
  interfaces := #[]
  cf := some (fileOf pool0 8 #[] #[{ accessFlags := 1, nameIndex := 5, descriptorIndex := 6, attributes := #[] }, { accessFlags := 257, nameIndex := 27, descriptorIndex := 28, attributes := #[] }, { accessFlags := 1, nameIndex := 92, descriptorIndex := 93, attributes := #[] }, { accessFlags := 260, nameIndex := 96, descriptorIndex := 97, attributes := #[] }] 33 0 #[] #[])
  fields := #[]
  methods := #[k0m0, k0m1, k0m2, k0m3]
  instanceTypes := #[]
  staticTypes := #[]
  resolved := Array.replicate 124 none
  statics := none }

def pool1 : Array CpInfo := pool [(2, .class_ 4), (0, .nameAndType 5 6), (0, u "java/lang/Object"), (0, u "<init>"), (0, u "()V"), (0, .integer 2147483647), (0, .methodref 9 10), (0, .class_ 11), (0, .nameAndType 12 13), (0, u "com/example/prior3/prior3/eval/JudgedRankingPresPinLaw"), (0, u "one"), (0, u "(Z)I"), (0, .methodref 15 16), (0, .class_ 17), (0, .nameAndType 18 19), (0, u "java/lang/Math"), (0, u "max"), (0, u "(II)I"), (0, .class_ 21), (0, u "java/util/ArrayList"), (0, .methodref 20 3), (0, .methodref 24 25), (0, .class_ 26), (0, .nameAndType 27 28), (0, u "java/lang/String"), (0, u "valueOf"), (0, u "(C)Ljava/lang/String;"), (0, .methodref 20 30), (0, .nameAndType 31 32), (0, u "add"), (0, u "(Ljava/lang/Object;)Z"), (0, .class_ 34), (0, u "java/util/HashSet"), (0, .methodref 33 3), (0, .methodref 33 30), (0, .class_ 38), (0, u "com/example/prior3/prior3/eval/JudgedRanking"), (0, .methodref 37 40), (0, .nameAndType 5 41), (0, u "(Ljava/util/List;Ljava/util/Set;)V"), (0, .methodref 37 43), (0, .nameAndType 44 45), (0, u "pres"), (0, u "(I)D"), (0, .methodref 9 47), (0, .nameAndType 48 49), (0, u "hit"), (0, u "(ZII)I"), (0, .methodref 9 51), (0, .nameAndType 52 53), (0, u "rankIf"), (0, u "(ZII)J"), (0, .long 2), (1, .double 4611686018427387904), (3, u "law"), (0, u "(IIIII)Z")] 3

def k1m0 : Method := { name := "<init>", desc := "()V", sig := { parameters := [], returnType := none }, accessFlags := 1, code := none }
def k1c1 : Code := { maxStack := 8, maxLocals := 32, code := code, exceptionTable := #[], attributes := #[] }
def k1m1 : Method := { name := "law", desc := "(IIIII)Z", sig := { parameters := [.int, .int, .int, .int, .int], returnType := some .boolean }, accessFlags := 9, code := some k1c1 }
def k1c2 : Code := { maxStack := 1, maxLocals := 1, code := method_3_code, exceptionTable := #[], attributes := #[] }
def k1m2 : Method := { name := "one", desc := "(Z)I", sig := { parameters := [.boolean], returnType := some .int }, accessFlags := 10, code := some k1c2 }
def k1c3 : Code := { maxStack := 2, maxLocals := 3, code := method_4_code, exceptionTable := #[], attributes := #[] }
def k1m3 : Method := { name := "hit", desc := "(ZII)I", sig := { parameters := [.boolean, .int, .int], returnType := some .int }, accessFlags := 10, code := some k1c3 }
def k1c4 : Code := { maxStack := 2, maxLocals := 3, code := method_5_code, exceptionTable := #[], attributes := #[] }
def k1m4 : Method := { name := "rankIf", desc := "(ZII)J", sig := { parameters := [.boolean, .int, .int], returnType := some .long }, accessFlags := 10, code := some k1c4 }
/-- com/example/prior3/prior3/eval/JudgedRankingPresPinLaw -/
def k1 : Class := { plain "com/example/prior3/prior3/eval/JudgedRankingPresPinLaw" (some 0) with
  accessFlags := 49
  interfaces := #[]
  cf := some (fileOf pool1 9 #[] #[{ accessFlags := 1, nameIndex := 5, descriptorIndex := 6, attributes := #[] }, { accessFlags := 9, nameIndex := 60, descriptorIndex := 61, attributes := #[] }, { accessFlags := 10, nameIndex := 12, descriptorIndex := 13, attributes := #[] }, { accessFlags := 10, nameIndex := 48, descriptorIndex := 49, attributes := #[] }, { accessFlags := 10, nameIndex := 52, descriptorIndex := 53, attributes := #[] }] 49 2 #[] #[])
  fields := #[]
  methods := #[k1m0, k1m1, k1m2, k1m3, k1m4]
  instanceTypes := #[]
  staticTypes := #[]
  resolved := Array.replicate 65 none
  statics := none }

def pool2 : Array CpInfo := pool [(1, .class_ 2), (0, u "java/lang/Math"), (1, .class_ 6), (1, u "java/lang/Object"), (0, u "<init>"), (0, u "()V"), (89, .class_ 100), (1, u "java/lang/Math$RandomNumberGeneratorHolder"), (71, u "negativeZeroFloatBits"), (0, u "J"), (2, u "negativeZeroDoubleBits"), (21, u "max"), (2, u "min"), (43, u "$assertionsDisabled"), (0, u "Z"), (88, u "(II)I"), (2, u "twoToTheDoubleScaleDown"), (0, u "D"), (4, u "twoToTheDoubleScaleUp"), (9, u "E"), (3, u "PI"), (2, u "TAU"), (2, u "DEGREES_TO_RADIANS"), (0, u "RADIANS_TO_DEGREES")] 94

def k2m0 : Method := { name := "<init>", desc := "()V", sig := { parameters := [], returnType := none }, accessFlags := 2, code := none }
def k2c1 : Code := { maxStack := 2, maxLocals := 2, code := jdk_29_method_65_code, exceptionTable := #[], attributes := #[] }
def k2m1 : Method := { name := "max", desc := "(II)I", sig := { parameters := [.int, .int], returnType := some .int }, accessFlags := 9, code := some k2c1 }
def k2c2 : Code := { maxStack := 2, maxLocals := 2, code := jdk_29_method_69_code, exceptionTable := #[], attributes := #[] }
def k2m2 : Method := { name := "min", desc := "(II)I", sig := { parameters := [.int, .int], returnType := some .int }, accessFlags := 9, code := some k2c2 }
/-- java/lang/Math -/
def k2 : Class := { plain "java/lang/Math" (some 0) with
  accessFlags := 49
  interfaces := #[]
  cf := some (fileOf pool2 1 #[.nestMembers #[98]] #[{ accessFlags := 2, nameIndex := 7, descriptorIndex := 8, attributes := #[] }, { accessFlags := 9, nameIndex := 198, descriptorIndex := 335, attributes := #[] }, { accessFlags := 9, nameIndex := 201, descriptorIndex := 335, attributes := #[] }] 49 4 #[] #[{ accessFlags := 25, nameIndex := 354, descriptorIndex := 339, attributes := #[] }, { accessFlags := 25, nameIndex := 358, descriptorIndex := 339, attributes := #[] }, { accessFlags := 25, nameIndex := 361, descriptorIndex := 339, attributes := #[] }, { accessFlags := 26, nameIndex := 364, descriptorIndex := 339, attributes := #[] }, { accessFlags := 26, nameIndex := 365, descriptorIndex := 339, attributes := #[] }, { accessFlags := 26, nameIndex := 172, descriptorIndex := 173, attributes := #[] }, { accessFlags := 26, nameIndex := 176, descriptorIndex := 173, attributes := #[] }, { accessFlags := 8, nameIndex := 344, descriptorIndex := 339, attributes := #[] }, { accessFlags := 8, nameIndex := 338, descriptorIndex := 339, attributes := #[] }, { accessFlags := 4120, nameIndex := 245, descriptorIndex := 246, attributes := #[] }])
  fields := #[{ name := "E", type := .double, accessFlags := 25, slot := 0, constantValue := 0 }, { name := "PI", type := .double, accessFlags := 25, slot := 1, constantValue := 0 }, { name := "TAU", type := .double, accessFlags := 25, slot := 2, constantValue := 0 }, { name := "DEGREES_TO_RADIANS", type := .double, accessFlags := 26, slot := 3, constantValue := 0 }, { name := "RADIANS_TO_DEGREES", type := .double, accessFlags := 26, slot := 4, constantValue := 0 }, { name := "negativeZeroFloatBits", type := .long, accessFlags := 26, slot := 5, constantValue := 0 }, { name := "negativeZeroDoubleBits", type := .long, accessFlags := 26, slot := 6, constantValue := 0 }, { name := "twoToTheDoubleScaleUp", type := .double, accessFlags := 8, slot := 7, constantValue := 0 }, { name := "twoToTheDoubleScaleDown", type := .double, accessFlags := 8, slot := 8, constantValue := 0 }, { name := "$assertionsDisabled", type := .boolean, accessFlags := 4120, slot := 9, constantValue := 0 }]
  methods := #[k2m0, k2m1, k2m2]
  instanceTypes := #[]
  staticTypes := #[.double, .double, .double, .double, .double, .long, .long, .double, .double, .boolean]
  resolved := Array.replicate 460 none
  statics := none }

def pool3 : Array CpInfo := pool [(8, .class_ 10), (1, u "java/lang/Iterable"), (24, .class_ 36), (0, u "java/lang/Object")] 25

/-- java/lang/Iterable -/
def k3 : Class := { plain "java/lang/Iterable" (some 0) with
  accessFlags := 1537
  interfaces := #[]
  cf := some (fileOf pool3 8 #[] #[] 1537 35 #[] #[])
  fields := #[]
  methods := #[]
  instanceTypes := #[]
  staticTypes := #[]
  resolved := Array.replicate 62 none
  statics := none }

def pool4 : Array CpInfo := pool [(10, .class_ 12), (1, u "java/util/Collection"), (47, .class_ 61), (0, u "java/lang/Object"), (0, .class_ 63), (0, u "java/lang/Iterable")] 51

/-- java/util/Collection -/
def k4 : Class := { plain "java/util/Collection" (some 0) with
  accessFlags := 1537
  interfaces := #[3]
  cf := some (fileOf pool4 10 #[] #[] 1537 60 #[62] #[])
  fields := #[]
  methods := #[]
  instanceTypes := #[]
  staticTypes := #[]
  resolved := Array.replicate 115 none
  statics := none }

def pool5 : Array CpInfo := pool [(1, .methodref 2 3), (0, .class_ 4), (0, .nameAndType 5 6), (0, u "java/lang/Object"), (0, u "<init>"), (0, u "()V"), (1, .class_ 10), (1, u "java/util/AbstractCollection"), (66, .class_ 78), (0, u "java/util/Collection")] 81

def k5c0 : Code := { maxStack := 1, maxLocals := 1, code := jdk_22_method_1_code, exceptionTable := #[], attributes := #[] }
def k5m0 : Method := { name := "<init>", desc := "()V", sig := { parameters := [], returnType := none }, accessFlags := 4, code := some k5c0 }
/-- java/util/AbstractCollection -/
def k5 : Class := { plain "java/util/AbstractCollection" (some 0) with
  accessFlags := 1057
  interfaces := #[4]
  cf := some (fileOf pool5 8 #[] #[{ accessFlags := 4, nameIndex := 5, descriptorIndex := 6, attributes := #[] }] 1057 2 #[77] #[])
  fields := #[]
  methods := #[k5m0]
  instanceTypes := #[]
  staticTypes := #[]
  resolved := Array.replicate 160 none
  statics := none }

def pool6 : Array CpInfo := pool [(8, .class_ 10), (1, u "java/util/SequencedCollection"), (15, .class_ 27), (0, u "java/lang/Object"), (0, .class_ 29), (0, u "java/util/Collection")] 27

/-- java/util/SequencedCollection -/
def k6 : Class := { plain "java/util/SequencedCollection" (some 0) with
  accessFlags := 1537
  interfaces := #[4]
  cf := some (fileOf pool6 8 #[] #[] 1537 26 #[28] #[])
  fields := #[]
  methods := #[]
  instanceTypes := #[]
  staticTypes := #[]
  resolved := Array.replicate 57 none
  statics := none }

def pool7 : Array CpInfo := pool [(8, .class_ 10), (1, u "java/util/List"), (64, u "get"), (0, u "(I)Ljava/lang/Object;"), (2, u "size"), (0, u "()I"), (22, .class_ 104), (0, u "java/lang/Object"), (15, .class_ 121), (0, u "java/util/SequencedCollection")] 129

def k7m0 : Method := { name := "size", desc := "()I", sig := { parameters := [], returnType := some .int }, accessFlags := 1025, code := none }
def k7m1 : Method := { name := "get", desc := "(I)Ljava/lang/Object;", sig := { parameters := [.int], returnType := some (.object "java/lang/Object") }, accessFlags := 1025, code := none }
/-- java/util/List -/
def k7 : Class := { plain "java/util/List" (some 0) with
  accessFlags := 1537
  interfaces := #[6]
  cf := some (fileOf pool7 8 #[] #[{ accessFlags := 1025, nameIndex := 79, descriptorIndex := 80, attributes := #[] }, { accessFlags := 1025, nameIndex := 75, descriptorIndex := 76, attributes := #[] }] 1537 103 #[120] #[])
  fields := #[]
  methods := #[k7m0, k7m1]
  instanceTypes := #[]
  staticTypes := #[]
  resolved := Array.replicate 251 none
  statics := none }

def pool8 : Array CpInfo := pool [(1, .methodref 2 3), (0, .class_ 4), (0, .nameAndType 5 6), (0, u "java/util/AbstractCollection"), (0, u "<init>"), (0, u "()V"), (0, .fieldref 8 9), (0, .class_ 10), (0, .nameAndType 11 12), (0, u "java/util/AbstractList"), (0, u "modCount"), (0, u "I"), (64, .class_ 78), (0, u "java/util/AbstractList$Itr"), (3, .class_ 83), (0, u "java/util/AbstractList$ListItr"), (9, .class_ 94), (0, u "java/util/AbstractList$RandomAccessSubList"), (3, .class_ 99), (0, u "java/util/AbstractList$SubList"), (33, .class_ 134), (0, u "java/util/List"), (73, .class_ 209), (0, u "java/util/AbstractList$SubList$1"), (0, .class_ 211), (0, u "java/util/AbstractList$RandomAccessSpliterator")] 6

def k8c0 : Code := { maxStack := 2, maxLocals := 1, code := jdk_39_method_1_code, exceptionTable := #[], attributes := #[] }
def k8m0 : Method := { name := "<init>", desc := "()V", sig := { parameters := [], returnType := none }, accessFlags := 4, code := some k8c0 }
/-- java/util/AbstractList -/
def k8 : Class := { plain "java/util/AbstractList" (some 5) with
  accessFlags := 1057
  interfaces := #[7]
  cf := some (fileOf pool8 8 #[.nestMembers #[93, 98, 208, 210, 82, 77]] #[{ accessFlags := 4, nameIndex := 5, descriptorIndex := 6, attributes := #[] }] 1057 2 #[133] #[{ accessFlags := 132, nameIndex := 11, descriptorIndex := 12, attributes := #[] }])
  fields := #[{ name := "modCount", type := .int, accessFlags := 132, slot := 0, constantValue := 0 }]
  methods := #[k8m0]
  instanceTypes := #[.int]
  staticTypes := #[]
  resolved := Array.replicate 218 none
  statics := none }

def pool9 : Array CpInfo := pool [(1, .class_ 2), (0, u "java/util/RandomAccess"), (0, .class_ 4), (0, u "java/lang/Object")] 2

/-- java/util/RandomAccess -/
def k9 : Class := { plain "java/util/RandomAccess" (some 0) with
  accessFlags := 1537
  interfaces := #[]
  cf := some (fileOf pool9 1 #[] #[] 1537 3 #[] #[])
  fields := #[]
  methods := #[]
  instanceTypes := #[]
  staticTypes := #[]
  resolved := Array.replicate 7 none
  statics := none }

def pool10 : Array CpInfo := pool [(1, .class_ 2), (0, u "java/lang/Cloneable"), (0, .class_ 4), (0, u "java/lang/Object")] 2

/-- java/lang/Cloneable -/
def k10 : Class := { plain "java/lang/Cloneable" (some 0) with
  accessFlags := 1537
  interfaces := #[]
  cf := some (fileOf pool10 1 #[] #[] 1537 3 #[] #[])
  fields := #[]
  methods := #[]
  instanceTypes := #[]
  staticTypes := #[]
  resolved := Array.replicate 7 none
  statics := none }

def pool11 : Array CpInfo := pool [(1, .class_ 2), (0, u "java/io/Serializable"), (0, .class_ 4), (0, u "java/lang/Object")] 2

/-- java/io/Serializable -/
def k11 : Class := { plain "java/io/Serializable" (some 0) with
  accessFlags := 1537
  interfaces := #[]
  cf := some (fileOf pool11 1 #[] #[] 1537 3 #[] #[])
  fields := #[]
  methods := #[]
  instanceTypes := #[]
  staticTypes := #[]
  resolved := Array.replicate 7 none
  statics := none }

def pool12 : Array CpInfo := pool [(1, .methodref 2 3), (0, .class_ 4), (0, .nameAndType 5 6), (0, u "java/util/AbstractList"), (0, u "<init>"), (0, u "()V"), (0, .class_ 8), (0, u "java/lang/Object"), (0, .fieldref 10 11), (0, .class_ 12), (0, .nameAndType 13 14), (0, u "java/util/ArrayList"), (0, u "elementData"), (0, u "[Ljava/lang/Object;"), (2, u "EMPTY_ELEMENTDATA"), (21, .fieldref 10 40), (0, .nameAndType 41 14), (0, u "DEFAULTCAPACITY_EMPTY_ELEMENTDATA"), (5, u "()[Ljava/lang/Object;"), (0, .fieldref 10 49), (0, .nameAndType 50 51), (0, u "size"), (0, u "I"), (11, .fieldref 10 64), (0, .nameAndType 65 51), (0, u "modCount"), (3, .methodref 10 70), (0, .nameAndType 71 72), (0, u "grow"), (0, u "(I)[Ljava/lang/Object;"), (6, .methodref 80 81), (0, .class_ 82), (0, .nameAndType 83 84), (0, u "java/lang/Math"), (0, u "max"), (0, u "(II)I"), (11, u "(Ljava/lang/Object;)Z"), (21, .methodref 119 120), (0, .class_ 121), (0, .nameAndType 122 84), (0, u "java/util/Objects"), (0, u "checkIndex"), (0, .methodref 10 124), (0, .nameAndType 13 125), (0, u "(I)Ljava/lang/Object;"), (3, .methodref 10 130), (0, .nameAndType 71 47), (0, .methodref 10 132), (0, .nameAndType 133 134), (0, u "add"), (0, u "(Ljava/lang/Object;[Ljava/lang/Object;I)V"), (13, .class_ 149), (0, u "java/util/List"), (36, u "()I"), (75, .class_ 263), (0, u "java/util/ArrayList$ListItr"), (3, .class_ 268), (0, u "java/util/ArrayList$Itr"), (7, .class_ 277), (0, u "java/util/ArrayList$SubList"), (12, .class_ 291), (0, u "java/util/ArrayList$ArrayListSpliterator"), (37, .class_ 330), (0, u "java/util/RandomAccess"), (0, .class_ 332), (0, u "java/lang/Cloneable"), (0, .class_ 334), (0, u "java/io/Serializable"), (0, u "serialVersionUID"), (0, u "J"), (3, u "DEFAULT_CAPACITY"), (40, u "get"), (118, .class_ 501), (0, u "java/util/ArrayList$SubList$2"), (0, .class_ 503), (0, u "java/util/ArrayList$SubList$1")] 5

def k12c0 : Code := { maxStack := 2, maxLocals := 1, code := jdk_38_method_2_code, exceptionTable := #[], attributes := #[] }
def k12m0 : Method := { name := "<init>", desc := "()V", sig := { parameters := [], returnType := none }, accessFlags := 1, code := some k12c0 }
def k12c1 : Code := { maxStack := 4, maxLocals := 4, code := jdk_38_method_6_code, exceptionTable := #[], attributes := #[] }
def k12m1 : Method := { name := "grow", desc := "(I)[Ljava/lang/Object;", sig := { parameters := [.int], returnType := some (.array (.object "java/lang/Object")) }, accessFlags := 2, code := some k12c1 }
def k12c2 : Code := { maxStack := 3, maxLocals := 1, code := jdk_38_method_7_code, exceptionTable := #[], attributes := #[] }
def k12m2 : Method := { name := "grow", desc := "()[Ljava/lang/Object;", sig := { parameters := [], returnType := some (.array (.object "java/lang/Object")) }, accessFlags := 2, code := some k12c2 }
def k12c3 : Code := { maxStack := 1, maxLocals := 1, code := jdk_38_method_8_code, exceptionTable := #[], attributes := #[] }
def k12m3 : Method := { name := "size", desc := "()I", sig := { parameters := [], returnType := some .int }, accessFlags := 1, code := some k12c3 }
def k12c4 : Code := { maxStack := 2, maxLocals := 2, code := jdk_38_method_18_code, exceptionTable := #[], attributes := #[] }
def k12m4 : Method := { name := "elementData", desc := "(I)Ljava/lang/Object;", sig := { parameters := [.int], returnType := some (.object "java/lang/Object") }, accessFlags := 0, code := some k12c4 }
def k12c5 : Code := { maxStack := 2, maxLocals := 2, code := jdk_38_method_20_code, exceptionTable := #[], attributes := #[] }
def k12m5 : Method := { name := "get", desc := "(I)Ljava/lang/Object;", sig := { parameters := [.int], returnType := some (.object "java/lang/Object") }, accessFlags := 1, code := some k12c5 }
def k12c6 : Code := { maxStack := 3, maxLocals := 4, code := jdk_38_method_24_code, exceptionTable := #[], attributes := #[] }
def k12m6 : Method := { name := "add", desc := "(Ljava/lang/Object;[Ljava/lang/Object;I)V", sig := { parameters := [(.object "java/lang/Object"), (.array (.object "java/lang/Object")), .int], returnType := none }, accessFlags := 2, code := some k12c6 }
def k12c7 : Code := { maxStack := 4, maxLocals := 2, code := jdk_38_method_25_code, exceptionTable := #[], attributes := #[] }
def k12m7 : Method := { name := "add", desc := "(Ljava/lang/Object;)Z", sig := { parameters := [(.object "java/lang/Object")], returnType := some .boolean }, accessFlags := 1, code := some k12c7 }
/-- java/util/ArrayList -/
def k12 : Class := { plain "java/util/ArrayList" (some 8) with
  accessFlags := 33
  interfaces := #[7, 9, 10, 11]
  cf := some (fileOf pool12 10 #[.nestMembers #[290, 276, 500, 502, 262, 267]] #[{ accessFlags := 1, nameIndex := 5, descriptorIndex := 6, attributes := #[] }, { accessFlags := 2, nameIndex := 71, descriptorIndex := 72, attributes := #[] }, { accessFlags := 2, nameIndex := 71, descriptorIndex := 47, attributes := #[] }, { accessFlags := 1, nameIndex := 50, descriptorIndex := 186, attributes := #[] }, { accessFlags := 0, nameIndex := 13, descriptorIndex := 125, attributes := #[] }, { accessFlags := 1, nameIndex := 381, descriptorIndex := 125, attributes := #[] }, { accessFlags := 2, nameIndex := 133, descriptorIndex := 134, attributes := #[] }, { accessFlags := 1, nameIndex := 133, descriptorIndex := 96, attributes := #[] }] 33 2 #[148, 329, 331, 333] #[{ accessFlags := 26, nameIndex := 335, descriptorIndex := 336, attributes := #[] }, { accessFlags := 26, nameIndex := 340, descriptorIndex := 51, attributes := #[] }, { accessFlags := 26, nameIndex := 17, descriptorIndex := 14, attributes := #[] }, { accessFlags := 26, nameIndex := 41, descriptorIndex := 14, attributes := #[] }, { accessFlags := 128, nameIndex := 13, descriptorIndex := 14, attributes := #[] }, { accessFlags := 2, nameIndex := 50, descriptorIndex := 51, attributes := #[] }])
  fields := #[{ name := "serialVersionUID", type := .long, accessFlags := 26, slot := 0, constantValue := 0 }, { name := "DEFAULT_CAPACITY", type := .int, accessFlags := 26, slot := 1, constantValue := 0 }, { name := "EMPTY_ELEMENTDATA", type := (.array (.object "java/lang/Object")), accessFlags := 26, slot := 2, constantValue := 0 }, { name := "DEFAULTCAPACITY_EMPTY_ELEMENTDATA", type := (.array (.object "java/lang/Object")), accessFlags := 26, slot := 3, constantValue := 0 }, { name := "elementData", type := (.array (.object "java/lang/Object")), accessFlags := 128, slot := 1, constantValue := 0 }, { name := "size", type := .int, accessFlags := 2, slot := 2, constantValue := 0 }]
  methods := #[k12m0, k12m1, k12m2, k12m3, k12m4, k12m5, k12m6, k12m7]
  instanceTypes := #[.int, (.array (.object "java/lang/Object")), .int]
  staticTypes := #[.long, .int, (.array (.object "java/lang/Object")), (.array (.object "java/lang/Object"))]
  resolved := Array.replicate 509 none
  statics := some 0 }

def pool13 : Array CpInfo := pool [(26, .class_ 27), (0, u "java/lang/Object"), (5, .class_ 34), (0, u "java/util/Set"), (1, .class_ 38), (1, u "java/util/Collection"), (0, u "isEmpty"), (0, u "()Z"), (16, u "size"), (0, u "()I"), (0, u "contains"), (0, u "(Ljava/lang/Object;)Z")] 83

def k13m0 : Method := { name := "size", desc := "()I", sig := { parameters := [], returnType := some .int }, accessFlags := 1025, code := none }
def k13m1 : Method := { name := "isEmpty", desc := "()Z", sig := { parameters := [], returnType := some .boolean }, accessFlags := 1025, code := none }
def k13m2 : Method := { name := "contains", desc := "(Ljava/lang/Object;)Z", sig := { parameters := [(.object "java/lang/Object")], returnType := some .boolean }, accessFlags := 1025, code := none }
/-- java/util/Set -/
def k13 : Class := { plain "java/util/Set" (some 0) with
  accessFlags := 1537
  interfaces := #[4]
  cf := some (fileOf pool13 33 #[] #[{ accessFlags := 1025, nameIndex := 57, descriptorIndex := 58, attributes := #[] }, { accessFlags := 1025, nameIndex := 39, descriptorIndex := 40, attributes := #[] }, { accessFlags := 1025, nameIndex := 59, descriptorIndex := 60, attributes := #[] }] 1537 26 #[36] #[])
  fields := #[]
  methods := #[k13m0, k13m1, k13m2]
  instanceTypes := #[]
  staticTypes := #[]
  resolved := Array.replicate 144 none
  statics := none }

def pool14 : Array CpInfo := pool [(1, .methodref 2 3), (0, .class_ 4), (0, .nameAndType 5 6), (0, u "java/util/AbstractCollection"), (0, u "<init>"), (0, u "()V"), (0, .class_ 8), (0, u "java/util/Set"), (7, .class_ 17), (0, u "java/util/AbstractSet")] 78

def k14c0 : Code := { maxStack := 1, maxLocals := 1, code := jdk_91_method_1_code, exceptionTable := #[], attributes := #[] }
def k14m0 : Method := { name := "<init>", desc := "()V", sig := { parameters := [], returnType := none }, accessFlags := 4, code := some k14c0 }
/-- java/util/AbstractSet -/
def k14 : Class := { plain "java/util/AbstractSet" (some 5) with
  accessFlags := 1057
  interfaces := #[13]
  cf := some (fileOf pool14 16 #[] #[{ accessFlags := 4, nameIndex := 5, descriptorIndex := 6, attributes := #[] }] 1057 2 #[7] #[])
  fields := #[]
  methods := #[k14m0]
  instanceTypes := #[]
  staticTypes := #[]
  resolved := Array.replicate 96 none
  statics := none }

def pool15 : Array CpInfo := pool [(1, .methodref 2 3), (0, .class_ 4), (0, .nameAndType 5 6), (0, u "java/util/AbstractSet"), (0, u "<init>"), (0, u "()V"), (0, .class_ 8), (0, u "java/util/HashMap"), (0, .methodref 7 3), (0, .fieldref 11 12), (0, .class_ 13), (0, .nameAndType 14 15), (0, u "java/util/HashSet"), (0, u "map"), (0, u "Ljava/util/HashMap;"), (2, .nameAndType 20 21), (1, u "size"), (0, u "()I"), (28, .class_ 52), (1, u "java/util/Set"), (2, .methodref 7 18), (0, .methodref 7 57), (0, .nameAndType 58 59), (0, u "isEmpty"), (0, u "()Z"), (0, .methodref 7 61), (0, .nameAndType 62 63), (0, u "containsKey"), (0, u "(Ljava/lang/Object;)Z"), (0, .fieldref 11 65), (0, .nameAndType 66 67), (0, u "PRESENT"), (0, u "Ljava/lang/Object;"), (0, .methodref 7 69), (0, .nameAndType 70 71), (0, u "put"), (0, u "(Ljava/lang/Object;Ljava/lang/Object;)Ljava/lang/Object;"), (154, .class_ 227), (0, u "java/lang/Cloneable"), (0, .class_ 229), (0, u "java/io/Serializable"), (0, u "serialVersionUID"), (0, u "J"), (24, u "contains"), (1, u "add")] 44

def k15c0 : Code := { maxStack := 3, maxLocals := 1, code := jdk_93_method_1_code, exceptionTable := #[], attributes := #[] }
def k15m0 : Method := { name := "<init>", desc := "()V", sig := { parameters := [], returnType := none }, accessFlags := 1, code := some k15c0 }
def k15c1 : Code := { maxStack := 1, maxLocals := 1, code := jdk_93_method_7_code, exceptionTable := #[], attributes := #[] }
def k15m1 : Method := { name := "size", desc := "()I", sig := { parameters := [], returnType := some .int }, accessFlags := 1, code := some k15c1 }
def k15c2 : Code := { maxStack := 1, maxLocals := 1, code := jdk_93_method_8_code, exceptionTable := #[], attributes := #[] }
def k15m2 : Method := { name := "isEmpty", desc := "()Z", sig := { parameters := [], returnType := some .boolean }, accessFlags := 1, code := some k15c2 }
def k15c3 : Code := { maxStack := 2, maxLocals := 2, code := jdk_93_method_9_code, exceptionTable := #[], attributes := #[] }
def k15m3 : Method := { name := "contains", desc := "(Ljava/lang/Object;)Z", sig := { parameters := [(.object "java/lang/Object")], returnType := some .boolean }, accessFlags := 1, code := some k15c3 }
def k15c4 : Code := { maxStack := 3, maxLocals := 2, code := jdk_93_method_10_code, exceptionTable := #[], attributes := #[] }
def k15m4 : Method := { name := "add", desc := "(Ljava/lang/Object;)Z", sig := { parameters := [(.object "java/lang/Object")], returnType := some .boolean }, accessFlags := 1, code := some k15c4 }
/-- java/util/HashSet -/
def k15 : Class := { plain "java/util/HashSet" (some 14) with
  accessFlags := 33
  interfaces := #[13, 10, 11]
  cf := some (fileOf pool15 11 #[] #[{ accessFlags := 1, nameIndex := 5, descriptorIndex := 6, attributes := #[] }, { accessFlags := 1, nameIndex := 20, descriptorIndex := 21, attributes := #[] }, { accessFlags := 1, nameIndex := 58, descriptorIndex := 59, attributes := #[] }, { accessFlags := 1, nameIndex := 256, descriptorIndex := 63, attributes := #[] }, { accessFlags := 1, nameIndex := 258, descriptorIndex := 63, attributes := #[] }] 33 2 #[50, 226, 228] #[{ accessFlags := 24, nameIndex := 230, descriptorIndex := 231, attributes := #[] }, { accessFlags := 128, nameIndex := 14, descriptorIndex := 15, attributes := #[] }, { accessFlags := 24, nameIndex := 66, descriptorIndex := 67, attributes := #[] }])
  fields := #[{ name := "serialVersionUID", type := .long, accessFlags := 24, slot := 0, constantValue := 0 }, { name := "map", type := (.object "java/util/HashMap"), accessFlags := 128, slot := 0, constantValue := 0 }, { name := "PRESENT", type := (.object "java/lang/Object"), accessFlags := 24, slot := 1, constantValue := 0 }]
  methods := #[k15m0, k15m1, k15m2, k15m3, k15m4]
  instanceTypes := #[(.object "java/util/HashMap")]
  staticTypes := #[.long, (.object "java/lang/Object")]
  resolved := Array.replicate 303 none
  statics := some 1 }

def pool16 : Array CpInfo := pool [(2, .class_ 4), (1, u "java/util/Map"), (31, .class_ 37), (0, u "java/util/Map$Entry"), (55, .class_ 94), (0, u "java/lang/Object")] 168

/-- java/util/Map -/
def k16 : Class := { plain "java/util/Map" (some 0) with
  accessFlags := 1537
  interfaces := #[]
  cf := some (fileOf pool16 2 #[.nestMembers #[36]] #[] 1537 93 #[] #[])
  fields := #[]
  methods := #[]
  instanceTypes := #[]
  staticTypes := #[]
  resolved := Array.replicate 263 none
  statics := none }

def pool17 : Array CpInfo := pool [(1, .methodref 2 3), (0, .class_ 4), (0, .nameAndType 5 6), (0, u "java/lang/Object"), (0, u "<init>"), (0, u "()V"), (1, .class_ 10), (1, u "java/util/AbstractMap"), (42, .class_ 54), (0, u "java/util/Map"), (9, u "keySet"), (0, u "Ljava/util/Set;"), (0, .class_ 67), (0, u "java/util/AbstractMap$1"), (5, u "values"), (0, u "Ljava/util/Collection;"), (0, .class_ 76), (0, u "java/util/AbstractMap$2"), (104, .class_ 182), (0, u "java/util/AbstractMap$ViewCollection"), (0, .class_ 184), (0, u "java/util/AbstractMap$SimpleImmutableEntry"), (0, .class_ 186), (0, u "java/util/AbstractMap$SimpleEntry"), (0, .class_ 188), (0, u "java/util/AbstractMap$2$1"), (0, .class_ 190), (0, u "java/util/AbstractMap$1$1")] 5

def k17c0 : Code := { maxStack := 1, maxLocals := 1, code := jdk_71_method_1_code, exceptionTable := #[], attributes := #[] }
def k17m0 : Method := { name := "<init>", desc := "()V", sig := { parameters := [], returnType := none }, accessFlags := 4, code := some k17c0 }
/-- java/util/AbstractMap -/
def k17 : Class := { plain "java/util/AbstractMap" (some 0) with
  accessFlags := 1057
  interfaces := #[16]
  cf := some (fileOf pool17 8 #[.nestMembers #[181, 183, 185, 75, 187, 66, 189]] #[{ accessFlags := 4, nameIndex := 5, descriptorIndex := 6, attributes := #[] }] 1057 2 #[53] #[{ accessFlags := 128, nameIndex := 64, descriptorIndex := 65, attributes := #[] }, { accessFlags := 128, nameIndex := 73, descriptorIndex := 74, attributes := #[] }])
  fields := #[{ name := "keySet", type := (.object "java/util/Set"), accessFlags := 128, slot := 0, constantValue := 0 }, { name := "values", type := (.object "java/util/Collection"), accessFlags := 128, slot := 1, constantValue := 0 }]
  methods := #[k17m0]
  instanceTypes := #[(.object "java/util/Set"), (.object "java/util/Collection")]
  staticTypes := #[]
  resolved := Array.replicate 196 none
  statics := none }

def pool18 : Array CpInfo := pool [(1, .methodref 2 3), (0, .class_ 4), (0, .nameAndType 5 6), (0, u "java/lang/Object"), (0, u "hashCode"), (0, u "()I"), (26, u "(Ljava/lang/Object;)I"), (6, .class_ 41), (0, u "java/util/HashMap"), (1, .methodref 44 45), (0, .class_ 46), (0, .nameAndType 47 48), (0, u "java/util/AbstractMap"), (0, u "<init>"), (0, u "()V"), (32, .fieldref 40 82), (0, .nameAndType 83 84), (0, u "loadFactor"), (0, u "F"), (3, .fieldref 40 89), (0, .nameAndType 90 91), (0, u "threshold"), (0, u "I"), (0, .float 1061158912), (8, .class_ 103), (1, u "java/util/Map"), (0, u "size"), (0, .fieldref 40 106), (0, .nameAndType 107 108), (0, u "table"), (0, u "[Ljava/util/HashMap$Node;"), (8, .methodref 40 118), (0, .nameAndType 119 120), (0, u "resize"), (0, u "()[Ljava/util/HashMap$Node;"), (2, u "entrySet"), (12, u "()Z"), (12, .methodref 40 150), (0, .nameAndType 151 33), (0, u "hash"), (0, .methodref 40 153), (0, .nameAndType 154 155), (0, u "putVal"), (0, u "(ILjava/lang/Object;Ljava/lang/Object;ZZ)Ljava/lang/Object;"), (0, .fieldref 40 157), (0, .nameAndType 104 91), (0, .methodref 40 159), (0, .nameAndType 160 161), (0, u "getNode"), (0, u "(Ljava/lang/Object;)Ljava/util/HashMap$Node;"), (1, .class_ 165), (1, u "java/util/HashMap$Node"), (1, u "Ljava/lang/Object;"), (0, .fieldref 163 169), (0, .nameAndType 151 91), (0, .fieldref 163 171), (0, .nameAndType 172 167), (0, u "key"), (0, .methodref 2 174), (0, .nameAndType 175 176), (0, u "equals"), (0, u "(Ljava/lang/Object;)Z"), (3, .class_ 181), (0, u "java/util/HashMap$TreeNode"), (4, .methodref 40 187), (0, .nameAndType 188 189), (0, u "newNode"), (0, u "(ILjava/lang/Object;Ljava/lang/Object;Ljava/util/HashMap$Node;)Ljava/util/HashMap$Node;"), (12, .fieldref 40 203), (0, .nameAndType 204 91), (0, u "modCount"), (0, .methodref 40 206), (0, .nameAndType 207 208), (0, u "afterNodeInsertion"), (0, u "(Z)V"), (33, u "Ljava/util/Set;"), (0, .class_ 244), (0, u "java/util/HashMap$KeySet"), (18, .class_ 264), (0, u "java/util/HashMap$Values"), (3, .class_ 269), (0, u "java/util/HashMap$EntrySet"), (17, u "(Ljava/lang/Object;Ljava/lang/Object;)Ljava/lang/Object;"), (58, .class_ 348), (1, u "java/util/HashMap$UnsafeHolder"), (26, .methodref 163 376), (0, .nameAndType 47 377), (0, u "(ILjava/lang/Object;Ljava/lang/Object;Ljava/util/HashMap$Node;)V"), (14, .class_ 393), (0, u "java/lang/Cloneable"), (0, .class_ 395), (0, u "java/io/Serializable"), (0, u "serialVersionUID"), (0, u "J"), (3, u "DEFAULT_INITIAL_CAPACITY"), (1, u "MAXIMUM_CAPACITY"), (0, u "DEFAULT_LOAD_FACTOR"), (0, u "TREEIFY_THRESHOLD"), (1, u "UNTREEIFY_THRESHOLD"), (1, u "MIN_TREEIFY_CAPACITY"), (52, u "isEmpty"), (6, u "containsKey"), (0, u "put"), (125, .class_ 597), (0, u "java/util/HashMap$EntrySpliterator"), (0, .class_ 599), (0, u "java/util/HashMap$ValueSpliterator"), (0, .class_ 601), (0, u "java/util/HashMap$KeySpliterator"), (0, .class_ 603), (0, u "java/util/HashMap$HashMapSpliterator"), (0, .class_ 605), (0, u "java/util/HashMap$EntryIterator"), (0, .class_ 607), (0, u "java/util/HashMap$ValueIterator"), (0, .class_ 609), (0, u "java/util/HashMap$KeyIterator"), (0, .class_ 611), (0, u "java/util/HashMap$HashIterator")] 17

def k18c0 : Code := { maxStack := 3, maxLocals := 2, code := jdk_69_method_1_code, exceptionTable := #[], attributes := #[] }
def k18m0 : Method := { name := "hash", desc := "(Ljava/lang/Object;)I", sig := { parameters := [(.object "java/lang/Object")], returnType := some .int }, accessFlags := 24, code := some k18c0 }
def k18c1 : Code := { maxStack := 2, maxLocals := 1, code := jdk_69_method_7_code, exceptionTable := #[], attributes := #[] }
def k18m1 : Method := { name := "<init>", desc := "()V", sig := { parameters := [], returnType := none }, accessFlags := 1, code := some k18c1 }
def k18c2 : Code := { maxStack := 1, maxLocals := 1, code := jdk_69_method_10_code, exceptionTable := #[], attributes := #[] }
def k18m2 : Method := { name := "size", desc := "()I", sig := { parameters := [], returnType := some .int }, accessFlags := 1, code := some k18c2 }
def k18c3 : Code := { maxStack := 1, maxLocals := 1, code := jdk_69_method_11_code, exceptionTable := #[], attributes := #[] }
def k18m3 : Method := { name := "isEmpty", desc := "()Z", sig := { parameters := [], returnType := some .boolean }, accessFlags := 1, code := some k18c3 }
def k18c4 : Code := { maxStack := 4, maxLocals := 8, code := jdk_69_method_13_code, exceptionTable := #[], attributes := #[] }
def k18m4 : Method := { name := "getNode", desc := "(Ljava/lang/Object;)Ljava/util/HashMap$Node;", sig := { parameters := [(.object "java/lang/Object")], returnType := some (.object "java/util/HashMap$Node") }, accessFlags := 16, code := some k18c4 }
def k18c5 : Code := { maxStack := 2, maxLocals := 2, code := jdk_69_method_14_code, exceptionTable := #[], attributes := #[] }
def k18m5 : Method := { name := "containsKey", desc := "(Ljava/lang/Object;)Z", sig := { parameters := [(.object "java/lang/Object")], returnType := some .boolean }, accessFlags := 1, code := some k18c5 }
def k18c6 : Code := { maxStack := 6, maxLocals := 3, code := jdk_69_method_15_code, exceptionTable := #[], attributes := #[] }
def k18m6 : Method := { name := "put", desc := "(Ljava/lang/Object;Ljava/lang/Object;)Ljava/lang/Object;", sig := { parameters := [(.object "java/lang/Object"), (.object "java/lang/Object")], returnType := some (.object "java/lang/Object") }, accessFlags := 1, code := some k18c6 }
def k18c7 : Code := { maxStack := 7, maxLocals := 13, code := jdk_69_method_16_code, exceptionTable := #[], attributes := #[] }
def k18m7 : Method := { name := "putVal", desc := "(ILjava/lang/Object;Ljava/lang/Object;ZZ)Ljava/lang/Object;", sig := { parameters := [.int, (.object "java/lang/Object"), (.object "java/lang/Object"), .boolean, .boolean], returnType := some (.object "java/lang/Object") }, accessFlags := 16, code := some k18c7 }
def k18c8 : Code := { maxStack := 5, maxLocals := 14, code := jdk_69_method_17_code, exceptionTable := #[], attributes := #[] }
def k18m8 : Method := { name := "resize", desc := "()[Ljava/util/HashMap$Node;", sig := { parameters := [], returnType := some (.array (.object "java/util/HashMap$Node")) }, accessFlags := 16, code := some k18c8 }
def k18c9 : Code := { maxStack := 6, maxLocals := 5, code := jdk_69_method_46_code, exceptionTable := #[], attributes := #[] }
def k18m9 : Method := { name := "newNode", desc := "(ILjava/lang/Object;Ljava/lang/Object;Ljava/util/HashMap$Node;)Ljava/util/HashMap$Node;", sig := { parameters := [.int, (.object "java/lang/Object"), (.object "java/lang/Object"), (.object "java/util/HashMap$Node")], returnType := some (.object "java/util/HashMap$Node") }, accessFlags := 0, code := some k18c9 }
def k18c10 : Code := { maxStack := 0, maxLocals := 2, code := jdk_69_method_52_code, exceptionTable := #[], attributes := #[] }
def k18m10 : Method := { name := "afterNodeInsertion", desc := "(Z)V", sig := { parameters := [.boolean], returnType := none }, accessFlags := 0, code := some k18c10 }
/-- java/util/HashMap -/
def k18 : Class := { plain "java/util/HashMap" (some 17) with
  accessFlags := 33
  interfaces := #[16, 10, 11]
  cf := some (fileOf pool18 40 #[.nestMembers #[180, 596, 598, 600, 602, 604, 606, 608, 610, 346, 268, 263, 243, 163]] #[{ accessFlags := 24, nameIndex := 151, descriptorIndex := 33, attributes := #[] }, { accessFlags := 1, nameIndex := 47, descriptorIndex := 48, attributes := #[] }, { accessFlags := 1, nameIndex := 104, descriptorIndex := 6, attributes := #[] }, { accessFlags := 1, nameIndex := 462, descriptorIndex := 136, attributes := #[] }, { accessFlags := 16, nameIndex := 160, descriptorIndex := 161, attributes := #[] }, { accessFlags := 1, nameIndex := 469, descriptorIndex := 176, attributes := #[] }, { accessFlags := 1, nameIndex := 470, descriptorIndex := 287, attributes := #[] }, { accessFlags := 16, nameIndex := 154, descriptorIndex := 155, attributes := #[] }, { accessFlags := 16, nameIndex := 119, descriptorIndex := 120, attributes := #[] }, { accessFlags := 0, nameIndex := 188, descriptorIndex := 189, attributes := #[] }, { accessFlags := 0, nameIndex := 207, descriptorIndex := 208, attributes := #[] }] 33 44 #[101, 392, 394] #[{ accessFlags := 26, nameIndex := 396, descriptorIndex := 397, attributes := #[] }, { accessFlags := 24, nameIndex := 401, descriptorIndex := 91, attributes := #[] }, { accessFlags := 24, nameIndex := 403, descriptorIndex := 91, attributes := #[] }, { accessFlags := 24, nameIndex := 404, descriptorIndex := 84, attributes := #[] }, { accessFlags := 24, nameIndex := 405, descriptorIndex := 91, attributes := #[] }, { accessFlags := 24, nameIndex := 407, descriptorIndex := 91, attributes := #[] }, { accessFlags := 24, nameIndex := 409, descriptorIndex := 91, attributes := #[] }, { accessFlags := 128, nameIndex := 107, descriptorIndex := 108, attributes := #[] }, { accessFlags := 128, nameIndex := 123, descriptorIndex := 242, attributes := #[] }, { accessFlags := 128, nameIndex := 104, descriptorIndex := 91, attributes := #[] }, { accessFlags := 128, nameIndex := 204, descriptorIndex := 91, attributes := #[] }, { accessFlags := 0, nameIndex := 90, descriptorIndex := 91, attributes := #[] }, { accessFlags := 16, nameIndex := 83, descriptorIndex := 84, attributes := #[] }])
  fields := #[{ name := "serialVersionUID", type := .long, accessFlags := 26, slot := 0, constantValue := 0 }, { name := "DEFAULT_INITIAL_CAPACITY", type := .int, accessFlags := 24, slot := 1, constantValue := 0 }, { name := "MAXIMUM_CAPACITY", type := .int, accessFlags := 24, slot := 2, constantValue := 0 }, { name := "DEFAULT_LOAD_FACTOR", type := .float, accessFlags := 24, slot := 3, constantValue := 0 }, { name := "TREEIFY_THRESHOLD", type := .int, accessFlags := 24, slot := 4, constantValue := 0 }, { name := "UNTREEIFY_THRESHOLD", type := .int, accessFlags := 24, slot := 5, constantValue := 0 }, { name := "MIN_TREEIFY_CAPACITY", type := .int, accessFlags := 24, slot := 6, constantValue := 0 }, { name := "table", type := (.array (.object "java/util/HashMap$Node")), accessFlags := 128, slot := 2, constantValue := 0 }, { name := "entrySet", type := (.object "java/util/Set"), accessFlags := 128, slot := 3, constantValue := 0 }, { name := "size", type := .int, accessFlags := 128, slot := 4, constantValue := 0 }, { name := "modCount", type := .int, accessFlags := 128, slot := 5, constantValue := 0 }, { name := "threshold", type := .int, accessFlags := 0, slot := 6, constantValue := 0 }, { name := "loadFactor", type := .float, accessFlags := 16, slot := 7, constantValue := 0 }]
  methods := #[k18m0, k18m1, k18m2, k18m3, k18m4, k18m5, k18m6, k18m7, k18m8, k18m9, k18m10]
  instanceTypes := #[(.object "java/util/Set"), (.object "java/util/Collection"), (.array (.object "java/util/HashMap$Node")), (.object "java/util/Set"), .int, .int, .int, .float]
  staticTypes := #[.long, .int, .int, .float, .int, .int, .int]
  resolved := Array.replicate 629 none
  statics := none }

def pool19 : Array CpInfo := pool [(1, .class_ 2), (0, u "java/lang/Comparable"), (0, .class_ 4), (0, u "java/lang/Object")] 7

/-- java/lang/Comparable -/
def k19 : Class := { plain "java/lang/Comparable" (some 0) with
  accessFlags := 1537
  interfaces := #[]
  cf := some (fileOf pool19 1 #[] #[] 1537 3 #[] #[])
  fields := #[]
  methods := #[]
  instanceTypes := #[]
  staticTypes := #[]
  resolved := Array.replicate 12 none
  statics := none }

def pool20 : Array CpInfo := pool [(2, .class_ 4), (1, u "java/lang/CharSequence"), (42, .class_ 48), (0, u "java/lang/CharSequence$1CodePointIterator"), (10, .class_ 60), (0, u "java/lang/CharSequence$1CharIterator"), (5, .class_ 67), (0, u "java/lang/Object")] 63

/-- java/lang/CharSequence -/
def k20 : Class := { plain "java/lang/CharSequence" (some 0) with
  accessFlags := 1537
  interfaces := #[]
  cf := some (fileOf pool20 2 #[.nestMembers #[47, 59]] #[] 1537 66 #[] #[])
  fields := #[]
  methods := #[]
  instanceTypes := #[]
  staticTypes := #[]
  resolved := Array.replicate 131 none
  statics := none }

def pool21 : Array CpInfo := pool [(1, .class_ 2), (0, u "java/lang/constant/Constable"), (0, .class_ 4), (0, u "java/lang/Object")] 6

/-- java/lang/constant/Constable -/
def k21 : Class := { plain "java/lang/constant/Constable" (some 0) with
  accessFlags := 1537
  interfaces := #[]
  cf := some (fileOf pool21 1 #[] #[] 1537 3 #[] #[])
  fields := #[]
  methods := #[]
  instanceTypes := #[]
  staticTypes := #[]
  resolved := Array.replicate 11 none
  statics := none }

def pool22 : Array CpInfo := pool [(1, .class_ 2), (0, u "java/lang/constant/ConstantDesc"), (0, .class_ 4), (0, u "java/lang/Object")] 32

/-- java/lang/constant/ConstantDesc -/
def k22 : Class := { plain "java/lang/constant/ConstantDesc" (some 0) with
  accessFlags := 1537
  interfaces := #[]
  cf := some (fileOf pool22 1 #[] #[] 1537 3 #[] #[])
  fields := #[]
  methods := #[]
  instanceTypes := #[]
  staticTypes := #[]
  resolved := Array.replicate 37 none
  statics := none }

def pool23 : Array CpInfo := pool [(1, .methodref 2 3), (0, .class_ 4), (0, .nameAndType 5 6), (0, u "java/lang/Object"), (0, u "<init>"), (0, u "()V"), (2, .fieldref 10 11), (0, .class_ 12), (0, .nameAndType 13 14), (0, u "java/lang/String"), (0, u "value"), (0, u "[B"), (0, .fieldref 10 16), (0, .nameAndType 17 18), (0, u "coder"), (0, u "B"), (0, .fieldref 10 20), (0, .nameAndType 21 22), (0, u "hash"), (0, u "I"), (0, .fieldref 10 24), (0, .nameAndType 25 26), (0, u "hashIsZero"), (0, u "Z"), (11, .fieldref 10 39), (0, .nameAndType 40 26), (0, u "COMPACT_STRINGS"), (12, u "toBytes"), (53, .class_ 109), (1, u "java/lang/StringLatin1"), (32, u "()Z"), (66, .methodref 10 210), (0, .nameAndType 5 211), (0, u "([BB)V"), (122, u "()I"), (34, u "(C)Z"), (122, .methodref 10 493), (0, .nameAndType 494 142), (0, u "isLatin1"), (46, .methodref 107 542), (0, .nameAndType 543 544), (0, u "equals"), (0, u "([B[B)Z"), (28, u "(Ljava/lang/Object;)Z"), (1, .class_ 576), (0, u "java/lang/CharSequence"), (22, u "CASE_INSENSITIVE_ORDER"), (0, u "Ljava/util/Comparator;"), (27, .methodref 107 629), (0, .nameAndType 630 631), (0, u "hashCode"), (0, u "([B)I"), (150, u "valueOf"), (0, u "(C)Ljava/lang/String;"), (231, .methodref 107 1016), (0, .nameAndType 1017 369), (0, u "canEncode"), (0, .methodref 107 1019), (0, .nameAndType 53 1020), (0, u "(C)[B"), (80, u "serialPersistentFields"), (0, u "[Ljava/io/ObjectStreamField;"), (0, .class_ 1104), (0, u "java/lang/String$CaseInsensitiveComparator"), (1, .class_ 1107), (0, u "java/io/Serializable"), (0, .class_ 1109), (0, u "java/lang/Comparable"), (0, .class_ 1111), (0, u "java/lang/constant/Constable"), (0, .class_ 1113), (0, u "java/lang/constant/ConstantDesc"), (2, u "serialVersionUID"), (0, u "J"), (3, u "REPL"), (0, u "C"), (2, u "LATIN1"), (1, u "UTF16")] 323

def k23m0 : Method := { name := "<init>", desc := "()V", sig := { parameters := [], returnType := none }, accessFlags := 1, code := none }
def k23c1 : Code := { maxStack := 2, maxLocals := 3, code := jdk_42_method_66_code, exceptionTable := #[], attributes := #[] }
def k23m1 : Method := { name := "equals", desc := "(Ljava/lang/Object;)Z", sig := { parameters := [(.object "java/lang/Object")], returnType := some .boolean }, accessFlags := 1, code := some k23c1 }
def k23c2 : Code := { maxStack := 2, maxLocals := 2, code := jdk_42_method_78_code, exceptionTable := #[], attributes := #[] }
def k23m2 : Method := { name := "hashCode", desc := "()I", sig := { parameters := [], returnType := some .int }, accessFlags := 1, code := some k23c2 }
def k23c3 : Code := { maxStack := 4, maxLocals := 1, code := jdk_42_method_139_code, exceptionTable := #[], attributes := #[] }
def k23m3 : Method := { name := "valueOf", desc := "(C)Ljava/lang/String;", sig := { parameters := [.char], returnType := some (.object "java/lang/String") }, accessFlags := 9, code := some k23c3 }
def k23c4 : Code := { maxStack := 2, maxLocals := 3, code := jdk_42_method_151_code, exceptionTable := #[], attributes := #[] }
def k23m4 : Method := { name := "<init>", desc := "([BB)V", sig := { parameters := [(.array .byte), .byte], returnType := none }, accessFlags := 0, code := some k23c4 }
def k23c5 : Code := { maxStack := 1, maxLocals := 1, code := jdk_42_method_154_code, exceptionTable := #[], attributes := #[] }
def k23m5 : Method := { name := "isLatin1", desc := "()Z", sig := { parameters := [], returnType := some .boolean }, accessFlags := 0, code := some k23c5 }
/-- java/lang/String -/
def k23 : Class := { plain "java/lang/String" (some 0) with
  accessFlags := 49
  interfaces := #[11, 19, 20, 21, 22]
  cf := some (fileOf pool23 10 #[.nestMembers #[1103]] #[{ accessFlags := 1, nameIndex := 5, descriptorIndex := 6, attributes := #[] }, { accessFlags := 1, nameIndex := 543, descriptorIndex := 573, attributes := #[] }, { accessFlags := 1, nameIndex := 630, descriptorIndex := 334, attributes := #[] }, { accessFlags := 9, nameIndex := 782, descriptorIndex := 783, attributes := #[] }, { accessFlags := 0, nameIndex := 5, descriptorIndex := 211, attributes := #[] }, { accessFlags := 0, nameIndex := 494, descriptorIndex := 142, attributes := #[] }] 49 2 #[1106, 1108, 575, 1110, 1112] #[{ accessFlags := 18, nameIndex := 13, descriptorIndex := 14, attributes := #[] }, { accessFlags := 18, nameIndex := 17, descriptorIndex := 18, attributes := #[] }, { accessFlags := 2, nameIndex := 21, descriptorIndex := 22, attributes := #[] }, { accessFlags := 2, nameIndex := 25, descriptorIndex := 26, attributes := #[] }, { accessFlags := 26, nameIndex := 1116, descriptorIndex := 1117, attributes := #[] }, { accessFlags := 24, nameIndex := 40, descriptorIndex := 26, attributes := #[] }, { accessFlags := 26, nameIndex := 1101, descriptorIndex := 1102, attributes := #[] }, { accessFlags := 26, nameIndex := 1121, descriptorIndex := 1122, attributes := #[] }, { accessFlags := 25, nameIndex := 599, descriptorIndex := 600, attributes := #[] }, { accessFlags := 24, nameIndex := 1125, descriptorIndex := 18, attributes := #[] }, { accessFlags := 24, nameIndex := 1127, descriptorIndex := 18, attributes := #[] }])
  fields := #[{ name := "value", type := (.array .byte), accessFlags := 18, slot := 0, constantValue := 0 }, { name := "coder", type := .byte, accessFlags := 18, slot := 1, constantValue := 0 }, { name := "hash", type := .int, accessFlags := 2, slot := 2, constantValue := 0 }, { name := "hashIsZero", type := .boolean, accessFlags := 2, slot := 3, constantValue := 0 }, { name := "serialVersionUID", type := .long, accessFlags := 26, slot := 0, constantValue := 0 }, { name := "COMPACT_STRINGS", type := .boolean, accessFlags := 24, slot := 1, constantValue := 0 }, { name := "serialPersistentFields", type := (.array (.object "java/io/ObjectStreamField")), accessFlags := 26, slot := 2, constantValue := 0 }, { name := "REPL", type := .char, accessFlags := 26, slot := 3, constantValue := 0 }, { name := "CASE_INSENSITIVE_ORDER", type := (.object "java/util/Comparator"), accessFlags := 25, slot := 4, constantValue := 0 }, { name := "LATIN1", type := .byte, accessFlags := 24, slot := 5, constantValue := 0 }, { name := "UTF16", type := .byte, accessFlags := 24, slot := 6, constantValue := 0 }]
  methods := #[k23m0, k23m1, k23m2, k23m3, k23m4, k23m5]
  instanceTypes := #[(.array .byte), .byte, .int, .boolean]
  staticTypes := #[.long, .boolean, (.array (.object "java/io/ObjectStreamField")), .char, (.object "java/util/Comparator"), .byte, .byte]
  resolved := Array.replicate 1451 none
  statics := some 2 }

def pool24 : Array CpInfo := pool [(4, .class_ 6), (1, u "java/lang/Object"), (0, u "<init>"), (0, u "()V"), (5, .class_ 16), (1, u "java/lang/StringLatin1"), (40, u "([B)I"), (32, u "canEncode"), (14, u "(C)Z"), (15, u "$assertionsDisabled"), (0, u "Z"), (98, .class_ 223), (1, u "java/lang/StringLatin1$LinesSpliterator"), (57, u "equals"), (0, u "([B[B)Z"), (15, u "hashCode"), (81, u "toBytes"), (1, u "(C)[B"), (7, .class_ 391), (0, u "java/lang/StringLatin1$CharsSpliterator")] 3

def k24m0 : Method := { name := "<init>", desc := "()V", sig := { parameters := [], returnType := none }, accessFlags := 0, code := none }
def k24c1 : Code := { maxStack := 2, maxLocals := 1, code := jdk_43_method_3_code, exceptionTable := #[], attributes := #[] }
def k24m1 : Method := { name := "canEncode", desc := "(C)Z", sig := { parameters := [.char], returnType := some .boolean }, accessFlags := 9, code := some k24c1 }
def k24c2 : Code := { maxStack := 3, maxLocals := 3, code := jdk_43_method_13_code, exceptionTable := #[], attributes := #[] }
def k24m2 : Method := { name := "equals", desc := "([B[B)Z", sig := { parameters := [(.array .byte), (.array .byte)], returnType := some .boolean }, accessFlags := 9, code := some k24c2 }
def k24c3 : Code := { maxStack := 5, maxLocals := 1, code := jdk_43_method_21_code, exceptionTable := #[], attributes := #[] }
def k24m3 : Method := { name := "hashCode", desc := "([B)I", sig := { parameters := [(.array .byte)], returnType := some .int }, accessFlags := 9, code := some k24c3 }
def k24c4 : Code := { maxStack := 4, maxLocals := 1, code := jdk_43_method_46_code, exceptionTable := #[], attributes := #[] }
def k24m4 : Method := { name := "toBytes", desc := "(C)[B", sig := { parameters := [.char], returnType := some (.array .byte) }, accessFlags := 9, code := some k24c4 }
/-- java/lang/StringLatin1 -/
def k24 : Class := { plain "java/lang/StringLatin1" (some 0) with
  accessFlags := 48
  interfaces := #[]
  cf := some (fileOf pool24 14 #[.nestMembers #[390, 221]] #[{ accessFlags := 0, nameIndex := 7, descriptorIndex := 8, attributes := #[] }, { accessFlags := 9, nameIndex := 90, descriptorIndex := 105, attributes := #[] }, { accessFlags := 9, nameIndex := 281, descriptorIndex := 282, attributes := #[] }, { accessFlags := 9, nameIndex := 298, descriptorIndex := 57, attributes := #[] }, { accessFlags := 9, nameIndex := 380, descriptorIndex := 382, attributes := #[] }] 48 4 #[] #[{ accessFlags := 4120, nameIndex := 121, descriptorIndex := 122, attributes := #[] }])
  fields := #[{ name := "$assertionsDisabled", type := .boolean, accessFlags := 4120, slot := 0, constantValue := 0 }]
  methods := #[k24m0, k24m1, k24m2, k24m3, k24m4]
  instanceTypes := #[]
  staticTypes := #[.boolean]
  resolved := Array.replicate 395 none
  statics := none }

def pool25 : Array CpInfo := pool [(23, .class_ 25), (1, u "java/util/Map$Entry"), (6, .class_ 34), (1, u "java/util/Map"), (34, .class_ 70), (0, u "java/lang/Object")] 107

/-- java/util/Map$Entry -/
def k25 : Class := { plain "java/util/Map$Entry" (some 0) with
  accessFlags := 1537
  interfaces := #[]
  cf := some (fileOf pool25 23 #[.nestHost 32] #[] 1537 69 #[] #[])
  fields := #[]
  methods := #[]
  instanceTypes := #[]
  staticTypes := #[]
  resolved := Array.replicate 178 none
  statics := none }

def pool26 : Array CpInfo := pool [(1, .methodref 2 3), (0, .class_ 4), (0, .nameAndType 5 6), (0, u "java/lang/Object"), (0, u "<init>"), (0, u "()V"), (0, .fieldref 8 9), (0, .class_ 10), (0, .nameAndType 11 12), (0, u "java/util/HashMap$Node"), (0, u "hash"), (0, u "I"), (0, .fieldref 8 14), (0, .nameAndType 15 16), (0, u "key"), (0, u "Ljava/lang/Object;"), (0, .fieldref 8 18), (0, .nameAndType 19 16), (0, u "value"), (0, .fieldref 8 21), (0, .nameAndType 22 23), (0, u "next"), (0, u "Ljava/util/HashMap$Node;"), (22, .class_ 47), (0, u "java/util/Map$Entry"), (15, u "(ILjava/lang/Object;Ljava/lang/Object;Ljava/util/HashMap$Node;)V"), (24, .class_ 89), (0, u "java/util/HashMap")] 5

def k26c0 : Code := { maxStack := 2, maxLocals := 5, code := jdk_70_method_1_code, exceptionTable := #[], attributes := #[] }
def k26m0 : Method := { name := "<init>", desc := "(ILjava/lang/Object;Ljava/lang/Object;Ljava/util/HashMap$Node;)V", sig := { parameters := [.int, (.object "java/lang/Object"), (.object "java/lang/Object"), (.object "java/util/HashMap$Node")], returnType := none }, accessFlags := 0, code := some k26c0 }
/-- java/util/HashMap$Node -/
def k26 : Class := { plain "java/util/HashMap$Node" (some 0) with
  accessFlags := 32
  interfaces := #[25]
  cf := some (fileOf pool26 8 #[.nestHost 88] #[{ accessFlags := 0, nameIndex := 5, descriptorIndex := 63, attributes := #[] }] 32 2 #[46] #[{ accessFlags := 16, nameIndex := 11, descriptorIndex := 12, attributes := #[] }, { accessFlags := 16, nameIndex := 15, descriptorIndex := 16, attributes := #[] }, { accessFlags := 0, nameIndex := 19, descriptorIndex := 16, attributes := #[] }, { accessFlags := 0, nameIndex := 22, descriptorIndex := 23, attributes := #[] }])
  fields := #[{ name := "hash", type := .int, accessFlags := 16, slot := 0, constantValue := 0 }, { name := "key", type := (.object "java/lang/Object"), accessFlags := 16, slot := 1, constantValue := 0 }, { name := "value", type := (.object "java/lang/Object"), accessFlags := 0, slot := 2, constantValue := 0 }, { name := "next", type := (.object "java/util/HashMap$Node"), accessFlags := 0, slot := 3, constantValue := 0 }]
  methods := #[k26m0]
  instanceTypes := #[.int, (.object "java/lang/Object"), (.object "java/lang/Object"), (.object "java/util/HashMap$Node")]
  staticTypes := #[]
  resolved := Array.replicate 95 none
  statics := none }

def pool27 : Array CpInfo := pool [(1, .methodref 2 3), (0, .class_ 4), (0, .nameAndType 5 6), (0, u "java/lang/Object"), (0, u "<init>"), (0, u "()V"), (0, .interfaceMethodref 8 9), (0, .class_ 10), (0, .nameAndType 11 12), (0, u "java/util/Set"), (0, u "isEmpty"), (0, u "()Z"), (7, .interfaceMethodref 21 22), (0, .class_ 23), (0, .nameAndType 24 25), (0, u "java/util/List"), (0, u "size"), (0, u "()I"), (0, .interfaceMethodref 8 22), (0, .methodref 28 29), (0, .class_ 30), (0, .nameAndType 31 32), (0, u "java/lang/Math"), (0, u "min"), (0, u "(II)I"), (0, .interfaceMethodref 21 34), (0, .nameAndType 35 36), (0, u "get"), (0, u "(I)Ljava/lang/Object;"), (0, .interfaceMethodref 8 38), (0, .nameAndType 39 40), (0, u "contains"), (0, u "(Ljava/lang/Object;)Z"), (0, .methodref 42 43), (0, .class_ 44), (0, .nameAndType 45 46), (0, u "java/util/Arrays"), (0, u "copyOf"), (0, u "([II)[I"), (0, .fieldref 48 49), (0, .class_ 50), (0, .nameAndType 51 52), (0, u "com/example/prior3/prior3/eval/JudgedRanking"), (0, u "relevantRanks"), (0, u "[I"), (0, .fieldref 48 54), (0, .nameAndType 55 56), (0, u "relevantCount"), (0, u "I"), (0, .methodref 48 58), (0, .nameAndType 59 60), (0, u "retrievedWithin"), (0, u "(I)I"), (0, .double 4611686018427387904), (1, u "(Ljava/util/List;Ljava/util/Set;)V"), (10, u "(I)D"), (1, u "pres")] 2

def k27c0 : Code := { maxStack := 4, maxLocals := 6, code := prog_53_method_1_code, exceptionTable := #[], attributes := #[] }
def k27m0 : Method := { name := "<init>", desc := "(Ljava/util/List;Ljava/util/Set;)V", sig := { parameters := [(.object "java/util/List"), (.object "java/util/Set")], returnType := none }, accessFlags := 0, code := some k27c0 }
def k27c1 : Code := { maxStack := 8, maxLocals := 7, code := prog_53_method_7_code, exceptionTable := #[], attributes := #[] }
def k27m1 : Method := { name := "pres", desc := "(I)D", sig := { parameters := [.int], returnType := some .double }, accessFlags := 0, code := some k27c1 }
def k27c2 : Code := { maxStack := 2, maxLocals := 3, code := prog_53_method_8_code, exceptionTable := #[], attributes := #[] }
def k27m2 : Method := { name := "retrievedWithin", desc := "(I)I", sig := { parameters := [.int], returnType := some .int }, accessFlags := 2, code := some k27c2 }
/-- com/example/prior3/prior3/eval/JudgedRanking -/
def k27 : Class := { plain "com/example/prior3/prior3/eval/JudgedRanking" (some 0) with
  accessFlags := 32
  interfaces := #[]
  cf := some (fileOf pool27 48 #[] #[{ accessFlags := 0, nameIndex := 5, descriptorIndex := 63, attributes := #[] }, { accessFlags := 0, nameIndex := 76, descriptorIndex := 74, attributes := #[] }, { accessFlags := 2, nameIndex := 59, descriptorIndex := 60, attributes := #[] }] 32 2 #[] #[{ accessFlags := 18, nameIndex := 51, descriptorIndex := 52, attributes := #[] }, { accessFlags := 18, nameIndex := 55, descriptorIndex := 56, attributes := #[] }])
  fields := #[{ name := "relevantRanks", type := (.array .int), accessFlags := 18, slot := 0, constantValue := 0 }, { name := "relevantCount", type := .int, accessFlags := 18, slot := 1, constantValue := 0 }]
  methods := #[k27m0, k27m1, k27m2]
  instanceTypes := #[(.array .int), .int]
  staticTypes := #[]
  resolved := Array.replicate 79 none
  statics := none }

def pool28 : Array CpInfo := pool [(2, .class_ 4), (1, u "java/lang/Object"), (0, u "<init>"), (0, u "()V"), (7, .class_ 16), (1, u "java/util/Arrays"), (57, .class_ 76), (1, u "java/util/Arrays$NaturalOrder"), (32, u "()Ljava/lang/Object;"), (3, .class_ 115), (1, u "java/util/Arrays$LegacyMergeSort"), (1, u "Z"), (10, .nameAndType 129 109), (0, u "clone"), (20, .methodref 151 152), (0, .class_ 153), (0, .nameAndType 154 155), (0, u "java/lang/System"), (0, u "arraycopy"), (0, u "(Ljava/lang/Object;ILjava/lang/Object;II)V"), (146, u "copyOf"), (1, .methodref 305 306), (0, .class_ 307), (0, .nameAndType 308 309), (0, u "java/lang/Math"), (0, u "min"), (0, u "(II)I"), (6, .methodref 317 128), (0, .class_ 318), (0, u "[I"), (56, .class_ 376), (0, u "java/util/Arrays$ArrayList"), (68, u "$assertionsDisabled"), (269, u "MIN_ARRAY_SORT_GRAN"), (0, u "I"), (2, u "INSERTIONSORT_THRESHOLD"), (151, u "([II)[I"), (103, .class_ 976), (0, u "java/util/Arrays$ArrayItr")] 52

def k28m0 : Method := { name := "<init>", desc := "()V", sig := { parameters := [], returnType := none }, accessFlags := 2, code := none }
def k28c1 : Code := { maxStack := 6, maxLocals := 3, code := jdk_65_method_123_code, exceptionTable := #[], attributes := #[] }
def k28m1 : Method := { name := "copyOf", desc := "([II)[I", sig := { parameters := [(.array .int), .int], returnType := some (.array .int) }, accessFlags := 9, code := some k28c1 }
/-- java/util/Arrays -/
def k28 : Class := { plain "java/util/Arrays" (some 0) with
  accessFlags := 49
  interfaces := #[]
  cf := some (fileOf pool28 14 #[.nestMembers #[975, 375, 113, 74]] #[{ accessFlags := 2, nameIndex := 5, descriptorIndex := 6, attributes := #[] }, { accessFlags := 9, nameIndex := 302, descriptorIndex := 871, attributes := #[] }] 49 2 #[] #[{ accessFlags := 26, nameIndex := 715, descriptorIndex := 716, attributes := #[] }, { accessFlags := 26, nameIndex := 719, descriptorIndex := 716, attributes := #[] }, { accessFlags := 4120, nameIndex := 445, descriptorIndex := 117, attributes := #[] }])
  fields := #[{ name := "MIN_ARRAY_SORT_GRAN", type := .int, accessFlags := 26, slot := 0, constantValue := 0 }, { name := "INSERTIONSORT_THRESHOLD", type := .int, accessFlags := 26, slot := 1, constantValue := 0 }, { name := "$assertionsDisabled", type := .boolean, accessFlags := 4120, slot := 2, constantValue := 0 }]
  methods := #[k28m0, k28m1]
  instanceTypes := #[]
  staticTypes := #[.int, .int, .boolean]
  resolved := Array.replicate 1029 none
  statics := none }

def pool29 : Array CpInfo := pool [(2, .class_ 4), (1, u "java/lang/Object"), (0, u "<init>"), (0, u "()V"), (35, .class_ 44), (1, u "java/util/Objects"), (60, .methodref 106 107), (0, .class_ 108), (0, .nameAndType 109 110), (0, u "jdk/internal/util/Preconditions"), (0, u "checkIndex"), (0, u "(IILjava/util/function/BiFunction;)I"), (60, u "(II)I")] 12

def k29m0 : Method := { name := "<init>", desc := "()V", sig := { parameters := [], returnType := none }, accessFlags := 2, code := none }
def k29c1 : Code := { maxStack := 3, maxLocals := 2, code := jdk_31_method_17_code, exceptionTable := #[], attributes := #[] }
def k29m1 : Method := { name := "checkIndex", desc := "(II)I", sig := { parameters := [.int, .int], returnType := some .int }, accessFlags := 9, code := some k29c1 }
/-- java/util/Objects -/
def k29 : Class := { plain "java/util/Objects" (some 0) with
  accessFlags := 49
  interfaces := #[]
  cf := some (fileOf pool29 42 #[] #[{ accessFlags := 2, nameIndex := 5, descriptorIndex := 6, attributes := #[] }, { accessFlags := 9, nameIndex := 109, descriptorIndex := 171, attributes := #[] }] 49 2 #[] #[])
  fields := #[]
  methods := #[k29m0, k29m1]
  instanceTypes := #[]
  staticTypes := #[]
  resolved := Array.replicate 184 none
  statics := none }

def pool30 : Array CpInfo := pool [(2, .class_ 4), (1, u "java/lang/Object"), (0, u "<init>"), (0, u "()V"), (17, .class_ 26), (1, u "jdk/internal/util/Preconditions"), (6, u "checkIndex"), (21, .class_ 56), (0, u "jdk/internal/util/Preconditions$4"), (57, .class_ 115), (0, u "jdk/internal/util/Preconditions$1"), (7, u "SIOOBE_FORMATTER"), (0, u "Ljava/util/function/BiFunction;"), (0, .class_ 126), (0, u "jdk/internal/util/Preconditions$2"), (3, u "AIOOBE_FORMATTER"), (0, .class_ 132), (0, u "jdk/internal/util/Preconditions$3"), (3, u "IOOBE_FORMATTER"), (41, u "(IILjava/util/function/BiFunction;)I")] 15

def k30m0 : Method := { name := "<init>", desc := "()V", sig := { parameters := [], returnType := none }, accessFlags := 1, code := none }
def k30c1 : Code := { maxStack := 3, maxLocals := 3, code := jdk_41_method_11_code, exceptionTable := #[], attributes := #[] }
def k30m1 : Method := { name := "checkIndex", desc := "(IILjava/util/function/BiFunction;)I", sig := { parameters := [.int, .int, (.object "java/util/function/BiFunction")], returnType := some .int }, accessFlags := 9, code := some k30c1 }
/-- jdk/internal/util/Preconditions -/
def k30 : Class := { plain "jdk/internal/util/Preconditions" (some 0) with
  accessFlags := 33
  interfaces := #[]
  cf := some (fileOf pool30 24 #[.nestMembers #[55, 131, 125, 114]] #[{ accessFlags := 1, nameIndex := 5, descriptorIndex := 6, attributes := #[] }, { accessFlags := 9, nameIndex := 33, descriptorIndex := 178, attributes := #[] }] 33 2 #[] #[{ accessFlags := 25, nameIndex := 123, descriptorIndex := 124, attributes := #[] }, { accessFlags := 25, nameIndex := 130, descriptorIndex := 124, attributes := #[] }, { accessFlags := 25, nameIndex := 136, descriptorIndex := 124, attributes := #[] }])
  fields := #[{ name := "SIOOBE_FORMATTER", type := (.object "java/util/function/BiFunction"), accessFlags := 25, slot := 0, constantValue := 0 }, { name := "AIOOBE_FORMATTER", type := (.object "java/util/function/BiFunction"), accessFlags := 25, slot := 1, constantValue := 0 }, { name := "IOOBE_FORMATTER", type := (.object "java/util/function/BiFunction"), accessFlags := 25, slot := 2, constantValue := 0 }]
  methods := #[k30m0, k30m1]
  instanceTypes := #[]
  staticTypes := #[(.object "java/util/function/BiFunction"), (.object "java/util/function/BiFunction"), (.object "java/util/function/BiFunction")]
  resolved := Array.replicate 194 none
  statics := some 3 }

def pool31 : Array CpInfo := pool [(2, .class_ 4), (1, u "java/lang/Object"), (0, u "<init>"), (0, u "()V"), (1, .class_ 10), (1, u "java/lang/System"), (0, u "allowSecurityManager"), (0, u "I"), (16, u "cons"), (0, u "Ljava/io/Console;"), (77, .class_ 110), (1, u "java/lang/System$CallersHolder"), (43, u "initialErrStream"), (0, u "Ljava/io/PrintStream;"), (19, u "security"), (0, u "Ljava/lang/SecurityManager;"), (31, .class_ 209), (0, u "java/lang/System$1"), (7, u "props"), (0, u "Ljava/util/Properties;"), (2, u "lineSeparator"), (0, u "Ljava/lang/String;"), (96, .class_ 321), (1, u "java/lang/System$LoggerFinder"), (5, .class_ 328), (0, u "java/lang/System$Logger"), (67, u "err"), (2, u "out"), (91, u "notSupportedJnuEncoding"), (15, u "in"), (17, u "initialIn"), (0, u "Ljava/io/InputStream;"), (35, u "bootLayer"), (0, u "Ljava/lang/ModuleLayer;"), (99, .class_ 664), (0, u "java/lang/System$2"), (9, u "NEVER"), (2, u "MAYBE"), (49, u "arraycopy"), (0, u "(Ljava/lang/Object;ILjava/lang/Object;II)V"), (72, .class_ 802), (0, u "java/lang/System$Logger$Level")] 31

def k31m0 : Method := { name := "<init>", desc := "()V", sig := { parameters := [], returnType := none }, accessFlags := 2, code := none }
def k31m1 : Method := { name := "arraycopy", desc := "(Ljava/lang/Object;ILjava/lang/Object;II)V", sig := { parameters := [(.object "java/lang/Object"), .int, (.object "java/lang/Object"), .int, .int], returnType := none }, accessFlags := 265, code := none }
/-- java/lang/System -/
def k31 : Class := { plain "java/lang/System" (some 0) with
  accessFlags := 49
  interfaces := #[]
  cf := some (fileOf pool31 8 #[.nestMembers #[319, 327, 801, 108, 663, 208]] #[{ accessFlags := 2, nameIndex := 5, descriptorIndex := 6, attributes := #[] }, { accessFlags := 265, nameIndex := 727, descriptorIndex := 728, attributes := #[] }] 49 2 #[] #[{ accessFlags := 25, nameIndex := 507, descriptorIndex := 526, attributes := #[] }, { accessFlags := 25, nameIndex := 399, descriptorIndex := 155, attributes := #[] }, { accessFlags := 25, nameIndex := 396, descriptorIndex := 155, attributes := #[] }, { accessFlags := 10, nameIndex := 525, descriptorIndex := 526, attributes := #[] }, { accessFlags := 26, nameIndex := 674, descriptorIndex := 12, attributes := #[] }, { accessFlags := 26, nameIndex := 677, descriptorIndex := 12, attributes := #[] }, { accessFlags := 10, nameIndex := 11, descriptorIndex := 12, attributes := #[] }, { accessFlags := 74, nameIndex := 175, descriptorIndex := 176, attributes := #[] }, { accessFlags := 10, nameIndex := 491, descriptorIndex := 222, attributes := #[] }, { accessFlags := 74, nameIndex := 29, descriptorIndex := 30, attributes := #[] }, { accessFlags := 74, nameIndex := 154, descriptorIndex := 155, attributes := #[] }, { accessFlags := 10, nameIndex := 217, descriptorIndex := 218, attributes := #[] }, { accessFlags := 10, nameIndex := 221, descriptorIndex := 222, attributes := #[] }, { accessFlags := 8, nameIndex := 562, descriptorIndex := 563, attributes := #[] }])
  fields := #[{ name := "in", type := (.object "java/io/InputStream"), accessFlags := 25, slot := 0, constantValue := 0 }, { name := "out", type := (.object "java/io/PrintStream"), accessFlags := 25, slot := 1, constantValue := 0 }, { name := "err", type := (.object "java/io/PrintStream"), accessFlags := 25, slot := 2, constantValue := 0 }, { name := "initialIn", type := (.object "java/io/InputStream"), accessFlags := 10, slot := 3, constantValue := 0 }, { name := "NEVER", type := .int, accessFlags := 26, slot := 4, constantValue := 0 }, { name := "MAYBE", type := .int, accessFlags := 26, slot := 5, constantValue := 0 }, { name := "allowSecurityManager", type := .int, accessFlags := 10, slot := 6, constantValue := 0 }, { name := "security", type := (.object "java/lang/SecurityManager"), accessFlags := 74, slot := 7, constantValue := 0 }, { name := "notSupportedJnuEncoding", type := (.object "java/lang/String"), accessFlags := 10, slot := 8, constantValue := 0 }, { name := "cons", type := (.object "java/io/Console"), accessFlags := 74, slot := 9, constantValue := 0 }, { name := "initialErrStream", type := (.object "java/io/PrintStream"), accessFlags := 74, slot := 10, constantValue := 0 }, { name := "props", type := (.object "java/util/Properties"), accessFlags := 10, slot := 11, constantValue := 0 }, { name := "lineSeparator", type := (.object "java/lang/String"), accessFlags := 10, slot := 12, constantValue := 0 }, { name := "bootLayer", type := (.object "java/lang/ModuleLayer"), accessFlags := 8, slot := 13, constantValue := 0 }]
  methods := #[k31m0, k31m1]
  instanceTypes := #[]
  staticTypes := #[(.object "java/io/InputStream"), (.object "java/io/PrintStream"), (.object "java/io/PrintStream"), (.object "java/io/InputStream"), .int, .int, .int, (.object "java/lang/SecurityManager"), (.object "java/lang/String"), (.object "java/io/Console"), (.object "java/io/PrintStream"), (.object "java/util/Properties"), (.object "java/lang/String"), (.object "java/lang/ModuleLayer")]
  resolved := Array.replicate 834 none
  statics := none }

def pool32 : Array CpInfo := pool [(9, u "<init>"), (6, .class_ 18), (1, u "java/lang/Object"), (0, u "()V"), (1, .class_ 23), (1, u "jdk/internal/util/ArraysSupport"), (0, u "LOG2_ARRAY_LONG_INDEX_SCALE"), (0, u "I"), (2, u "U"), (0, u "Ljdk/internal/misc/Unsafe;"), (8, u "BIG_ENDIAN"), (0, u "Z"), (8, u "LOG2_BYTE_BIT_SIZE"), (4, u "LOG2_ARRAY_INT_INDEX_SCALE"), (54, u "JLA"), (0, u "Ljdk/internal/access/JavaLangAccess;"), (11, u "LOG2_ARRAY_BOOLEAN_INDEX_SCALE"), (9, u "LOG2_ARRAY_BYTE_INDEX_SCALE"), (5, u "LOG2_ARRAY_CHAR_INDEX_SCALE"), (5, u "LOG2_ARRAY_SHORT_INDEX_SCALE"), (18, u "LOG2_ARRAY_FLOAT_INDEX_SCALE"), (24, u "LOG2_ARRAY_DOUBLE_INDEX_SCALE"), (89, u "T_BOOLEAN"), (2, u "T_CHAR"), (1, u "T_FLOAT"), (1, u "T_DOUBLE"), (1, u "T_BYTE"), (1, u "T_SHORT"), (1, u "T_INT"), (1, u "T_LONG"), (1, u "SOFT_MAX_ARRAY_LENGTH")] 83

def k32m0 : Method := { name := "<init>", desc := "()V", sig := { parameters := [], returnType := none }, accessFlags := 2, code := none }
/-- jdk/internal/util/ArraysSupport -/
def k32 : Class := { plain "jdk/internal/util/ArraysSupport" (some 0) with
  accessFlags := 33
  interfaces := #[]
  cf := some (fileOf pool32 21 #[] #[{ accessFlags := 2, nameIndex := 9, descriptorIndex := 19, attributes := #[] }] 33 16 #[] #[{ accessFlags := 24, nameIndex := 28, descriptorIndex := 29, attributes := #[] }, { accessFlags := 26, nameIndex := 38, descriptorIndex := 39, attributes := #[] }, { accessFlags := 25, nameIndex := 121, descriptorIndex := 25, attributes := #[] }, { accessFlags := 25, nameIndex := 131, descriptorIndex := 25, attributes := #[] }, { accessFlags := 25, nameIndex := 137, descriptorIndex := 25, attributes := #[] }, { accessFlags := 25, nameIndex := 143, descriptorIndex := 25, attributes := #[] }, { accessFlags := 25, nameIndex := 53, descriptorIndex := 25, attributes := #[] }, { accessFlags := 25, nameIndex := 24, descriptorIndex := 25, attributes := #[] }, { accessFlags := 25, nameIndex := 162, descriptorIndex := 25, attributes := #[] }, { accessFlags := 25, nameIndex := 187, descriptorIndex := 25, attributes := #[] }, { accessFlags := 26, nameIndex := 48, descriptorIndex := 25, attributes := #[] }, { accessFlags := 25, nameIndex := 277, descriptorIndex := 25, attributes := #[] }, { accessFlags := 25, nameIndex := 280, descriptorIndex := 25, attributes := #[] }, { accessFlags := 25, nameIndex := 282, descriptorIndex := 25, attributes := #[] }, { accessFlags := 25, nameIndex := 284, descriptorIndex := 25, attributes := #[] }, { accessFlags := 25, nameIndex := 286, descriptorIndex := 25, attributes := #[] }, { accessFlags := 25, nameIndex := 288, descriptorIndex := 25, attributes := #[] }, { accessFlags := 25, nameIndex := 290, descriptorIndex := 25, attributes := #[] }, { accessFlags := 25, nameIndex := 292, descriptorIndex := 25, attributes := #[] }, { accessFlags := 26, nameIndex := 108, descriptorIndex := 109, attributes := #[] }, { accessFlags := 25, nameIndex := 294, descriptorIndex := 25, attributes := #[] }])
  fields := #[{ name := "U", type := (.object "jdk/internal/misc/Unsafe"), accessFlags := 24, slot := 0, constantValue := 0 }, { name := "BIG_ENDIAN", type := .boolean, accessFlags := 26, slot := 1, constantValue := 0 }, { name := "LOG2_ARRAY_BOOLEAN_INDEX_SCALE", type := .int, accessFlags := 25, slot := 2, constantValue := 0 }, { name := "LOG2_ARRAY_BYTE_INDEX_SCALE", type := .int, accessFlags := 25, slot := 3, constantValue := 0 }, { name := "LOG2_ARRAY_CHAR_INDEX_SCALE", type := .int, accessFlags := 25, slot := 4, constantValue := 0 }, { name := "LOG2_ARRAY_SHORT_INDEX_SCALE", type := .int, accessFlags := 25, slot := 5, constantValue := 0 }, { name := "LOG2_ARRAY_INT_INDEX_SCALE", type := .int, accessFlags := 25, slot := 6, constantValue := 0 }, { name := "LOG2_ARRAY_LONG_INDEX_SCALE", type := .int, accessFlags := 25, slot := 7, constantValue := 0 }, { name := "LOG2_ARRAY_FLOAT_INDEX_SCALE", type := .int, accessFlags := 25, slot := 8, constantValue := 0 }, { name := "LOG2_ARRAY_DOUBLE_INDEX_SCALE", type := .int, accessFlags := 25, slot := 9, constantValue := 0 }, { name := "LOG2_BYTE_BIT_SIZE", type := .int, accessFlags := 26, slot := 10, constantValue := 0 }, { name := "T_BOOLEAN", type := .int, accessFlags := 25, slot := 11, constantValue := 0 }, { name := "T_CHAR", type := .int, accessFlags := 25, slot := 12, constantValue := 0 }, { name := "T_FLOAT", type := .int, accessFlags := 25, slot := 13, constantValue := 0 }, { name := "T_DOUBLE", type := .int, accessFlags := 25, slot := 14, constantValue := 0 }, { name := "T_BYTE", type := .int, accessFlags := 25, slot := 15, constantValue := 0 }, { name := "T_SHORT", type := .int, accessFlags := 25, slot := 16, constantValue := 0 }, { name := "T_INT", type := .int, accessFlags := 25, slot := 17, constantValue := 0 }, { name := "T_LONG", type := .int, accessFlags := 25, slot := 18, constantValue := 0 }, { name := "JLA", type := (.object "jdk/internal/access/JavaLangAccess"), accessFlags := 26, slot := 19, constantValue := 0 }, { name := "SOFT_MAX_ARRAY_LENGTH", type := .int, accessFlags := 25, slot := 20, constantValue := 0 }]
  methods := #[k32m0]
  instanceTypes := #[]
  staticTypes := #[(.object "jdk/internal/misc/Unsafe"), .boolean, .int, .int, .int, .int, .int, .int, .int, .int, .int, .int, .int, .int, .int, .int, .int, .int, .int, (.object "jdk/internal/access/JavaLangAccess"), .int]
  resolved := Array.replicate 378 none
  statics := none }

/-- the primitive byte -/
def k33 : Class := { plain "byte" none with kind := .primitive 'B', accessFlags := 0x411 }
/-- [B -/
def k34 : Class := { plain "[B" (some 0) with kind := .array 33 .byte, interfaces := #[10, 11], accessFlags := 1041 }

/-- the primitive int -/
def k35 : Class := { plain "int" none with kind := .primitive 'I', accessFlags := 0x411 }
/-- [I -/
def k36 : Class := { plain "[I" (some 0) with kind := .array 35 .int, interfaces := #[10, 11], accessFlags := 1041 }

/-- [Ljava/lang/Object; -/
def k37 : Class := { plain "[Ljava/lang/Object;" (some 0) with kind := .array 0 (.object "java/lang/Object"), interfaces := #[10, 11], accessFlags := 1041 }

/-- [Ljava/util/HashMap$Node; -/
def k38 : Class := { plain "[Ljava/util/HashMap$Node;" (some 0) with kind := .array 26 (.object "java/util/HashMap$Node"), interfaces := #[10, 11], accessFlags := 1041 }

def heap : Heap := #[{ cls := 12, slots := #[.long 0, .int 0, .ref 4, .ref 5], vm := .statics 12 },
  { cls := 15, slots := #[.long 0, .ref 6], vm := .statics 15 },
  { cls := 23, slots := #[.long 0, .int 1, .null, .int 0, .null, .int 0, .int 0], vm := .statics 23 },
  { cls := 30, slots := #[.null, .null, .null], vm := .statics 30 },
  { cls := 37, slots := #[], vm := .none },
  { cls := 37, slots := #[], vm := .none },
  { cls := 0, slots := #[], vm := .none }]
def classes : Array Class := #[k0, k1, k2, k3, k4, k5, k6, k7, k8, k9, k10, k11, k12, k13, k14, k15, k16, k17, k18, k19, k20, k21, k22, k23, k24, k25, k26, k27, k28, k29, k30, k31, k32, k33, k34, k35, k36, k37, k38]
def interned : List (Array UInt16 × Addr) := []
def slotsUsed : Nat := 16
def theMethod : MethodId := ⟨1, 1⟩
def args0 : Array Value := #[.int 4, .int 5, .int 1, .int 3, .int 1]
def aboutOver (below : List Frame) : State where
  vm := { classes := classes, interned := interned.toArray }
  heap := heap
  slotsUsed := slotsUsed
  threads := #[{ frames := .invoking theMethod args0 :: below }]
def below0 : List Frame := [.native { method := ⟨0, 0⟩, args := #[] }]
def about1 : State := aboutOver below0
def p0 : Program := .bare "" "" ""
def e0 : Env := launch0.env 0 0 0
theorem w_frames : about1.frames = Frame.invoking theMethod args0 :: below0 := rfl
set_option maxRecDepth 65536 in
theorem w_args : argsFit about1.vm theMethod args0 = true := by decide +kernel
set_option maxRecDepth 65536 in
theorem w_heap : heapFits about1 = true := by decide +kernel
set_option maxRecDepth 65536 in
theorem w_runnable : about1.curStatus? = some .runnable := by decide +kernel
set_option maxRecDepth 65536 in
theorem w_alone : about1.alone = true := by decide +kernel
set_option maxRecDepth 65536 in
theorem w_named : about1.methodNamed? x = some theMethod := by decide +kernel
set_option maxRecDepth 65536 in
theorem w_hears : about1.hears theMethod below0 = true := by decide +kernel
set_option maxRecDepth 65536 in
theorem w_ripe : about1.ripe theMethod args0 below0 = true := by decide +kernel
theorem w_running : about1.status = .running := rfl
set_option maxRecDepth 65536 in
theorem w_room : about1.hasRoom e0.platform room_1 = true :=
  launch0.hasRoom_least _ room_1 (by decide +kernel) (by decide +kernel) (by decide +kernel) (by decide +kernel) (by decide +kernel) (by decide +kernel)
theorem allAtoms_all (ts : List Jvm.Cond) (a : Array Jvm.Value) (st : Jvm.State) : (allAtoms ts).before a st = ts.all (fun c => c.before a st) := by
  induction ts with
  | nil => rfl
  | cons c t ih =>
    show (Jvm.Cond.and c (allAtoms t)).before a st = _
    rw [Jvm.Cond.before_and, ih, List.all_cons]
def words1 : List Jvm.Cond := Jvm.Cond.code x code maxLocals ret :: tables_1
/-- a 'code' word, met by the world's own term for the bytes: nothing is compared byte by byte -/
theorem code_word {y : MethodName} {bytes : ByteArray} {mx : Nat} {rt : Option FieldType} {a : Array Value} {s : State} {m : MethodId} {meth : Method} {c : Code} (h1 : s.methodNamed? y = some m) (h2 : s.vm.method? m = some meth) (h3 : meth.code = some c) (h4 : c.code = bytes)
    (h5 : (c.maxLocals == mx && c.exceptionTable.isEmpty && decide (c.maxStack ≤ mostOperands) && decide (meth.sig.returnType = rt) && !meth.locks && decide (parseMethodDescriptor y.desc = some meth.sig)) = true) : (Jvm.Cond.code y bytes mx rt).before a s = true := by
  simp only [Bool.and_eq_true, beq_iff_eq, Bool.not_eq_true', decide_eq_true_eq] at h5
  obtain ⟨⟨⟨⟨⟨g1, g2⟩, g3⟩, g4⟩, g5⟩, g6⟩ := h5
  simp [Cond.before, Cond.holds, Cond.value, h1, h2, h3, h4, g1, g2, g3, g4, g5, g6]
def isCode : Jvm.Cond → Bool
  | .code _ _ _ _ => true
  | _ => false
theorem all_split {L : List Jvm.Cond} {P : Jvm.Cond → Bool} (h1 : L.all (fun c => isCode c || P c) = true) (h2 : ∀ c ∈ L.filter isCode, P c = true) : L.all P = true := by
  refine List.all_eq_true.mpr fun c hc => ?_
  have h := List.all_eq_true.mp h1 c hc
  rcases Bool.eq_false_or_eq_true (isCode c) with hi | hi
  · exact h2 c (List.mem_filter.mpr ⟨hc, hi⟩)
  · simpa [hi] using h
set_option maxRecDepth 65536 in
theorem w_c0 : (Jvm.Cond.code x code maxLocals ret).before args0 about1 = true := code_word (m := ⟨1, 1⟩) (meth := k1m1) (c := k1c1) (by decide +kernel) rfl rfl rfl (by decide +kernel)
set_option maxRecDepth 65536 in
theorem w_c1 : (Jvm.Cond.code ({ cls := "com/example/prior3/prior3/eval/JudgedRankingPresPinLaw", name := "one", desc := "(Z)I" } : Jvm.MethodName) method_3_code (1 : Nat) (Option.some Jvm.ClassFile.FieldType.int)).before args0 about1 = true := code_word (m := ⟨1, 2⟩) (meth := k1m2) (c := k1c2) (by decide +kernel) rfl rfl rfl (by decide +kernel)
set_option maxRecDepth 65536 in
theorem w_c2 : (Jvm.Cond.code ({ cls := "java/lang/Math", name := "max", desc := "(II)I" } : Jvm.MethodName) jdk_29_method_65_code (2 : Nat) (Option.some Jvm.ClassFile.FieldType.int)).before args0 about1 = true := code_word (m := ⟨2, 1⟩) (meth := k2m1) (c := k2c1) (by decide +kernel) rfl rfl rfl (by decide +kernel)
set_option maxRecDepth 65536 in
theorem w_c3 : (Jvm.Cond.code ({ cls := "java/util/ArrayList", name := "<init>", desc := "()V" } : Jvm.MethodName) jdk_38_method_2_code (1 : Nat) (Option.none : Option Jvm.ClassFile.FieldType)).before args0 about1 = true := code_word (m := ⟨12, 0⟩) (meth := k12m0) (c := k12c0) (by decide +kernel) rfl rfl rfl (by decide +kernel)
set_option maxRecDepth 65536 in
theorem w_c4 : (Jvm.Cond.code ({ cls := "java/util/AbstractList", name := "<init>", desc := "()V" } : Jvm.MethodName) jdk_39_method_1_code (1 : Nat) (Option.none : Option Jvm.ClassFile.FieldType)).before args0 about1 = true := code_word (m := ⟨8, 0⟩) (meth := k8m0) (c := k8c0) (by decide +kernel) rfl rfl rfl (by decide +kernel)
set_option maxRecDepth 65536 in
theorem w_c5 : (Jvm.Cond.code ({ cls := "java/util/AbstractCollection", name := "<init>", desc := "()V" } : Jvm.MethodName) jdk_22_method_1_code (1 : Nat) (Option.none : Option Jvm.ClassFile.FieldType)).before args0 about1 = true := code_word (m := ⟨5, 0⟩) (meth := k5m0) (c := k5c0) (by decide +kernel) rfl rfl rfl (by decide +kernel)
set_option maxRecDepth 65536 in
theorem w_c6 : (Jvm.Cond.code ({ cls := "java/lang/Object", name := "<init>", desc := "()V" } : Jvm.MethodName) object_method_1_code (1 : Nat) (Option.none : Option Jvm.ClassFile.FieldType)).before args0 about1 = true := code_word (m := ⟨0, 0⟩) (meth := k0m0) (c := k0c0) (by decide +kernel) rfl rfl rfl (by decide +kernel)
set_option maxRecDepth 65536 in
theorem w_c7 : (Jvm.Cond.code ({ cls := "java/util/HashSet", name := "<init>", desc := "()V" } : Jvm.MethodName) jdk_93_method_1_code (1 : Nat) (Option.none : Option Jvm.ClassFile.FieldType)).before args0 about1 = true := code_word (m := ⟨15, 0⟩) (meth := k15m0) (c := k15c0) (by decide +kernel) rfl rfl rfl (by decide +kernel)
set_option maxRecDepth 65536 in
theorem w_c8 : (Jvm.Cond.code ({ cls := "java/util/AbstractSet", name := "<init>", desc := "()V" } : Jvm.MethodName) jdk_91_method_1_code (1 : Nat) (Option.none : Option Jvm.ClassFile.FieldType)).before args0 about1 = true := code_word (m := ⟨14, 0⟩) (meth := k14m0) (c := k14c0) (by decide +kernel) rfl rfl rfl (by decide +kernel)
set_option maxRecDepth 65536 in
theorem w_c9 : (Jvm.Cond.code ({ cls := "java/util/HashMap", name := "<init>", desc := "()V" } : Jvm.MethodName) jdk_69_method_7_code (1 : Nat) (Option.none : Option Jvm.ClassFile.FieldType)).before args0 about1 = true := code_word (m := ⟨18, 1⟩) (meth := k18m1) (c := k18c1) (by decide +kernel) rfl rfl rfl (by decide +kernel)
set_option maxRecDepth 65536 in
theorem w_c10 : (Jvm.Cond.code ({ cls := "java/util/AbstractMap", name := "<init>", desc := "()V" } : Jvm.MethodName) jdk_71_method_1_code (1 : Nat) (Option.none : Option Jvm.ClassFile.FieldType)).before args0 about1 = true := code_word (m := ⟨17, 0⟩) (meth := k17m0) (c := k17c0) (by decide +kernel) rfl rfl rfl (by decide +kernel)
set_option maxRecDepth 65536 in
theorem w_c11 : (Jvm.Cond.code ({ cls := "java/lang/String", name := "valueOf", desc := "(C)Ljava/lang/String;" } : Jvm.MethodName) jdk_42_method_139_code (1 : Nat) (Option.some (Jvm.ClassFile.FieldType.object "java/lang/String"))).before args0 about1 = true := code_word (m := ⟨23, 3⟩) (meth := k23m3) (c := k23c3) (by decide +kernel) rfl rfl rfl (by decide +kernel)
set_option maxRecDepth 65536 in
theorem w_c12 : (Jvm.Cond.code ({ cls := "java/lang/StringLatin1", name := "canEncode", desc := "(C)Z" } : Jvm.MethodName) jdk_43_method_3_code (1 : Nat) (Option.some Jvm.ClassFile.FieldType.boolean)).before args0 about1 = true := code_word (m := ⟨24, 1⟩) (meth := k24m1) (c := k24c1) (by decide +kernel) rfl rfl rfl (by decide +kernel)
set_option maxRecDepth 65536 in
theorem w_c13 : (Jvm.Cond.code ({ cls := "java/lang/StringLatin1", name := "toBytes", desc := "(C)[B" } : Jvm.MethodName) jdk_43_method_46_code (1 : Nat) (Option.some (Jvm.ClassFile.FieldType.array Jvm.ClassFile.FieldType.byte))).before args0 about1 = true := code_word (m := ⟨24, 4⟩) (meth := k24m4) (c := k24c4) (by decide +kernel) rfl rfl rfl (by decide +kernel)
set_option maxRecDepth 65536 in
theorem w_c14 : (Jvm.Cond.code ({ cls := "java/lang/String", name := "<init>", desc := "([BB)V" } : Jvm.MethodName) jdk_42_method_151_code (3 : Nat) (Option.none : Option Jvm.ClassFile.FieldType)).before args0 about1 = true := code_word (m := ⟨23, 4⟩) (meth := k23m4) (c := k23c4) (by decide +kernel) rfl rfl rfl (by decide +kernel)
set_option maxRecDepth 65536 in
theorem w_c15 : (Jvm.Cond.code ({ cls := "java/util/HashSet", name := "add", desc := "(Ljava/lang/Object;)Z" } : Jvm.MethodName) jdk_93_method_10_code (2 : Nat) (Option.some Jvm.ClassFile.FieldType.boolean)).before args0 about1 = true := code_word (m := ⟨15, 4⟩) (meth := k15m4) (c := k15c4) (by decide +kernel) rfl rfl rfl (by decide +kernel)
set_option maxRecDepth 65536 in
theorem w_c16 : (Jvm.Cond.code ({ cls := "java/util/HashMap", name := "put", desc := "(Ljava/lang/Object;Ljava/lang/Object;)Ljava/lang/Object;" } : Jvm.MethodName) jdk_69_method_15_code (3 : Nat) (Option.some (Jvm.ClassFile.FieldType.object "java/lang/Object"))).before args0 about1 = true := code_word (m := ⟨18, 6⟩) (meth := k18m6) (c := k18c6) (by decide +kernel) rfl rfl rfl (by decide +kernel)
set_option maxRecDepth 65536 in
theorem w_c17 : (Jvm.Cond.code ({ cls := "java/util/HashMap", name := "hash", desc := "(Ljava/lang/Object;)I" } : Jvm.MethodName) jdk_69_method_1_code (2 : Nat) (Option.some Jvm.ClassFile.FieldType.int)).before args0 about1 = true := code_word (m := ⟨18, 0⟩) (meth := k18m0) (c := k18c0) (by decide +kernel) rfl rfl rfl (by decide +kernel)
set_option maxRecDepth 65536 in
theorem w_c18 : (Jvm.Cond.code ({ cls := "java/lang/String", name := "hashCode", desc := "()I" } : Jvm.MethodName) jdk_42_method_78_code (2 : Nat) (Option.some Jvm.ClassFile.FieldType.int)).before args0 about1 = true := code_word (m := ⟨23, 2⟩) (meth := k23m2) (c := k23c2) (by decide +kernel) rfl rfl rfl (by decide +kernel)
set_option maxRecDepth 65536 in
theorem w_c19 : (Jvm.Cond.code ({ cls := "java/lang/String", name := "isLatin1", desc := "()Z" } : Jvm.MethodName) jdk_42_method_154_code (1 : Nat) (Option.some Jvm.ClassFile.FieldType.boolean)).before args0 about1 = true := code_word (m := ⟨23, 5⟩) (meth := k23m5) (c := k23c5) (by decide +kernel) rfl rfl rfl (by decide +kernel)
set_option maxRecDepth 65536 in
theorem w_c20 : (Jvm.Cond.code ({ cls := "java/lang/StringLatin1", name := "hashCode", desc := "([B)I" } : Jvm.MethodName) jdk_43_method_21_code (1 : Nat) (Option.some Jvm.ClassFile.FieldType.int)).before args0 about1 = true := code_word (m := ⟨24, 3⟩) (meth := k24m3) (c := k24c3) (by decide +kernel) rfl rfl rfl (by decide +kernel)
set_option maxRecDepth 65536 in
theorem w_c21 : (Jvm.Cond.code ({ cls := "java/util/HashMap", name := "putVal", desc := "(ILjava/lang/Object;Ljava/lang/Object;ZZ)Ljava/lang/Object;" } : Jvm.MethodName) jdk_69_method_16_code (13 : Nat) (Option.some (Jvm.ClassFile.FieldType.object "java/lang/Object"))).before args0 about1 = true := code_word (m := ⟨18, 7⟩) (meth := k18m7) (c := k18c7) (by decide +kernel) rfl rfl rfl (by decide +kernel)
set_option maxRecDepth 65536 in
theorem w_c22 : (Jvm.Cond.code ({ cls := "java/util/HashMap", name := "resize", desc := "()[Ljava/util/HashMap$Node;" } : Jvm.MethodName) jdk_69_method_17_code (14 : Nat) (Option.some (Jvm.ClassFile.FieldType.array (Jvm.ClassFile.FieldType.object "java/util/HashMap$Node")))).before args0 about1 = true := code_word (m := ⟨18, 8⟩) (meth := k18m8) (c := k18c8) (by decide +kernel) rfl rfl rfl (by decide +kernel)
set_option maxRecDepth 65536 in
theorem w_c23 : (Jvm.Cond.code ({ cls := "java/util/HashMap", name := "newNode", desc := "(ILjava/lang/Object;Ljava/lang/Object;Ljava/util/HashMap$Node;)Ljava/util/HashMap$Node;" } : Jvm.MethodName) jdk_69_method_46_code (5 : Nat) (Option.some (Jvm.ClassFile.FieldType.object "java/util/HashMap$Node"))).before args0 about1 = true := code_word (m := ⟨18, 9⟩) (meth := k18m9) (c := k18c9) (by decide +kernel) rfl rfl rfl (by decide +kernel)
set_option maxRecDepth 65536 in
theorem w_c24 : (Jvm.Cond.code ({ cls := "java/util/HashMap$Node", name := "<init>", desc := "(ILjava/lang/Object;Ljava/lang/Object;Ljava/util/HashMap$Node;)V" } : Jvm.MethodName) jdk_70_method_1_code (5 : Nat) (Option.none : Option Jvm.ClassFile.FieldType)).before args0 about1 = true := code_word (m := ⟨26, 0⟩) (meth := k26m0) (c := k26c0) (by decide +kernel) rfl rfl rfl (by decide +kernel)
set_option maxRecDepth 65536 in
theorem w_c25 : (Jvm.Cond.code ({ cls := "java/util/HashMap", name := "afterNodeInsertion", desc := "(Z)V" } : Jvm.MethodName) jdk_69_method_52_code (2 : Nat) (Option.none : Option Jvm.ClassFile.FieldType)).before args0 about1 = true := code_word (m := ⟨18, 10⟩) (meth := k18m10) (c := k18c10) (by decide +kernel) rfl rfl rfl (by decide +kernel)
set_option maxRecDepth 65536 in
theorem w_c26 : (Jvm.Cond.code ({ cls := "com/example/prior3/prior3/eval/JudgedRanking", name := "<init>", desc := "(Ljava/util/List;Ljava/util/Set;)V" } : Jvm.MethodName) prog_53_method_1_code (6 : Nat) (Option.none : Option Jvm.ClassFile.FieldType)).before args0 about1 = true := code_word (m := ⟨27, 0⟩) (meth := k27m0) (c := k27c0) (by decide +kernel) rfl rfl rfl (by decide +kernel)
set_option maxRecDepth 65536 in
theorem w_c27 : (Jvm.Cond.code ({ cls := "java/util/HashSet", name := "isEmpty", desc := "()Z" } : Jvm.MethodName) jdk_93_method_8_code (1 : Nat) (Option.some Jvm.ClassFile.FieldType.boolean)).before args0 about1 = true := code_word (m := ⟨15, 2⟩) (meth := k15m2) (c := k15c2) (by decide +kernel) rfl rfl rfl (by decide +kernel)
set_option maxRecDepth 65536 in
theorem w_c28 : (Jvm.Cond.code ({ cls := "java/util/HashMap", name := "isEmpty", desc := "()Z" } : Jvm.MethodName) jdk_69_method_11_code (1 : Nat) (Option.some Jvm.ClassFile.FieldType.boolean)).before args0 about1 = true := code_word (m := ⟨18, 3⟩) (meth := k18m3) (c := k18c3) (by decide +kernel) rfl rfl rfl (by decide +kernel)
set_option maxRecDepth 65536 in
theorem w_c29 : (Jvm.Cond.code ({ cls := "java/util/ArrayList", name := "size", desc := "()I" } : Jvm.MethodName) jdk_38_method_8_code (1 : Nat) (Option.some Jvm.ClassFile.FieldType.int)).before args0 about1 = true := code_word (m := ⟨12, 3⟩) (meth := k12m3) (c := k12c3) (by decide +kernel) rfl rfl rfl (by decide +kernel)
set_option maxRecDepth 65536 in
theorem w_c30 : (Jvm.Cond.code ({ cls := "java/util/HashSet", name := "size", desc := "()I" } : Jvm.MethodName) jdk_93_method_7_code (1 : Nat) (Option.some Jvm.ClassFile.FieldType.int)).before args0 about1 = true := code_word (m := ⟨15, 1⟩) (meth := k15m1) (c := k15c1) (by decide +kernel) rfl rfl rfl (by decide +kernel)
set_option maxRecDepth 65536 in
theorem w_c31 : (Jvm.Cond.code ({ cls := "java/util/HashMap", name := "size", desc := "()I" } : Jvm.MethodName) jdk_69_method_10_code (1 : Nat) (Option.some Jvm.ClassFile.FieldType.int)).before args0 about1 = true := code_word (m := ⟨18, 2⟩) (meth := k18m2) (c := k18c2) (by decide +kernel) rfl rfl rfl (by decide +kernel)
set_option maxRecDepth 65536 in
theorem w_c32 : (Jvm.Cond.code ({ cls := "java/lang/Math", name := "min", desc := "(II)I" } : Jvm.MethodName) jdk_29_method_69_code (2 : Nat) (Option.some Jvm.ClassFile.FieldType.int)).before args0 about1 = true := code_word (m := ⟨2, 2⟩) (meth := k2m2) (c := k2c2) (by decide +kernel) rfl rfl rfl (by decide +kernel)
set_option maxRecDepth 65536 in
theorem w_c33 : (Jvm.Cond.code ({ cls := "java/util/Arrays", name := "copyOf", desc := "([II)[I" } : Jvm.MethodName) jdk_65_method_123_code (3 : Nat) (Option.some (Jvm.ClassFile.FieldType.array Jvm.ClassFile.FieldType.int))).before args0 about1 = true := code_word (m := ⟨28, 1⟩) (meth := k28m1) (c := k28c1) (by decide +kernel) rfl rfl rfl (by decide +kernel)
set_option maxRecDepth 65536 in
theorem w_c34 : (Jvm.Cond.code ({ cls := "com/example/prior3/prior3/eval/JudgedRanking", name := "pres", desc := "(I)D" } : Jvm.MethodName) prog_53_method_7_code (7 : Nat) (Option.some Jvm.ClassFile.FieldType.double)).before args0 about1 = true := code_word (m := ⟨27, 1⟩) (meth := k27m1) (c := k27c1) (by decide +kernel) rfl rfl rfl (by decide +kernel)
set_option maxRecDepth 65536 in
theorem w_c35 : (Jvm.Cond.code ({ cls := "com/example/prior3/prior3/eval/JudgedRanking", name := "retrievedWithin", desc := "(I)I" } : Jvm.MethodName) prog_53_method_8_code (3 : Nat) (Option.some Jvm.ClassFile.FieldType.int)).before args0 about1 = true := code_word (m := ⟨27, 2⟩) (meth := k27m2) (c := k27c2) (by decide +kernel) rfl rfl rfl (by decide +kernel)
set_option maxRecDepth 65536 in
theorem w_c36 : (Jvm.Cond.code ({ cls := "com/example/prior3/prior3/eval/JudgedRankingPresPinLaw", name := "hit", desc := "(ZII)I" } : Jvm.MethodName) method_4_code (3 : Nat) (Option.some Jvm.ClassFile.FieldType.int)).before args0 about1 = true := code_word (m := ⟨1, 3⟩) (meth := k1m3) (c := k1c3) (by decide +kernel) rfl rfl rfl (by decide +kernel)
set_option maxRecDepth 65536 in
theorem w_c37 : (Jvm.Cond.code ({ cls := "com/example/prior3/prior3/eval/JudgedRankingPresPinLaw", name := "rankIf", desc := "(ZII)J" } : Jvm.MethodName) method_5_code (3 : Nat) (Option.some Jvm.ClassFile.FieldType.long)).before args0 about1 = true := code_word (m := ⟨1, 4⟩) (meth := k1m4) (c := k1c4) (by decide +kernel) rfl rfl rfl (by decide +kernel)
set_option maxRecDepth 65536 in
theorem w_c38 : (Jvm.Cond.code ({ cls := "java/util/ArrayList", name := "add", desc := "(Ljava/lang/Object;)Z" } : Jvm.MethodName) jdk_38_method_25_code (2 : Nat) (Option.some Jvm.ClassFile.FieldType.boolean)).before args0 about1 = true := code_word (m := ⟨12, 7⟩) (meth := k12m7) (c := k12c7) (by decide +kernel) rfl rfl rfl (by decide +kernel)
set_option maxRecDepth 65536 in
theorem w_c39 : (Jvm.Cond.code ({ cls := "java/util/ArrayList", name := "add", desc := "(Ljava/lang/Object;[Ljava/lang/Object;I)V" } : Jvm.MethodName) jdk_38_method_24_code (4 : Nat) (Option.none : Option Jvm.ClassFile.FieldType)).before args0 about1 = true := code_word (m := ⟨12, 6⟩) (meth := k12m6) (c := k12c6) (by decide +kernel) rfl rfl rfl (by decide +kernel)
set_option maxRecDepth 65536 in
theorem w_c40 : (Jvm.Cond.code ({ cls := "java/util/ArrayList", name := "grow", desc := "()[Ljava/lang/Object;" } : Jvm.MethodName) jdk_38_method_7_code (1 : Nat) (Option.some (Jvm.ClassFile.FieldType.array (Jvm.ClassFile.FieldType.object "java/lang/Object")))).before args0 about1 = true := code_word (m := ⟨12, 2⟩) (meth := k12m2) (c := k12c2) (by decide +kernel) rfl rfl rfl (by decide +kernel)
set_option maxRecDepth 65536 in
theorem w_c41 : (Jvm.Cond.code ({ cls := "java/util/ArrayList", name := "grow", desc := "(I)[Ljava/lang/Object;" } : Jvm.MethodName) jdk_38_method_6_code (4 : Nat) (Option.some (Jvm.ClassFile.FieldType.array (Jvm.ClassFile.FieldType.object "java/lang/Object")))).before args0 about1 = true := code_word (m := ⟨12, 1⟩) (meth := k12m1) (c := k12c1) (by decide +kernel) rfl rfl rfl (by decide +kernel)
set_option maxRecDepth 65536 in
theorem w_c42 : (Jvm.Cond.code ({ cls := "java/util/ArrayList", name := "get", desc := "(I)Ljava/lang/Object;" } : Jvm.MethodName) jdk_38_method_20_code (2 : Nat) (Option.some (Jvm.ClassFile.FieldType.object "java/lang/Object"))).before args0 about1 = true := code_word (m := ⟨12, 5⟩) (meth := k12m5) (c := k12c5) (by decide +kernel) rfl rfl rfl (by decide +kernel)
set_option maxRecDepth 65536 in
theorem w_c43 : (Jvm.Cond.code ({ cls := "java/util/Objects", name := "checkIndex", desc := "(II)I" } : Jvm.MethodName) jdk_31_method_17_code (2 : Nat) (Option.some Jvm.ClassFile.FieldType.int)).before args0 about1 = true := code_word (m := ⟨29, 1⟩) (meth := k29m1) (c := k29c1) (by decide +kernel) rfl rfl rfl (by decide +kernel)
set_option maxRecDepth 65536 in
theorem w_c44 : (Jvm.Cond.code ({ cls := "jdk/internal/util/Preconditions", name := "checkIndex", desc := "(IILjava/util/function/BiFunction;)I" } : Jvm.MethodName) jdk_41_method_11_code (3 : Nat) (Option.some Jvm.ClassFile.FieldType.int)).before args0 about1 = true := code_word (m := ⟨30, 1⟩) (meth := k30m1) (c := k30c1) (by decide +kernel) rfl rfl rfl (by decide +kernel)
set_option maxRecDepth 65536 in
theorem w_c45 : (Jvm.Cond.code ({ cls := "java/util/ArrayList", name := "elementData", desc := "(I)Ljava/lang/Object;" } : Jvm.MethodName) jdk_38_method_18_code (2 : Nat) (Option.some (Jvm.ClassFile.FieldType.object "java/lang/Object"))).before args0 about1 = true := code_word (m := ⟨12, 4⟩) (meth := k12m4) (c := k12c4) (by decide +kernel) rfl rfl rfl (by decide +kernel)
set_option maxRecDepth 65536 in
theorem w_c46 : (Jvm.Cond.code ({ cls := "java/util/HashSet", name := "contains", desc := "(Ljava/lang/Object;)Z" } : Jvm.MethodName) jdk_93_method_9_code (2 : Nat) (Option.some Jvm.ClassFile.FieldType.boolean)).before args0 about1 = true := code_word (m := ⟨15, 3⟩) (meth := k15m3) (c := k15c3) (by decide +kernel) rfl rfl rfl (by decide +kernel)
set_option maxRecDepth 65536 in
theorem w_c47 : (Jvm.Cond.code ({ cls := "java/util/HashMap", name := "containsKey", desc := "(Ljava/lang/Object;)Z" } : Jvm.MethodName) jdk_69_method_14_code (2 : Nat) (Option.some Jvm.ClassFile.FieldType.boolean)).before args0 about1 = true := code_word (m := ⟨18, 5⟩) (meth := k18m5) (c := k18c5) (by decide +kernel) rfl rfl rfl (by decide +kernel)
set_option maxRecDepth 65536 in
theorem w_c48 : (Jvm.Cond.code ({ cls := "java/util/HashMap", name := "getNode", desc := "(Ljava/lang/Object;)Ljava/util/HashMap$Node;" } : Jvm.MethodName) jdk_69_method_13_code (8 : Nat) (Option.some (Jvm.ClassFile.FieldType.object "java/util/HashMap$Node"))).before args0 about1 = true := code_word (m := ⟨18, 4⟩) (meth := k18m4) (c := k18c4) (by decide +kernel) rfl rfl rfl (by decide +kernel)
set_option maxRecDepth 65536 in
theorem w_c49 : (Jvm.Cond.code ({ cls := "java/lang/String", name := "equals", desc := "(Ljava/lang/Object;)Z" } : Jvm.MethodName) jdk_42_method_66_code (3 : Nat) (Option.some Jvm.ClassFile.FieldType.boolean)).before args0 about1 = true := code_word (m := ⟨23, 1⟩) (meth := k23m1) (c := k23c1) (by decide +kernel) rfl rfl rfl (by decide +kernel)
set_option maxRecDepth 65536 in
theorem w_c50 : (Jvm.Cond.code ({ cls := "java/lang/StringLatin1", name := "equals", desc := "([B[B)Z" } : Jvm.MethodName) jdk_43_method_13_code (3 : Nat) (Option.some Jvm.ClassFile.FieldType.boolean)).before args0 about1 = true := code_word (m := ⟨24, 2⟩) (meth := k24m2) (c := k24c2) (by decide +kernel) rfl rfl rfl (by decide +kernel)
def codes1 : List Jvm.Cond := [Jvm.Cond.code x code maxLocals ret, Jvm.Cond.code ({ cls := "com/example/prior3/prior3/eval/JudgedRankingPresPinLaw", name := "one", desc := "(Z)I" } : Jvm.MethodName) method_3_code (1 : Nat) (Option.some Jvm.ClassFile.FieldType.int), Jvm.Cond.code ({ cls := "java/lang/Math", name := "max", desc := "(II)I" } : Jvm.MethodName) jdk_29_method_65_code (2 : Nat) (Option.some Jvm.ClassFile.FieldType.int), Jvm.Cond.code ({ cls := "java/util/ArrayList", name := "<init>", desc := "()V" } : Jvm.MethodName) jdk_38_method_2_code (1 : Nat) (Option.none : Option Jvm.ClassFile.FieldType), Jvm.Cond.code ({ cls := "java/util/AbstractList", name := "<init>", desc := "()V" } : Jvm.MethodName) jdk_39_method_1_code (1 : Nat) (Option.none : Option Jvm.ClassFile.FieldType), Jvm.Cond.code ({ cls := "java/util/AbstractCollection", name := "<init>", desc := "()V" } : Jvm.MethodName) jdk_22_method_1_code (1 : Nat) (Option.none : Option Jvm.ClassFile.FieldType), Jvm.Cond.code ({ cls := "java/lang/Object", name := "<init>", desc := "()V" } : Jvm.MethodName) object_method_1_code (1 : Nat) (Option.none : Option Jvm.ClassFile.FieldType), Jvm.Cond.code ({ cls := "java/util/HashSet", name := "<init>", desc := "()V" } : Jvm.MethodName) jdk_93_method_1_code (1 : Nat) (Option.none : Option Jvm.ClassFile.FieldType), Jvm.Cond.code ({ cls := "java/util/AbstractSet", name := "<init>", desc := "()V" } : Jvm.MethodName) jdk_91_method_1_code (1 : Nat) (Option.none : Option Jvm.ClassFile.FieldType), Jvm.Cond.code ({ cls := "java/util/HashMap", name := "<init>", desc := "()V" } : Jvm.MethodName) jdk_69_method_7_code (1 : Nat) (Option.none : Option Jvm.ClassFile.FieldType), Jvm.Cond.code ({ cls := "java/util/AbstractMap", name := "<init>", desc := "()V" } : Jvm.MethodName) jdk_71_method_1_code (1 : Nat) (Option.none : Option Jvm.ClassFile.FieldType), Jvm.Cond.code ({ cls := "java/lang/String", name := "valueOf", desc := "(C)Ljava/lang/String;" } : Jvm.MethodName) jdk_42_method_139_code (1 : Nat) (Option.some (Jvm.ClassFile.FieldType.object "java/lang/String")), Jvm.Cond.code ({ cls := "java/lang/StringLatin1", name := "canEncode", desc := "(C)Z" } : Jvm.MethodName) jdk_43_method_3_code (1 : Nat) (Option.some Jvm.ClassFile.FieldType.boolean), Jvm.Cond.code ({ cls := "java/lang/StringLatin1", name := "toBytes", desc := "(C)[B" } : Jvm.MethodName) jdk_43_method_46_code (1 : Nat) (Option.some (Jvm.ClassFile.FieldType.array Jvm.ClassFile.FieldType.byte)), Jvm.Cond.code ({ cls := "java/lang/String", name := "<init>", desc := "([BB)V" } : Jvm.MethodName) jdk_42_method_151_code (3 : Nat) (Option.none : Option Jvm.ClassFile.FieldType), Jvm.Cond.code ({ cls := "java/util/HashSet", name := "add", desc := "(Ljava/lang/Object;)Z" } : Jvm.MethodName) jdk_93_method_10_code (2 : Nat) (Option.some Jvm.ClassFile.FieldType.boolean), Jvm.Cond.code ({ cls := "java/util/HashMap", name := "put", desc := "(Ljava/lang/Object;Ljava/lang/Object;)Ljava/lang/Object;" } : Jvm.MethodName) jdk_69_method_15_code (3 : Nat) (Option.some (Jvm.ClassFile.FieldType.object "java/lang/Object")), Jvm.Cond.code ({ cls := "java/util/HashMap", name := "hash", desc := "(Ljava/lang/Object;)I" } : Jvm.MethodName) jdk_69_method_1_code (2 : Nat) (Option.some Jvm.ClassFile.FieldType.int), Jvm.Cond.code ({ cls := "java/lang/String", name := "hashCode", desc := "()I" } : Jvm.MethodName) jdk_42_method_78_code (2 : Nat) (Option.some Jvm.ClassFile.FieldType.int), Jvm.Cond.code ({ cls := "java/lang/String", name := "isLatin1", desc := "()Z" } : Jvm.MethodName) jdk_42_method_154_code (1 : Nat) (Option.some Jvm.ClassFile.FieldType.boolean), Jvm.Cond.code ({ cls := "java/lang/StringLatin1", name := "hashCode", desc := "([B)I" } : Jvm.MethodName) jdk_43_method_21_code (1 : Nat) (Option.some Jvm.ClassFile.FieldType.int), Jvm.Cond.code ({ cls := "java/util/HashMap", name := "putVal", desc := "(ILjava/lang/Object;Ljava/lang/Object;ZZ)Ljava/lang/Object;" } : Jvm.MethodName) jdk_69_method_16_code (13 : Nat) (Option.some (Jvm.ClassFile.FieldType.object "java/lang/Object")), Jvm.Cond.code ({ cls := "java/util/HashMap", name := "resize", desc := "()[Ljava/util/HashMap$Node;" } : Jvm.MethodName) jdk_69_method_17_code (14 : Nat) (Option.some (Jvm.ClassFile.FieldType.array (Jvm.ClassFile.FieldType.object "java/util/HashMap$Node"))), Jvm.Cond.code ({ cls := "java/util/HashMap", name := "newNode", desc := "(ILjava/lang/Object;Ljava/lang/Object;Ljava/util/HashMap$Node;)Ljava/util/HashMap$Node;" } : Jvm.MethodName) jdk_69_method_46_code (5 : Nat) (Option.some (Jvm.ClassFile.FieldType.object "java/util/HashMap$Node")), Jvm.Cond.code ({ cls := "java/util/HashMap$Node", name := "<init>", desc := "(ILjava/lang/Object;Ljava/lang/Object;Ljava/util/HashMap$Node;)V" } : Jvm.MethodName) jdk_70_method_1_code (5 : Nat) (Option.none : Option Jvm.ClassFile.FieldType), Jvm.Cond.code ({ cls := "java/util/HashMap", name := "afterNodeInsertion", desc := "(Z)V" } : Jvm.MethodName) jdk_69_method_52_code (2 : Nat) (Option.none : Option Jvm.ClassFile.FieldType), Jvm.Cond.code ({ cls := "com/example/prior3/prior3/eval/JudgedRanking", name := "<init>", desc := "(Ljava/util/List;Ljava/util/Set;)V" } : Jvm.MethodName) prog_53_method_1_code (6 : Nat) (Option.none : Option Jvm.ClassFile.FieldType), Jvm.Cond.code ({ cls := "java/util/HashSet", name := "isEmpty", desc := "()Z" } : Jvm.MethodName) jdk_93_method_8_code (1 : Nat) (Option.some Jvm.ClassFile.FieldType.boolean), Jvm.Cond.code ({ cls := "java/util/HashMap", name := "isEmpty", desc := "()Z" } : Jvm.MethodName) jdk_69_method_11_code (1 : Nat) (Option.some Jvm.ClassFile.FieldType.boolean), Jvm.Cond.code ({ cls := "java/util/ArrayList", name := "size", desc := "()I" } : Jvm.MethodName) jdk_38_method_8_code (1 : Nat) (Option.some Jvm.ClassFile.FieldType.int), Jvm.Cond.code ({ cls := "java/util/HashSet", name := "size", desc := "()I" } : Jvm.MethodName) jdk_93_method_7_code (1 : Nat) (Option.some Jvm.ClassFile.FieldType.int), Jvm.Cond.code ({ cls := "java/util/HashMap", name := "size", desc := "()I" } : Jvm.MethodName) jdk_69_method_10_code (1 : Nat) (Option.some Jvm.ClassFile.FieldType.int), Jvm.Cond.code ({ cls := "java/lang/Math", name := "min", desc := "(II)I" } : Jvm.MethodName) jdk_29_method_69_code (2 : Nat) (Option.some Jvm.ClassFile.FieldType.int), Jvm.Cond.code ({ cls := "java/util/Arrays", name := "copyOf", desc := "([II)[I" } : Jvm.MethodName) jdk_65_method_123_code (3 : Nat) (Option.some (Jvm.ClassFile.FieldType.array Jvm.ClassFile.FieldType.int)), Jvm.Cond.code ({ cls := "com/example/prior3/prior3/eval/JudgedRanking", name := "pres", desc := "(I)D" } : Jvm.MethodName) prog_53_method_7_code (7 : Nat) (Option.some Jvm.ClassFile.FieldType.double), Jvm.Cond.code ({ cls := "com/example/prior3/prior3/eval/JudgedRanking", name := "retrievedWithin", desc := "(I)I" } : Jvm.MethodName) prog_53_method_8_code (3 : Nat) (Option.some Jvm.ClassFile.FieldType.int), Jvm.Cond.code ({ cls := "com/example/prior3/prior3/eval/JudgedRankingPresPinLaw", name := "hit", desc := "(ZII)I" } : Jvm.MethodName) method_4_code (3 : Nat) (Option.some Jvm.ClassFile.FieldType.int), Jvm.Cond.code ({ cls := "com/example/prior3/prior3/eval/JudgedRankingPresPinLaw", name := "rankIf", desc := "(ZII)J" } : Jvm.MethodName) method_5_code (3 : Nat) (Option.some Jvm.ClassFile.FieldType.long), Jvm.Cond.code ({ cls := "java/util/ArrayList", name := "add", desc := "(Ljava/lang/Object;)Z" } : Jvm.MethodName) jdk_38_method_25_code (2 : Nat) (Option.some Jvm.ClassFile.FieldType.boolean), Jvm.Cond.code ({ cls := "java/util/ArrayList", name := "add", desc := "(Ljava/lang/Object;[Ljava/lang/Object;I)V" } : Jvm.MethodName) jdk_38_method_24_code (4 : Nat) (Option.none : Option Jvm.ClassFile.FieldType), Jvm.Cond.code ({ cls := "java/util/ArrayList", name := "grow", desc := "()[Ljava/lang/Object;" } : Jvm.MethodName) jdk_38_method_7_code (1 : Nat) (Option.some (Jvm.ClassFile.FieldType.array (Jvm.ClassFile.FieldType.object "java/lang/Object"))), Jvm.Cond.code ({ cls := "java/util/ArrayList", name := "grow", desc := "(I)[Ljava/lang/Object;" } : Jvm.MethodName) jdk_38_method_6_code (4 : Nat) (Option.some (Jvm.ClassFile.FieldType.array (Jvm.ClassFile.FieldType.object "java/lang/Object"))), Jvm.Cond.code ({ cls := "java/util/ArrayList", name := "get", desc := "(I)Ljava/lang/Object;" } : Jvm.MethodName) jdk_38_method_20_code (2 : Nat) (Option.some (Jvm.ClassFile.FieldType.object "java/lang/Object")), Jvm.Cond.code ({ cls := "java/util/Objects", name := "checkIndex", desc := "(II)I" } : Jvm.MethodName) jdk_31_method_17_code (2 : Nat) (Option.some Jvm.ClassFile.FieldType.int), Jvm.Cond.code ({ cls := "jdk/internal/util/Preconditions", name := "checkIndex", desc := "(IILjava/util/function/BiFunction;)I" } : Jvm.MethodName) jdk_41_method_11_code (3 : Nat) (Option.some Jvm.ClassFile.FieldType.int), Jvm.Cond.code ({ cls := "java/util/ArrayList", name := "elementData", desc := "(I)Ljava/lang/Object;" } : Jvm.MethodName) jdk_38_method_18_code (2 : Nat) (Option.some (Jvm.ClassFile.FieldType.object "java/lang/Object")), Jvm.Cond.code ({ cls := "java/util/HashSet", name := "contains", desc := "(Ljava/lang/Object;)Z" } : Jvm.MethodName) jdk_93_method_9_code (2 : Nat) (Option.some Jvm.ClassFile.FieldType.boolean), Jvm.Cond.code ({ cls := "java/util/HashMap", name := "containsKey", desc := "(Ljava/lang/Object;)Z" } : Jvm.MethodName) jdk_69_method_14_code (2 : Nat) (Option.some Jvm.ClassFile.FieldType.boolean), Jvm.Cond.code ({ cls := "java/util/HashMap", name := "getNode", desc := "(Ljava/lang/Object;)Ljava/util/HashMap$Node;" } : Jvm.MethodName) jdk_69_method_13_code (8 : Nat) (Option.some (Jvm.ClassFile.FieldType.object "java/util/HashMap$Node")), Jvm.Cond.code ({ cls := "java/lang/String", name := "equals", desc := "(Ljava/lang/Object;)Z" } : Jvm.MethodName) jdk_42_method_66_code (3 : Nat) (Option.some Jvm.ClassFile.FieldType.boolean), Jvm.Cond.code ({ cls := "java/lang/StringLatin1", name := "equals", desc := "([B[B)Z" } : Jvm.MethodName) jdk_43_method_13_code (3 : Nat) (Option.some Jvm.ClassFile.FieldType.boolean)]
set_option maxRecDepth 65536 in
theorem codes_eq : words1.filter isCode = codes1 := rfl
theorem w_codes : ∀ c ∈ words1.filter isCode, c.before args0 about1 = true := by
  rw [codes_eq]
  intro c hc
  simp only [codes1, List.mem_cons, List.not_mem_nil, or_false] at hc
  rcases hc with rfl | rfl | rfl | rfl | rfl | rfl | rfl | rfl | rfl | rfl | rfl | rfl | rfl | rfl | rfl | rfl | rfl | rfl | rfl | rfl | rfl | rfl | rfl | rfl | rfl | rfl | rfl | rfl | rfl | rfl | rfl | rfl | rfl | rfl | rfl | rfl | rfl | rfl | rfl | rfl | rfl | rfl | rfl | rfl | rfl | rfl | rfl | rfl | rfl | rfl | rfl
  · exact w_c0
  · exact w_c1
  · exact w_c2
  · exact w_c3
  · exact w_c4
  · exact w_c5
  · exact w_c6
  · exact w_c7
  · exact w_c8
  · exact w_c9
  · exact w_c10
  · exact w_c11
  · exact w_c12
  · exact w_c13
  · exact w_c14
  · exact w_c15
  · exact w_c16
  · exact w_c17
  · exact w_c18
  · exact w_c19
  · exact w_c20
  · exact w_c21
  · exact w_c22
  · exact w_c23
  · exact w_c24
  · exact w_c25
  · exact w_c26
  · exact w_c27
  · exact w_c28
  · exact w_c29
  · exact w_c30
  · exact w_c31
  · exact w_c32
  · exact w_c33
  · exact w_c34
  · exact w_c35
  · exact w_c36
  · exact w_c37
  · exact w_c38
  · exact w_c39
  · exact w_c40
  · exact w_c41
  · exact w_c42
  · exact w_c43
  · exact w_c44
  · exact w_c45
  · exact w_c46
  · exact w_c47
  · exact w_c48
  · exact w_c49
  · exact w_c50
set_option maxRecDepth 65536 in
theorem w_t1 : (words1.take 24).all (fun c => isCode c || c.before args0 about1) = true := by decide +kernel
set_option maxRecDepth 65536 in
theorem w_t2 : ((words1.drop 24).take 24).all (fun c => isCode c || c.before args0 about1) = true := by decide +kernel
set_option maxRecDepth 65536 in
theorem w_t3 : (((words1.drop 24).drop 24).take 24).all (fun c => isCode c || c.before args0 about1) = true := by decide +kernel
set_option maxRecDepth 65536 in
theorem w_t4 : ((((words1.drop 24).drop 24).drop 24).take 24).all (fun c => isCode c || c.before args0 about1) = true := by decide +kernel
set_option maxRecDepth 65536 in
theorem w_t5 : (((((words1.drop 24).drop 24).drop 24).drop 24).take 24).all (fun c => isCode c || c.before args0 about1) = true := by decide +kernel
set_option maxRecDepth 65536 in
theorem w_t6 : ((((((words1.drop 24).drop 24).drop 24).drop 24).drop 24).take 24).all (fun c => isCode c || c.before args0 about1) = true := by decide +kernel
set_option maxRecDepth 65536 in
theorem w_t7 : (((((((words1.drop 24).drop 24).drop 24).drop 24).drop 24).drop 24).take 24).all (fun c => isCode c || c.before args0 about1) = true := by decide +kernel
set_option maxRecDepth 65536 in
theorem w_t8 : ((((((((words1.drop 24).drop 24).drop 24).drop 24).drop 24).drop 24).drop 24).take 24).all (fun c => isCode c || c.before args0 about1) = true := by decide +kernel
set_option maxRecDepth 65536 in
theorem w_t9 : (((((((((words1.drop 24).drop 24).drop 24).drop 24).drop 24).drop 24).drop 24).drop 24).take 24).all (fun c => isCode c || c.before args0 about1) = true := by decide +kernel
set_option maxRecDepth 65536 in
theorem w_t10 : ((((((((((words1.drop 24).drop 24).drop 24).drop 24).drop 24).drop 24).drop 24).drop 24).drop 24).take 24).all (fun c => isCode c || c.before args0 about1) = true := by decide +kernel
set_option maxRecDepth 65536 in
theorem w_t11 : (((((((((((words1.drop 24).drop 24).drop 24).drop 24).drop 24).drop 24).drop 24).drop 24).drop 24).drop 24).take 24).all (fun c => isCode c || c.before args0 about1) = true := by decide +kernel
set_option maxRecDepth 65536 in
theorem w_t12 : ((((((((((((words1.drop 24).drop 24).drop 24).drop 24).drop 24).drop 24).drop 24).drop 24).drop 24).drop 24).drop 24).take 24).all (fun c => isCode c || c.before args0 about1) = true := by decide +kernel
set_option maxRecDepth 65536 in
theorem w_t13 : (((((((((((((words1.drop 24).drop 24).drop 24).drop 24).drop 24).drop 24).drop 24).drop 24).drop 24).drop 24).drop 24).drop 24).take 24).all (fun c => isCode c || c.before args0 about1) = true := by decide +kernel
set_option maxRecDepth 65536 in
theorem w_t14 : (((((((((((((words1.drop 24).drop 24).drop 24).drop 24).drop 24).drop 24).drop 24).drop 24).drop 24).drop 24).drop 24).drop 24).drop 24).all (fun c => isCode c || c.before args0 about1) = true := by decide +kernel
theorem w_tables : (allAtoms (Jvm.Cond.code x code maxLocals ret :: tables_1)).before args0 about1 = true := by
  rw [allAtoms_all]
  show words1.all (fun c => c.before args0 about1) = true
  refine all_split ?_ w_codes
  rw [← List.take_append_drop 24 words1, List.all_append, w_t1, ← List.take_append_drop 24 (words1.drop 24), List.all_append, w_t2, ← List.take_append_drop 24 ((words1.drop 24).drop 24), List.all_append, w_t3, ← List.take_append_drop 24 (((words1.drop 24).drop 24).drop 24), List.all_append, w_t4, ← List.take_append_drop 24 ((((words1.drop 24).drop 24).drop 24).drop 24), List.all_append, w_t5, ← List.take_append_drop 24 (((((words1.drop 24).drop 24).drop 24).drop 24).drop 24), List.all_append, w_t6, ← List.take_append_drop 24 ((((((words1.drop 24).drop 24).drop 24).drop 24).drop 24).drop 24), List.all_append, w_t7, ← List.take_append_drop 24 (((((((words1.drop 24).drop 24).drop 24).drop 24).drop 24).drop 24).drop 24), List.all_append, w_t8, ← List.take_append_drop 24 ((((((((words1.drop 24).drop 24).drop 24).drop 24).drop 24).drop 24).drop 24).drop 24), List.all_append, w_t9, ← List.take_append_drop 24 (((((((((words1.drop 24).drop 24).drop 24).drop 24).drop 24).drop 24).drop 24).drop 24).drop 24), List.all_append, w_t10, ← List.take_append_drop 24 ((((((((((words1.drop 24).drop 24).drop 24).drop 24).drop 24).drop 24).drop 24).drop 24).drop 24).drop 24), List.all_append, w_t11, ← List.take_append_drop 24 (((((((((((words1.drop 24).drop 24).drop 24).drop 24).drop 24).drop 24).drop 24).drop 24).drop 24).drop 24).drop 24), List.all_append, w_t12, ← List.take_append_drop 24 ((((((((((((words1.drop 24).drop 24).drop 24).drop 24).drop 24).drop 24).drop 24).drop 24).drop 24).drop 24).drop 24).drop 24), List.all_append, w_t13, w_t14]
  rfl
set_option maxRecDepth 65536 in
theorem w_rest : rest_1_c.before args0 about1 = true := by decide +kernel
set_option maxRecDepth 65536 in
theorem w_case : (Jvm.Cond.and given_1 narrow_1).before args0 about1 = true := by decide +kernel
theorem w_applies : (headSpec (Jvm.Cond.code x code maxLocals ret :: tables_1) room_1).applies x e0.platform about1 = true :=
  (Spec.applies_iff w_frames).mpr ⟨w_running, w_runnable, w_alone, w_named, w_hears, w_ripe, w_room, w_tables⟩
theorem atStart : AtStart classFile x code maxLocals ret World_1 tables_1 room_1 Calls_1 rest_1 Pre_1 launch0 p0 e0 about1 theMethod args0 below0 :=
  ⟨lists_1, trivial, launch0.admits_env _ _ _, launch0.least_env, fairChoices_fair.cas, fairChoices_fair.clock, w_frames, w_args, w_heap, w_applies, trivial, w_rest, w_case⟩
end start1
theorem witness_1 : WitnessClaimed_1 := ⟨start1.p0, start1.e0, start1.about1, start1.theMethod, start1.args0, start1.below0, start1.atStart⟩
end Jvm.Pilot.@@N@@
