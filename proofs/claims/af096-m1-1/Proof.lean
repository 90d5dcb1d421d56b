import JvmDerived
import JvmDerived.Pilot.@@N@@Statement
import JvmDerived.Pilot.@@N@@Code
set_option linter.unusedVariables false
set_option linter.unusedSimpArgs false
namespace Jvm.Pilot.@@N@@
open Jvm Jvm.ClassFile Sem Op Lib Jvm.Free Jvm.Stand Jvm.LawKit Jvm.RoadKit Jvm.Free.Fl Bundle Jvm.Pilot.@@N@@.Jvm.D
section OwnG
variable {p : Program} {l : Launch} {e : Env} {R : Room} {s : State} {m : MethodId} {args : Array Value} {below : List Frame} {meth : Method} {c : Code} {T : State} {locs : List Loc} {cells slots : Nat} {Z : State} {a0 : Array Value} {h : Heap} {B : ByteArray} {pc pc' : Nat} {L L' : Array Slot} {rest : List Value} {F : Outcome → State → Prop}
def Gt (tb : Tables) (e : Env) (below : List Frame) (F : Outcome → State → Prop) (S : State) : Prop := ∃ s₂ o, Steps tb e below S s₂ ∧ s₂.status = .running ∧ Ended s₂ below o ∧ F o s₂
theorem Gt.go {tb : Tables} {S S' : State} (k : Gt tb e below F S') (q : ∀ t, Steps tb e below S' t → Steps tb e below S t) : Gt tb e below F S := by
  obtain ⟨a, o, h1, h2⟩ := k; exact ⟨a, o, q _ h1, h2⟩
theorem own_join {tb : Tables} {S S' : State} (q : ∀ F', Gt tb e below F' S' → Gt tb e below F' S) (k : Gt tb e below F S') : Gt tb e below F S := q F k
theorem own_cast {tb : Tables} {g g' : JFrame} (q : g = g') (k : Gt tb e below F (T.setTop g')) : Gt tb e below F (T.setTop g) := q ▸ k
theorem own_iadd (X : Stand p l e R s m args below meth c T locs cells slots) (hx : p.tables.exec = Jvm.exec) (hby : c.code = B) {x y v : Int32} (hv : x + y = v) (hd : decode B pc = .ok (.iadd, 1)) (hp : pc + 1 = pc') (k : Gt p.tables e below F (T.setTop (mkF m pc' L (.int v :: rest)))) : Gt p.tables e below F (T.setTop (mkF m pc L (.int y :: .int x :: rest))) := by
  subst hp; exact (by subst hv; exact k.go fun t q => XS.iadd X.here hx rfl (hb hby hd) rfl q)
theorem own_isub (X : Stand p l e R s m args below meth c T locs cells slots) (hx : p.tables.exec = Jvm.exec) (hby : c.code = B) {x y v : Int32} (hv : x - y = v) (hd : decode B pc = .ok (.isub, 1)) (hp : pc + 1 = pc') (k : Gt p.tables e below F (T.setTop (mkF m pc' L (.int v :: rest)))) : Gt p.tables e below F (T.setTop (mkF m pc L (.int y :: .int x :: rest))) := by
  subst hp; exact (by subst hv; exact k.go fun t q => XS.isub X.here hx rfl (hb hby hd) rfl q)
theorem own_imul (X : Stand p l e R s m args below meth c T locs cells slots) (hx : p.tables.exec = Jvm.exec) (hby : c.code = B) {x y v : Int32} (hv : x * y = v) (hd : decode B pc = .ok (.imul, 1)) (hp : pc + 1 = pc') (k : Gt p.tables e below F (T.setTop (mkF m pc' L (.int v :: rest)))) : Gt p.tables e below F (T.setTop (mkF m pc L (.int y :: .int x :: rest))) := by
  subst hp; exact (by subst hv; exact k.go fun t q => XS.imul X.here hx rfl (hb hby hd) rfl q)
theorem own_iand (X : Stand p l e R s m args below meth c T locs cells slots) (hx : p.tables.exec = Jvm.exec) (hby : c.code = B) {x y v : Int32} (hv : x &&& y = v) (hd : decode B pc = .ok (.iand, 1)) (hp : pc + 1 = pc') (k : Gt p.tables e below F (T.setTop (mkF m pc' L (.int v :: rest)))) : Gt p.tables e below F (T.setTop (mkF m pc L (.int y :: .int x :: rest))) := by
  subst hp; exact (by subst hv; exact k.go fun t q => XS.iand X.here hx rfl (hb hby hd) rfl q)
theorem own_ior (X : Stand p l e R s m args below meth c T locs cells slots) (hx : p.tables.exec = Jvm.exec) (hby : c.code = B) {x y v : Int32} (hv : x ||| y = v) (hd : decode B pc = .ok (.ior, 1)) (hp : pc + 1 = pc') (k : Gt p.tables e below F (T.setTop (mkF m pc' L (.int v :: rest)))) : Gt p.tables e below F (T.setTop (mkF m pc L (.int y :: .int x :: rest))) := by
  subst hp; exact (by subst hv; exact k.go fun t q => XS.ior X.here hx rfl (hb hby hd) rfl q)
theorem own_ixor (X : Stand p l e R s m args below meth c T locs cells slots) (hx : p.tables.exec = Jvm.exec) (hby : c.code = B) {x y v : Int32} (hv : x ^^^ y = v) (hd : decode B pc = .ok (.ixor, 1)) (hp : pc + 1 = pc') (k : Gt p.tables e below F (T.setTop (mkF m pc' L (.int v :: rest)))) : Gt p.tables e below F (T.setTop (mkF m pc L (.int y :: .int x :: rest))) := by
  subst hp; exact (by subst hv; exact k.go fun t q => XS.ixor X.here hx rfl (hb hby hd) rfl q)
theorem own_ishl (X : Stand p l e R s m args below meth c T locs cells slots) (hx : p.tables.exec = Jvm.exec) (hby : c.code = B) {x y v : Int32} (hv : x <<< (y &&& 31) = v) (hd : decode B pc = .ok (.ishl, 1)) (hp : pc + 1 = pc') (k : Gt p.tables e below F (T.setTop (mkF m pc' L (.int v :: rest)))) : Gt p.tables e below F (T.setTop (mkF m pc L (.int y :: .int x :: rest))) := by
  subst hp; exact (by subst hv; exact k.go fun t q => XS.ishl X.here hx rfl (hb hby hd) rfl q)
theorem own_ishr (X : Stand p l e R s m args below meth c T locs cells slots) (hx : p.tables.exec = Jvm.exec) (hby : c.code = B) {x y v : Int32} (hv : x >>> (y &&& 31) = v) (hd : decode B pc = .ok (.ishr, 1)) (hp : pc + 1 = pc') (k : Gt p.tables e below F (T.setTop (mkF m pc' L (.int v :: rest)))) : Gt p.tables e below F (T.setTop (mkF m pc L (.int y :: .int x :: rest))) := by
  subst hp; exact (by subst hv; exact k.go fun t q => XS.ishr X.here hx rfl (hb hby hd) rfl q)
theorem own_iushr (X : Stand p l e R s m args below meth c T locs cells slots) (hx : p.tables.exec = Jvm.exec) (hby : c.code = B) {x y v : Int32} (hv : (x.toUInt32 >>> (y &&& 31).toUInt32).toInt32 = v) (hd : decode B pc = .ok (.iushr, 1)) (hp : pc + 1 = pc') (k : Gt p.tables e below F (T.setTop (mkF m pc' L (.int v :: rest)))) : Gt p.tables e below F (T.setTop (mkF m pc L (.int y :: .int x :: rest))) := by
  subst hp; exact (by subst hv; exact k.go fun t q => XS.iushr X.here hx rfl (hb hby hd) rfl q)
theorem own_ladd (X : Stand p l e R s m args below meth c T locs cells slots) (hx : p.tables.exec = Jvm.exec) (hby : c.code = B) {x y v : Int64} (hv : x + y = v) (hd : decode B pc = .ok (.ladd, 1)) (hp : pc + 1 = pc') (k : Gt p.tables e below F (T.setTop (mkF m pc' L (.long v :: rest)))) : Gt p.tables e below F (T.setTop (mkF m pc L (.long y :: .long x :: rest))) := by
  subst hp; exact (by subst hv; exact k.go fun t q => XS.ladd X.here hx rfl (hb hby hd) rfl q)
theorem own_lsub (X : Stand p l e R s m args below meth c T locs cells slots) (hx : p.tables.exec = Jvm.exec) (hby : c.code = B) {x y v : Int64} (hv : x - y = v) (hd : decode B pc = .ok (.lsub, 1)) (hp : pc + 1 = pc') (k : Gt p.tables e below F (T.setTop (mkF m pc' L (.long v :: rest)))) : Gt p.tables e below F (T.setTop (mkF m pc L (.long y :: .long x :: rest))) := by
  subst hp; exact (by subst hv; exact k.go fun t q => XS.lsub X.here hx rfl (hb hby hd) rfl q)
theorem own_lmul (X : Stand p l e R s m args below meth c T locs cells slots) (hx : p.tables.exec = Jvm.exec) (hby : c.code = B) {x y v : Int64} (hv : x * y = v) (hd : decode B pc = .ok (.lmul, 1)) (hp : pc + 1 = pc') (k : Gt p.tables e below F (T.setTop (mkF m pc' L (.long v :: rest)))) : Gt p.tables e below F (T.setTop (mkF m pc L (.long y :: .long x :: rest))) := by
  subst hp; exact (by subst hv; exact k.go fun t q => XS.lmul X.here hx rfl (hb hby hd) rfl q)
theorem own_land (X : Stand p l e R s m args below meth c T locs cells slots) (hx : p.tables.exec = Jvm.exec) (hby : c.code = B) {x y v : Int64} (hv : x &&& y = v) (hd : decode B pc = .ok (.land, 1)) (hp : pc + 1 = pc') (k : Gt p.tables e below F (T.setTop (mkF m pc' L (.long v :: rest)))) : Gt p.tables e below F (T.setTop (mkF m pc L (.long y :: .long x :: rest))) := by
  subst hp; exact (by subst hv; exact k.go fun t q => XS.land X.here hx rfl (hb hby hd) rfl q)
theorem own_lor (X : Stand p l e R s m args below meth c T locs cells slots) (hx : p.tables.exec = Jvm.exec) (hby : c.code = B) {x y v : Int64} (hv : x ||| y = v) (hd : decode B pc = .ok (.lor, 1)) (hp : pc + 1 = pc') (k : Gt p.tables e below F (T.setTop (mkF m pc' L (.long v :: rest)))) : Gt p.tables e below F (T.setTop (mkF m pc L (.long y :: .long x :: rest))) := by
  subst hp; exact (by subst hv; exact k.go fun t q => XS.lor X.here hx rfl (hb hby hd) rfl q)
theorem own_lxor (X : Stand p l e R s m args below meth c T locs cells slots) (hx : p.tables.exec = Jvm.exec) (hby : c.code = B) {x y v : Int64} (hv : x ^^^ y = v) (hd : decode B pc = .ok (.lxor, 1)) (hp : pc + 1 = pc') (k : Gt p.tables e below F (T.setTop (mkF m pc' L (.long v :: rest)))) : Gt p.tables e below F (T.setTop (mkF m pc L (.long y :: .long x :: rest))) := by
  subst hp; exact (by subst hv; exact k.go fun t q => XS.lxor X.here hx rfl (hb hby hd) rfl q)
theorem own_lshl (X : Stand p l e R s m args below meth c T locs cells slots) (hx : p.tables.exec = Jvm.exec) (hby : c.code = B) {x v : Int64} {y : Int32} (hv : x <<< (y &&& 0x3f).toInt64 = v) (hd : decode B pc = .ok (.lshl, 1)) (hp : pc + 1 = pc') (k : Gt p.tables e below F (T.setTop (mkF m pc' L (.long v :: rest)))) : Gt p.tables e below F (T.setTop (mkF m pc L (.int y :: .long x :: rest))) := by
  subst hp; exact (by subst hv; exact k.go fun t q => XS.lshl X.here hx rfl (hb hby hd) rfl q)
theorem own_lshr (X : Stand p l e R s m args below meth c T locs cells slots) (hx : p.tables.exec = Jvm.exec) (hby : c.code = B) {x v : Int64} {y : Int32} (hv : x >>> (y &&& 0x3f).toInt64 = v) (hd : decode B pc = .ok (.lshr, 1)) (hp : pc + 1 = pc') (k : Gt p.tables e below F (T.setTop (mkF m pc' L (.long v :: rest)))) : Gt p.tables e below F (T.setTop (mkF m pc L (.int y :: .long x :: rest))) := by
  subst hp; exact (by subst hv; exact k.go fun t q => XS.lshr X.here hx rfl (hb hby hd) rfl q)
theorem own_lushr (X : Stand p l e R s m args below meth c T locs cells slots) (hx : p.tables.exec = Jvm.exec) (hby : c.code = B) {x v : Int64} {y : Int32} (hv : (x.toUInt64 >>> (y &&& 0x3f).toInt64.toUInt64).toInt64 = v) (hd : decode B pc = .ok (.lushr, 1)) (hp : pc + 1 = pc') (k : Gt p.tables e below F (T.setTop (mkF m pc' L (.long v :: rest)))) : Gt p.tables e below F (T.setTop (mkF m pc L (.int y :: .long x :: rest))) := by
  subst hp; exact (by subst hv; exact k.go fun t q => XS.lushr X.here hx rfl (hb hby hd) rfl q)
theorem own_idiv (X : Stand p l e R s m args below meth c T locs cells slots) (hx : p.tables.exec = Jvm.exec) (hby : c.code = B) {x y v : Int32} (hy : y ≠ 0) (hv : x / y = v) (hd : decode B pc = .ok (.idiv, 1)) (hp : pc + 1 = pc') (k : Gt p.tables e below F (T.setTop (mkF m pc' L (.int v :: rest)))) : Gt p.tables e below F (T.setTop (mkF m pc L (.int y :: .int x :: rest))) := by
  subst hp; exact (by subst hv; exact k.go fun t q => XS.idiv X.here hx rfl (hb hby hd) rfl hy q)
theorem own_irem (X : Stand p l e R s m args below meth c T locs cells slots) (hx : p.tables.exec = Jvm.exec) (hby : c.code = B) {x y v : Int32} (hy : y ≠ 0) (hv : x % y = v) (hd : decode B pc = .ok (.irem, 1)) (hp : pc + 1 = pc') (k : Gt p.tables e below F (T.setTop (mkF m pc' L (.int v :: rest)))) : Gt p.tables e below F (T.setTop (mkF m pc L (.int y :: .int x :: rest))) := by
  subst hp; exact (by subst hv; exact k.go fun t q => iremM X hx rfl (hb hby hd) rfl hy q)
theorem own_ldiv (X : Stand p l e R s m args below meth c T locs cells slots) (hx : p.tables.exec = Jvm.exec) (hby : c.code = B) {x y v : Int64} (hy : y ≠ 0) (hv : x / y = v) (hd : decode B pc = .ok (.ldiv, 1)) (hp : pc + 1 = pc') (k : Gt p.tables e below F (T.setTop (mkF m pc' L (.long v :: rest)))) : Gt p.tables e below F (T.setTop (mkF m pc L (.long y :: .long x :: rest))) := by
  subst hp; exact (by subst hv; exact k.go fun t q => XS.ldiv X.here hx rfl (hb hby hd) rfl hy q)
theorem own_lrem (X : Stand p l e R s m args below meth c T locs cells slots) (hx : p.tables.exec = Jvm.exec) (hby : c.code = B) {x y v : Int64} (hy : y ≠ 0) (hv : x % y = v) (hd : decode B pc = .ok (.lrem, 1)) (hp : pc + 1 = pc') (k : Gt p.tables e below F (T.setTop (mkF m pc' L (.long v :: rest)))) : Gt p.tables e below F (T.setTop (mkF m pc L (.long y :: .long x :: rest))) := by
  subst hp; exact (by subst hv; rw [← lrem_mod] at k; exact k.go fun t q => XS.lrem X.here hx rfl (hb hby hd) rfl hy q)
theorem own_lcmp (X : Stand p l e R s m args below meth c T locs cells slots) (hx : p.tables.exec = Jvm.exec) (hby : c.code = B) {x y : Int64} {v : Int32} (hv : (if x > y then 1 else if x = y then 0 else -1 : Int32) = v) (hd : decode B pc = .ok (.lcmp, 1)) (hp : pc + 1 = pc') (k : Gt p.tables e below F (T.setTop (mkF m pc' L (.int v :: rest)))) : Gt p.tables e below F (T.setTop (mkF m pc L (.long y :: .long x :: rest))) := by
  subst hp; exact (by subst hv; exact k.go fun t q => XS.lcmp X.here hx rfl (hb hby hd) rfl q)
theorem own_ineg (X : Stand p l e R s m args below meth c T locs cells slots) (hx : p.tables.exec = Jvm.exec) (hby : c.code = B) {x v : Int32} (hv : -x = v) (hd : decode B pc = .ok (.ineg, 1)) (hp : pc + 1 = pc') (k : Gt p.tables e below F (T.setTop (mkF m pc' L (.int v :: rest)))) : Gt p.tables e below F (T.setTop (mkF m pc L (.int x :: rest))) := by
  subst hp; exact (by subst hv; exact k.go fun t q => XS.ineg X.here hx rfl (hb hby hd) rfl q)
theorem own_lneg (X : Stand p l e R s m args below meth c T locs cells slots) (hx : p.tables.exec = Jvm.exec) (hby : c.code = B) {x v : Int64} (hv : -x = v) (hd : decode B pc = .ok (.lneg, 1)) (hp : pc + 1 = pc') (k : Gt p.tables e below F (T.setTop (mkF m pc' L (.long v :: rest)))) : Gt p.tables e below F (T.setTop (mkF m pc L (.long x :: rest))) := by
  subst hp; exact (by subst hv; exact k.go fun t q => XS.lneg X.here hx rfl (hb hby hd) rfl q)
theorem own_i2b (X : Stand p l e R s m args below meth c T locs cells slots) (hx : p.tables.exec = Jvm.exec) (hby : c.code = B) {x v : Int32} (hv : x.toInt8.toInt32 = v) (hd : decode B pc = .ok (.i2b, 1)) (hp : pc + 1 = pc') (k : Gt p.tables e below F (T.setTop (mkF m pc' L (.int v :: rest)))) : Gt p.tables e below F (T.setTop (mkF m pc L (.int x :: rest))) := by
  subst hp; exact (by subst hv; exact k.go fun t q => XS.i2b X.here hx rfl (hb hby hd) rfl q)
theorem own_i2c (X : Stand p l e R s m args below meth c T locs cells slots) (hx : p.tables.exec = Jvm.exec) (hby : c.code = B) {x v : Int32} (hv : x.toUInt32.toUInt16.toUInt32.toInt32 = v) (hd : decode B pc = .ok (.i2c, 1)) (hp : pc + 1 = pc') (k : Gt p.tables e below F (T.setTop (mkF m pc' L (.int v :: rest)))) : Gt p.tables e below F (T.setTop (mkF m pc L (.int x :: rest))) := by
  subst hp; exact (by subst hv; exact k.go fun t q => XS.i2c X.here hx rfl (hb hby hd) rfl q)
theorem own_i2s (X : Stand p l e R s m args below meth c T locs cells slots) (hx : p.tables.exec = Jvm.exec) (hby : c.code = B) {x v : Int32} (hv : x.toInt16.toInt32 = v) (hd : decode B pc = .ok (.i2s, 1)) (hp : pc + 1 = pc') (k : Gt p.tables e below F (T.setTop (mkF m pc' L (.int v :: rest)))) : Gt p.tables e below F (T.setTop (mkF m pc L (.int x :: rest))) := by
  subst hp; exact (by subst hv; exact k.go fun t q => XS.i2s X.here hx rfl (hb hby hd) rfl q)
theorem own_i2l (X : Stand p l e R s m args below meth c T locs cells slots) (hx : p.tables.exec = Jvm.exec) (hby : c.code = B) {x : Int32} {v : Int64} (hv : x.toInt64 = v) (hd : decode B pc = .ok (.i2l, 1)) (hp : pc + 1 = pc') (k : Gt p.tables e below F (T.setTop (mkF m pc' L (.long v :: rest)))) : Gt p.tables e below F (T.setTop (mkF m pc L (.int x :: rest))) := by
  subst hp; exact (by subst hv; exact k.go fun t q => XS.i2l X.here hx rfl (hb hby hd) rfl q)
theorem own_l2i (X : Stand p l e R s m args below meth c T locs cells slots) (hx : p.tables.exec = Jvm.exec) (hby : c.code = B) {x : Int64} {v : Int32} (hv : x.toInt32 = v) (hd : decode B pc = .ok (.l2i, 1)) (hp : pc + 1 = pc') (k : Gt p.tables e below F (T.setTop (mkF m pc' L (.int v :: rest)))) : Gt p.tables e below F (T.setTop (mkF m pc L (.long x :: rest))) := by
  subst hp; exact (by subst hv; exact k.go fun t q => XS.l2i X.here hx rfl (hb hby hd) rfl q)
theorem own_iload (X : Stand p l e R s m args below meth c T locs cells slots) (hx : p.tables.exec = Jvm.exec) (hby : c.code = B) {i : Nat} {v : Int32} (hl : L[i]? = some (.val (.int v))) (hd : decode B pc = .ok (.iload i, 2)) (hp : pc + 2 = pc') (k : Gt p.tables e below F (T.setTop (mkF m pc' L (.int v :: rest)))) : Gt p.tables e below F (T.setTop (mkF m pc L rest)) := by
  subst hp; exact k.go fun t q => XS.iload X.here hx rfl (hb hby hd) hl q
theorem own_iloadN (X : Stand p l e R s m args below meth c T locs cells slots) (hx : p.tables.exec = Jvm.exec) (hby : c.code = B) {i : Fin 4} {v : Int32} (hl : L[i.val]? = some (.val (.int v))) (hd : decode B pc = .ok (.iload_n i, 1)) (hp : pc + 1 = pc') (k : Gt p.tables e below F (T.setTop (mkF m pc' L (.int v :: rest)))) : Gt p.tables e below F (T.setTop (mkF m pc L rest)) := by
  subst hp; exact k.go fun t q => XS.iloadN X.here hx rfl (hb hby hd) hl q
theorem own_lload (X : Stand p l e R s m args below meth c T locs cells slots) (hx : p.tables.exec = Jvm.exec) (hby : c.code = B) {i : Nat} {v : Int64} (hl : L[i]? = some (.val (.long v))) (hd : decode B pc = .ok (.lload i, 2)) (hp : pc + 2 = pc') (k : Gt p.tables e below F (T.setTop (mkF m pc' L (.long v :: rest)))) : Gt p.tables e below F (T.setTop (mkF m pc L rest)) := by
  subst hp; exact k.go fun t q => XS.lload X.here hx rfl (hb hby hd) hl q
theorem own_lloadN (X : Stand p l e R s m args below meth c T locs cells slots) (hx : p.tables.exec = Jvm.exec) (hby : c.code = B) {i : Fin 4} {v : Int64} (hl : L[i.val]? = some (.val (.long v))) (hd : decode B pc = .ok (.lload_n i, 1)) (hp : pc + 1 = pc') (k : Gt p.tables e below F (T.setTop (mkF m pc' L (.long v :: rest)))) : Gt p.tables e below F (T.setTop (mkF m pc L rest)) := by
  subst hp; exact k.go fun t q => XS.lloadN X.here hx rfl (hb hby hd) hl q
theorem own_dload (X : Stand p l e R s m args below meth c T locs cells slots) (hx : p.tables.exec = Jvm.exec) (hby : c.code = B) {i : Nat} {v : UInt64} (hl : L[i]? = some (.val (.double v))) (hd : decode B pc = .ok (.dload i, 2)) (hp : pc + 2 = pc') (k : Gt p.tables e below F (T.setTop (mkF m pc' L (.double v :: rest)))) : Gt p.tables e below F (T.setTop (mkF m pc L rest)) := by
  subst hp; exact k.go fun t q => XS.dload X.here hx rfl (hb hby hd) hl q
theorem own_dloadN (X : Stand p l e R s m args below meth c T locs cells slots) (hx : p.tables.exec = Jvm.exec) (hby : c.code = B) {i : Fin 4} {v : UInt64} (hl : L[i.val]? = some (.val (.double v))) (hd : decode B pc = .ok (.dload_n i, 1)) (hp : pc + 1 = pc') (k : Gt p.tables e below F (T.setTop (mkF m pc' L (.double v :: rest)))) : Gt p.tables e below F (T.setTop (mkF m pc L rest)) := by
  subst hp; exact k.go fun t q => XS.dloadN X.here hx rfl (hb hby hd) hl q
theorem own_aload (X : Stand p l e R s m args below meth c T locs cells slots) (hx : p.tables.exec = Jvm.exec) (hby : c.code = B) {i : Nat} {v : Value} (hl : L[i]? = some (.val v)) (hr : v.isRef = true) (hd : decode B pc = .ok (.aload i, 2)) (hp : pc + 2 = pc') (k : Gt p.tables e below F (T.setTop (mkF m pc' L (v :: rest)))) : Gt p.tables e below F (T.setTop (mkF m pc L rest)) := by
  subst hp; exact k.go fun t q => XS.aload X.here hx rfl (hb hby hd) hl hr q
theorem own_aloadN (X : Stand p l e R s m args below meth c T locs cells slots) (hx : p.tables.exec = Jvm.exec) (hby : c.code = B) {i : Fin 4} {v : Value} (hl : L[i.val]? = some (.val v)) (hr : v.isRef = true) (hd : decode B pc = .ok (.aload_n i, 1)) (hp : pc + 1 = pc') (k : Gt p.tables e below F (T.setTop (mkF m pc' L (v :: rest)))) : Gt p.tables e below F (T.setTop (mkF m pc L rest)) := by
  subst hp; exact k.go fun t q => XS.aloadN X.here hx rfl (hb hby hd) hl hr q
theorem own_istore (X : Stand p l e R s m args below meth c T locs cells slots) (hx : p.tables.exec = Jvm.exec) (hby : c.code = B) {i : Nat} {v : Int32} (hl : storeLocals L i (.int v) = some L') (hd : decode B pc = .ok (.istore i, 2)) (hp : pc + 2 = pc') (k : Gt p.tables e below F (T.setTop (mkF m pc' L' rest))) : Gt p.tables e below F (T.setTop (mkF m pc L (.int v :: rest))) := by
  subst hp; exact k.go fun t q => XS.istore X.here hx rfl (hb hby hd) rfl hl q
theorem own_istoreN (X : Stand p l e R s m args below meth c T locs cells slots) (hx : p.tables.exec = Jvm.exec) (hby : c.code = B) {i : Fin 4} {v : Int32} (hl : storeLocals L i.val (.int v) = some L') (hd : decode B pc = .ok (.istore_n i, 1)) (hp : pc + 1 = pc') (k : Gt p.tables e below F (T.setTop (mkF m pc' L' rest))) : Gt p.tables e below F (T.setTop (mkF m pc L (.int v :: rest))) := by
  subst hp; exact k.go fun t q => XS.istoreN X.here hx rfl (hb hby hd) rfl hl q
theorem own_lstore (X : Stand p l e R s m args below meth c T locs cells slots) (hx : p.tables.exec = Jvm.exec) (hby : c.code = B) {i : Nat} {v : Int64} (hl : storeLocals L i (.long v) = some L') (hd : decode B pc = .ok (.lstore i, 2)) (hp : pc + 2 = pc') (k : Gt p.tables e below F (T.setTop (mkF m pc' L' rest))) : Gt p.tables e below F (T.setTop (mkF m pc L (.long v :: rest))) := by
  subst hp; exact k.go fun t q => XS.lstore X.here hx rfl (hb hby hd) rfl hl q
theorem own_lstoreN (X : Stand p l e R s m args below meth c T locs cells slots) (hx : p.tables.exec = Jvm.exec) (hby : c.code = B) {i : Fin 4} {v : Int64} (hl : storeLocals L i.val (.long v) = some L') (hd : decode B pc = .ok (.lstore_n i, 1)) (hp : pc + 1 = pc') (k : Gt p.tables e below F (T.setTop (mkF m pc' L' rest))) : Gt p.tables e below F (T.setTop (mkF m pc L (.long v :: rest))) := by
  subst hp; exact k.go fun t q => XS.lstoreN X.here hx rfl (hb hby hd) rfl hl q
theorem own_dstore (X : Stand p l e R s m args below meth c T locs cells slots) (hx : p.tables.exec = Jvm.exec) (hby : c.code = B) {i : Nat} {v : UInt64} (hl : storeLocals L i (.double v) = some L') (hd : decode B pc = .ok (.dstore i, 2)) (hp : pc + 2 = pc') (k : Gt p.tables e below F (T.setTop (mkF m pc' L' rest))) : Gt p.tables e below F (T.setTop (mkF m pc L (.double v :: rest))) := by
  subst hp; exact k.go fun t q => XS.dstore X.here hx rfl (hb hby hd) rfl hl q
theorem own_dstoreN (X : Stand p l e R s m args below meth c T locs cells slots) (hx : p.tables.exec = Jvm.exec) (hby : c.code = B) {i : Fin 4} {v : UInt64} (hl : storeLocals L i.val (.double v) = some L') (hd : decode B pc = .ok (.dstore_n i, 1)) (hp : pc + 1 = pc') (k : Gt p.tables e below F (T.setTop (mkF m pc' L' rest))) : Gt p.tables e below F (T.setTop (mkF m pc L (.double v :: rest))) := by
  subst hp; exact k.go fun t q => XS.dstoreN X.here hx rfl (hb hby hd) rfl hl q
theorem own_astore (X : Stand p l e R s m args below meth c T locs cells slots) (hx : p.tables.exec = Jvm.exec) (hby : c.code = B) {i : Nat} {v : Value} (hr : v.isRef = true) (hl : storeLocals L i v = some L') (hd : decode B pc = .ok (.astore i, 2)) (hp : pc + 2 = pc') (k : Gt p.tables e below F (T.setTop (mkF m pc' L' rest))) : Gt p.tables e below F (T.setTop (mkF m pc L (v :: rest))) := by
  subst hp; exact k.go fun t q => XS.astore X.here hx rfl (hb hby hd) rfl hr hl q
theorem own_astoreN (X : Stand p l e R s m args below meth c T locs cells slots) (hx : p.tables.exec = Jvm.exec) (hby : c.code = B) {i : Fin 4} {v : Value} (hr : v.isRef = true) (hl : storeLocals L i.val v = some L') (hd : decode B pc = .ok (.astore_n i, 1)) (hp : pc + 1 = pc') (k : Gt p.tables e below F (T.setTop (mkF m pc' L' rest))) : Gt p.tables e below F (T.setTop (mkF m pc L (v :: rest))) := by
  subst hp; exact k.go fun t q => XS.astoreN X.here hx rfl (hb hby hd) rfl hr hl q
theorem own_iinc (X : Stand p l e R s m args below meth c T locs cells slots) (hx : p.tables.exec = Jvm.exec) (hby : c.code = B) {i : Nat} {cst : Int} {x : Int32} (hl : L[i]? = some (.val (.int x))) (hl' : storeLocals L i (.int (x + Int32.ofInt cst)) = some L') (hd : decode B pc = .ok (.iinc i cst, 3)) (hp : pc + 3 = pc') (k : Gt p.tables e below F (T.setTop (mkF m pc' L' rest))) : Gt p.tables e below F (T.setTop (mkF m pc L rest)) := by
  subst hp; exact k.go fun t q => XS.iinc X.here hx rfl (hb hby hd) hl hl' q
theorem own_iconst (X : Stand p l e R s m args below meth c T locs cells slots) (hx : p.tables.exec = Jvm.exec) (hby : c.code = B) {i : Int} {v : Int32} (hv : Int32.ofInt i = v) (hd : decode B pc = .ok (.iconst i, 1)) (hp : pc + 1 = pc') (k : Gt p.tables e below F (T.setTop (mkF m pc' L (.int v :: rest)))) : Gt p.tables e below F (T.setTop (mkF m pc L rest)) := by
  subst hp; exact (by subst hv; exact k.go fun t q => XS.iconst X.here hx rfl (hb hby hd) q)
theorem own_bipush (X : Stand p l e R s m args below meth c T locs cells slots) (hx : p.tables.exec = Jvm.exec) (hby : c.code = B) {i : Int} {v : Int32} (hv : (Int8.ofInt i).toInt32 = v) (hd : decode B pc = .ok (.bipush i, 2)) (hp : pc + 2 = pc') (k : Gt p.tables e below F (T.setTop (mkF m pc' L (.int v :: rest)))) : Gt p.tables e below F (T.setTop (mkF m pc L rest)) := by
  subst hp; exact (by subst hv; exact k.go fun t q => XS.bipush X.here hx rfl (hb hby hd) q)
theorem own_sipush (X : Stand p l e R s m args below meth c T locs cells slots) (hx : p.tables.exec = Jvm.exec) (hby : c.code = B) {i : Int} {v : Int32} (hv : (Int16.ofInt i).toInt32 = v) (hd : decode B pc = .ok (.sipush i, 3)) (hp : pc + 3 = pc') (k : Gt p.tables e below F (T.setTop (mkF m pc' L (.int v :: rest)))) : Gt p.tables e below F (T.setTop (mkF m pc L rest)) := by
  subst hp; exact (by subst hv; exact k.go fun t q => XS.sipush X.here hx rfl (hb hby hd) q)
theorem own_lconst (X : Stand p l e R s m args below meth c T locs cells slots) (hx : p.tables.exec = Jvm.exec) (hby : c.code = B) {i : Fin 2} {v : Int64} (hv : Int64.ofNat i = v) (hd : decode B pc = .ok (.lconst i, 1)) (hp : pc + 1 = pc') (k : Gt p.tables e below F (T.setTop (mkF m pc' L (.long v :: rest)))) : Gt p.tables e below F (T.setTop (mkF m pc L rest)) := by
  subst hp; exact (by subst hv; exact k.go fun t q => XS.lconst X.here hx rfl (hb hby hd) q)
theorem own_aconst (X : Stand p l e R s m args below meth c T locs cells slots) (hx : p.tables.exec = Jvm.exec) (hby : c.code = B)  (hd : decode B pc = .ok (.aconst_null, 1)) (hp : pc + 1 = pc') (k : Gt p.tables e below F (T.setTop (mkF m pc' L (.null :: rest)))) : Gt p.tables e below F (T.setTop (mkF m pc L rest)) := by
  subst hp; exact k.go fun t q => XS.aconstNull X.here hx rfl (hb hby hd) q
theorem own_dconst0 (X : Stand p l e R s m args below meth c T locs cells slots) (hx : p.tables.exec = Jvm.exec) (hby : c.code = B) {v : UInt64} (hv : FP.dconst0 = v) (hd : decode B pc = .ok (.dconst 0, 1)) (hp : pc + 1 = pc') (k : Gt p.tables e below F (T.setTop (mkF m pc' L (.double v :: rest)))) : Gt p.tables e below F (T.setTop (mkF m pc L rest)) := by
  subst hp; exact k.go fun t q => XS.dconst0 X.here hx rfl (hb hby hd) hv q
theorem own_dconst1 (X : Stand p l e R s m args below meth c T locs cells slots) (hx : p.tables.exec = Jvm.exec) (hby : c.code = B) {v : UInt64} (hv : FP.dconst1 = v) (hd : decode B pc = .ok (.dconst 1, 1)) (hp : pc + 1 = pc') (k : Gt p.tables e below F (T.setTop (mkF m pc' L (.double v :: rest)))) : Gt p.tables e below F (T.setTop (mkF m pc L rest)) := by
  subst hp; exact k.go fun t q => XS.dconst1 X.here hx rfl (hb hby hd) hv q
theorem own_dadd (X : Stand p l e R s m args below meth c T locs cells slots) (hx : p.tables.exec = Jvm.exec) (hby : c.code = B) {x y v : UInt64} (hn : NoNaN64 (FP.dadd x y)) (hv : FP.dadd x y = v) (hd : decode B pc = .ok (.dadd, 1)) (hp : pc + 1 = pc') (k : Gt p.tables e below F (T.setTop (mkF m pc' L (.double v :: rest)))) : Gt p.tables e below F (T.setTop (mkF m pc L (.double y :: .double x :: rest))) := by
  subst hp; exact k.go fun t q => XS.daddS X.here hx rfl (hb hby hd) rfl hn hv q
theorem own_dsub (X : Stand p l e R s m args below meth c T locs cells slots) (hx : p.tables.exec = Jvm.exec) (hby : c.code = B) {x y v : UInt64} (hn : NoNaN64 (FP.dsub x y)) (hv : FP.dsub x y = v) (hd : decode B pc = .ok (.dsub, 1)) (hp : pc + 1 = pc') (k : Gt p.tables e below F (T.setTop (mkF m pc' L (.double v :: rest)))) : Gt p.tables e below F (T.setTop (mkF m pc L (.double y :: .double x :: rest))) := by
  subst hp; exact k.go fun t q => XS.dsubS X.here hx rfl (hb hby hd) rfl hn hv q
theorem own_dmul (X : Stand p l e R s m args below meth c T locs cells slots) (hx : p.tables.exec = Jvm.exec) (hby : c.code = B) {x y v : UInt64} (hn : NoNaN64 (FP.dmul x y)) (hv : FP.dmul x y = v) (hd : decode B pc = .ok (.dmul, 1)) (hp : pc + 1 = pc') (k : Gt p.tables e below F (T.setTop (mkF m pc' L (.double v :: rest)))) : Gt p.tables e below F (T.setTop (mkF m pc L (.double y :: .double x :: rest))) := by
  subst hp; exact k.go fun t q => XS.dmulS X.here hx rfl (hb hby hd) rfl hn hv q
theorem own_ddiv (X : Stand p l e R s m args below meth c T locs cells slots) (hx : p.tables.exec = Jvm.exec) (hby : c.code = B) {x y v : UInt64} (hn : NoNaN64 (FP.ddiv x y)) (hv : FP.ddiv x y = v) (hd : decode B pc = .ok (.ddiv, 1)) (hp : pc + 1 = pc') (k : Gt p.tables e below F (T.setTop (mkF m pc' L (.double v :: rest)))) : Gt p.tables e below F (T.setTop (mkF m pc L (.double y :: .double x :: rest))) := by
  subst hp; exact k.go fun t q => XS.ddivS X.here hx rfl (hb hby hd) rfl hn hv q
theorem own_dneg (X : Stand p l e R s m args below meth c T locs cells slots) (hx : p.tables.exec = Jvm.exec) (hby : c.code = B) {x v : UInt64} (hv : FP.dneg x = v) (hd : decode B pc = .ok (.dneg, 1)) (hp : pc + 1 = pc') (k : Gt p.tables e below F (T.setTop (mkF m pc' L (.double v :: rest)))) : Gt p.tables e below F (T.setTop (mkF m pc L (.double x :: rest))) := by
  subst hp; exact k.go fun t q => XS.dnegS X.here hx rfl (hb hby hd) rfl hv q
theorem own_dcmp (X : Stand p l e R s m args below meth c T locs cells slots) (hx : p.tables.exec = Jvm.exec) (hby : c.code = B) {o : CmpOp} {x y : UInt64} {v : Int32} (hv : cmpValue (FP.dcmp x y) o = v) (hd : decode B pc = .ok (.dcmp o, 1)) (hp : pc + 1 = pc') (k : Gt p.tables e below F (T.setTop (mkF m pc' L (.int v :: rest)))) : Gt p.tables e below F (T.setTop (mkF m pc L (.double y :: .double x :: rest))) := by
  subst hp; exact k.go fun t q => XS.dcmpS X.here hx rfl (hb hby hd) rfl hv q
theorem own_i2d (X : Stand p l e R s m args below meth c T locs cells slots) (hx : p.tables.exec = Jvm.exec) (hby : c.code = B) {x : Int32} {v : UInt64} (hv : FP.i2d x = v) (hd : decode B pc = .ok (.i2d, 1)) (hp : pc + 1 = pc') (k : Gt p.tables e below F (T.setTop (mkF m pc' L (.double v :: rest)))) : Gt p.tables e below F (T.setTop (mkF m pc L (.int x :: rest))) := by
  subst hp; exact k.go fun t q => XS.i2dS X.here hx rfl (hb hby hd) rfl hv q
theorem own_l2d (X : Stand p l e R s m args below meth c T locs cells slots) (hx : p.tables.exec = Jvm.exec) (hby : c.code = B) {x : Int64} {v : UInt64} (hv : FP.l2d x = v) (hd : decode B pc = .ok (.l2d, 1)) (hp : pc + 1 = pc') (k : Gt p.tables e below F (T.setTop (mkF m pc' L (.double v :: rest)))) : Gt p.tables e below F (T.setTop (mkF m pc L (.long x :: rest))) := by
  subst hp; exact k.go fun t q => XS.l2dS X.here hx rfl (hb hby hd) rfl hv q
theorem own_dup (X : Stand p l e R s m args below meth c T locs cells slots) (hx : p.tables.exec = Jvm.exec) (hby : c.code = B) {x : Value} (hc : x.category = 1) (hd : decode B pc = .ok (.dup, 1)) (hp : pc + 1 = pc') (k : Gt p.tables e below F (T.setTop (mkF m pc' L (x :: x :: rest)))) : Gt p.tables e below F (T.setTop (mkF m pc L (x :: rest))) := by
  subst hp; exact k.go fun t q => XS.dup X.here hx rfl (hb hby hd) rfl hc q
theorem own_pop (X : Stand p l e R s m args below meth c T locs cells slots) (hx : p.tables.exec = Jvm.exec) (hby : c.code = B) {x : Value} (hc : x.category = 1) (hd : decode B pc = .ok (.pop, 1)) (hp : pc + 1 = pc') (k : Gt p.tables e below F (T.setTop (mkF m pc' L rest))) : Gt p.tables e below F (T.setTop (mkF m pc L (x :: rest))) := by
  subst hp; exact k.go fun t q => XS.pop X.here hx rfl (hb hby hd) rfl hc q
theorem own_dupX1 (X : Stand p l e R s m args below meth c T locs cells slots) (hx : p.tables.exec = Jvm.exec) (hby : c.code = B) {x y : Value} (hc : x.category = 1) (hc' : y.category = 1) (hd : decode B pc = .ok (.dup_x1, 1)) (hp : pc + 1 = pc') (k : Gt p.tables e below F (T.setTop (mkF m pc' L (x :: y :: x :: rest)))) : Gt p.tables e below F (T.setTop (mkF m pc L (x :: y :: rest))) := by
  subst hp; exact k.go fun t q => XS.dupX1 X.here hx rfl (hb hby hd) rfl hc hc' q
theorem own_dup2 (X : Stand p l e R s m args below meth c T locs cells slots) (hx : p.tables.exec = Jvm.exec) (hby : c.code = B) {x y : Value} (hc : x.category = 1) (hc' : y.category = 1) (hd : decode B pc = .ok (.dup2, 1)) (hp : pc + 1 = pc') (k : Gt p.tables e below F (T.setTop (mkF m pc' L (x :: y :: x :: y :: rest)))) : Gt p.tables e below F (T.setTop (mkF m pc L (x :: y :: rest))) := by
  subst hp; exact k.go fun t q => Jvm.Free.XT.dup2 X.here hx rfl (hb hby hd) rfl hc hc' q
theorem own_goto (X : Stand p l e R s m args below meth c T locs cells slots) (hx : p.tables.exec = Jvm.exec) (hby : c.code = B) {o : Int} (hd : decode B pc = .ok (.goto o, 3)) (ho : 0 ≤ (pc : Int) + o) (hp : ((pc : Int) + o).toNat = pc') (k : Gt p.tables e below F (T.setTop (mkF m pc' L rest))) : Gt p.tables e below F (T.setTop (mkF m pc L rest)) :=
  k.go fun t q => XS.goto X.here hx rfl rfl (hb hby hd) ho hp q
theorem own_ifT (X : Stand p l e R s m args below meth c T locs cells slots) (hx : p.tables.exec = Jvm.exec) (hby : c.code = B) {cd : ClassFile.Cond} {x : Int32} {o : Int} (hd : decode B pc = .ok (.ifCond cd o, 3)) (hc : ifCond.holds cd x = true) (ho : 0 ≤ (pc : Int) + o) (hp : ((pc : Int) + o).toNat = pc') (k : Gt p.tables e below F (T.setTop (mkF m pc' L rest))) : Gt p.tables e below F (T.setTop (mkF m pc L (.int x :: rest))) :=
  k.go fun t q => XS.ifYes X.here hx rfl rfl (hb hby hd) rfl hc ho hp q
theorem own_ifF (X : Stand p l e R s m args below meth c T locs cells slots) (hx : p.tables.exec = Jvm.exec) (hby : c.code = B) {cd : ClassFile.Cond} {x : Int32} {o : Int} (hd : decode B pc = .ok (.ifCond cd o, 3)) (hc : ifCond.holds cd x = false) (hp : pc + 3 = pc') (k : Gt p.tables e below F (T.setTop (mkF m pc' L rest))) : Gt p.tables e below F (T.setTop (mkF m pc L (.int x :: rest))) := by
  subst hp; exact k.go fun t q => XS.ifNo X.here hx rfl (hb hby hd) rfl hc q
theorem own_icT (X : Stand p l e R s m args below meth c T locs cells slots) (hx : p.tables.exec = Jvm.exec) (hby : c.code = B) {cd : ClassFile.Cond} {x y : Int32} {o : Int} (hd : decode B pc = .ok (.if_icmp cd o, 3)) (hc : if_icmp.holds cd x y = true) (ho : 0 ≤ (pc : Int) + o) (hp : ((pc : Int) + o).toNat = pc') (k : Gt p.tables e below F (T.setTop (mkF m pc' L rest))) : Gt p.tables e below F (T.setTop (mkF m pc L (.int y :: .int x :: rest))) :=
  k.go fun t q => XS.icmpYes X.here hx rfl rfl (hb hby hd) rfl hc ho hp q
theorem own_icF (X : Stand p l e R s m args below meth c T locs cells slots) (hx : p.tables.exec = Jvm.exec) (hby : c.code = B) {cd : ClassFile.Cond} {x y : Int32} {o : Int} (hd : decode B pc = .ok (.if_icmp cd o, 3)) (hc : if_icmp.holds cd x y = false) (hp : pc + 3 = pc') (k : Gt p.tables e below F (T.setTop (mkF m pc' L rest))) : Gt p.tables e below F (T.setTop (mkF m pc L (.int y :: .int x :: rest))) := by
  subst hp; exact k.go fun t q => XS.icmpNo X.here hx rfl (hb hby hd) rfl hc q
theorem own_ifnullT (X : Stand p l e R s m args below meth c T locs cells slots) (hx : p.tables.exec = Jvm.exec) (hby : c.code = B) {o : Int} (hd : decode B pc = .ok (.ifnull o, 3)) (ho : 0 ≤ (pc : Int) + o) (hp : ((pc : Int) + o).toNat = pc') (k : Gt p.tables e below F (T.setTop (mkF m pc' L rest))) : Gt p.tables e below F (T.setTop (mkF m pc L (.null :: rest))) :=
  k.go fun t q => XS.ifnullYes X.here hx rfl rfl (hb hby hd) rfl ho hp q
theorem own_ifnullF (X : Stand p l e R s m args below meth c T locs cells slots) (hx : p.tables.exec = Jvm.exec) (hby : c.code = B) {o : Int} {b : Addr} (hd : decode B pc = .ok (.ifnull o, 3)) (hp : pc + 3 = pc') (k : Gt p.tables e below F (T.setTop (mkF m pc' L rest))) : Gt p.tables e below F (T.setTop (mkF m pc L (.ref b :: rest))) := by
  subst hp; exact k.go fun t q => XS.ifnullNo X.here hx rfl (hb hby hd) rfl q
theorem own_ifnonnullT (X : Stand p l e R s m args below meth c T locs cells slots) (hx : p.tables.exec = Jvm.exec) (hby : c.code = B) {o : Int} {b : Addr} (hd : decode B pc = .ok (.ifnonnull o, 3)) (ho : 0 ≤ (pc : Int) + o) (hp : ((pc : Int) + o).toNat = pc') (k : Gt p.tables e below F (T.setTop (mkF m pc' L rest))) : Gt p.tables e below F (T.setTop (mkF m pc L (.ref b :: rest))) :=
  k.go fun t q => XS.ifnonnullYes X.here hx rfl rfl (hb hby hd) rfl ho hp q
theorem own_ifnonnullF (X : Stand p l e R s m args below meth c T locs cells slots) (hx : p.tables.exec = Jvm.exec) (hby : c.code = B) {o : Int} (hd : decode B pc = .ok (.ifnonnull o, 3)) (hp : pc + 3 = pc') (k : Gt p.tables e below F (T.setTop (mkF m pc' L rest))) : Gt p.tables e below F (T.setTop (mkF m pc L (.null :: rest))) := by
  subst hp; exact k.go fun t q => XS.ifnonnullNo X.here hx rfl (hb hby hd) rfl q
theorem own_acmp (X : Stand p l e R s m args below meth c T locs cells slots) (hx : p.tables.exec = Jvm.exec) (hby : c.code = B) {cd : ACond} {x y : Value} (h1 : x.isRef = true) (h2 : y.isRef = true) {o : Int} {same : Bool} (hd : decode B pc = .ok (.if_acmp cd o, 3)) (hq : decide (x = y) = same) (ho : 0 ≤ (pc : Int) + o) (hp : pc' = if acV cd same = true then ((pc : Int) + o).toNat else pc + 3) (k : Gt p.tables e below F (T.setTop (mkF m pc' L rest))) : Gt p.tables e below F (T.setTop (mkF m pc L (y :: x :: rest))) :=
  k.go fun t q => Jvm.RoadKit.acmp X hx rfl h1 h2 rfl (hb hby hd) rfl hq ho hp q
theorem own_ldcI (X : Stand p l e R s m args below meth c T locs cells slots) (hx : p.tables.exec = Jvm.exec) (hby : c.code = B) (hZ : Z.Warmed39 s.vm) {own : String} {i : Nat} {v : Int32} (hown : s.vm.findClass own = some m.cls) (w : (Jvm.Cond.constant own i v).before a0 Z = true) (hd : decode B pc = .ok (.ldc i, 2)) (hp : pc + 2 = pc') (k : Gt p.tables e below F (T.setTop (mkF m pc' L (.int v :: rest)))) : Gt p.tables e below F (T.setTop (mkF m pc L rest)) := by
  subst hp; exact k.go (X.ldcInt hx hown (mvT hZ w) (g := mkF m pc L rest) rfl (hb hby hd))
theorem own_ldc2L (X : Stand p l e R s m args below meth c T locs cells slots) (hx : p.tables.exec = Jvm.exec) (hby : c.code = B) (hZ : Z.Warmed39 s.vm) {own : String} {i : Nat} {v : Int64} (hown : s.vm.findClass own = some m.cls) (w : (Jvm.Cond.constantLong own i v).before a0 Z = true) (hd : decode B pc = .ok (.ldc2_w i, 3)) (hp : pc + 3 = pc') (k : Gt p.tables e below F (T.setTop (mkF m pc' L (.long v :: rest)))) : Gt p.tables e below F (T.setTop (mkF m pc L rest)) := by
  subst hp; exact k.go (X.ldc2Long hx hown (mvT hZ w) (g := mkF m pc L rest) rfl (hb hby hd))
theorem own_ldc2D (X : Stand p l e R s m args below meth c T locs cells slots) (hx : p.tables.exec = Jvm.exec) (hby : c.code = B) (hZ : Z.Warmed39 s.vm) {own : String} {i : Nat} {v : UInt64} (hown : s.vm.findClass own = some m.cls) (w : (Jvm.Cond.constantDouble own i v).before a0 Z = true) (hd : decode B pc = .ok (.ldc2_w i, 3)) (hp : pc + 3 = pc') (k : Gt p.tables e below F (T.setTop (mkF m pc' L (.double v :: rest)))) : Gt p.tables e below F (T.setTop (mkF m pc L rest)) := by
  subst hp; exact k.go (X.ldc2DoubleC hx hown (mvT hZ w) (g := mkF m pc L rest) rfl (hb hby hd))
theorem own_getF (X : Stand p l e R s m args below meth c T locs cells slots) (hx : p.tables.exec = Jvm.exec) (hby : c.code = B) (hZ : Z.Warmed39 s.vm) {own R0 O n d host : String} {index : Nat} (hown : s.vm.findClass own = some m.cls) (w : (Jvm.Cond.fieldLink own index R0 n d).before a0 Z = true ∨ (Jvm.Cond.fieldLinkNest own index R0 n d host).before a0 Z = true) (via : Via Z R0 O n d) (eT : T.heap = h) {a : Addr} {v : Value} (Ff : Fld Z h a O n d v) (hd : decode B pc = .ok (.getfield index, 3)) (hp : pc + 3 = pc') (k : ∀ T', Stand p l e R s m args below meth c T' locs cells slots → T'.heap = h → Gt p.tables e below F (T'.setTop (mkF m pc' L (v :: rest)))) : Gt p.tables e below F (T.setTop (mkF m pc L (.ref a :: rest))) := by
  subst hp; obtain ⟨T', X', e', st⟩ := getF X hx hZ hown w via eT Ff (g := mkF m pc L (.ref a :: rest)) rfl rfl (hb hby hd); exact (k T' X' e').go st
theorem own_getS (X : Stand p l e R s m args below meth c T locs cells slots) (hx : p.tables.exec = Jvm.exec) (hby : c.code = B) (hZ : Z.Warmed39 s.vm) {own R0 O n d host : String} {index : Nat} (hown : s.vm.findClass own = some m.cls) (w : (Jvm.Cond.fieldLink own index R0 n d).before a0 Z = true ∨ (Jvm.Cond.fieldLinkNest own index R0 n d host).before a0 Z = true) (via : Via Z R0 O n d) (eT : T.heap = h) {v : Value} (Ff : Sta Z h O n d v) (hd : decode B pc = .ok (.getstatic index, 3)) (hp : pc + 3 = pc') (k : ∀ T', Stand p l e R s m args below meth c T' locs cells slots → T'.heap = h → Gt p.tables e below F (T'.setTop (mkF m pc' L (v :: rest)))) : Gt p.tables e below F (T.setTop (mkF m pc L rest)) := by
  subst hp; obtain ⟨T', X', e', st⟩ := getS2 X hx hZ hown w via eT Ff (g := mkF m pc L rest) rfl (hb hby hd); exact (k T' X' e').go st
theorem own_putF (X : Stand p l e R s m args below meth c T locs cells slots) (hx : p.tables.exec = Jvm.exec) (hby : c.code = B) (hZ : Z.Warmed39 s.vm) {own R0 O n d host C : String} {index kk : Nat} {ty : FieldType} (hown : s.vm.findClass own = some m.cls) (w : (Jvm.Cond.fieldLink own index R0 n d).before a0 Z = true ∨ (Jvm.Cond.fieldLinkNest own index R0 n d host).before a0 Z = true) (via : Via Z R0 O n d) (eT : T.heap = h) {a : Addr} {v old : Value} (Ff : Fld Z h a O n d old) (E : Exa Z h a C) (La : (Jvm.Cond.lays C O n d).before a0 Z = true ∨ ((Jvm.Cond.laysFinal C O n d).before a0 Z = true ∧ own = O ∧ meth.name = "<init>")) (wi : (Jvm.Cond.instantiable C kk).before a0 Z = true) (hty : parseFieldDescriptor d = some ty) (hn : narrow ty v = v) (hf : fits ty v = true) (hd : decode B pc = .ok (.putfield index, 3)) (hp : pc + 3 = pc') (k : ∀ T' h', Stand p l e R s m args below meth c T' (locs ++ [⟨a, Jvm.RoadKit.slotOf Z O n d⟩]) cells slots → T'.heap = h' → Wr h h' a (Jvm.RoadKit.slotOf Z O n d) v → Gt p.tables e below F (T'.setTop (mkF m pc' L rest))) : Gt p.tables e below F (T.setTop (mkF m pc L (v :: .ref a :: rest))) := by
  subst hp; obtain ⟨T', h', X', e', W, st⟩ := putF X hx hZ hown w via eT Ff E La wi hty hn hf (g := mkF m pc L (v :: .ref a :: rest)) rfl rfl (hb hby hd); exact (k T' h' X' e' W).go st
theorem own_newO (X : Stand p l e R s m args below meth c T locs cells slots) (hx : p.tables.exec = Jvm.exec) (hby : c.code = B) (hZ : Z.Warmed39 s.vm) {own C : String} {index n : Nat} (hown : s.vm.findClass own = some m.cls) (w : (Jvm.Cond.classLink own index C).before a0 Z = true) (wi : (Jvm.Cond.instantiable C n).before a0 Z = true) (wz : (Jvm.Cond.initialized C).before a0 Z = true) (eT : T.heap = h) (hd : decode B pc = .ok (.new index, 3)) (hp : pc + 3 = pc') (hc : cells + 1 ≤ R.cells) (hl : slots + n ≤ R.slots) (k : ∀ T' h' a, Stand p l e R s m args below meth c T' locs (cells + 1) (slots + n) → T'.heap = h' → Ext h h' → h.size = a → Exa Z h' a C → (∀ {O nm d : String} {ty : FieldType}, Laid Z a0 C O nm d → parseFieldDescriptor d = some ty → Fld Z h' a O nm d (defaultValue ty)) → Gt p.tables e below F (T'.setTop (mkF m pc' L (.ref a :: rest)))) : Gt p.tables e below F (T.setTop (mkF m pc L rest)) := by
  subst hp; obtain ⟨T', h', X', e', E', A', D', -, st⟩ := newO X hx hZ hown w wi wz eT (g := mkF m pc L rest) rfl (hb hby hd) hc hl; exact (k T' h' _ X' e' E' rfl A' D').go st
theorem own_initO (X : Stand p l e R s m args below meth c T locs cells slots) (hx : p.tables.exec = Jvm.exec) (hby : c.code = B) (hZ : Z.Warmed39 s.vm) {own : String} {idx : Nat} (hown : s.vm.findClass own = some m.cls) (w1 : (Jvm.Cond.methodLink own idx Lib.objectInit).before a0 Z = true) (w2 : (Jvm.Cond.instanceMethod Lib.objectInit).before a0 Z = true) (w3 : (Jvm.Cond.code Lib.objectInit ⟨#[0xb1]⟩ 1 none).before a0 Z = true) (eT : T.heap = h) (hsize : L.size = c.maxLocals) {a : Addr} (hd : decode B pc = .ok (.invokespecial idx, 3)) (hp : pc + 3 = pc') (hf : 1 ≤ R.frames) {W : Nat} (hW : (rest.map fun v => v.category).sum ≤ W) (hl : W + 12 ≤ R.locals) (k : ∀ T', Stand p l e R s m args below meth c T' locs cells slots → T'.heap = h → Gt p.tables e below F (T'.setTop (mkF m pc' L rest))) : Gt p.tables e below F (T.setTop (mkF m pc L (.ref a :: rest))) := by
  subst hp; obtain ⟨T', X', e', st⟩ := initO X hx hZ hown w1 w2 w3 eT (g := mkF m pc L (.ref a :: rest)) rfl hsize rfl (hb hby hd) hf (W := W) (by show 2 * 0 + _ ≤ _; rw [Nat.mul_zero, Nat.zero_add]; exact hW) hl; exact (k T' X' e').go st
theorem own_special (X : Stand p l e R s m args below meth c T locs cells slots) (hx : p.tables.exec = Jvm.exec) (hby : c.code = B) (hZ : Z.Warmed39 s.vm) {own : String} {index : Nat} {y : MethodName} {bytes : ByteArray} {maxL : Nat} {ret : Option FieldType} {rm : Room} {as' : Array Value} {Q : Option Value → Heap → List Loc → Prop} (hy1 : y.name = "<init>") (hown : s.vm.findClass own = some m.cls) (w1 : (Jvm.Cond.methodLink own index y).before a0 Z = true) (w2 : (Jvm.Cond.instanceMethod y).before a0 Z = true) (hret : ret = none) (w3 : (Jvm.Cond.code y bytes maxL ret).before a0 Z = true) (w4 : (Jvm.Cond.initialized y.cls).before a0 Z = true) (hy : y.cls ≠ "java/lang/invoke/MethodHandle" ∧ y.cls ≠ "java/lang/invoke/VarHandle") (hM : MetFree l y (head1 [Jvm.Cond.code y bytes maxL ret] rm) (fun a U => a = as' ∧ Z.Warmed39 U.vm ∧ U.heap = h) (fun _ _ _ _ _ => True) (fun _ U o U' => ∃ v L, o = .returned v ∧ Q v U'.heap L ∧ FrameEnd U o U' L rm.cells rm.slots)) (eT : T.heap = h) (hsize : L.size = c.maxLocals) {a : Addr} {argsL : List Value} (has : as' = (.ref a :: argsL).toArray) (hlen : ∀ sig, parseMethodDescriptor y.desc = some sig → argsL.length = sig.parameters.length) {st : List Value} (hst : st = argsL.reverse ++ .ref a :: rest) (hd : decode B pc = .ok (.invokespecial index, 3)) (hp : pc + 3 = pc') (hf : rm.frames + 1 ≤ R.frames) {W : Nat} (hW : (rest.map fun v => v.category).sum ≤ W) (hl : W + (maxL + 11) + rm.locals ≤ R.locals) (hc : cells + rm.cells ≤ R.cells) (hs : slots + rm.slots ≤ R.slots) (k : ∀ T' h' L' v, Stand p l e R s m args below meth c T' (locs ++ L') (cells + rm.cells) (slots + rm.slots) → T'.heap = h' → Q v h' L' → Gt p.tables e below F (T'.setTop (mkF m pc' L (v.toList ++ rest)))) : Gt p.tables e below F (T.setTop (mkF m pc L st)) := by
  subst hp hret has hst
  obtain ⟨v, vm1, ⟨T', L1, k1, n1⟩, -, X', ⟨Lc, hQ, l1, l2, l3⟩, st⟩ := X.specialBack hx (y := y) hy1 hown (mvT hZ w1) (mvT hZ w2) (mvT hZ w3) hy (backOf (W := W) hM hZ w3 w4 hf hl) (g := mkF m pc L (argsL.reverse ++ .ref a :: rest)) rfl hsize (Steps.refl _) (a := a) (argsL := argsL) (rest := rest) hlen rfl (by show 2 * 0 + _ ≤ _; rw [Nat.mul_zero, Nat.zero_add]; exact hW) (hb hby hd) (fun _ _ => ⟨rfl, eT, hc, hs⟩)
  dsimp only [Pt.U, Pt.locs, Pt.cells, Pt.slots] at X' l1 l2 l3 st hQ
  subst l1 l2 l3
  exact (k T' _ Lc v X' rfl hQ).go fun t q => st.trans q
theorem own_virtual (X : Stand p l e R s m args below meth c T locs cells slots) (hx : p.tables.exec = Jvm.exec) (hby : c.code = B) (hZ : Z.Warmed39 s.vm) {own : String} {index : Nat} {y : MethodName} {bytes : ByteArray} {maxL : Nat} {ret : Option FieldType} {rm : Room} {as' : Array Value} {Q : Option Value → Heap → List Loc → Prop} {C : String} {y' : MethodName} (hown : s.vm.findClass own = some m.cls) (w1 : (Jvm.Cond.methodLink own index y').before a0 Z = true) (w2 : (Jvm.Cond.declares y').before a0 Z = true) (hnf : NotFace s y') (w5 : (Jvm.Cond.selects C y' y).before a0 Z = true) (w6 : (Jvm.Cond.instanceMethod y).before a0 Z = true) (w3 : (Jvm.Cond.code y bytes maxL ret).before a0 Z = true) (w4 : (Jvm.Cond.initialized y.cls).before a0 Z = true) (hy : y'.cls ≠ "java/lang/invoke/MethodHandle" ∧ y'.cls ≠ "java/lang/invoke/VarHandle") (hM : MetFree l y (head1 [Jvm.Cond.code y bytes maxL ret] rm) (fun a U => a = as' ∧ Z.Warmed39 U.vm ∧ U.heap = h) (fun _ _ _ _ _ => True) (fun _ U o U' => ∃ v L, o = .returned v ∧ Q v U'.heap L ∧ FrameEnd U o U' L rm.cells rm.slots)) (eT : T.heap = h) (hsize : L.size = c.maxLocals) {a : Addr} (E : Exa Z h a C) {argsL : List Value} (has : as' = (.ref a :: argsL).toArray) (hlen : ∀ sig, parseMethodDescriptor y'.desc = some sig → argsL.length = sig.parameters.length) {st : List Value} (hst : st = argsL.reverse ++ .ref a :: rest) (hd : decode B pc = .ok (.invokevirtual index, 3)) (hp : pc + 3 = pc') (hf : rm.frames + 1 ≤ R.frames) {W : Nat} (hW : (rest.map fun v => v.category).sum ≤ W) (hl : W + (maxL + 11) + rm.locals ≤ R.locals) (hc : cells + rm.cells ≤ R.cells) (hs : slots + rm.slots ≤ R.slots) (k : ∀ T' h' L' v, Stand p l e R s m args below meth c T' (locs ++ L') (cells + rm.cells) (slots + rm.slots) → T'.heap = h' → Q v h' L' → Gt p.tables e below F (T'.setTop (mkF m pc' L (v.toList ++ rest)))) : Gt p.tables e below F (T.setTop (mkF m pc L st)) := by
  subst hp has hst
  obtain ⟨cq, kq, qa, qb, qc⟩ := isOf hZ eT E
  obtain ⟨v, vm1, ⟨T', L1, k1, n1⟩, -, X', ⟨Lc, hQ, l1, l2, l3⟩, st⟩ := X.virtualBack hx (y := y') (z := y) hown (mvT hZ w1) (mvT hZ w2) hnf (mvT hZ w5) (mvT hZ w6) hy (backOf (W := W) hM hZ w3 w4 hf hl) qa qc (g := mkF m pc L (argsL.reverse ++ .ref a :: rest)) rfl hsize (Steps.refl _) (argsL := argsL) (rest := rest) hlen rfl (by show 2 * 0 + _ ≤ _; rw [Nat.mul_zero, Nat.zero_add]; exact hW) (hb hby hd) (fun _ _ => ⟨rfl, eT, hc, hs⟩)
  dsimp only [Pt.U, Pt.locs, Pt.cells, Pt.slots] at X' l1 l2 l3 st hQ
  subst l1 l2 l3
  exact (k T' _ Lc v X' rfl hQ).go fun t q => st.trans q
theorem own_static (X : Stand p l e R s m args below meth c T locs cells slots) (hx : p.tables.exec = Jvm.exec) (hby : c.code = B) (hZ : Z.Warmed39 s.vm) {own : String} {index : Nat} {y : MethodName} {bytes : ByteArray} {maxL : Nat} {ret : Option FieldType} {rm : Room} {as' : Array Value} {Q : Option Value → Heap → List Loc → Prop} (hown : s.vm.findClass own = some m.cls) (w1 : (Jvm.Cond.methodLink own index y).before a0 Z = true) (w2 : (Jvm.Cond.static y).before a0 Z = true) (w3 : (Jvm.Cond.code y bytes maxL ret).before a0 Z = true) (w4 : (Jvm.Cond.initialized y.cls).before a0 Z = true) (hy : y.cls ≠ "java/lang/invoke/MethodHandle" ∧ y.cls ≠ "java/lang/invoke/VarHandle") (hM : MetFree l y (head1 [Jvm.Cond.code y bytes maxL ret] rm) (fun a U => a = as' ∧ Z.Warmed39 U.vm ∧ U.heap = h) (fun _ _ _ _ _ => True) (fun _ U o U' => ∃ v L, o = .returned v ∧ Q v U'.heap L ∧ FrameEnd U o U' L rm.cells rm.slots)) (eT : T.heap = h) (hsize : L.size = c.maxLocals) {argsL : List Value} (has : as' = argsL.toArray) (hlen : ∀ sig, parseMethodDescriptor y.desc = some sig → argsL.length = sig.parameters.length) {st : List Value} (hst : st = argsL.reverse ++ rest) (hd : decode B pc = .ok (.invokestatic index, 3)) (hp : pc + 3 = pc') (hf : rm.frames + 1 ≤ R.frames) {W : Nat} (hW : (rest.map fun v => v.category).sum ≤ W) (hl : W + (maxL + 11) + rm.locals ≤ R.locals) (hc : cells + rm.cells ≤ R.cells) (hs : slots + rm.slots ≤ R.slots) (k : ∀ T' h' L' v, Stand p l e R s m args below meth c T' (locs ++ L') (cells + rm.cells) (slots + rm.slots) → T'.heap = h' → Q v h' L' → Gt p.tables e below F (T'.setTop (mkF m pc' L (v.toList ++ rest)))) : Gt p.tables e below F (T.setTop (mkF m pc L st)) := by
  subst hp has hst
  obtain ⟨v, vm1, ⟨T', L1, k1, n1⟩, -, X', ⟨Lc, hQ, l1, l2, l3⟩, st⟩ := Jvm.LawKit.callS X hx (y := y) hown (mvT hZ w1) (mvT hZ w2) (mvT hZ w4) (mvT hZ w3) hy (backOf (W := W) hM hZ w3 w4 hf hl) (g := mkF m pc L (argsL.reverse ++ rest)) rfl hsize (argsL := argsL) (rest := rest) hlen rfl (by show 2 * 0 + _ ≤ _; rw [Nat.mul_zero, Nat.zero_add]; exact hW) (hb hby hd) (fun _ _ => ⟨rfl, eT, hc, hs⟩)
  dsimp only [Pt.U, Pt.locs, Pt.cells, Pt.slots] at X' l1 l2 l3 st hQ
  subst l1 l2 l3
  exact (k T' _ Lc v X' rfl hQ).go fun t q => st _ q
theorem own_private (X : Stand p l e R s m args below meth c T locs cells slots) (hx : p.tables.exec = Jvm.exec) (hby : c.code = B) (hZ : Z.Warmed39 s.vm) {own : String} {index : Nat} {y : MethodName} {bytes : ByteArray} {maxL : Nat} {ret : Option FieldType} {rm : Room} {as' : Array Value} {Q : Option Value → Heap → List Loc → Prop} (hown : s.vm.findClass own = some m.cls) (w1 : (Jvm.Cond.methodLink own index y).before a0 Z = true) (w2 : (Jvm.Cond.instanceMethod y).before a0 Z = true) {ni : Nat} (w5 : (Jvm.Cond.instantiable y.cls ni).before a0 Z = true) (w6 : (Jvm.Cond.privateMethod y).before a0 Z = true) (w3 : (Jvm.Cond.code y bytes maxL ret).before a0 Z = true) (w4 : (Jvm.Cond.initialized y.cls).before a0 Z = true) (hy : y.cls ≠ "java/lang/invoke/MethodHandle" ∧ y.cls ≠ "java/lang/invoke/VarHandle") (hM : MetFree l y (head1 [Jvm.Cond.code y bytes maxL ret] rm) (fun a U => a = as' ∧ Z.Warmed39 U.vm ∧ U.heap = h) (fun _ _ _ _ _ => True) (fun _ U o U' => ∃ v L, o = .returned v ∧ Q v U'.heap L ∧ FrameEnd U o U' L rm.cells rm.slots)) (eT : T.heap = h) (hsize : L.size = c.maxLocals) {a : Addr} (E : Exa Z h a y.cls) {argsL : List Value} (has : as' = (.ref a :: argsL).toArray) (hlen : ∀ sig, parseMethodDescriptor y.desc = some sig → argsL.length = sig.parameters.length) {st : List Value} (hst : st = argsL.reverse ++ .ref a :: rest) (hd : decode B pc = .ok (.invokevirtual index, 3)) (hp : pc + 3 = pc') (hf : rm.frames + 1 ≤ R.frames) {W : Nat} (hW : (rest.map fun v => v.category).sum ≤ W) (hl : W + (maxL + 11) + rm.locals ≤ R.locals) (hc : cells + rm.cells ≤ R.cells) (hs : slots + rm.slots ≤ R.slots) (k : ∀ T' h' L' v, Stand p l e R s m args below meth c T' (locs ++ L') (cells + rm.cells) (slots + rm.slots) → T'.heap = h' → Q v h' L' → Gt p.tables e below F (T'.setTop (mkF m pc' L (v.toList ++ rest)))) : Gt p.tables e below F (T.setTop (mkF m pc L st)) := by
  subst hp has hst
  obtain ⟨cq, q1, q2⟩ := E.cell
  obtain ⟨cI, kI, i1, i2, -, i3, -⟩ := Cond.instantiable_spec (mv (s := s) (args := args) hZ w5)
  have hpr := Cond.privateMethod_at (mvP (s := s) hZ w6 (args := #[]))
  have hsel := Jvm.Stand.selects_self_of_private i1 i2 (Bool.or_eq_false_iff.mp i3).1 hpr (mvT (s := s) (args := args) hZ w2) hy
  obtain ⟨v, vm1, ⟨T', L1, k1, n1⟩, -, X', ⟨Lc, hQ, l1, l2, l3⟩, st⟩ := X.privateBack hx (y := y) hown (mvT hZ w1) (mvT hZ w2) hsel hpr (mvT hZ w3) hy (backOf (W := W) hM hZ w3 w4 hf hl) (g := mkF m pc L (argsL.reverse ++ .ref a :: rest)) rfl hsize (Steps.refl _) (a := a) (by rw [eT]; exact q1) q2 (argsL := argsL) (rest := rest) hlen rfl (by show 2 * 0 + _ ≤ _; rw [Nat.mul_zero, Nat.zero_add]; exact hW) (hb hby hd) (fun _ _ => ⟨rfl, eT, hc, hs⟩)
  dsimp only [Pt.U, Pt.locs, Pt.cells, Pt.slots] at X' l1 l2 l3 st hQ
  subst l1 l2 l3
  exact (k T' _ Lc v X' rfl hQ).go fun t q => st.trans q
theorem own_retV (X : Stand p l e R s m args below meth c T locs cells slots) (hx : p.tables.exec = Jvm.exec) (hby : c.code = B) (hlocks : meth.locks = false) {Q : Option Value → Heap → List Loc → Prop} {kc ks : Nat} (hret : meth.sig.returnType = none) (hd : decode B pc = .ok (.return_, 1)) (hc : cells ≤ kc) (hs : slots ≤ ks) (eT : T.heap = h) (hq : Q none h locs) : Gt p.tables e below (fun o U' => ∃ v Lc, o = .returned v ∧ Q v U'.heap Lc ∧ FrameEnd s o U' Lc kc ks) (T.setTop (mkF m pc L [])) := by
  subst eT
  obtain ⟨fs, hr, hrun, hended, hW, hsame⟩ := X.leave (v := none) (fun _ => rfl) hlocks
  exact ⟨_, _, X.returnOut hx hret (hb hby hd) hr, hrun, hended, _, _, rfl, hq, ⟨_, rfl⟩, hW, hsame.mono hc hs⟩
theorem own_retI (X : Stand p l e R s m args below meth c T locs cells slots) (hx : p.tables.exec = Jvm.exec) (hby : c.code = B) (hlocks : meth.locks = false) {Q : Option Value → Heap → List Loc → Prop} {kc ks : Nat} (hret : meth.sig.returnType = some .int) {z : Int32} (hd : decode B pc = .ok (.ireturn, 1)) (hc : cells ≤ kc) (hs : slots ≤ ks) (eT : T.heap = h) (hq : Q (some (.int z)) h locs) : Gt p.tables e below (fun o U' => ∃ v Lc, o = .returned v ∧ Q v U'.heap Lc ∧ FrameEnd s o U' Lc kc ks) (T.setTop (mkF m pc L (.int z :: rest))) := by
  subst eT
  obtain ⟨fs, hr, hrun, hended, hW, hsame⟩ := X.leave (v := (some (.int z))) (fun h => by rw [hret] at h; cases h) hlocks
  exact ⟨_, _, retOut X hx hret rfl (Or.inl ⟨rfl, Or.inl rfl, z, rfl⟩) (hb hby hd) hr, hrun, hended, _, _, rfl, hq, ⟨_, rfl⟩, hW, hsame.mono hc hs⟩
theorem own_retL (X : Stand p l e R s m args below meth c T locs cells slots) (hx : p.tables.exec = Jvm.exec) (hby : c.code = B) (hlocks : meth.locks = false) {Q : Option Value → Heap → List Loc → Prop} {kc ks : Nat} (hret : meth.sig.returnType = some .long) {z : Int64} (hd : decode B pc = .ok (.lreturn, 1)) (hc : cells ≤ kc) (hs : slots ≤ ks) (eT : T.heap = h) (hq : Q (some (.long z)) h locs) : Gt p.tables e below (fun o U' => ∃ v Lc, o = .returned v ∧ Q v U'.heap Lc ∧ FrameEnd s o U' Lc kc ks) (T.setTop (mkF m pc L (.long z :: rest))) := by
  subst eT
  obtain ⟨fs, hr, hrun, hended, hW, hsame⟩ := X.leave (v := (some (.long z))) (fun h => by rw [hret] at h; cases h) hlocks
  exact ⟨_, _, retOut X hx hret rfl (Or.inr (Or.inl ⟨rfl, rfl, z, rfl⟩)) (hb hby hd) hr, hrun, hended, _, _, rfl, hq, ⟨_, rfl⟩, hW, hsame.mono hc hs⟩
theorem own_retD (X : Stand p l e R s m args below meth c T locs cells slots) (hx : p.tables.exec = Jvm.exec) (hby : c.code = B) (hlocks : meth.locks = false) {Q : Option Value → Heap → List Loc → Prop} {kc ks : Nat} (hret : meth.sig.returnType = some .double) {z : UInt64} (hd : decode B pc = .ok (.dreturn, 1)) (hc : cells ≤ kc) (hs : slots ≤ ks) (eT : T.heap = h) (hq : Q (some (.double z)) h locs) : Gt p.tables e below (fun o U' => ∃ v Lc, o = .returned v ∧ Q v U'.heap Lc ∧ FrameEnd s o U' Lc kc ks) (T.setTop (mkF m pc L (.double z :: rest))) := by
  subst eT
  obtain ⟨fs, hr, hrun, hended, hW, hsame⟩ := X.leave (v := (some (.double z))) (fun h => by rw [hret] at h; cases h) hlocks
  exact ⟨_, _, retOut X hx hret rfl (Or.inr (Or.inr (Or.inl ⟨rfl, rfl, z, rfl⟩))) (hb hby hd) hr, hrun, hended, _, _, rfl, hq, ⟨_, rfl⟩, hW, hsame.mono hc hs⟩
theorem own_retZ (X : Stand p l e R s m args below meth c T locs cells slots) (hx : p.tables.exec = Jvm.exec) (hby : c.code = B) (hlocks : meth.locks = false) {Q : Option Value → Heap → List Loc → Prop} {kc ks : Nat} (hret : meth.sig.returnType = some .boolean) {z : Int32} (hz : z = 0 ∨ z = 1) (hd : decode B pc = .ok (.ireturn, 1)) (hc : cells ≤ kc) (hs : slots ≤ ks) (eT : T.heap = h) (hq : Q (some (.int z)) h locs) : Gt p.tables e below (fun o U' => ∃ v Lc, o = .returned v ∧ Q v U'.heap Lc ∧ FrameEnd s o U' Lc kc ks) (T.setTop (mkF m pc L (.int z :: rest))) := by
  subst eT
  obtain ⟨fs, hr, hrun, hended, hW, hsame⟩ := X.leave (v := (some (.int z))) (fun h => by rw [hret] at h; cases h) hlocks
  exact ⟨_, _, retOut X hx hret (by rcases hz with rfl | rfl <;> rfl) (Or.inl ⟨rfl, Or.inr (Or.inl rfl), z, rfl⟩) (hb hby hd) hr, hrun, hended, _, _, rfl, hq, ⟨_, rfl⟩, hW, hsame.mono hc hs⟩
theorem own_retA (X : Stand p l e R s m args below meth c T locs cells slots) (hx : p.tables.exec = Jvm.exec) (hby : c.code = B) (hlocks : meth.locks = false) {Q : Option Value → Heap → List Loc → Prop} {kc ks : Nat} {t : FieldType} (hret : meth.sig.returnType = some t) (ht : t.isReference = true) {z : Value} (hz : z.isRef = true) (hd : decode B pc = .ok (.areturn, 1)) (hc : cells ≤ kc) (hs : slots ≤ ks) (eT : T.heap = h) (hq : Q (some z) h locs) : Gt p.tables e below (fun o U' => ∃ v Lc, o = .returned v ∧ Q v U'.heap Lc ∧ FrameEnd s o U' Lc kc ks) (T.setTop (mkF m pc L (z :: rest))) := by
  subst eT
  obtain ⟨fs, hr, hrun, hended, hW, hsame⟩ := X.leave (v := (some z)) (fun h => by rw [hret] at h; cases h) hlocks
  exact ⟨_, _, retOut X hx hret (by rcases ref_cases hz with rfl | ⟨a, rfl⟩ <;> cases t <;> simp_all [narrow, FieldType.isReference]) (Or.inr (Or.inr (Or.inr (Or.inr ⟨rfl, ht, hz⟩)))) (hb hby hd) hr, hrun, hended, _, _, rfl, hq, ⟨_, rfl⟩, hW, hsame.mono hc hs⟩
end OwnG
section OwnA
variable {p : Program} {l : Launch} {e : Env} {R : Room} {s : State} {m : MethodId} {args : Array Value} {below : List Frame} {meth : Method} {c : Code} {T : State} {locs : List Loc} {cells slots : Nat} {Z : State} {a0 : Array Value} {h h' : Heap} {B : ByteArray} {pc pc' : Nat} {L L' : Array Slot} {rest : List Value} {F : Outcome → State → Prop} {a b : Addr} {ty : FieldType} {vs : List Value} {P : ClassId → Prop} {sl : Nat} {v : Value} {ws : List Addr}
def tr (_ : ClassId) : Prop := True
/-- an array at a of kind ty whose components are the list vs, of a class with P -/
def Ary (P : ClassId → Prop) (Z : State) (h : Heap) (a : Addr) (ty : FieldType) (vs : List Value) : Prop := ∃ c : Cell, Arr Z h a c ty ∧ P c.cls ∧ c.slots.toList = vs ∧ vs.length < 2 ^ 31
theorem Ary.lt (V : Ary P Z h a ty vs) : a < h.size := by obtain ⟨c, A, -⟩ := V; exact A.lt
theorem Ary.ext (V : Ary P Z h a ty vs) (E : Ext h h') : Ary P Z h' a ty vs := by obtain ⟨c, A, r⟩ := V; exact ⟨c, A.ext E, r⟩
theorem Ary.other (V : Ary P Z h b ty vs) (W : Wr h h' a sl v) (q : b ≠ a) : Ary P Z h' b ty vs := by obtain ⟨c, A, r⟩ := V; exact ⟨c, A.other W q, r⟩
theorem Ary.keep (V : Ary P Z h a ty vs) (K : Keep h h' ws) (q : a ∉ ws) : Ary P Z h' a ty vs := by obtain ⟨c, A, r⟩ := V; exact ⟨c, ⟨K.2.1 a c A.1 q, A.2⟩, r⟩
theorem Ary.set (V : Ary P Z h a ty vs) (W : Wr h h' a sl v) : Ary P Z h' a ty (vs.set sl v) := by
  obtain ⟨c, A, q, r, t⟩ := V
  refine ⟨_, A.same W, q, ?_, by rw [List.length_set]; exact t⟩
  show (c.slots.setIfInBounds sl v).toList = _
  rw [Array.toList_setIfInBounds, r]
theorem Ary.size {cl : Cell} (r : cl.slots.toList = vs) : cl.slots.size = vs.length := by rw [← r]; simp
theorem Ary.inb {cl : Cell} {i : Int32} (r : cl.slots.toList = vs) (hi : ¬ i < 0) (hl : i.toNatClampNeg < vs.length) : ¬ (i < 0 ∨ cl.slots.size ≤ i.toNatClampNeg) := by
  rw [Ary.size r]; intro q; rcases q with q | q
  · exact hi q
  · omega
theorem Ary.at {cl : Cell} {i : Nat} (r : cl.slots.toList = vs) (hg : vs[i]? = some v) : cl.slots[i]? = some v := by
  rw [← hg, ← r]; simp
theorem own_alen (X : Stand p l e R s m args below meth c T locs cells slots) (hx : p.tables.exec = Jvm.exec) (hby : c.code = B) (hZ : Z.Warmed39 s.vm) (eT : T.heap = h) (V : Ary P Z h a ty vs) {z : Int32} (hz : vs.length.toInt32 = z) (hd : decode B pc = .ok (.arraylength, 1)) (hp : pc + 1 = pc') (k : Gt p.tables e below F (T.setTop (mkF m pc' L (.int z :: rest)))) : Gt p.tables e below F (T.setTop (mkF m pc L (.ref a :: rest))) := by
  subst hp hz
  obtain ⟨cl, A, -, r, t⟩ := V
  refine k.go fun t q => X.arraylength hx (by rw [eT]; exact A.1) (State.isArrayOf_alike hZ.alike A.2.1) (g := mkF m pc L (.ref a :: rest)) rfl rfl (hb hby hd) _ ?_
  rw [Ary.size r]; exact q
theorem own_iaload (X : Stand p l e R s m args below meth c T locs cells slots) (hx : p.tables.exec = Jvm.exec) (hby : c.code = B) (hZ : Z.Warmed39 s.vm) (eT : T.heap = h) (V : Ary P Z h a .int vs) {i : Int32} (hi : ¬ i < 0) (hg : vs[i.toNatClampNeg]? = some v) (hd : decode B pc = .ok (.iaload, 1)) (hp : pc + 1 = pc') (k : Gt p.tables e below F (T.setTop (mkF m pc' L (v :: rest)))) : Gt p.tables e below F (T.setTop (mkF m pc L (.int i :: .ref a :: rest))) := by
  subst hp
  obtain ⟨cl, A, -, r, t⟩ := V
  exact k.go fun t q => X.iaload hx (by rw [eT]; exact A.1) (State.isArrayOf_alike hZ.alike A.2.1) A.2.2 (Ary.inb r hi (List.getElem?_eq_some_iff.mp hg).1) (Ary.at r hg) (g := mkF m pc L (.int i :: .ref a :: rest)) rfl rfl (hb hby hd) _ q
theorem own_laload (X : Stand p l e R s m args below meth c T locs cells slots) (hx : p.tables.exec = Jvm.exec) (hby : c.code = B) (hZ : Z.Warmed39 s.vm) (eT : T.heap = h) (V : Ary P Z h a .long vs) {i : Int32} (hi : ¬ i < 0) (hg : vs[i.toNatClampNeg]? = some v) (hd : decode B pc = .ok (.laload, 1)) (hp : pc + 1 = pc') (k : Gt p.tables e below F (T.setTop (mkF m pc' L (v :: rest)))) : Gt p.tables e below F (T.setTop (mkF m pc L (.int i :: .ref a :: rest))) := by
  subst hp
  obtain ⟨cl, A, -, r, t⟩ := V
  exact k.go fun t q => X.laload hx (by rw [eT]; exact A.1) (State.isArrayOf_alike hZ.alike A.2.1) A.2.2 (Ary.inb r hi (List.getElem?_eq_some_iff.mp hg).1) (Ary.at r hg) (g := mkF m pc L (.int i :: .ref a :: rest)) rfl rfl (hb hby hd) _ q
theorem own_daload (X : Stand p l e R s m args below meth c T locs cells slots) (hx : p.tables.exec = Jvm.exec) (hby : c.code = B) (hZ : Z.Warmed39 s.vm) (eT : T.heap = h) (V : Ary P Z h a .double vs) {i : Int32} (hi : ¬ i < 0) (hg : vs[i.toNatClampNeg]? = some v) (hd : decode B pc = .ok (.daload, 1)) (hp : pc + 1 = pc') (k : Gt p.tables e below F (T.setTop (mkF m pc' L (v :: rest)))) : Gt p.tables e below F (T.setTop (mkF m pc L (.int i :: .ref a :: rest))) := by
  subst hp
  obtain ⟨cl, A, -, r, t⟩ := V
  exact k.go fun t q => X.daload hx (by rw [eT]; exact A.1) (State.isArrayOf_alike hZ.alike A.2.1) A.2.2 (Ary.inb r hi (List.getElem?_eq_some_iff.mp hg).1) (Ary.at r hg) (g := mkF m pc L (.int i :: .ref a :: rest)) rfl rfl (hb hby hd) _ q
theorem own_aaload (X : Stand p l e R s m args below meth c T locs cells slots) (hx : p.tables.exec = Jvm.exec) (hby : c.code = B) (hZ : Z.Warmed39 s.vm) (eT : T.heap = h) (V : Ary P Z h a ty vs) (hty : ty.isReference = true) {i : Int32} (hi : ¬ i < 0) (hg : vs[i.toNatClampNeg]? = some v) (hd : decode B pc = .ok (.aaload, 1)) (hp : pc + 1 = pc') (k : Gt p.tables e below F (T.setTop (mkF m pc' L (v :: rest)))) : Gt p.tables e below F (T.setTop (mkF m pc L (.int i :: .ref a :: rest))) := by
  subst hp
  obtain ⟨cl, A, -, r, t⟩ := V
  exact k.go fun t q => X.aaload hx (by rw [eT]; exact A.1) (State.isArrayOf_alike hZ.alike A.2.1) hty A.2.2 (Ary.inb r hi (List.getElem?_eq_some_iff.mp hg).1) (Ary.at r hg) (g := mkF m pc L (.int i :: .ref a :: rest)) rfl rfl (hb hby hd) _ q
theorem own_iastore (X : Stand p l e R s m args below meth c T locs cells slots) (hx : p.tables.exec = Jvm.exec) (hby : c.code = B) (hZ : Z.Warmed39 s.vm) (eT : T.heap = h) (V : Ary P Z h a .int vs) {i x : Int32} {n : Nat} (hi : ¬ i < 0) (hn : i.toNatClampNeg = n) (hl : n < vs.length) (hd : decode B pc = .ok (.iastore, 1)) (hp : pc + 1 = pc') (k : ∀ T' h', Stand p l e R s m args below meth c T' (locs ++ [⟨a, n⟩]) cells slots → T'.heap = h' → Wr h h' a n (.int x) → Gt p.tables e below F (T'.setTop (mkF m pc' L rest))) : Gt p.tables e below F (T.setTop (mkF m pc L (.int x :: .int i :: .ref a :: rest))) := by
  subst hp hn
  obtain ⟨cl, A, -, r, t⟩ := V
  obtain ⟨T', h', X', e', W, st⟩ := stI X hx hZ eT A (Ary.inb r hi hl) (g := mkF m pc L (.int x :: .int i :: .ref a :: rest)) rfl rfl (hb hby hd)
  exact (k T' h' X' e' W).go st
theorem own_lastore (X : Stand p l e R s m args below meth c T locs cells slots) (hx : p.tables.exec = Jvm.exec) (hby : c.code = B) (hZ : Z.Warmed39 s.vm) (eT : T.heap = h) (V : Ary P Z h a .long vs) {i : Int32} {x : Int64} {n : Nat} (hi : ¬ i < 0) (hn : i.toNatClampNeg = n) (hl : n < vs.length) (hd : decode B pc = .ok (.lastore, 1)) (hp : pc + 1 = pc') (k : ∀ T' h', Stand p l e R s m args below meth c T' (locs ++ [⟨a, n⟩]) cells slots → T'.heap = h' → Wr h h' a n (.long x) → Gt p.tables e below F (T'.setTop (mkF m pc' L rest))) : Gt p.tables e below F (T.setTop (mkF m pc L (.long x :: .int i :: .ref a :: rest))) := by
  subst hp hn
  obtain ⟨cl, A, -, r, t⟩ := V
  obtain ⟨T', h', X', e', W, st⟩ := stJ X hx hZ eT A (Ary.inb r hi hl) (g := mkF m pc L (.long x :: .int i :: .ref a :: rest)) rfl rfl (hb hby hd)
  exact (k T' h' X' e' W).go st
theorem own_dastore (X : Stand p l e R s m args below meth c T locs cells slots) (hx : p.tables.exec = Jvm.exec) (hby : c.code = B) (hZ : Z.Warmed39 s.vm) (eT : T.heap = h) (V : Ary P Z h a .double vs) {i : Int32} {x : UInt64} {n : Nat} (hi : ¬ i < 0) (hn : i.toNatClampNeg = n) (hl : n < vs.length) (hd : decode B pc = .ok (.dastore, 1)) (hp : pc + 1 = pc') (k : ∀ T' h', Stand p l e R s m args below meth c T' (locs ++ [⟨a, n⟩]) cells slots → T'.heap = h' → Wr h h' a n (.double x) → Gt p.tables e below F (T'.setTop (mkF m pc' L rest))) : Gt p.tables e below F (T.setTop (mkF m pc L (.double x :: .int i :: .ref a :: rest))) := by
  subst hp hn
  obtain ⟨cl, A, -, r, t⟩ := V
  obtain ⟨T', h', X', e', W, st⟩ := stD X hx hZ eT A (Ary.inb r hi hl) (g := mkF m pc L (.double x :: .int i :: .ref a :: rest)) rfl rfl (hb hby hd)
  exact (k T' h' X' e' W).go st
/-- what lies in it: an array class over C -/
def ovA (Z : State) (ty : FieldType) (C : String) (k : ClassId) : Prop := OvrA Z k ty C
def ovO (Z : State) (C : String) (k : ClassId) : Prop := Ovr Z k C
theorem own_aastoreA (X : Stand p l e R s m args below meth c T locs cells slots) (hx : p.tables.exec = Jvm.exec) (hby : c.code = B) (hZ : Z.Warmed39 s.vm) (eT : T.heap = h) {C : String} (V : Ary (ovA Z ty C) Z h a (.array ty) vs) {i : Int32} {x : Addr} {n : Nat} (E : Exa Z h x C) (hi : ¬ i < 0) (hn : i.toNatClampNeg = n) (hl : n < vs.length) (hd : decode B pc = .ok (.aastore, 1)) (hp : pc + 1 = pc') (k : ∀ T' h', Stand p l e R s m args below meth c T' (locs ++ [⟨a, n⟩]) cells slots → T'.heap = h' → Wr h h' a n (.ref x) → Gt p.tables e below F (T'.setTop (mkF m pc' L rest))) : Gt p.tables e below F (T.setTop (mkF m pc L (.ref x :: .int i :: .ref a :: rest))) := by
  subst hp hn
  obtain ⟨cl, A, O, r, t⟩ := V
  obtain ⟨T', h', X', e', W, st⟩ := stR X hx hZ eT A (Ary.inb r hi hl) rfl (Sto.ofVA A rfl O (Ins.self E)) (g := mkF m pc L (.ref x :: .int i :: .ref a :: rest)) rfl rfl (hb hby hd)
  exact (k T' h' X' e' W).go st
theorem own_aastoreO (X : Stand p l e R s m args below meth c T locs cells slots) (hx : p.tables.exec = Jvm.exec) (hby : c.code = B) (hZ : Z.Warmed39 s.vm) (eT : T.heap = h) {C : String} (V : Ary (ovO Z C) Z h a (.object C) vs) {i : Int32} {x : Addr} {n : Nat} (E : Exa Z h x C) (hi : ¬ i < 0) (hn : i.toNatClampNeg = n) (hl : n < vs.length) (hd : decode B pc = .ok (.aastore, 1)) (hp : pc + 1 = pc') (k : ∀ T' h', Stand p l e R s m args below meth c T' (locs ++ [⟨a, n⟩]) cells slots → T'.heap = h' → Wr h h' a n (.ref x) → Gt p.tables e below F (T'.setTop (mkF m pc' L rest))) : Gt p.tables e below F (T.setTop (mkF m pc L (.ref x :: .int i :: .ref a :: rest))) := by
  subst hp hn
  obtain ⟨cl, A, O, r, t⟩ := V
  obtain ⟨T', h', X', e', W, st⟩ := stR X hx hZ eT A (Ary.inb r hi hl) rfl (Sto.of A O (Ins.self E)) (g := mkF m pc L (.ref x :: .int i :: .ref a :: rest)) rfl rfl (hb hby hd)
  exact (k T' h' X' e' W).go st
theorem own_newP (X : Stand p l e R s m args below meth c T locs cells slots) (hx : p.tables.exec = Jvm.exec) (hby : c.code = B) (hZ : Z.Warmed39 s.vm) {aty : ArrayType} (w : (Jvm.Cond.arrayClass (newarray.typeOf aty)).before a0 Z = true) (eT : T.heap = h) (hd : decode B pc = .ok (.newarray aty, 2)) (hp : pc + 2 = pc') {n : Int32} (hn : ¬ n < 0) {N : Nat} (hN : n.toNatClampNeg = N) {cap : Nat} (hcap : N ≤ cap) (hbb : cap * 8 ≤ 536870912) (hc : cells + 1 ≤ R.cells) (hl : slots + cap ≤ R.slots) {ad : String} (had : "[" ++ (newarray.typeOf aty).toString = ad)
    (k : ∀ T' h' a, Stand p l e R s m args below meth c T' locs (cells + 1) (slots + cap) → T'.heap = h' → Ext h h' → h.size = a → Exa Z h' a ad → Ary tr Z h' a (newarray.typeOf aty) (List.replicate N (defaultValue (newarray.typeOf aty))) → Gt p.tables e below F (T'.setTop (mkF m pc' L (.ref a :: rest)))) : Gt p.tables e below F (T.setTop (mkF m pc L (.int n :: rest))) := by
  subst hp hN
  obtain ⟨T', h', cA, X', e', E', A', Ex, st⟩ := newPE X hx hZ w eT (g := mkF m pc L (.int n :: rest)) rfl (hb hby hd) rfl hn hcap hbb hc hl had
  exact (k T' h' _ X' e' E' rfl Ex ⟨_, A', trivial, by simp [newA], by rw [List.length_replicate]; exact (back32 hn).2⟩).go st
theorem own_newRA (X : Stand p l e R s m args below meth c T locs cells slots) (hx : p.tables.exec = Jvm.exec) (hby : c.code = B) (hZ : Z.Warmed39 s.vm) {own C : String} {index : Nat} (hown : s.vm.findClass own = some m.cls) (hC : (FieldType.array ty).toString = C) (w1 : (Jvm.Cond.classLink own index C).before a0 Z = true) (w2 : (Jvm.Cond.arrayOver (.array ty)).before a0 Z = true) (eT : T.heap = h) (hd : decode B pc = .ok (.anewarray index, 3)) (hp : pc + 3 = pc') {n : Int32} (hn : ¬ n < 0) {N : Nat} (hN : n.toNatClampNeg = N) {cap : Nat} (hcap : N ≤ cap) (hbb : cap * 8 ≤ 536870912) (hc : cells + 1 ≤ R.cells) (hl : slots + cap ≤ R.slots) {ad : String} (had : "[" ++ C = ad)
    (k : ∀ T' h' a, Stand p l e R s m args below meth c T' locs (cells + 1) (slots + cap) → T'.heap = h' → Ext h h' → h.size = a → Exa Z h' a ad → Ary (ovA Z ty C) Z h' a (.array ty) (List.replicate N .null) → Gt p.tables e below F (T'.setTop (mkF m pc' L (.ref a :: rest)))) : Gt p.tables e below F (T.setTop (mkF m pc L (.int n :: rest))) := by
  subst hp hN
  obtain ⟨T', h', cA, X', e', E', A', Ex, O, st⟩ := newRA X hx hZ hown hC w1 w2 eT (g := mkF m pc L (.int n :: rest)) rfl (hb hby hd) rfl hn hcap hbb hc hl had
  exact (k T' h' _ X' e' E' rfl Ex ⟨_, A', O, by simp [newA, defaultValue], by rw [List.length_replicate]; exact (back32 hn).2⟩).go st
theorem own_newRO (X : Stand p l e R s m args below meth c T locs cells slots) (hx : p.tables.exec = Jvm.exec) (hby : c.code = B) (hZ : Z.Warmed39 s.vm) {own C : String} {index : Nat} (hown : s.vm.findClass own = some m.cls) (w1 : (Jvm.Cond.classLink own index C).before a0 Z = true) (w2 : (Jvm.Cond.arrayOver (.object C)).before a0 Z = true) (eT : T.heap = h) (hd : decode B pc = .ok (.anewarray index, 3)) (hp : pc + 3 = pc') {n : Int32} (hn : ¬ n < 0) {N : Nat} (hN : n.toNatClampNeg = N) {cap : Nat} (hcap : N ≤ cap) (hbb : cap * 8 ≤ 536870912) (hc : cells + 1 ≤ R.cells) (hl : slots + cap ≤ R.slots) {ad : String} (had : "[" ++ (FieldType.object C).toString = ad)
    (k : ∀ T' h' a, Stand p l e R s m args below meth c T' locs (cells + 1) (slots + cap) → T'.heap = h' → Ext h h' → h.size = a → Exa Z h' a ad → Ary (ovO Z C) Z h' a (.object C) (List.replicate N .null) → Gt p.tables e below F (T'.setTop (mkF m pc' L (.ref a :: rest)))) : Gt p.tables e below F (T.setTop (mkF m pc L (.int n :: rest))) := by
  subst hp hN
  obtain ⟨T', h', cA, X', e', E', A', Ex, O, st⟩ := newRE X hx hZ hown w1 w2 eT (g := mkF m pc L (.int n :: rest)) rfl (hb hby hd) rfl hn hcap hbb hc hl had
  exact (k T' h' _ X' e' E' rfl Ex ⟨_, A', O, by simp [newA, defaultValue], by rw [List.length_replicate]; exact (back32 hn).2⟩).go st
/-- new T[3][3] of a primitive kind -/
theorem own_grid3 (X : Stand p l e R s m args below meth c T locs cells slots) (hx : p.tables.exec = Jvm.exec) (hby : c.code = B) (hZ : Z.Warmed39 s.vm) {own C ad : String} {index : Nat} (hown : s.vm.findClass own = some m.cls) (hC : (FieldType.array ty).toString = C) (had : "[" ++ C = ad)
    (w1 : (Jvm.Cond.classLink own index ad).before a0 Z = true) (w2 : (Jvm.Cond.arrayOver (.array ty)).before a0 Z = true) (w3 : (Jvm.Cond.arrayClass ty).before a0 Z = true) (eT : T.heap = h) (hd : decode B pc = .ok (.multianewarray index 2, 4)) (hp : pc + 4 = pc') (hdf : fits ty (defaultValue ty) = true) (hdd : (defaultValue ty).isDefault = true) (hc : cells + 4 ≤ R.cells) (hl : slots + 12 ≤ R.slots)
    (k : ∀ T' h' a b1 b2 b3, Stand p l e R s m args below meth c T' locs (cells + 4) (slots + 12) → T'.heap = h' → Ext h h' → h.size = a → a < b1 → b1 < b2 → b2 < b3 → Exa Z h' a ad → Ary (ovA Z ty C) Z h' a (.array ty) [.ref b1, .ref b2, .ref b3] → Exa Z h' b1 C → Exa Z h' b2 C → Exa Z h' b3 C → Ary tr Z h' b1 ty [defaultValue ty, defaultValue ty, defaultValue ty] → Ary tr Z h' b2 ty [defaultValue ty, defaultValue ty, defaultValue ty] → Ary tr Z h' b3 ty [defaultValue ty, defaultValue ty, defaultValue ty] → Gt p.tables e below F (T'.setTop (mkF m pc' L (.ref a :: rest)))) : Gt p.tables e below F (T.setTop (mkF m pc L (.int 3 :: .int 3 :: rest))) := by
  subst hp
  obtain ⟨T', h', cA, comp, X', e', E', ⟨cl, A1, A2, A3, A4, A5, A6⟩, O, Ex, I, st⟩ := gridM X hx hZ hown hC had w1 w2 w3 eT (g := mkF m pc L (.int 3 :: .int 3 :: rest)) rfl (hb hby hd) (n := 3) (k := 3) rfl (by decide) (by decide) (N := 3) (by decide) (xs := [h.size + 1, h.size + 2, h.size + 3]) rfl (cap := 3) (by decide) (by decide) (by decide) hdf hdd hc hl
  have i1 := I 0 _ rfl; have i2 := I 1 _ rfl; have i3 := I 2 _ rfl
  have f : ∀ x, Arr Z h' x (newA comp ty 3) ty → Ary tr Z h' x ty [defaultValue ty, defaultValue ty, defaultValue ty] := fun x q => ⟨_, q, trivial, by simp [newA], by show 3 < 2 ^ 31; decide⟩
  refine (k T' h' _ _ _ _ X' e' E' rfl (Nat.lt_succ_self _) (Nat.lt_succ_self _) (Nat.lt_succ_self _) Ex ⟨cl, A1, A2 ▸ O, ?_, by show 3 < 2 ^ 31; decide⟩ i1.2 i2.2 i3.2 (f _ i1.1) (f _ i2.1) (f _ i3.1)).go st
  have sz : cl.slots.size = 3 := A3
  refine List.ext_getElem? fun i => ?_
  by_cases hi : i < 3
  · have q := A5 i (by omega)
    rw [Array.getElem?_toList, q]
    match i, hi with
    | 0, _ => rfl
    | 1, _ => rfl
    | 2, _ => rfl
  · rw [List.getElem?_eq_none (by simp; omega), List.getElem?_eq_none (by simp; omega)]
end OwnA
section OwnL
theorem own_lget {α : Type} {L : List α} {d : α} {i : Nat} {f : α → Value} (h : i < L.length) : (L.map f)[i]? = some (f (L.getD i d)) := by
  rw [List.getElem?_map, List.getD_eq_getElem?_getD, List.getElem?_eq_getElem h]; rfl
theorem own_rg0 {i : Int32} {m : Int} (h : 0 ≤ i.toInt ∧ i.toInt < m) : ¬ i < 0 := by
  rw [Int32.lt_iff_toInt_lt]; have : (0 : Int32).toInt = 0 := by decide
  omega
theorem own_rgl {α : Type} {L : List α} {i : Int32} {m : Int} {n : Nat} (h : 0 ≤ i.toInt ∧ i.toInt < m) (hl : L.length = n) (e : m.toNat = n := by rfl) : i.toNatClampNeg < L.length := by
  show i.toInt.toNat < _; omega
end OwnL
section OwnC
variable {x y : UInt64} {i j : Int64} {a b : Int32}
abbrev dlt (x y : UInt64) : Prop := FP.dcmp x y = some .lt
abbrev dgt (x y : UInt64) : Prop := FP.dcmp x y = some .gt
abbrev deq (x y : UInt64) : Prop := FP.dcmp x y = some .eq
abbrev dle (x y : UInt64) : Prop := FP.dcmp x y = some .lt ∨ FP.dcmp x y = some .eq
abbrev dge (x y : UInt64) : Prop := FP.dcmp x y = some .gt ∨ FP.dcmp x y = some .eq
theorem own_dl_lt_p (h : dge x y) : ifCond.holds .lt (cmpValue (FP.dcmp x y) .l) = false := by
  unfold dge at h; revert h; generalize FP.dcmp x y = o; rcases o with _ | (_ | _ | _) <;> decide
theorem own_dl_lt_n (h : ¬ dge x y) : ifCond.holds .lt (cmpValue (FP.dcmp x y) .l) = true := by
  unfold dge at h; revert h; generalize FP.dcmp x y = o; rcases o with _ | (_ | _ | _) <;> decide
theorem own_dl_ge_p (h : dge x y) : ifCond.holds .ge (cmpValue (FP.dcmp x y) .l) = true := by
  unfold dge at h; revert h; generalize FP.dcmp x y = o; rcases o with _ | (_ | _ | _) <;> decide
theorem own_dl_ge_n (h : ¬ dge x y) : ifCond.holds .ge (cmpValue (FP.dcmp x y) .l) = false := by
  unfold dge at h; revert h; generalize FP.dcmp x y = o; rcases o with _ | (_ | _ | _) <;> decide
theorem own_dl_gt_p (h : dgt x y) : ifCond.holds .gt (cmpValue (FP.dcmp x y) .l) = true := by
  unfold dgt at h; revert h; generalize FP.dcmp x y = o; rcases o with _ | (_ | _ | _) <;> decide
theorem own_dl_gt_n (h : ¬ dgt x y) : ifCond.holds .gt (cmpValue (FP.dcmp x y) .l) = false := by
  unfold dgt at h; revert h; generalize FP.dcmp x y = o; rcases o with _ | (_ | _ | _) <;> decide
theorem own_dl_le_p (h : dgt x y) : ifCond.holds .le (cmpValue (FP.dcmp x y) .l) = false := by
  unfold dgt at h; revert h; generalize FP.dcmp x y = o; rcases o with _ | (_ | _ | _) <;> decide
theorem own_dl_le_n (h : ¬ dgt x y) : ifCond.holds .le (cmpValue (FP.dcmp x y) .l) = true := by
  unfold dgt at h; revert h; generalize FP.dcmp x y = o; rcases o with _ | (_ | _ | _) <;> decide
theorem own_dl_eq_p (h : deq x y) : ifCond.holds .eq (cmpValue (FP.dcmp x y) .l) = true := by
  unfold deq at h; revert h; generalize FP.dcmp x y = o; rcases o with _ | (_ | _ | _) <;> decide
theorem own_dl_eq_n (h : ¬ deq x y) : ifCond.holds .eq (cmpValue (FP.dcmp x y) .l) = false := by
  unfold deq at h; revert h; generalize FP.dcmp x y = o; rcases o with _ | (_ | _ | _) <;> decide
theorem own_dl_ne_p (h : deq x y) : ifCond.holds .ne (cmpValue (FP.dcmp x y) .l) = false := by
  unfold deq at h; revert h; generalize FP.dcmp x y = o; rcases o with _ | (_ | _ | _) <;> decide
theorem own_dl_ne_n (h : ¬ deq x y) : ifCond.holds .ne (cmpValue (FP.dcmp x y) .l) = true := by
  unfold deq at h; revert h; generalize FP.dcmp x y = o; rcases o with _ | (_ | _ | _) <;> decide
theorem own_dg_lt_p (h : dlt x y) : ifCond.holds .lt (cmpValue (FP.dcmp x y) .g) = true := by
  unfold dlt at h; revert h; generalize FP.dcmp x y = o; rcases o with _ | (_ | _ | _) <;> decide
theorem own_dg_lt_n (h : ¬ dlt x y) : ifCond.holds .lt (cmpValue (FP.dcmp x y) .g) = false := by
  unfold dlt at h; revert h; generalize FP.dcmp x y = o; rcases o with _ | (_ | _ | _) <;> decide
theorem own_dg_ge_p (h : dlt x y) : ifCond.holds .ge (cmpValue (FP.dcmp x y) .g) = false := by
  unfold dlt at h; revert h; generalize FP.dcmp x y = o; rcases o with _ | (_ | _ | _) <;> decide
theorem own_dg_ge_n (h : ¬ dlt x y) : ifCond.holds .ge (cmpValue (FP.dcmp x y) .g) = true := by
  unfold dlt at h; revert h; generalize FP.dcmp x y = o; rcases o with _ | (_ | _ | _) <;> decide
theorem own_dg_gt_p (h : dle x y) : ifCond.holds .gt (cmpValue (FP.dcmp x y) .g) = false := by
  unfold dle at h; revert h; generalize FP.dcmp x y = o; rcases o with _ | (_ | _ | _) <;> decide
theorem own_dg_gt_n (h : ¬ dle x y) : ifCond.holds .gt (cmpValue (FP.dcmp x y) .g) = true := by
  unfold dle at h; revert h; generalize FP.dcmp x y = o; rcases o with _ | (_ | _ | _) <;> decide
theorem own_dg_le_p (h : dle x y) : ifCond.holds .le (cmpValue (FP.dcmp x y) .g) = true := by
  unfold dle at h; revert h; generalize FP.dcmp x y = o; rcases o with _ | (_ | _ | _) <;> decide
theorem own_dg_le_n (h : ¬ dle x y) : ifCond.holds .le (cmpValue (FP.dcmp x y) .g) = false := by
  unfold dle at h; revert h; generalize FP.dcmp x y = o; rcases o with _ | (_ | _ | _) <;> decide
theorem own_dg_eq_p (h : deq x y) : ifCond.holds .eq (cmpValue (FP.dcmp x y) .g) = true := by
  unfold deq at h; revert h; generalize FP.dcmp x y = o; rcases o with _ | (_ | _ | _) <;> decide
theorem own_dg_eq_n (h : ¬ deq x y) : ifCond.holds .eq (cmpValue (FP.dcmp x y) .g) = false := by
  unfold deq at h; revert h; generalize FP.dcmp x y = o; rcases o with _ | (_ | _ | _) <;> decide
theorem own_dg_ne_p (h : deq x y) : ifCond.holds .ne (cmpValue (FP.dcmp x y) .g) = false := by
  unfold deq at h; revert h; generalize FP.dcmp x y = o; rcases o with _ | (_ | _ | _) <;> decide
theorem own_dg_ne_n (h : ¬ deq x y) : ifCond.holds .ne (cmpValue (FP.dcmp x y) .g) = true := by
  unfold deq at h; revert h; generalize FP.dcmp x y = o; rcases o with _ | (_ | _ | _) <;> decide
theorem own_lc_lt_p (h : i < j) : ifCond.holds .lt (if i > j then 1 else if i = j then 0 else -1 : Int32) = true := by
  simp only [gt_iff_lt, Int64.lt_iff_toInt_lt, ← Int64.toInt_inj] at h ⊢
  rcases Int.lt_trichotomy i.toInt j.toInt with q | q | q
  · rw [if_neg (by omega), if_neg (by omega)]; first | rfl | (exfalso; omega)
  · rw [if_neg (by omega), if_pos q]; first | rfl | (exfalso; omega)
  · rw [if_pos q]; first | rfl | (exfalso; omega)
theorem own_lc_lt_n (h : ¬ i < j) : ifCond.holds .lt (if i > j then 1 else if i = j then 0 else -1 : Int32) = false := by
  simp only [gt_iff_lt, Int64.lt_iff_toInt_lt, ← Int64.toInt_inj] at h ⊢
  rcases Int.lt_trichotomy i.toInt j.toInt with q | q | q
  · rw [if_neg (by omega), if_neg (by omega)]; first | rfl | (exfalso; omega)
  · rw [if_neg (by omega), if_pos q]; first | rfl | (exfalso; omega)
  · rw [if_pos q]; first | rfl | (exfalso; omega)
theorem own_lc_ge_p (h : i < j) : ifCond.holds .ge (if i > j then 1 else if i = j then 0 else -1 : Int32) = false := by
  simp only [gt_iff_lt, Int64.lt_iff_toInt_lt, ← Int64.toInt_inj] at h ⊢
  rcases Int.lt_trichotomy i.toInt j.toInt with q | q | q
  · rw [if_neg (by omega), if_neg (by omega)]; first | rfl | (exfalso; omega)
  · rw [if_neg (by omega), if_pos q]; first | rfl | (exfalso; omega)
  · rw [if_pos q]; first | rfl | (exfalso; omega)
theorem own_lc_ge_n (h : ¬ i < j) : ifCond.holds .ge (if i > j then 1 else if i = j then 0 else -1 : Int32) = true := by
  simp only [gt_iff_lt, Int64.lt_iff_toInt_lt, ← Int64.toInt_inj] at h ⊢
  rcases Int.lt_trichotomy i.toInt j.toInt with q | q | q
  · rw [if_neg (by omega), if_neg (by omega)]; first | rfl | (exfalso; omega)
  · rw [if_neg (by omega), if_pos q]; first | rfl | (exfalso; omega)
  · rw [if_pos q]; first | rfl | (exfalso; omega)
theorem own_lc_gt_p (h : j < i) : ifCond.holds .gt (if i > j then 1 else if i = j then 0 else -1 : Int32) = true := by
  simp only [gt_iff_lt, Int64.lt_iff_toInt_lt, ← Int64.toInt_inj] at h ⊢
  rcases Int.lt_trichotomy i.toInt j.toInt with q | q | q
  · rw [if_neg (by omega), if_neg (by omega)]; first | rfl | (exfalso; omega)
  · rw [if_neg (by omega), if_pos q]; first | rfl | (exfalso; omega)
  · rw [if_pos q]; first | rfl | (exfalso; omega)
theorem own_lc_gt_n (h : ¬ j < i) : ifCond.holds .gt (if i > j then 1 else if i = j then 0 else -1 : Int32) = false := by
  simp only [gt_iff_lt, Int64.lt_iff_toInt_lt, ← Int64.toInt_inj] at h ⊢
  rcases Int.lt_trichotomy i.toInt j.toInt with q | q | q
  · rw [if_neg (by omega), if_neg (by omega)]; first | rfl | (exfalso; omega)
  · rw [if_neg (by omega), if_pos q]; first | rfl | (exfalso; omega)
  · rw [if_pos q]; first | rfl | (exfalso; omega)
theorem own_lc_le_p (h : j < i) : ifCond.holds .le (if i > j then 1 else if i = j then 0 else -1 : Int32) = false := by
  simp only [gt_iff_lt, Int64.lt_iff_toInt_lt, ← Int64.toInt_inj] at h ⊢
  rcases Int.lt_trichotomy i.toInt j.toInt with q | q | q
  · rw [if_neg (by omega), if_neg (by omega)]; first | rfl | (exfalso; omega)
  · rw [if_neg (by omega), if_pos q]; first | rfl | (exfalso; omega)
  · rw [if_pos q]; first | rfl | (exfalso; omega)
theorem own_lc_le_n (h : ¬ j < i) : ifCond.holds .le (if i > j then 1 else if i = j then 0 else -1 : Int32) = true := by
  simp only [gt_iff_lt, Int64.lt_iff_toInt_lt, ← Int64.toInt_inj] at h ⊢
  rcases Int.lt_trichotomy i.toInt j.toInt with q | q | q
  · rw [if_neg (by omega), if_neg (by omega)]; first | rfl | (exfalso; omega)
  · rw [if_neg (by omega), if_pos q]; first | rfl | (exfalso; omega)
  · rw [if_pos q]; first | rfl | (exfalso; omega)
theorem own_lc_eq_p (h : i = j) : ifCond.holds .eq (if i > j then 1 else if i = j then 0 else -1 : Int32) = true := by
  simp only [gt_iff_lt, Int64.lt_iff_toInt_lt, ← Int64.toInt_inj] at h ⊢
  rcases Int.lt_trichotomy i.toInt j.toInt with q | q | q
  · rw [if_neg (by omega), if_neg (by omega)]; first | rfl | (exfalso; omega)
  · rw [if_neg (by omega), if_pos q]; first | rfl | (exfalso; omega)
  · rw [if_pos q]; first | rfl | (exfalso; omega)
theorem own_lc_eq_n (h : ¬ i = j) : ifCond.holds .eq (if i > j then 1 else if i = j then 0 else -1 : Int32) = false := by
  simp only [gt_iff_lt, Int64.lt_iff_toInt_lt, ← Int64.toInt_inj] at h ⊢
  rcases Int.lt_trichotomy i.toInt j.toInt with q | q | q
  · rw [if_neg (by omega), if_neg (by omega)]; first | rfl | (exfalso; omega)
  · rw [if_neg (by omega), if_pos q]; first | rfl | (exfalso; omega)
  · rw [if_pos q]; first | rfl | (exfalso; omega)
theorem own_lc_ne_p (h : i = j) : ifCond.holds .ne (if i > j then 1 else if i = j then 0 else -1 : Int32) = false := by
  simp only [gt_iff_lt, Int64.lt_iff_toInt_lt, ← Int64.toInt_inj] at h ⊢
  rcases Int.lt_trichotomy i.toInt j.toInt with q | q | q
  · rw [if_neg (by omega), if_neg (by omega)]; first | rfl | (exfalso; omega)
  · rw [if_neg (by omega), if_pos q]; first | rfl | (exfalso; omega)
  · rw [if_pos q]; first | rfl | (exfalso; omega)
theorem own_lc_ne_n (h : ¬ i = j) : ifCond.holds .ne (if i > j then 1 else if i = j then 0 else -1 : Int32) = true := by
  simp only [gt_iff_lt, Int64.lt_iff_toInt_lt, ← Int64.toInt_inj] at h ⊢
  rcases Int.lt_trichotomy i.toInt j.toInt with q | q | q
  · rw [if_neg (by omega), if_neg (by omega)]; first | rfl | (exfalso; omega)
  · rw [if_neg (by omega), if_pos q]; first | rfl | (exfalso; omega)
  · rw [if_pos q]; first | rfl | (exfalso; omega)
theorem own_i0_lt_p (h : a < 0) : ifCond.holds .lt a = true := (if0 _ _).trans (tlt h).1
theorem own_i0_lt_n (h : ¬ a < 0) : ifCond.holds .lt a = false := (if0 _ _).trans (flt h).1
theorem own_i0_ge_p (h : a < 0) : ifCond.holds .ge a = false := (if0 _ _).trans (tlt h).2.1
theorem own_i0_ge_n (h : ¬ a < 0) : ifCond.holds .ge a = true := (if0 _ _).trans (flt h).2.1
theorem own_i0_gt_p (h : 0 < a) : ifCond.holds .gt a = true := (if0 _ _).trans (tlt h).2.2.1
theorem own_i0_gt_n (h : ¬ 0 < a) : ifCond.holds .gt a = false := (if0 _ _).trans (flt h).2.2.1
theorem own_i0_le_p (h : 0 < a) : ifCond.holds .le a = false := (if0 _ _).trans (tlt h).2.2.2
theorem own_i0_le_n (h : ¬ 0 < a) : ifCond.holds .le a = true := (if0 _ _).trans (flt h).2.2.2
theorem own_i0_eq_p (h : a = 0) : ifCond.holds .eq a = true := (if0 _ _).trans (teq h).1
theorem own_i0_eq_n (h : ¬ a = 0) : ifCond.holds .eq a = false := (if0 _ _).trans (feq h).1
theorem own_i0_ne_p (h : a = 0) : ifCond.holds .ne a = false := (if0 _ _).trans (teq h).2
theorem own_i0_ne_n (h : ¬ a = 0) : ifCond.holds .ne a = true := (if0 _ _).trans (feq h).2
theorem own_ic_lt_p (h : a < b) : if_icmp.holds .lt a b = true := (tlt h).1
theorem own_ic_lt_n (h : ¬ a < b) : if_icmp.holds .lt a b = false := (flt h).1
theorem own_ic_ge_p (h : a < b) : if_icmp.holds .ge a b = false := (tlt h).2.1
theorem own_ic_ge_n (h : ¬ a < b) : if_icmp.holds .ge a b = true := (flt h).2.1
theorem own_ic_gt_p (h : b < a) : if_icmp.holds .gt a b = true := (tlt h).2.2.1
theorem own_ic_gt_n (h : ¬ b < a) : if_icmp.holds .gt a b = false := (flt h).2.2.1
theorem own_ic_le_p (h : b < a) : if_icmp.holds .le a b = false := (tlt h).2.2.2
theorem own_ic_le_n (h : ¬ b < a) : if_icmp.holds .le a b = true := (flt h).2.2.2
theorem own_ic_eq_p (h : a = b) : if_icmp.holds .eq a b = true := (teq h).1
theorem own_ic_eq_n (h : ¬ a = b) : if_icmp.holds .eq a b = false := (feq h).1
theorem own_ic_ne_p (h : a = b) : if_icmp.holds .ne a b = false := (teq h).2
theorem own_ic_ne_n (h : ¬ a = b) : if_icmp.holds .ne a b = true := (feq h).2
end OwnC
theorem pn_com_example_dido_dido_StandingRegionRectanglesPinLaw : plainName "com/example/dido/dido/StandingRegionRectanglesPinLaw" = true := by first | (simp [plainName, overriddenIn]; done) | decide +kernel
theorem pn_com_example_dido_dido_StandingRegion : plainName "com/example/dido/dido/StandingRegion" = true := by first | (simp [plainName, overriddenIn]; done) | decide +kernel
theorem pn_java_lang_Record : plainName "java/lang/Record" = true := by first | (simp [plainName, overriddenIn]; done) | decide +kernel
theorem d1_0 : decode prog_24_method_1_code 0 = .ok (.aload_n 0, 1) := by decide +kernel
theorem d1_1 : decode prog_24_method_1_code 1 = .ok (.invokespecial 1, 3) := by decide +kernel
theorem d1_4 : decode prog_24_method_1_code 4 = .ok (.aload_n 0, 1) := by decide +kernel
theorem d1_5 : decode prog_24_method_1_code 5 = .ok (.dload_n 1, 1) := by decide +kernel
theorem d1_6 : decode prog_24_method_1_code 6 = .ok (.putfield 7, 3) := by decide +kernel
theorem d1_9 : decode prog_24_method_1_code 9 = .ok (.aload_n 0, 1) := by decide +kernel
theorem d1_10 : decode prog_24_method_1_code 10 = .ok (.dload_n 3, 1) := by decide +kernel
theorem d1_11 : decode prog_24_method_1_code 11 = .ok (.putfield 13, 3) := by decide +kernel
theorem d1_14 : decode prog_24_method_1_code 14 = .ok (.aload_n 0, 1) := by decide +kernel
theorem d1_15 : decode prog_24_method_1_code 15 = .ok (.dload 5, 2) := by decide +kernel
theorem d1_17 : decode prog_24_method_1_code 17 = .ok (.putfield 16, 3) := by decide +kernel
theorem d1_20 : decode prog_24_method_1_code 20 = .ok (.aload_n 0, 1) := by decide +kernel
theorem d1_21 : decode prog_24_method_1_code 21 = .ok (.dload 7, 2) := by decide +kernel
theorem d1_23 : decode prog_24_method_1_code 23 = .ok (.putfield 19, 3) := by decide +kernel
theorem d1_26 : decode prog_24_method_1_code 26 = .ok (.aload_n 0, 1) := by decide +kernel
theorem d1_27 : decode prog_24_method_1_code 27 = .ok (.dload 9, 2) := by decide +kernel
theorem d1_29 : decode prog_24_method_1_code 29 = .ok (.putfield 22, 3) := by decide +kernel
theorem d1_32 : decode prog_24_method_1_code 32 = .ok (.aload_n 0, 1) := by decide +kernel
theorem d1_33 : decode prog_24_method_1_code 33 = .ok (.dload 11, 2) := by decide +kernel
theorem d1_35 : decode prog_24_method_1_code 35 = .ok (.putfield 25, 3) := by decide +kernel
theorem d1_38 : decode prog_24_method_1_code 38 = .ok (.aload_n 0, 1) := by decide +kernel
theorem d1_39 : decode prog_24_method_1_code 39 = .ok (.dload 13, 2) := by decide +kernel
theorem d1_41 : decode prog_24_method_1_code 41 = .ok (.putfield 28, 3) := by decide +kernel
theorem d1_44 : decode prog_24_method_1_code 44 = .ok (.aload_n 0, 1) := by decide +kernel
theorem d1_45 : decode prog_24_method_1_code 45 = .ok (.dload 15, 2) := by decide +kernel
theorem d1_47 : decode prog_24_method_1_code 47 = .ok (.putfield 31, 3) := by decide +kernel
theorem d1_50 : decode prog_24_method_1_code 50 = .ok (.aload_n 0, 1) := by decide +kernel
theorem d1_51 : decode prog_24_method_1_code 51 = .ok (.dload 17, 2) := by decide +kernel
theorem d1_53 : decode prog_24_method_1_code 53 = .ok (.putfield 34, 3) := by decide +kernel
theorem d1_56 : decode prog_24_method_1_code 56 = .ok (.return_, 1) := by decide +kernel
theorem d2_0 : decode jdk_30_method_1_code 0 = .ok (.aload_n 0, 1) := by decide +kernel
theorem d2_1 : decode jdk_30_method_1_code 1 = .ok (.invokespecial 1, 3) := by decide +kernel
theorem d2_4 : decode jdk_30_method_1_code 4 = .ok (.return_, 1) := by decide +kernel
theorem d4_0 : decode prog_24_method_4_code 0 = .ok (.iconst 4, 1) := by decide +kernel
theorem d4_1 : decode prog_24_method_4_code 1 = .ok (.anewarray 46, 3) := by decide +kernel
theorem d4_4 : decode prog_24_method_4_code 4 = .ok (.dup, 1) := by decide +kernel
theorem d4_5 : decode prog_24_method_4_code 5 = .ok (.iconst 0, 1) := by decide +kernel
theorem d4_6 : decode prog_24_method_4_code 6 = .ok (.iconst 4, 1) := by decide +kernel
theorem d4_7 : decode prog_24_method_4_code 7 = .ok (.newarray .double, 2) := by decide +kernel
theorem d4_9 : decode prog_24_method_4_code 9 = .ok (.dup, 1) := by decide +kernel
theorem d4_10 : decode prog_24_method_4_code 10 = .ok (.iconst 0, 1) := by decide +kernel
theorem d4_11 : decode prog_24_method_4_code 11 = .ok (.aload_n 0, 1) := by decide +kernel
theorem d4_12 : decode prog_24_method_4_code 12 = .ok (.getfield 7, 3) := by decide +kernel
theorem d4_15 : decode prog_24_method_4_code 15 = .ok (.dastore, 1) := by decide +kernel
theorem d4_16 : decode prog_24_method_4_code 16 = .ok (.dup, 1) := by decide +kernel
theorem d4_17 : decode prog_24_method_4_code 17 = .ok (.iconst 1, 1) := by decide +kernel
theorem d4_18 : decode prog_24_method_4_code 18 = .ok (.aload_n 0, 1) := by decide +kernel
theorem d4_19 : decode prog_24_method_4_code 19 = .ok (.getfield 22, 3) := by decide +kernel
theorem d4_22 : decode prog_24_method_4_code 22 = .ok (.dastore, 1) := by decide +kernel
theorem d4_23 : decode prog_24_method_4_code 23 = .ok (.dup, 1) := by decide +kernel
theorem d4_24 : decode prog_24_method_4_code 24 = .ok (.iconst 2, 1) := by decide +kernel
theorem d4_25 : decode prog_24_method_4_code 25 = .ok (.aload_n 0, 1) := by decide +kernel
theorem d4_26 : decode prog_24_method_4_code 26 = .ok (.getfield 19, 3) := by decide +kernel
theorem d4_29 : decode prog_24_method_4_code 29 = .ok (.dastore, 1) := by decide +kernel
theorem d4_30 : decode prog_24_method_4_code 30 = .ok (.dup, 1) := by decide +kernel
theorem d4_31 : decode prog_24_method_4_code 31 = .ok (.iconst 3, 1) := by decide +kernel
theorem d4_32 : decode prog_24_method_4_code 32 = .ok (.aload_n 0, 1) := by decide +kernel
theorem d4_33 : decode prog_24_method_4_code 33 = .ok (.getfield 25, 3) := by decide +kernel
theorem d4_36 : decode prog_24_method_4_code 36 = .ok (.dastore, 1) := by decide +kernel
theorem d4_37 : decode prog_24_method_4_code 37 = .ok (.aastore, 1) := by decide +kernel
theorem d4_38 : decode prog_24_method_4_code 38 = .ok (.dup, 1) := by decide +kernel
theorem d4_39 : decode prog_24_method_4_code 39 = .ok (.iconst 1, 1) := by decide +kernel
theorem d4_40 : decode prog_24_method_4_code 40 = .ok (.iconst 4, 1) := by decide +kernel
theorem d4_41 : decode prog_24_method_4_code 41 = .ok (.newarray .double, 2) := by decide +kernel
theorem d4_43 : decode prog_24_method_4_code 43 = .ok (.dup, 1) := by decide +kernel
theorem d4_44 : decode prog_24_method_4_code 44 = .ok (.iconst 0, 1) := by decide +kernel
theorem d4_45 : decode prog_24_method_4_code 45 = .ok (.aload_n 0, 1) := by decide +kernel
theorem d4_46 : decode prog_24_method_4_code 46 = .ok (.getfield 7, 3) := by decide +kernel
theorem d4_49 : decode prog_24_method_4_code 49 = .ok (.dastore, 1) := by decide +kernel
theorem d4_50 : decode prog_24_method_4_code 50 = .ok (.dup, 1) := by decide +kernel
theorem d4_51 : decode prog_24_method_4_code 51 = .ok (.iconst 1, 1) := by decide +kernel
theorem d4_52 : decode prog_24_method_4_code 52 = .ok (.aload_n 0, 1) := by decide +kernel
theorem d4_53 : decode prog_24_method_4_code 53 = .ok (.getfield 25, 3) := by decide +kernel
theorem d4_56 : decode prog_24_method_4_code 56 = .ok (.dastore, 1) := by decide +kernel
theorem d4_57 : decode prog_24_method_4_code 57 = .ok (.dup, 1) := by decide +kernel
theorem d4_58 : decode prog_24_method_4_code 58 = .ok (.iconst 2, 1) := by decide +kernel
theorem d4_59 : decode prog_24_method_4_code 59 = .ok (.aload_n 0, 1) := by decide +kernel
theorem d4_60 : decode prog_24_method_4_code 60 = .ok (.getfield 13, 3) := by decide +kernel
theorem d4_63 : decode prog_24_method_4_code 63 = .ok (.dastore, 1) := by decide +kernel
theorem d4_64 : decode prog_24_method_4_code 64 = .ok (.dup, 1) := by decide +kernel
theorem d4_65 : decode prog_24_method_4_code 65 = .ok (.iconst 3, 1) := by decide +kernel
theorem d4_66 : decode prog_24_method_4_code 66 = .ok (.aload_n 0, 1) := by decide +kernel
theorem d4_67 : decode prog_24_method_4_code 67 = .ok (.getfield 28, 3) := by decide +kernel
theorem d4_70 : decode prog_24_method_4_code 70 = .ok (.dastore, 1) := by decide +kernel
theorem d4_71 : decode prog_24_method_4_code 71 = .ok (.aastore, 1) := by decide +kernel
theorem d4_72 : decode prog_24_method_4_code 72 = .ok (.dup, 1) := by decide +kernel
theorem d4_73 : decode prog_24_method_4_code 73 = .ok (.iconst 2, 1) := by decide +kernel
theorem d4_74 : decode prog_24_method_4_code 74 = .ok (.iconst 4, 1) := by decide +kernel
theorem d4_75 : decode prog_24_method_4_code 75 = .ok (.newarray .double, 2) := by decide +kernel
theorem d4_77 : decode prog_24_method_4_code 77 = .ok (.dup, 1) := by decide +kernel
theorem d4_78 : decode prog_24_method_4_code 78 = .ok (.iconst 0, 1) := by decide +kernel
theorem d4_79 : decode prog_24_method_4_code 79 = .ok (.aload_n 0, 1) := by decide +kernel
theorem d4_80 : decode prog_24_method_4_code 80 = .ok (.getfield 13, 3) := by decide +kernel
theorem d4_83 : decode prog_24_method_4_code 83 = .ok (.dastore, 1) := by decide +kernel
theorem d4_84 : decode prog_24_method_4_code 84 = .ok (.dup, 1) := by decide +kernel
theorem d4_85 : decode prog_24_method_4_code 85 = .ok (.iconst 1, 1) := by decide +kernel
theorem d4_86 : decode prog_24_method_4_code 86 = .ok (.aload_n 0, 1) := by decide +kernel
theorem d4_87 : decode prog_24_method_4_code 87 = .ok (.getfield 25, 3) := by decide +kernel
theorem d4_90 : decode prog_24_method_4_code 90 = .ok (.dastore, 1) := by decide +kernel
theorem d4_91 : decode prog_24_method_4_code 91 = .ok (.dup, 1) := by decide +kernel
theorem d4_92 : decode prog_24_method_4_code 92 = .ok (.iconst 2, 1) := by decide +kernel
theorem d4_93 : decode prog_24_method_4_code 93 = .ok (.aload_n 0, 1) := by decide +kernel
theorem d4_94 : decode prog_24_method_4_code 94 = .ok (.getfield 16, 3) := by decide +kernel
theorem d4_97 : decode prog_24_method_4_code 97 = .ok (.dastore, 1) := by decide +kernel
theorem d4_98 : decode prog_24_method_4_code 98 = .ok (.dup, 1) := by decide +kernel
theorem d4_99 : decode prog_24_method_4_code 99 = .ok (.iconst 3, 1) := by decide +kernel
theorem d4_100 : decode prog_24_method_4_code 100 = .ok (.aload_n 0, 1) := by decide +kernel
theorem d4_101 : decode prog_24_method_4_code 101 = .ok (.getfield 31, 3) := by decide +kernel
theorem d4_104 : decode prog_24_method_4_code 104 = .ok (.dastore, 1) := by decide +kernel
theorem d4_105 : decode prog_24_method_4_code 105 = .ok (.aastore, 1) := by decide +kernel
theorem d4_106 : decode prog_24_method_4_code 106 = .ok (.dup, 1) := by decide +kernel
theorem d4_107 : decode prog_24_method_4_code 107 = .ok (.iconst 3, 1) := by decide +kernel
theorem d4_108 : decode prog_24_method_4_code 108 = .ok (.iconst 4, 1) := by decide +kernel
theorem d4_109 : decode prog_24_method_4_code 109 = .ok (.newarray .double, 2) := by decide +kernel
theorem d4_111 : decode prog_24_method_4_code 111 = .ok (.dup, 1) := by decide +kernel
theorem d4_112 : decode prog_24_method_4_code 112 = .ok (.iconst 0, 1) := by decide +kernel
theorem d4_113 : decode prog_24_method_4_code 113 = .ok (.aload_n 0, 1) := by decide +kernel
theorem d4_114 : decode prog_24_method_4_code 114 = .ok (.getfield 16, 3) := by decide +kernel
theorem d4_117 : decode prog_24_method_4_code 117 = .ok (.dastore, 1) := by decide +kernel
theorem d4_118 : decode prog_24_method_4_code 118 = .ok (.dup, 1) := by decide +kernel
theorem d4_119 : decode prog_24_method_4_code 119 = .ok (.iconst 1, 1) := by decide +kernel
theorem d4_120 : decode prog_24_method_4_code 120 = .ok (.aload_n 0, 1) := by decide +kernel
theorem d4_121 : decode prog_24_method_4_code 121 = .ok (.getfield 25, 3) := by decide +kernel
theorem d4_124 : decode prog_24_method_4_code 124 = .ok (.dastore, 1) := by decide +kernel
theorem d4_125 : decode prog_24_method_4_code 125 = .ok (.dup, 1) := by decide +kernel
theorem d4_126 : decode prog_24_method_4_code 126 = .ok (.iconst 2, 1) := by decide +kernel
theorem d4_127 : decode prog_24_method_4_code 127 = .ok (.aload_n 0, 1) := by decide +kernel
theorem d4_128 : decode prog_24_method_4_code 128 = .ok (.getfield 19, 3) := by decide +kernel
theorem d4_131 : decode prog_24_method_4_code 131 = .ok (.dastore, 1) := by decide +kernel
theorem d4_132 : decode prog_24_method_4_code 132 = .ok (.dup, 1) := by decide +kernel
theorem d4_133 : decode prog_24_method_4_code 133 = .ok (.iconst 3, 1) := by decide +kernel
theorem d4_134 : decode prog_24_method_4_code 134 = .ok (.aload_n 0, 1) := by decide +kernel
theorem d4_135 : decode prog_24_method_4_code 135 = .ok (.getfield 34, 3) := by decide +kernel
theorem d4_138 : decode prog_24_method_4_code 138 = .ok (.dastore, 1) := by decide +kernel
theorem d4_139 : decode prog_24_method_4_code 139 = .ok (.aastore, 1) := by decide +kernel
theorem d4_140 : decode prog_24_method_4_code 140 = .ok (.areturn, 1) := by decide +kernel
theorem d5_0 : decode method_2_code 0 = .ok (.aload_n 0, 1) := by decide +kernel
theorem d5_1 : decode method_2_code 1 = .ok (.ifnull 9, 3) := by decide +kernel
theorem d5_4 : decode method_2_code 4 = .ok (.aload_n 0, 1) := by decide +kernel
theorem d5_5 : decode method_2_code 5 = .ok (.arraylength, 1) := by decide +kernel
theorem d5_6 : decode method_2_code 6 = .ok (.iconst 4, 1) := by decide +kernel
theorem d5_7 : decode method_2_code 7 = .ok (.if_icmp .eq 5, 3) := by decide +kernel
theorem d5_12 : decode method_2_code 12 = .ok (.aload_n 0, 1) := by decide +kernel
theorem d5_13 : decode method_2_code 13 = .ok (.iconst 0, 1) := by decide +kernel
theorem d5_14 : decode method_2_code 14 = .ok (.daload, 1) := by decide +kernel
theorem d5_15 : decode method_2_code 15 = .ok (.dload_n 1, 1) := by decide +kernel
theorem d5_16 : decode method_2_code 16 = .ok (.dcmp .l, 1) := by decide +kernel
theorem d5_17 : decode method_2_code 17 = .ok (.ifCond .ne 33, 3) := by decide +kernel
theorem d5_20 : decode method_2_code 20 = .ok (.aload_n 0, 1) := by decide +kernel
theorem d5_21 : decode method_2_code 21 = .ok (.iconst 1, 1) := by decide +kernel
theorem d5_22 : decode method_2_code 22 = .ok (.daload, 1) := by decide +kernel
theorem d5_23 : decode method_2_code 23 = .ok (.dload_n 3, 1) := by decide +kernel
theorem d5_24 : decode method_2_code 24 = .ok (.dcmp .l, 1) := by decide +kernel
theorem d5_25 : decode method_2_code 25 = .ok (.ifCond .ne 25, 3) := by decide +kernel
theorem d5_28 : decode method_2_code 28 = .ok (.aload_n 0, 1) := by decide +kernel
theorem d5_29 : decode method_2_code 29 = .ok (.iconst 2, 1) := by decide +kernel
theorem d5_30 : decode method_2_code 30 = .ok (.daload, 1) := by decide +kernel
theorem d5_31 : decode method_2_code 31 = .ok (.dload 5, 2) := by decide +kernel
theorem d5_33 : decode method_2_code 33 = .ok (.dcmp .l, 1) := by decide +kernel
theorem d5_34 : decode method_2_code 34 = .ok (.ifCond .ne 16, 3) := by decide +kernel
theorem d5_37 : decode method_2_code 37 = .ok (.aload_n 0, 1) := by decide +kernel
theorem d5_38 : decode method_2_code 38 = .ok (.iconst 3, 1) := by decide +kernel
theorem d5_39 : decode method_2_code 39 = .ok (.daload, 1) := by decide +kernel
theorem d5_40 : decode method_2_code 40 = .ok (.dload 7, 2) := by decide +kernel
theorem d5_42 : decode method_2_code 42 = .ok (.dcmp .l, 1) := by decide +kernel
theorem d5_43 : decode method_2_code 43 = .ok (.ifCond .ne 7, 3) := by decide +kernel
theorem d5_46 : decode method_2_code 46 = .ok (.iconst 1, 1) := by decide +kernel
theorem d5_47 : decode method_2_code 47 = .ok (.goto 4, 3) := by decide +kernel
theorem d5_51 : decode method_2_code 51 = .ok (.ireturn, 1) := by decide +kernel
theorem pd_0 : parseMethodDescriptor "()V" = some ⟨[], none⟩ := by decide +kernel
theorem pd_1 : parseMethodDescriptor "(DDDDDDDDD)V" = some ⟨[.double, .double, .double, .double, .double, .double, .double, .double, .double], none⟩ := by decide +kernel
theorem pd_2 : parseMethodDescriptor "()[[D" = some ⟨[], some (.array (.array .double))⟩ := by decide +kernel
theorem pd_3 : parseMethodDescriptor "([DDDDD)Z" = some ⟨[(.array .double), .double, .double, .double, .double], some .boolean⟩ := by decide +kernel


theorem own_deq {x y : UInt64} (h : x = y) (n : NoNaN64 x) : deq x y := by subst h; exact FP.Core.dcmp_refl (Fl.noNaN64_no.mp n)
theorem own_nn0 : NoNaN64 (0 : UInt64) := by unfold NoNaN64; decide

theorem ef2 (m : MethodId) (x0 : Addr) : entryFrame m #[(.ref x0)] 1 = mkF m 0 #[.val (.ref x0)] [] := by first | (simp [entryFrame, mkF, argsToLocals, Value.category]; done) | rfl
def Q2 (Z : State) (o0 : Addr) (h0 : Heap) (n0 : Nat) (v : Option Value) (h : Heap) (L : List Loc) : Prop := v = none ∧ Fr n0 L ∧ h0 = h
set_option maxRecDepth 65536 in
set_option maxHeartbeats 40000000 in
theorem rm2 (l : Launch) (Z : State) (a0 : Array Value) (hw : ∀ d ∈ tables_1, d.before a0 Z = true) (ws : List Jvm.Cond) (o0 : Addr) (h0 : Heap) (n0 : Nat) (Z0 : n0 ≤ h0.size) :
    MetFree l (⟨"java/lang/Record", "<init>", "()V"⟩ : MethodName) (head1 (Jvm.Cond.code (⟨"java/lang/Record", "<init>", "()V"⟩ : MethodName) jdk_30_method_1_code 1 none :: ws) ({ frames := 1, cells := 0, slots := 0, locals := 12 } : Room)) (fun a U => a = #[(.ref o0)] ∧ Z.Warmed39 U.vm ∧ U.heap = h0) (fun _ _ _ _ _ => True) (fun _ U o U' => ∃ v L, o = .returned v ∧ Q2 Z o0 h0 n0 v U'.heap L ∧ FrameEnd U o U' L ({ frames := 1, cells := 0, slots := 0, locals := 12 } : Room).cells ({ frames := 1, cells := 0, slots := 0, locals := 12 } : Room).slots) := by
  refine MetFree.of_bodySF (plainFor_of_name pn_java_lang_Record) hisR ?_
  intro p e s m args below meth c s₁ Bd hml0 hP hK
  obtain ⟨rfl, hZ, hh⟩ := hP
  have hx := Bd.exec
  have hby := Bd.bytes
  have hml : c.maxLocals = 1 := hml0
  have hown : s.vm.findClass "java/lang/Record" = some m.cls := findClass_of_methodNamed Bd.named
  have hnm := (name_of_methodNamed Bd.named Bd.method).1
  have X0 : Stand p l e ({ frames := 1, cells := 0, slots := 0, locals := 12 } : Room) s m #[(.ref o0)] below meth c s₁ [] 0 0 := Stand.of_body Bd
  have eH0 : s₁.heap = h0 := by rw [← hh, Bd.state]; rfl
  have N0 := Fr.nil n0
  show Gt p.tables e below (fun o U' => ∃ v L, o = .returned v ∧ Q2 Z o0 h0 n0 v U'.heap L ∧ FrameEnd s o U' L ({ frames := 1, cells := 0, slots := 0, locals := 12 } : Room).cells ({ frames := 1, cells := 0, slots := 0, locals := 12 } : Room).slots) _
  refine own_cast (ef2 m o0) ?_
  refine own_aloadN X0 hx hby rfl rfl d2_0 (pc' := 1) rfl ?_
  refine own_initO X0 hx hby hZ hown (hw _ (List.mem_of_getElem? (i := 12) rfl)) (hw _ (List.mem_of_getElem? (i := 13) rfl)) (hw _ (List.mem_of_getElem? (i := 14) rfl)) eH0 (by rw [hml]; rfl) d2_1 (pc' := 4) rfl (by decide) (W := 0) (Nat.le_of_eq rfl) (by decide) (fun T1 X1 eH1 => ?_)
  exact own_retV X1 hx hby Bd.notSynchronized Bd.returns d2_4 (by decide) (by decide) eH1 ⟨rfl, N0, rfl⟩
theorem ef1 (m : MethodId) (x0 : Addr) (x1 : UInt64) (x2 : UInt64) (x3 : UInt64) (x4 : UInt64) (x5 : UInt64) (x6 : UInt64) (x7 : UInt64) (x8 : UInt64) (x9 : UInt64) : entryFrame m #[(.ref x0), (.double x1), (.double x2), (.double x3), (.double x4), (.double x5), (.double x6), (.double x7), (.double x8), (.double x9)] 19 = mkF m 0 #[.val (.ref x0), .val (.double x1), .second, .val (.double x2), .second, .val (.double x3), .second, .val (.double x4), .second, .val (.double x5), .second, .val (.double x6), .second, .val (.double x7), .second, .val (.double x8), .second, .val (.double x9), .second] [] := by first | (simp [entryFrame, mkF, argsToLocals, Value.category]; done) | rfl
def Q1 (Z : State) (o0 : Addr) (f1 : UInt64) (f2 : UInt64) (f3 : UInt64) (f4 : UInt64) (f5 : UInt64) (f6 : UInt64) (f7 : UInt64) (f8 : UInt64) (f9 : UInt64) (left_o0 : UInt64) (barLeft_o0 : UInt64) (barRight_o0 : UInt64) (right_o0 : UInt64) (bottom_o0 : UInt64) (baseTop_o0 : UInt64) (leftTop_o0 : UInt64) (barTop_o0 : UInt64) (rightTop_o0 : UInt64) (h0 : Heap) (n0 : Nat) (v : Option Value) (h : Heap) (L : List Loc) : Prop := v = none ∧ Fr n0 L ∧ Keep h0 h [o0] ∧ Exa Z h o0 "com/example/dido/dido/StandingRegion" ∧ Fld Z h o0 "com/example/dido/dido/StandingRegion" "left" "D" (.double f1) ∧ Fld Z h o0 "com/example/dido/dido/StandingRegion" "barLeft" "D" (.double f2) ∧ Fld Z h o0 "com/example/dido/dido/StandingRegion" "barRight" "D" (.double f3) ∧ Fld Z h o0 "com/example/dido/dido/StandingRegion" "right" "D" (.double f4) ∧ Fld Z h o0 "com/example/dido/dido/StandingRegion" "bottom" "D" (.double f5) ∧ Fld Z h o0 "com/example/dido/dido/StandingRegion" "baseTop" "D" (.double f6) ∧ Fld Z h o0 "com/example/dido/dido/StandingRegion" "leftTop" "D" (.double f7) ∧ Fld Z h o0 "com/example/dido/dido/StandingRegion" "barTop" "D" (.double f8) ∧ Fld Z h o0 "com/example/dido/dido/StandingRegion" "rightTop" "D" (.double f9)
set_option maxRecDepth 65536 in
set_option maxHeartbeats 40000000 in
theorem rm1 (l : Launch) (Z : State) (a0 : Array Value) (hw : ∀ d ∈ tables_1, d.before a0 Z = true) (ws : List Jvm.Cond) (o0 : Addr) (f1 : UInt64) (f2 : UInt64) (f3 : UInt64) (f4 : UInt64) (f5 : UInt64) (f6 : UInt64) (f7 : UInt64) (f8 : UInt64) (f9 : UInt64) (left_o0 : UInt64) (barLeft_o0 : UInt64) (barRight_o0 : UInt64) (right_o0 : UInt64) (bottom_o0 : UInt64) (baseTop_o0 : UInt64) (leftTop_o0 : UInt64) (barTop_o0 : UInt64) (rightTop_o0 : UInt64) (h0 : Heap) (n0 : Nat) (Z0 : n0 ≤ h0.size) (F_o0_left : Fld Z h0 o0 "com/example/dido/dido/StandingRegion" "left" "D" (.double left_o0)) (F_o0_barLeft : Fld Z h0 o0 "com/example/dido/dido/StandingRegion" "barLeft" "D" (.double barLeft_o0)) (F_o0_barRight : Fld Z h0 o0 "com/example/dido/dido/StandingRegion" "barRight" "D" (.double barRight_o0)) (F_o0_right : Fld Z h0 o0 "com/example/dido/dido/StandingRegion" "right" "D" (.double right_o0)) (F_o0_bottom : Fld Z h0 o0 "com/example/dido/dido/StandingRegion" "bottom" "D" (.double bottom_o0)) (F_o0_baseTop : Fld Z h0 o0 "com/example/dido/dido/StandingRegion" "baseTop" "D" (.double baseTop_o0)) (F_o0_leftTop : Fld Z h0 o0 "com/example/dido/dido/StandingRegion" "leftTop" "D" (.double leftTop_o0)) (F_o0_barTop : Fld Z h0 o0 "com/example/dido/dido/StandingRegion" "barTop" "D" (.double barTop_o0)) (F_o0_rightTop : Fld Z h0 o0 "com/example/dido/dido/StandingRegion" "rightTop" "D" (.double rightTop_o0)) (E_o0 : Exa Z h0 o0 "com/example/dido/dido/StandingRegion") (g_o0 : n0 ≤ o0) :
    MetFree l (⟨"com/example/dido/dido/StandingRegion", "<init>", "(DDDDDDDDD)V"⟩ : MethodName) (head1 (Jvm.Cond.code (⟨"com/example/dido/dido/StandingRegion", "<init>", "(DDDDDDDDD)V"⟩ : MethodName) prog_24_method_1_code 19 none :: ws) ({ frames := 2, cells := 0, slots := 0, locals := 24 } : Room)) (fun a U => a = #[(.ref o0), (.double f1), (.double f2), (.double f3), (.double f4), (.double f5), (.double f6), (.double f7), (.double f8), (.double f9)] ∧ Z.Warmed39 U.vm ∧ U.heap = h0) (fun _ _ _ _ _ => True) (fun _ U o U' => ∃ v L, o = .returned v ∧ Q1 Z o0 f1 f2 f3 f4 f5 f6 f7 f8 f9 left_o0 barLeft_o0 barRight_o0 right_o0 bottom_o0 baseTop_o0 leftTop_o0 barTop_o0 rightTop_o0 h0 n0 v U'.heap L ∧ FrameEnd U o U' L ({ frames := 2, cells := 0, slots := 0, locals := 24 } : Room).cells ({ frames := 2, cells := 0, slots := 0, locals := 24 } : Room).slots) := by
  refine MetFree.of_bodySF (plainFor_of_name pn_com_example_dido_dido_StandingRegion) hisR ?_
  intro p e s m args below meth c s₁ Bd hml0 hP hK
  obtain ⟨rfl, hZ, hh⟩ := hP
  have hx := Bd.exec
  have hby := Bd.bytes
  have hml : c.maxLocals = 19 := hml0
  have hown : s.vm.findClass "com/example/dido/dido/StandingRegion" = some m.cls := findClass_of_methodNamed Bd.named
  have hnm := (name_of_methodNamed Bd.named Bd.method).1
  have X0 : Stand p l e ({ frames := 2, cells := 0, slots := 0, locals := 24 } : Room) s m #[(.ref o0), (.double f1), (.double f2), (.double f3), (.double f4), (.double f5), (.double f6), (.double f7), (.double f8), (.double f9)] below meth c s₁ [] 0 0 := Stand.of_body Bd
  have eH0 : s₁.heap = h0 := by rw [← hh, Bd.state]; rfl
  have N0 := Fr.nil n0
  have K0 := Keep.refl h0 [o0]
  show Gt p.tables e below (fun o U' => ∃ v L, o = .returned v ∧ Q1 Z o0 f1 f2 f3 f4 f5 f6 f7 f8 f9 left_o0 barLeft_o0 barRight_o0 right_o0 bottom_o0 baseTop_o0 leftTop_o0 barTop_o0 rightTop_o0 h0 n0 v U'.heap L ∧ FrameEnd s o U' L ({ frames := 2, cells := 0, slots := 0, locals := 24 } : Room).cells ({ frames := 2, cells := 0, slots := 0, locals := 24 } : Room).slots) _
  refine own_cast (ef1 m o0 f1 f2 f3 f4 f5 f6 f7 f8 f9) ?_
  refine own_aloadN X0 hx hby rfl rfl d1_0 (pc' := 1) rfl ?_
  refine own_special X0 hx hby hZ (y := (⟨"java/lang/Record", "<init>", "()V"⟩ : MethodName)) (rest := []) rfl hown (hw _ (List.mem_of_getElem? (i := 7) rfl)) (hw _ (List.mem_of_getElem? (i := 8) rfl)) rfl (hw _ (List.mem_of_getElem? (i := 11) rfl)) (hw _ (List.mem_of_getElem? (i := 10) rfl)) (by decide) (rm2 l Z a0 hw [] o0 h0 n0 Z0) eH0 (by rw [hml]; rfl) (a := o0) (argsL := []) rfl (lenOf pd_0 rfl) rfl d1_1 (pc' := 4) rfl (by decide) (W := 0) (Nat.le_of_eq rfl) (by decide) (by decide) (by decide) (fun T1 h1 Lc1 v1r X1 eH1 hQ1 => ?_)
  obtain ⟨rfl, Nq1, rfl⟩ := hQ1
  have N1 := Fr.app N0 Nq1
  refine own_aloadN X1 hx hby rfl rfl d1_4 (pc' := 5) rfl ?_
  refine own_dloadN X1 hx hby rfl d1_5 (pc' := 6) rfl ?_
  refine own_putF X1 hx hby hZ hown (host := "") (Or.inl (hw _ (List.mem_of_getElem? (i := 15) rfl))) Via.refl eH1 F_o0_left E_o0 (Or.inr ⟨(hw _ (List.mem_of_getElem? (i := 16) rfl)), rfl, hnm⟩) (hw _ (List.mem_of_getElem? (i := 2) rfl)) (ty := .double) (by decide) rfl rfl d1_6 (pc' := 9) rfl (fun T2 h2 X2 eH2 W2 => ?_)
  replace E_o0 := E_o0.wr W2
  replace F_o0_left := F_o0_left.same W2
  replace F_o0_barLeft := F_o0_barLeft.other W2 (Or.inr (slot_ne (Or.inr (hw _ (List.mem_of_getElem? (i := 18) rfl))) (Or.inr (hw _ (List.mem_of_getElem? (i := 16) rfl))) (by decide) (t := .double) (t' := .double) (by decide) (by decide)))
  replace F_o0_barRight := F_o0_barRight.other W2 (Or.inr (slot_ne (Or.inr (hw _ (List.mem_of_getElem? (i := 20) rfl))) (Or.inr (hw _ (List.mem_of_getElem? (i := 16) rfl))) (by decide) (t := .double) (t' := .double) (by decide) (by decide)))
  replace F_o0_right := F_o0_right.other W2 (Or.inr (slot_ne (Or.inr (hw _ (List.mem_of_getElem? (i := 22) rfl))) (Or.inr (hw _ (List.mem_of_getElem? (i := 16) rfl))) (by decide) (t := .double) (t' := .double) (by decide) (by decide)))
  replace F_o0_bottom := F_o0_bottom.other W2 (Or.inr (slot_ne (Or.inr (hw _ (List.mem_of_getElem? (i := 24) rfl))) (Or.inr (hw _ (List.mem_of_getElem? (i := 16) rfl))) (by decide) (t := .double) (t' := .double) (by decide) (by decide)))
  replace F_o0_baseTop := F_o0_baseTop.other W2 (Or.inr (slot_ne (Or.inr (hw _ (List.mem_of_getElem? (i := 26) rfl))) (Or.inr (hw _ (List.mem_of_getElem? (i := 16) rfl))) (by decide) (t := .double) (t' := .double) (by decide) (by decide)))
  replace F_o0_leftTop := F_o0_leftTop.other W2 (Or.inr (slot_ne (Or.inr (hw _ (List.mem_of_getElem? (i := 28) rfl))) (Or.inr (hw _ (List.mem_of_getElem? (i := 16) rfl))) (by decide) (t := .double) (t' := .double) (by decide) (by decide)))
  replace F_o0_barTop := F_o0_barTop.other W2 (Or.inr (slot_ne (Or.inr (hw _ (List.mem_of_getElem? (i := 30) rfl))) (Or.inr (hw _ (List.mem_of_getElem? (i := 16) rfl))) (by decide) (t := .double) (t' := .double) (by decide) (by decide)))
  replace F_o0_rightTop := F_o0_rightTop.other W2 (Or.inr (slot_ne (Or.inr (hw _ (List.mem_of_getElem? (i := 32) rfl))) (Or.inr (hw _ (List.mem_of_getElem? (i := 16) rfl))) (by decide) (t := .double) (t' := .double) (by decide) (by decide)))
  have N2 := Fr.snoc X2 N1 g_o0
  replace K0 := K0.wr W2 (Or.inl (by simp))
  replace Z0 := Nat.le_trans Z0 (Nat.le_of_eq W2.size.symm)
  refine own_aloadN X2 hx hby rfl rfl d1_9 (pc' := 10) rfl ?_
  refine own_dloadN X2 hx hby rfl d1_10 (pc' := 11) rfl ?_
  refine own_putF X2 hx hby hZ hown (host := "") (Or.inl (hw _ (List.mem_of_getElem? (i := 17) rfl))) Via.refl eH2 F_o0_barLeft E_o0 (Or.inr ⟨(hw _ (List.mem_of_getElem? (i := 18) rfl)), rfl, hnm⟩) (hw _ (List.mem_of_getElem? (i := 2) rfl)) (ty := .double) (by decide) rfl rfl d1_11 (pc' := 14) rfl (fun T3 h3 X3 eH3 W3 => ?_)
  replace E_o0 := E_o0.wr W3
  replace F_o0_left := F_o0_left.other W3 (Or.inr (slot_ne (Or.inr (hw _ (List.mem_of_getElem? (i := 16) rfl))) (Or.inr (hw _ (List.mem_of_getElem? (i := 18) rfl))) (by decide) (t := .double) (t' := .double) (by decide) (by decide)))
  replace F_o0_barLeft := F_o0_barLeft.same W3
  replace F_o0_barRight := F_o0_barRight.other W3 (Or.inr (slot_ne (Or.inr (hw _ (List.mem_of_getElem? (i := 20) rfl))) (Or.inr (hw _ (List.mem_of_getElem? (i := 18) rfl))) (by decide) (t := .double) (t' := .double) (by decide) (by decide)))
  replace F_o0_right := F_o0_right.other W3 (Or.inr (slot_ne (Or.inr (hw _ (List.mem_of_getElem? (i := 22) rfl))) (Or.inr (hw _ (List.mem_of_getElem? (i := 18) rfl))) (by decide) (t := .double) (t' := .double) (by decide) (by decide)))
  replace F_o0_bottom := F_o0_bottom.other W3 (Or.inr (slot_ne (Or.inr (hw _ (List.mem_of_getElem? (i := 24) rfl))) (Or.inr (hw _ (List.mem_of_getElem? (i := 18) rfl))) (by decide) (t := .double) (t' := .double) (by decide) (by decide)))
  replace F_o0_baseTop := F_o0_baseTop.other W3 (Or.inr (slot_ne (Or.inr (hw _ (List.mem_of_getElem? (i := 26) rfl))) (Or.inr (hw _ (List.mem_of_getElem? (i := 18) rfl))) (by decide) (t := .double) (t' := .double) (by decide) (by decide)))
  replace F_o0_leftTop := F_o0_leftTop.other W3 (Or.inr (slot_ne (Or.inr (hw _ (List.mem_of_getElem? (i := 28) rfl))) (Or.inr (hw _ (List.mem_of_getElem? (i := 18) rfl))) (by decide) (t := .double) (t' := .double) (by decide) (by decide)))
  replace F_o0_barTop := F_o0_barTop.other W3 (Or.inr (slot_ne (Or.inr (hw _ (List.mem_of_getElem? (i := 30) rfl))) (Or.inr (hw _ (List.mem_of_getElem? (i := 18) rfl))) (by decide) (t := .double) (t' := .double) (by decide) (by decide)))
  replace F_o0_rightTop := F_o0_rightTop.other W3 (Or.inr (slot_ne (Or.inr (hw _ (List.mem_of_getElem? (i := 32) rfl))) (Or.inr (hw _ (List.mem_of_getElem? (i := 18) rfl))) (by decide) (t := .double) (t' := .double) (by decide) (by decide)))
  have N3 := Fr.snoc X3 N2 g_o0
  replace K0 := K0.wr W3 (Or.inl (by simp))
  replace Z0 := Nat.le_trans Z0 (Nat.le_of_eq W3.size.symm)
  refine own_aloadN X3 hx hby rfl rfl d1_14 (pc' := 15) rfl ?_
  refine own_dload X3 hx hby rfl d1_15 (pc' := 17) rfl ?_
  refine own_putF X3 hx hby hZ hown (host := "") (Or.inl (hw _ (List.mem_of_getElem? (i := 19) rfl))) Via.refl eH3 F_o0_barRight E_o0 (Or.inr ⟨(hw _ (List.mem_of_getElem? (i := 20) rfl)), rfl, hnm⟩) (hw _ (List.mem_of_getElem? (i := 2) rfl)) (ty := .double) (by decide) rfl rfl d1_17 (pc' := 20) rfl (fun T4 h4 X4 eH4 W4 => ?_)
  replace E_o0 := E_o0.wr W4
  replace F_o0_left := F_o0_left.other W4 (Or.inr (slot_ne (Or.inr (hw _ (List.mem_of_getElem? (i := 16) rfl))) (Or.inr (hw _ (List.mem_of_getElem? (i := 20) rfl))) (by decide) (t := .double) (t' := .double) (by decide) (by decide)))
  replace F_o0_barLeft := F_o0_barLeft.other W4 (Or.inr (slot_ne (Or.inr (hw _ (List.mem_of_getElem? (i := 18) rfl))) (Or.inr (hw _ (List.mem_of_getElem? (i := 20) rfl))) (by decide) (t := .double) (t' := .double) (by decide) (by decide)))
  replace F_o0_barRight := F_o0_barRight.same W4
  replace F_o0_right := F_o0_right.other W4 (Or.inr (slot_ne (Or.inr (hw _ (List.mem_of_getElem? (i := 22) rfl))) (Or.inr (hw _ (List.mem_of_getElem? (i := 20) rfl))) (by decide) (t := .double) (t' := .double) (by decide) (by decide)))
  replace F_o0_bottom := F_o0_bottom.other W4 (Or.inr (slot_ne (Or.inr (hw _ (List.mem_of_getElem? (i := 24) rfl))) (Or.inr (hw _ (List.mem_of_getElem? (i := 20) rfl))) (by decide) (t := .double) (t' := .double) (by decide) (by decide)))
  replace F_o0_baseTop := F_o0_baseTop.other W4 (Or.inr (slot_ne (Or.inr (hw _ (List.mem_of_getElem? (i := 26) rfl))) (Or.inr (hw _ (List.mem_of_getElem? (i := 20) rfl))) (by decide) (t := .double) (t' := .double) (by decide) (by decide)))
  replace F_o0_leftTop := F_o0_leftTop.other W4 (Or.inr (slot_ne (Or.inr (hw _ (List.mem_of_getElem? (i := 28) rfl))) (Or.inr (hw _ (List.mem_of_getElem? (i := 20) rfl))) (by decide) (t := .double) (t' := .double) (by decide) (by decide)))
  replace F_o0_barTop := F_o0_barTop.other W4 (Or.inr (slot_ne (Or.inr (hw _ (List.mem_of_getElem? (i := 30) rfl))) (Or.inr (hw _ (List.mem_of_getElem? (i := 20) rfl))) (by decide) (t := .double) (t' := .double) (by decide) (by decide)))
  replace F_o0_rightTop := F_o0_rightTop.other W4 (Or.inr (slot_ne (Or.inr (hw _ (List.mem_of_getElem? (i := 32) rfl))) (Or.inr (hw _ (List.mem_of_getElem? (i := 20) rfl))) (by decide) (t := .double) (t' := .double) (by decide) (by decide)))
  have N4 := Fr.snoc X4 N3 g_o0
  replace K0 := K0.wr W4 (Or.inl (by simp))
  replace Z0 := Nat.le_trans Z0 (Nat.le_of_eq W4.size.symm)
  refine own_aloadN X4 hx hby rfl rfl d1_20 (pc' := 21) rfl ?_
  refine own_dload X4 hx hby rfl d1_21 (pc' := 23) rfl ?_
  refine own_putF X4 hx hby hZ hown (host := "") (Or.inl (hw _ (List.mem_of_getElem? (i := 21) rfl))) Via.refl eH4 F_o0_right E_o0 (Or.inr ⟨(hw _ (List.mem_of_getElem? (i := 22) rfl)), rfl, hnm⟩) (hw _ (List.mem_of_getElem? (i := 2) rfl)) (ty := .double) (by decide) rfl rfl d1_23 (pc' := 26) rfl (fun T5 h5 X5 eH5 W5 => ?_)
  replace E_o0 := E_o0.wr W5
  replace F_o0_left := F_o0_left.other W5 (Or.inr (slot_ne (Or.inr (hw _ (List.mem_of_getElem? (i := 16) rfl))) (Or.inr (hw _ (List.mem_of_getElem? (i := 22) rfl))) (by decide) (t := .double) (t' := .double) (by decide) (by decide)))
  replace F_o0_barLeft := F_o0_barLeft.other W5 (Or.inr (slot_ne (Or.inr (hw _ (List.mem_of_getElem? (i := 18) rfl))) (Or.inr (hw _ (List.mem_of_getElem? (i := 22) rfl))) (by decide) (t := .double) (t' := .double) (by decide) (by decide)))
  replace F_o0_barRight := F_o0_barRight.other W5 (Or.inr (slot_ne (Or.inr (hw _ (List.mem_of_getElem? (i := 20) rfl))) (Or.inr (hw _ (List.mem_of_getElem? (i := 22) rfl))) (by decide) (t := .double) (t' := .double) (by decide) (by decide)))
  replace F_o0_right := F_o0_right.same W5
  replace F_o0_bottom := F_o0_bottom.other W5 (Or.inr (slot_ne (Or.inr (hw _ (List.mem_of_getElem? (i := 24) rfl))) (Or.inr (hw _ (List.mem_of_getElem? (i := 22) rfl))) (by decide) (t := .double) (t' := .double) (by decide) (by decide)))
  replace F_o0_baseTop := F_o0_baseTop.other W5 (Or.inr (slot_ne (Or.inr (hw _ (List.mem_of_getElem? (i := 26) rfl))) (Or.inr (hw _ (List.mem_of_getElem? (i := 22) rfl))) (by decide) (t := .double) (t' := .double) (by decide) (by decide)))
  replace F_o0_leftTop := F_o0_leftTop.other W5 (Or.inr (slot_ne (Or.inr (hw _ (List.mem_of_getElem? (i := 28) rfl))) (Or.inr (hw _ (List.mem_of_getElem? (i := 22) rfl))) (by decide) (t := .double) (t' := .double) (by decide) (by decide)))
  replace F_o0_barTop := F_o0_barTop.other W5 (Or.inr (slot_ne (Or.inr (hw _ (List.mem_of_getElem? (i := 30) rfl))) (Or.inr (hw _ (List.mem_of_getElem? (i := 22) rfl))) (by decide) (t := .double) (t' := .double) (by decide) (by decide)))
  replace F_o0_rightTop := F_o0_rightTop.other W5 (Or.inr (slot_ne (Or.inr (hw _ (List.mem_of_getElem? (i := 32) rfl))) (Or.inr (hw _ (List.mem_of_getElem? (i := 22) rfl))) (by decide) (t := .double) (t' := .double) (by decide) (by decide)))
  have N5 := Fr.snoc X5 N4 g_o0
  replace K0 := K0.wr W5 (Or.inl (by simp))
  replace Z0 := Nat.le_trans Z0 (Nat.le_of_eq W5.size.symm)
  refine own_aloadN X5 hx hby rfl rfl d1_26 (pc' := 27) rfl ?_
  refine own_dload X5 hx hby rfl d1_27 (pc' := 29) rfl ?_
  refine own_putF X5 hx hby hZ hown (host := "") (Or.inl (hw _ (List.mem_of_getElem? (i := 23) rfl))) Via.refl eH5 F_o0_bottom E_o0 (Or.inr ⟨(hw _ (List.mem_of_getElem? (i := 24) rfl)), rfl, hnm⟩) (hw _ (List.mem_of_getElem? (i := 2) rfl)) (ty := .double) (by decide) rfl rfl d1_29 (pc' := 32) rfl (fun T6 h6 X6 eH6 W6 => ?_)
  replace E_o0 := E_o0.wr W6
  replace F_o0_left := F_o0_left.other W6 (Or.inr (slot_ne (Or.inr (hw _ (List.mem_of_getElem? (i := 16) rfl))) (Or.inr (hw _ (List.mem_of_getElem? (i := 24) rfl))) (by decide) (t := .double) (t' := .double) (by decide) (by decide)))
  replace F_o0_barLeft := F_o0_barLeft.other W6 (Or.inr (slot_ne (Or.inr (hw _ (List.mem_of_getElem? (i := 18) rfl))) (Or.inr (hw _ (List.mem_of_getElem? (i := 24) rfl))) (by decide) (t := .double) (t' := .double) (by decide) (by decide)))
  replace F_o0_barRight := F_o0_barRight.other W6 (Or.inr (slot_ne (Or.inr (hw _ (List.mem_of_getElem? (i := 20) rfl))) (Or.inr (hw _ (List.mem_of_getElem? (i := 24) rfl))) (by decide) (t := .double) (t' := .double) (by decide) (by decide)))
  replace F_o0_right := F_o0_right.other W6 (Or.inr (slot_ne (Or.inr (hw _ (List.mem_of_getElem? (i := 22) rfl))) (Or.inr (hw _ (List.mem_of_getElem? (i := 24) rfl))) (by decide) (t := .double) (t' := .double) (by decide) (by decide)))
  replace F_o0_bottom := F_o0_bottom.same W6
  replace F_o0_baseTop := F_o0_baseTop.other W6 (Or.inr (slot_ne (Or.inr (hw _ (List.mem_of_getElem? (i := 26) rfl))) (Or.inr (hw _ (List.mem_of_getElem? (i := 24) rfl))) (by decide) (t := .double) (t' := .double) (by decide) (by decide)))
  replace F_o0_leftTop := F_o0_leftTop.other W6 (Or.inr (slot_ne (Or.inr (hw _ (List.mem_of_getElem? (i := 28) rfl))) (Or.inr (hw _ (List.mem_of_getElem? (i := 24) rfl))) (by decide) (t := .double) (t' := .double) (by decide) (by decide)))
  replace F_o0_barTop := F_o0_barTop.other W6 (Or.inr (slot_ne (Or.inr (hw _ (List.mem_of_getElem? (i := 30) rfl))) (Or.inr (hw _ (List.mem_of_getElem? (i := 24) rfl))) (by decide) (t := .double) (t' := .double) (by decide) (by decide)))
  replace F_o0_rightTop := F_o0_rightTop.other W6 (Or.inr (slot_ne (Or.inr (hw _ (List.mem_of_getElem? (i := 32) rfl))) (Or.inr (hw _ (List.mem_of_getElem? (i := 24) rfl))) (by decide) (t := .double) (t' := .double) (by decide) (by decide)))
  have N6 := Fr.snoc X6 N5 g_o0
  replace K0 := K0.wr W6 (Or.inl (by simp))
  replace Z0 := Nat.le_trans Z0 (Nat.le_of_eq W6.size.symm)
  refine own_aloadN X6 hx hby rfl rfl d1_32 (pc' := 33) rfl ?_
  refine own_dload X6 hx hby rfl d1_33 (pc' := 35) rfl ?_
  refine own_putF X6 hx hby hZ hown (host := "") (Or.inl (hw _ (List.mem_of_getElem? (i := 25) rfl))) Via.refl eH6 F_o0_baseTop E_o0 (Or.inr ⟨(hw _ (List.mem_of_getElem? (i := 26) rfl)), rfl, hnm⟩) (hw _ (List.mem_of_getElem? (i := 2) rfl)) (ty := .double) (by decide) rfl rfl d1_35 (pc' := 38) rfl (fun T7 h7 X7 eH7 W7 => ?_)
  replace E_o0 := E_o0.wr W7
  replace F_o0_left := F_o0_left.other W7 (Or.inr (slot_ne (Or.inr (hw _ (List.mem_of_getElem? (i := 16) rfl))) (Or.inr (hw _ (List.mem_of_getElem? (i := 26) rfl))) (by decide) (t := .double) (t' := .double) (by decide) (by decide)))
  replace F_o0_barLeft := F_o0_barLeft.other W7 (Or.inr (slot_ne (Or.inr (hw _ (List.mem_of_getElem? (i := 18) rfl))) (Or.inr (hw _ (List.mem_of_getElem? (i := 26) rfl))) (by decide) (t := .double) (t' := .double) (by decide) (by decide)))
  replace F_o0_barRight := F_o0_barRight.other W7 (Or.inr (slot_ne (Or.inr (hw _ (List.mem_of_getElem? (i := 20) rfl))) (Or.inr (hw _ (List.mem_of_getElem? (i := 26) rfl))) (by decide) (t := .double) (t' := .double) (by decide) (by decide)))
  replace F_o0_right := F_o0_right.other W7 (Or.inr (slot_ne (Or.inr (hw _ (List.mem_of_getElem? (i := 22) rfl))) (Or.inr (hw _ (List.mem_of_getElem? (i := 26) rfl))) (by decide) (t := .double) (t' := .double) (by decide) (by decide)))
  replace F_o0_bottom := F_o0_bottom.other W7 (Or.inr (slot_ne (Or.inr (hw _ (List.mem_of_getElem? (i := 24) rfl))) (Or.inr (hw _ (List.mem_of_getElem? (i := 26) rfl))) (by decide) (t := .double) (t' := .double) (by decide) (by decide)))
  replace F_o0_baseTop := F_o0_baseTop.same W7
  replace F_o0_leftTop := F_o0_leftTop.other W7 (Or.inr (slot_ne (Or.inr (hw _ (List.mem_of_getElem? (i := 28) rfl))) (Or.inr (hw _ (List.mem_of_getElem? (i := 26) rfl))) (by decide) (t := .double) (t' := .double) (by decide) (by decide)))
  replace F_o0_barTop := F_o0_barTop.other W7 (Or.inr (slot_ne (Or.inr (hw _ (List.mem_of_getElem? (i := 30) rfl))) (Or.inr (hw _ (List.mem_of_getElem? (i := 26) rfl))) (by decide) (t := .double) (t' := .double) (by decide) (by decide)))
  replace F_o0_rightTop := F_o0_rightTop.other W7 (Or.inr (slot_ne (Or.inr (hw _ (List.mem_of_getElem? (i := 32) rfl))) (Or.inr (hw _ (List.mem_of_getElem? (i := 26) rfl))) (by decide) (t := .double) (t' := .double) (by decide) (by decide)))
  have N7 := Fr.snoc X7 N6 g_o0
  replace K0 := K0.wr W7 (Or.inl (by simp))
  replace Z0 := Nat.le_trans Z0 (Nat.le_of_eq W7.size.symm)
  refine own_aloadN X7 hx hby rfl rfl d1_38 (pc' := 39) rfl ?_
  refine own_dload X7 hx hby rfl d1_39 (pc' := 41) rfl ?_
  refine own_putF X7 hx hby hZ hown (host := "") (Or.inl (hw _ (List.mem_of_getElem? (i := 27) rfl))) Via.refl eH7 F_o0_leftTop E_o0 (Or.inr ⟨(hw _ (List.mem_of_getElem? (i := 28) rfl)), rfl, hnm⟩) (hw _ (List.mem_of_getElem? (i := 2) rfl)) (ty := .double) (by decide) rfl rfl d1_41 (pc' := 44) rfl (fun T8 h8 X8 eH8 W8 => ?_)
  replace E_o0 := E_o0.wr W8
  replace F_o0_left := F_o0_left.other W8 (Or.inr (slot_ne (Or.inr (hw _ (List.mem_of_getElem? (i := 16) rfl))) (Or.inr (hw _ (List.mem_of_getElem? (i := 28) rfl))) (by decide) (t := .double) (t' := .double) (by decide) (by decide)))
  replace F_o0_barLeft := F_o0_barLeft.other W8 (Or.inr (slot_ne (Or.inr (hw _ (List.mem_of_getElem? (i := 18) rfl))) (Or.inr (hw _ (List.mem_of_getElem? (i := 28) rfl))) (by decide) (t := .double) (t' := .double) (by decide) (by decide)))
  replace F_o0_barRight := F_o0_barRight.other W8 (Or.inr (slot_ne (Or.inr (hw _ (List.mem_of_getElem? (i := 20) rfl))) (Or.inr (hw _ (List.mem_of_getElem? (i := 28) rfl))) (by decide) (t := .double) (t' := .double) (by decide) (by decide)))
  replace F_o0_right := F_o0_right.other W8 (Or.inr (slot_ne (Or.inr (hw _ (List.mem_of_getElem? (i := 22) rfl))) (Or.inr (hw _ (List.mem_of_getElem? (i := 28) rfl))) (by decide) (t := .double) (t' := .double) (by decide) (by decide)))
  replace F_o0_bottom := F_o0_bottom.other W8 (Or.inr (slot_ne (Or.inr (hw _ (List.mem_of_getElem? (i := 24) rfl))) (Or.inr (hw _ (List.mem_of_getElem? (i := 28) rfl))) (by decide) (t := .double) (t' := .double) (by decide) (by decide)))
  replace F_o0_baseTop := F_o0_baseTop.other W8 (Or.inr (slot_ne (Or.inr (hw _ (List.mem_of_getElem? (i := 26) rfl))) (Or.inr (hw _ (List.mem_of_getElem? (i := 28) rfl))) (by decide) (t := .double) (t' := .double) (by decide) (by decide)))
  replace F_o0_leftTop := F_o0_leftTop.same W8
  replace F_o0_barTop := F_o0_barTop.other W8 (Or.inr (slot_ne (Or.inr (hw _ (List.mem_of_getElem? (i := 30) rfl))) (Or.inr (hw _ (List.mem_of_getElem? (i := 28) rfl))) (by decide) (t := .double) (t' := .double) (by decide) (by decide)))
  replace F_o0_rightTop := F_o0_rightTop.other W8 (Or.inr (slot_ne (Or.inr (hw _ (List.mem_of_getElem? (i := 32) rfl))) (Or.inr (hw _ (List.mem_of_getElem? (i := 28) rfl))) (by decide) (t := .double) (t' := .double) (by decide) (by decide)))
  have N8 := Fr.snoc X8 N7 g_o0
  replace K0 := K0.wr W8 (Or.inl (by simp))
  replace Z0 := Nat.le_trans Z0 (Nat.le_of_eq W8.size.symm)
  refine own_aloadN X8 hx hby rfl rfl d1_44 (pc' := 45) rfl ?_
  refine own_dload X8 hx hby rfl d1_45 (pc' := 47) rfl ?_
  refine own_putF X8 hx hby hZ hown (host := "") (Or.inl (hw _ (List.mem_of_getElem? (i := 29) rfl))) Via.refl eH8 F_o0_barTop E_o0 (Or.inr ⟨(hw _ (List.mem_of_getElem? (i := 30) rfl)), rfl, hnm⟩) (hw _ (List.mem_of_getElem? (i := 2) rfl)) (ty := .double) (by decide) rfl rfl d1_47 (pc' := 50) rfl (fun T9 h9 X9 eH9 W9 => ?_)
  replace E_o0 := E_o0.wr W9
  replace F_o0_left := F_o0_left.other W9 (Or.inr (slot_ne (Or.inr (hw _ (List.mem_of_getElem? (i := 16) rfl))) (Or.inr (hw _ (List.mem_of_getElem? (i := 30) rfl))) (by decide) (t := .double) (t' := .double) (by decide) (by decide)))
  replace F_o0_barLeft := F_o0_barLeft.other W9 (Or.inr (slot_ne (Or.inr (hw _ (List.mem_of_getElem? (i := 18) rfl))) (Or.inr (hw _ (List.mem_of_getElem? (i := 30) rfl))) (by decide) (t := .double) (t' := .double) (by decide) (by decide)))
  replace F_o0_barRight := F_o0_barRight.other W9 (Or.inr (slot_ne (Or.inr (hw _ (List.mem_of_getElem? (i := 20) rfl))) (Or.inr (hw _ (List.mem_of_getElem? (i := 30) rfl))) (by decide) (t := .double) (t' := .double) (by decide) (by decide)))
  replace F_o0_right := F_o0_right.other W9 (Or.inr (slot_ne (Or.inr (hw _ (List.mem_of_getElem? (i := 22) rfl))) (Or.inr (hw _ (List.mem_of_getElem? (i := 30) rfl))) (by decide) (t := .double) (t' := .double) (by decide) (by decide)))
  replace F_o0_bottom := F_o0_bottom.other W9 (Or.inr (slot_ne (Or.inr (hw _ (List.mem_of_getElem? (i := 24) rfl))) (Or.inr (hw _ (List.mem_of_getElem? (i := 30) rfl))) (by decide) (t := .double) (t' := .double) (by decide) (by decide)))
  replace F_o0_baseTop := F_o0_baseTop.other W9 (Or.inr (slot_ne (Or.inr (hw _ (List.mem_of_getElem? (i := 26) rfl))) (Or.inr (hw _ (List.mem_of_getElem? (i := 30) rfl))) (by decide) (t := .double) (t' := .double) (by decide) (by decide)))
  replace F_o0_leftTop := F_o0_leftTop.other W9 (Or.inr (slot_ne (Or.inr (hw _ (List.mem_of_getElem? (i := 28) rfl))) (Or.inr (hw _ (List.mem_of_getElem? (i := 30) rfl))) (by decide) (t := .double) (t' := .double) (by decide) (by decide)))
  replace F_o0_barTop := F_o0_barTop.same W9
  replace F_o0_rightTop := F_o0_rightTop.other W9 (Or.inr (slot_ne (Or.inr (hw _ (List.mem_of_getElem? (i := 32) rfl))) (Or.inr (hw _ (List.mem_of_getElem? (i := 30) rfl))) (by decide) (t := .double) (t' := .double) (by decide) (by decide)))
  have N9 := Fr.snoc X9 N8 g_o0
  replace K0 := K0.wr W9 (Or.inl (by simp))
  replace Z0 := Nat.le_trans Z0 (Nat.le_of_eq W9.size.symm)
  refine own_aloadN X9 hx hby rfl rfl d1_50 (pc' := 51) rfl ?_
  refine own_dload X9 hx hby rfl d1_51 (pc' := 53) rfl ?_
  refine own_putF X9 hx hby hZ hown (host := "") (Or.inl (hw _ (List.mem_of_getElem? (i := 31) rfl))) Via.refl eH9 F_o0_rightTop E_o0 (Or.inr ⟨(hw _ (List.mem_of_getElem? (i := 32) rfl)), rfl, hnm⟩) (hw _ (List.mem_of_getElem? (i := 2) rfl)) (ty := .double) (by decide) rfl rfl d1_53 (pc' := 56) rfl (fun T10 h10 X10 eH10 W10 => ?_)
  replace E_o0 := E_o0.wr W10
  replace F_o0_left := F_o0_left.other W10 (Or.inr (slot_ne (Or.inr (hw _ (List.mem_of_getElem? (i := 16) rfl))) (Or.inr (hw _ (List.mem_of_getElem? (i := 32) rfl))) (by decide) (t := .double) (t' := .double) (by decide) (by decide)))
  replace F_o0_barLeft := F_o0_barLeft.other W10 (Or.inr (slot_ne (Or.inr (hw _ (List.mem_of_getElem? (i := 18) rfl))) (Or.inr (hw _ (List.mem_of_getElem? (i := 32) rfl))) (by decide) (t := .double) (t' := .double) (by decide) (by decide)))
  replace F_o0_barRight := F_o0_barRight.other W10 (Or.inr (slot_ne (Or.inr (hw _ (List.mem_of_getElem? (i := 20) rfl))) (Or.inr (hw _ (List.mem_of_getElem? (i := 32) rfl))) (by decide) (t := .double) (t' := .double) (by decide) (by decide)))
  replace F_o0_right := F_o0_right.other W10 (Or.inr (slot_ne (Or.inr (hw _ (List.mem_of_getElem? (i := 22) rfl))) (Or.inr (hw _ (List.mem_of_getElem? (i := 32) rfl))) (by decide) (t := .double) (t' := .double) (by decide) (by decide)))
  replace F_o0_bottom := F_o0_bottom.other W10 (Or.inr (slot_ne (Or.inr (hw _ (List.mem_of_getElem? (i := 24) rfl))) (Or.inr (hw _ (List.mem_of_getElem? (i := 32) rfl))) (by decide) (t := .double) (t' := .double) (by decide) (by decide)))
  replace F_o0_baseTop := F_o0_baseTop.other W10 (Or.inr (slot_ne (Or.inr (hw _ (List.mem_of_getElem? (i := 26) rfl))) (Or.inr (hw _ (List.mem_of_getElem? (i := 32) rfl))) (by decide) (t := .double) (t' := .double) (by decide) (by decide)))
  replace F_o0_leftTop := F_o0_leftTop.other W10 (Or.inr (slot_ne (Or.inr (hw _ (List.mem_of_getElem? (i := 28) rfl))) (Or.inr (hw _ (List.mem_of_getElem? (i := 32) rfl))) (by decide) (t := .double) (t' := .double) (by decide) (by decide)))
  replace F_o0_barTop := F_o0_barTop.other W10 (Or.inr (slot_ne (Or.inr (hw _ (List.mem_of_getElem? (i := 30) rfl))) (Or.inr (hw _ (List.mem_of_getElem? (i := 32) rfl))) (by decide) (t := .double) (t' := .double) (by decide) (by decide)))
  replace F_o0_rightTop := F_o0_rightTop.same W10
  have N10 := Fr.snoc X10 N9 g_o0
  replace K0 := K0.wr W10 (Or.inl (by simp))
  replace Z0 := Nat.le_trans Z0 (Nat.le_of_eq W10.size.symm)
  exact own_retV X10 hx hby Bd.notSynchronized Bd.returns d1_56 (by decide) (by decide) eH10 ⟨rfl, N10, K0, E_o0, F_o0_left, F_o0_barLeft, F_o0_barRight, F_o0_right, F_o0_bottom, F_o0_baseTop, F_o0_leftTop, F_o0_barTop, F_o0_rightTop⟩
theorem ef4 (m : MethodId) (x0 : Addr) : entryFrame m #[(.ref x0)] 1 = mkF m 0 #[.val (.ref x0)] [] := by first | (simp [entryFrame, mkF, argsToLocals, Value.category]; done) | rfl
def Q4 (Z : State) (o0 : Addr) (left_o0 : UInt64) (bottom_o0 : UInt64) (right_o0 : UInt64) (baseTop_o0 : UInt64) (barLeft_o0 : UInt64) (leftTop_o0 : UInt64) (barRight_o0 : UInt64) (barTop_o0 : UInt64) (rightTop_o0 : UInt64) (h0 : Heap) (n0 : Nat) (v : Option Value) (h : Heap) (L : List Loc) : Prop := ∃ b1 b2 b12 b22 b32 : Addr, v = some (.ref b1) ∧ Fr n0 L ∧ Keep h0 h [] ∧ h0.size ≤ b1 ∧ h0.size ≤ b2 ∧ h0.size ≤ b12 ∧ h0.size ≤ b22 ∧ h0.size ≤ b32 ∧ b1 ≠ b2 ∧ b1 ≠ b12 ∧ b1 ≠ b22 ∧ b1 ≠ b32 ∧ b2 ≠ b12 ∧ b2 ≠ b22 ∧ b2 ≠ b32 ∧ b12 ≠ b22 ∧ b12 ≠ b32 ∧ b22 ≠ b32 ∧ Exa Z h b1 "[[D" ∧ Ary (ovA Z .double "[D") Z h b1 (.array .double) [(.ref b2), (.ref b12), (.ref b22), (.ref b32)] ∧ Exa Z h b2 "[D" ∧ Ary tr Z h b2 .double [(.double left_o0), (.double bottom_o0), (.double right_o0), (.double baseTop_o0)] ∧ Exa Z h b12 "[D" ∧ Ary tr Z h b12 .double [(.double left_o0), (.double baseTop_o0), (.double barLeft_o0), (.double leftTop_o0)] ∧ Exa Z h b22 "[D" ∧ Ary tr Z h b22 .double [(.double barLeft_o0), (.double baseTop_o0), (.double barRight_o0), (.double barTop_o0)] ∧ Exa Z h b32 "[D" ∧ Ary tr Z h b32 .double [(.double barRight_o0), (.double baseTop_o0), (.double right_o0), (.double rightTop_o0)]
set_option maxRecDepth 65536 in
set_option maxHeartbeats 40000000 in
theorem rm4 (l : Launch) (Z : State) (a0 : Array Value) (hw : ∀ d ∈ tables_1, d.before a0 Z = true) (ws : List Jvm.Cond) (o0 : Addr) (left_o0 : UInt64) (bottom_o0 : UInt64) (right_o0 : UInt64) (baseTop_o0 : UInt64) (barLeft_o0 : UInt64) (leftTop_o0 : UInt64) (barRight_o0 : UInt64) (barTop_o0 : UInt64) (rightTop_o0 : UInt64) (h0 : Heap) (n0 : Nat) (Z0 : n0 ≤ h0.size) (F_o0_left : Fld Z h0 o0 "com/example/dido/dido/StandingRegion" "left" "D" (.double left_o0)) (F_o0_bottom : Fld Z h0 o0 "com/example/dido/dido/StandingRegion" "bottom" "D" (.double bottom_o0)) (F_o0_right : Fld Z h0 o0 "com/example/dido/dido/StandingRegion" "right" "D" (.double right_o0)) (F_o0_baseTop : Fld Z h0 o0 "com/example/dido/dido/StandingRegion" "baseTop" "D" (.double baseTop_o0)) (F_o0_barLeft : Fld Z h0 o0 "com/example/dido/dido/StandingRegion" "barLeft" "D" (.double barLeft_o0)) (F_o0_leftTop : Fld Z h0 o0 "com/example/dido/dido/StandingRegion" "leftTop" "D" (.double leftTop_o0)) (F_o0_barRight : Fld Z h0 o0 "com/example/dido/dido/StandingRegion" "barRight" "D" (.double barRight_o0)) (F_o0_barTop : Fld Z h0 o0 "com/example/dido/dido/StandingRegion" "barTop" "D" (.double barTop_o0)) (F_o0_rightTop : Fld Z h0 o0 "com/example/dido/dido/StandingRegion" "rightTop" "D" (.double rightTop_o0)) :
    MetFree l (⟨"com/example/dido/dido/StandingRegion", "rectangles", "()[[D"⟩ : MethodName) (head1 (Jvm.Cond.code (⟨"com/example/dido/dido/StandingRegion", "rectangles", "()[[D"⟩ : MethodName) prog_24_method_4_code 1 (some (.array (.array .double))) :: ws) ({ frames := 0, cells := 5, slots := 20, locals := 0 } : Room)) (fun a U => a = #[(.ref o0)] ∧ Z.Warmed39 U.vm ∧ U.heap = h0) (fun _ _ _ _ _ => True) (fun _ U o U' => ∃ v L, o = .returned v ∧ Q4 Z o0 left_o0 bottom_o0 right_o0 baseTop_o0 barLeft_o0 leftTop_o0 barRight_o0 barTop_o0 rightTop_o0 h0 n0 v U'.heap L ∧ FrameEnd U o U' L ({ frames := 0, cells := 5, slots := 20, locals := 0 } : Room).cells ({ frames := 0, cells := 5, slots := 20, locals := 0 } : Room).slots) := by
  refine MetFree.of_bodySF (plainFor_of_name pn_com_example_dido_dido_StandingRegion) hisR ?_
  intro p e s m args below meth c s₁ Bd hml0 hP hK
  obtain ⟨rfl, hZ, hh⟩ := hP
  have hx := Bd.exec
  have hby := Bd.bytes
  have hml : c.maxLocals = 1 := hml0
  have hown : s.vm.findClass "com/example/dido/dido/StandingRegion" = some m.cls := findClass_of_methodNamed Bd.named
  have hnm := (name_of_methodNamed Bd.named Bd.method).1
  have X0 : Stand p l e ({ frames := 0, cells := 5, slots := 20, locals := 0 } : Room) s m #[(.ref o0)] below meth c s₁ [] 0 0 := Stand.of_body Bd
  have eH0 : s₁.heap = h0 := by rw [← hh, Bd.state]; rfl
  have N0 := Fr.nil n0
  have K0 := Keep.refl h0 []
  show Gt p.tables e below (fun o U' => ∃ v L, o = .returned v ∧ Q4 Z o0 left_o0 bottom_o0 right_o0 baseTop_o0 barLeft_o0 leftTop_o0 barRight_o0 barTop_o0 rightTop_o0 h0 n0 v U'.heap L ∧ FrameEnd s o U' L ({ frames := 0, cells := 5, slots := 20, locals := 0 } : Room).cells ({ frames := 0, cells := 5, slots := 20, locals := 0 } : Room).slots) _
  refine own_cast (ef4 m o0) ?_
  refine own_iconst X0 hx hby (v := (4 : Int32)) (by decide) d4_0 (pc' := 1) rfl ?_
  refine own_newRA X0 hx hby hZ hown (ty := .double) (C := "[D") (by decide) (hw _ (List.mem_of_getElem? (i := 38) rfl)) (hw _ (List.mem_of_getElem? (i := 39) rfl)) eH0 d4_1 (pc' := 4) rfl (by decide) (N := 4) (by decide) (cap := 4) (by decide) (by decide) (by decide) (by decide) (ad := "[[D") (by decide) (fun T1 h1 b1 X1 eH1 E1 g1 E_b1 V_b1 => ?_)
  have g_b1 : n0 ≤ b1 := g1 ▸ Z0
  have sz_b1 : h0.size ≤ b1 := g1 ▸ K0.1
  have ne_o0_b1 : o0 ≠ b1 := Nat.ne_of_lt (g1 ▸ F_o0_left.lt)
  replace F_o0_left := F_o0_left.ext E1
  replace F_o0_bottom := F_o0_bottom.ext E1
  replace F_o0_right := F_o0_right.ext E1
  replace F_o0_baseTop := F_o0_baseTop.ext E1
  replace F_o0_barLeft := F_o0_barLeft.ext E1
  replace F_o0_leftTop := F_o0_leftTop.ext E1
  replace F_o0_barRight := F_o0_barRight.ext E1
  replace F_o0_barTop := F_o0_barTop.ext E1
  replace F_o0_rightTop := F_o0_rightTop.ext E1
  replace K0 := K0.ext E1
  replace Z0 := Nat.le_trans Z0 E1.1
  have V_b1 : Ary (ovA Z .double "[D") Z h1 b1 (.array .double) [.null, .null, .null, .null] := V_b1
  refine own_dup X1 hx hby rfl d4_4 (pc' := 5) rfl ?_
  refine own_iconst X1 hx hby (v := (0 : Int32)) (by decide) d4_5 (pc' := 6) rfl ?_
  refine own_iconst X1 hx hby (v := (4 : Int32)) (by decide) d4_6 (pc' := 7) rfl ?_
  refine own_newP X1 hx hby hZ (hw _ (List.mem_of_getElem? (i := 40) rfl)) eH1 d4_7 (pc' := 9) rfl (by decide) (N := 4) (by decide) (cap := 4) (by decide) (by decide) (by decide) (by decide) (ad := "[D") (by decide) (fun T2 h2 b2 X2 eH2 E2 g2 E_b2 V_b2 => ?_)
  have g_b2 : n0 ≤ b2 := g2 ▸ Z0
  have sz_b2 : h0.size ≤ b2 := g2 ▸ K0.1
  have ne_o0_b2 : o0 ≠ b2 := Nat.ne_of_lt (g2 ▸ F_o0_left.lt)
  have ne_b1_b2 : b1 ≠ b2 := Nat.ne_of_lt (g2 ▸ E_b1.lt)
  replace F_o0_left := F_o0_left.ext E2
  replace F_o0_bottom := F_o0_bottom.ext E2
  replace F_o0_right := F_o0_right.ext E2
  replace F_o0_baseTop := F_o0_baseTop.ext E2
  replace F_o0_barLeft := F_o0_barLeft.ext E2
  replace F_o0_leftTop := F_o0_leftTop.ext E2
  replace F_o0_barRight := F_o0_barRight.ext E2
  replace F_o0_barTop := F_o0_barTop.ext E2
  replace F_o0_rightTop := F_o0_rightTop.ext E2
  replace E_b1 := E_b1.ext E2
  replace V_b1 := V_b1.ext E2
  replace K0 := K0.ext E2
  replace Z0 := Nat.le_trans Z0 E2.1
  have V_b2 : Ary tr Z h2 b2 .double [(.double (0 : UInt64)), (.double (0 : UInt64)), (.double (0 : UInt64)), (.double (0 : UInt64))] := V_b2
  refine own_dup X2 hx hby rfl d4_9 (pc' := 10) rfl ?_
  refine own_iconst X2 hx hby (v := (0 : Int32)) (by decide) d4_10 (pc' := 11) rfl ?_
  refine own_aloadN X2 hx hby rfl rfl d4_11 (pc' := 12) rfl ?_
  refine own_getF X2 hx hby hZ hown (host := "") (Or.inl (hw _ (List.mem_of_getElem? (i := 15) rfl))) Via.refl eH2 F_o0_left d4_12 (pc' := 15) rfl (fun T3 X3 eH3 => ?_)
  refine own_dastore X3 hx hby hZ eH3 V_b2 (by decide) (n := 0) (by decide) (of_decide_eq_true rfl) d4_15 (pc' := 16) rfl (fun T4 h4 X4 eH4 W4 => ?_)
  replace F_o0_left := F_o0_left.other W4 (Or.inl ne_o0_b2)
  replace F_o0_bottom := F_o0_bottom.other W4 (Or.inl ne_o0_b2)
  replace F_o0_right := F_o0_right.other W4 (Or.inl ne_o0_b2)
  replace F_o0_baseTop := F_o0_baseTop.other W4 (Or.inl ne_o0_b2)
  replace F_o0_barLeft := F_o0_barLeft.other W4 (Or.inl ne_o0_b2)
  replace F_o0_leftTop := F_o0_leftTop.other W4 (Or.inl ne_o0_b2)
  replace F_o0_barRight := F_o0_barRight.other W4 (Or.inl ne_o0_b2)
  replace F_o0_barTop := F_o0_barTop.other W4 (Or.inl ne_o0_b2)
  replace F_o0_rightTop := F_o0_rightTop.other W4 (Or.inl ne_o0_b2)
  replace E_b1 := E_b1.wr W4
  replace V_b1 := V_b1.other W4 ne_b1_b2
  replace E_b2 := E_b2.wr W4
  have N4 := Fr.snoc X4 N0 g_b2
  replace K0 := K0.wr W4 (Or.inr sz_b2)
  replace Z0 := Nat.le_trans Z0 (Nat.le_of_eq W4.size.symm)
  replace V_b2 : Ary tr Z h4 b2 .double [(.double left_o0), (.double (0 : UInt64)), (.double (0 : UInt64)), (.double (0 : UInt64))] := V_b2.set W4
  refine own_dup X4 hx hby rfl d4_16 (pc' := 17) rfl ?_
  refine own_iconst X4 hx hby (v := (1 : Int32)) (by decide) d4_17 (pc' := 18) rfl ?_
  refine own_aloadN X4 hx hby rfl rfl d4_18 (pc' := 19) rfl ?_
  refine own_getF X4 hx hby hZ hown (host := "") (Or.inl (hw _ (List.mem_of_getElem? (i := 23) rfl))) Via.refl eH4 F_o0_bottom d4_19 (pc' := 22) rfl (fun T5 X5 eH5 => ?_)
  refine own_dastore X5 hx hby hZ eH5 V_b2 (by decide) (n := 1) (by decide) (of_decide_eq_true rfl) d4_22 (pc' := 23) rfl (fun T6 h6 X6 eH6 W6 => ?_)
  replace F_o0_left := F_o0_left.other W6 (Or.inl ne_o0_b2)
  replace F_o0_bottom := F_o0_bottom.other W6 (Or.inl ne_o0_b2)
  replace F_o0_right := F_o0_right.other W6 (Or.inl ne_o0_b2)
  replace F_o0_baseTop := F_o0_baseTop.other W6 (Or.inl ne_o0_b2)
  replace F_o0_barLeft := F_o0_barLeft.other W6 (Or.inl ne_o0_b2)
  replace F_o0_leftTop := F_o0_leftTop.other W6 (Or.inl ne_o0_b2)
  replace F_o0_barRight := F_o0_barRight.other W6 (Or.inl ne_o0_b2)
  replace F_o0_barTop := F_o0_barTop.other W6 (Or.inl ne_o0_b2)
  replace F_o0_rightTop := F_o0_rightTop.other W6 (Or.inl ne_o0_b2)
  replace E_b1 := E_b1.wr W6
  replace V_b1 := V_b1.other W6 ne_b1_b2
  replace E_b2 := E_b2.wr W6
  have N6 := Fr.snoc X6 N4 g_b2
  replace K0 := K0.wr W6 (Or.inr sz_b2)
  replace Z0 := Nat.le_trans Z0 (Nat.le_of_eq W6.size.symm)
  replace V_b2 : Ary tr Z h6 b2 .double [(.double left_o0), (.double bottom_o0), (.double (0 : UInt64)), (.double (0 : UInt64))] := V_b2.set W6
  refine own_dup X6 hx hby rfl d4_23 (pc' := 24) rfl ?_
  refine own_iconst X6 hx hby (v := (2 : Int32)) (by decide) d4_24 (pc' := 25) rfl ?_
  refine own_aloadN X6 hx hby rfl rfl d4_25 (pc' := 26) rfl ?_
  refine own_getF X6 hx hby hZ hown (host := "") (Or.inl (hw _ (List.mem_of_getElem? (i := 21) rfl))) Via.refl eH6 F_o0_right d4_26 (pc' := 29) rfl (fun T7 X7 eH7 => ?_)
  refine own_dastore X7 hx hby hZ eH7 V_b2 (by decide) (n := 2) (by decide) (of_decide_eq_true rfl) d4_29 (pc' := 30) rfl (fun T8 h8 X8 eH8 W8 => ?_)
  replace F_o0_left := F_o0_left.other W8 (Or.inl ne_o0_b2)
  replace F_o0_bottom := F_o0_bottom.other W8 (Or.inl ne_o0_b2)
  replace F_o0_right := F_o0_right.other W8 (Or.inl ne_o0_b2)
  replace F_o0_baseTop := F_o0_baseTop.other W8 (Or.inl ne_o0_b2)
  replace F_o0_barLeft := F_o0_barLeft.other W8 (Or.inl ne_o0_b2)
  replace F_o0_leftTop := F_o0_leftTop.other W8 (Or.inl ne_o0_b2)
  replace F_o0_barRight := F_o0_barRight.other W8 (Or.inl ne_o0_b2)
  replace F_o0_barTop := F_o0_barTop.other W8 (Or.inl ne_o0_b2)
  replace F_o0_rightTop := F_o0_rightTop.other W8 (Or.inl ne_o0_b2)
  replace E_b1 := E_b1.wr W8
  replace V_b1 := V_b1.other W8 ne_b1_b2
  replace E_b2 := E_b2.wr W8
  have N8 := Fr.snoc X8 N6 g_b2
  replace K0 := K0.wr W8 (Or.inr sz_b2)
  replace Z0 := Nat.le_trans Z0 (Nat.le_of_eq W8.size.symm)
  replace V_b2 : Ary tr Z h8 b2 .double [(.double left_o0), (.double bottom_o0), (.double right_o0), (.double (0 : UInt64))] := V_b2.set W8
  refine own_dup X8 hx hby rfl d4_30 (pc' := 31) rfl ?_
  refine own_iconst X8 hx hby (v := (3 : Int32)) (by decide) d4_31 (pc' := 32) rfl ?_
  refine own_aloadN X8 hx hby rfl rfl d4_32 (pc' := 33) rfl ?_
  refine own_getF X8 hx hby hZ hown (host := "") (Or.inl (hw _ (List.mem_of_getElem? (i := 25) rfl))) Via.refl eH8 F_o0_baseTop d4_33 (pc' := 36) rfl (fun T9 X9 eH9 => ?_)
  refine own_dastore X9 hx hby hZ eH9 V_b2 (by decide) (n := 3) (by decide) (of_decide_eq_true rfl) d4_36 (pc' := 37) rfl (fun T10 h10 X10 eH10 W10 => ?_)
  replace F_o0_left := F_o0_left.other W10 (Or.inl ne_o0_b2)
  replace F_o0_bottom := F_o0_bottom.other W10 (Or.inl ne_o0_b2)
  replace F_o0_right := F_o0_right.other W10 (Or.inl ne_o0_b2)
  replace F_o0_baseTop := F_o0_baseTop.other W10 (Or.inl ne_o0_b2)
  replace F_o0_barLeft := F_o0_barLeft.other W10 (Or.inl ne_o0_b2)
  replace F_o0_leftTop := F_o0_leftTop.other W10 (Or.inl ne_o0_b2)
  replace F_o0_barRight := F_o0_barRight.other W10 (Or.inl ne_o0_b2)
  replace F_o0_barTop := F_o0_barTop.other W10 (Or.inl ne_o0_b2)
  replace F_o0_rightTop := F_o0_rightTop.other W10 (Or.inl ne_o0_b2)
  replace E_b1 := E_b1.wr W10
  replace V_b1 := V_b1.other W10 ne_b1_b2
  replace E_b2 := E_b2.wr W10
  have N10 := Fr.snoc X10 N8 g_b2
  replace K0 := K0.wr W10 (Or.inr sz_b2)
  replace Z0 := Nat.le_trans Z0 (Nat.le_of_eq W10.size.symm)
  replace V_b2 : Ary tr Z h10 b2 .double [(.double left_o0), (.double bottom_o0), (.double right_o0), (.double baseTop_o0)] := V_b2.set W10
  refine own_aastoreA X10 hx hby hZ eH10 V_b1 E_b2 (by decide) (n := 0) (by decide) (of_decide_eq_true rfl) d4_37 (pc' := 38) rfl (fun T11 h11 X11 eH11 W11 => ?_)
  replace F_o0_left := F_o0_left.other W11 (Or.inl ne_o0_b1)
  replace F_o0_bottom := F_o0_bottom.other W11 (Or.inl ne_o0_b1)
  replace F_o0_right := F_o0_right.other W11 (Or.inl ne_o0_b1)
  replace F_o0_baseTop := F_o0_baseTop.other W11 (Or.inl ne_o0_b1)
  replace F_o0_barLeft := F_o0_barLeft.other W11 (Or.inl ne_o0_b1)
  replace F_o0_leftTop := F_o0_leftTop.other W11 (Or.inl ne_o0_b1)
  replace F_o0_barRight := F_o0_barRight.other W11 (Or.inl ne_o0_b1)
  replace F_o0_barTop := F_o0_barTop.other W11 (Or.inl ne_o0_b1)
  replace F_o0_rightTop := F_o0_rightTop.other W11 (Or.inl ne_o0_b1)
  replace E_b1 := E_b1.wr W11
  replace E_b2 := E_b2.wr W11
  replace V_b2 := V_b2.other W11 (Ne.symm ne_b1_b2)
  have N11 := Fr.snoc X11 N10 g_b1
  replace K0 := K0.wr W11 (Or.inr sz_b1)
  replace Z0 := Nat.le_trans Z0 (Nat.le_of_eq W11.size.symm)
  replace V_b1 : Ary (ovA Z .double "[D") Z h11 b1 (.array .double) [(.ref b2), .null, .null, .null] := V_b1.set W11
  refine own_dup X11 hx hby rfl d4_38 (pc' := 39) rfl ?_
  refine own_iconst X11 hx hby (v := (1 : Int32)) (by decide) d4_39 (pc' := 40) rfl ?_
  refine own_iconst X11 hx hby (v := (4 : Int32)) (by decide) d4_40 (pc' := 41) rfl ?_
  refine own_newP X11 hx hby hZ (hw _ (List.mem_of_getElem? (i := 40) rfl)) eH11 d4_41 (pc' := 43) rfl (by decide) (N := 4) (by decide) (cap := 4) (by decide) (by decide) (by decide) (by decide) (ad := "[D") (by decide) (fun T12 h12 b12 X12 eH12 E12 g12 E_b12 V_b12 => ?_)
  have g_b12 : n0 ≤ b12 := g12 ▸ Z0
  have sz_b12 : h0.size ≤ b12 := g12 ▸ K0.1
  have ne_o0_b12 : o0 ≠ b12 := Nat.ne_of_lt (g12 ▸ F_o0_left.lt)
  have ne_b1_b12 : b1 ≠ b12 := Nat.ne_of_lt (g12 ▸ E_b1.lt)
  have ne_b2_b12 : b2 ≠ b12 := Nat.ne_of_lt (g12 ▸ E_b2.lt)
  replace F_o0_left := F_o0_left.ext E12
  replace F_o0_bottom := F_o0_bottom.ext E12
  replace F_o0_right := F_o0_right.ext E12
  replace F_o0_baseTop := F_o0_baseTop.ext E12
  replace F_o0_barLeft := F_o0_barLeft.ext E12
  replace F_o0_leftTop := F_o0_leftTop.ext E12
  replace F_o0_barRight := F_o0_barRight.ext E12
  replace F_o0_barTop := F_o0_barTop.ext E12
  replace F_o0_rightTop := F_o0_rightTop.ext E12
  replace E_b1 := E_b1.ext E12
  replace V_b1 := V_b1.ext E12
  replace E_b2 := E_b2.ext E12
  replace V_b2 := V_b2.ext E12
  replace K0 := K0.ext E12
  replace Z0 := Nat.le_trans Z0 E12.1
  have V_b12 : Ary tr Z h12 b12 .double [(.double (0 : UInt64)), (.double (0 : UInt64)), (.double (0 : UInt64)), (.double (0 : UInt64))] := V_b12
  refine own_dup X12 hx hby rfl d4_43 (pc' := 44) rfl ?_
  refine own_iconst X12 hx hby (v := (0 : Int32)) (by decide) d4_44 (pc' := 45) rfl ?_
  refine own_aloadN X12 hx hby rfl rfl d4_45 (pc' := 46) rfl ?_
  refine own_getF X12 hx hby hZ hown (host := "") (Or.inl (hw _ (List.mem_of_getElem? (i := 15) rfl))) Via.refl eH12 F_o0_left d4_46 (pc' := 49) rfl (fun T13 X13 eH13 => ?_)
  refine own_dastore X13 hx hby hZ eH13 V_b12 (by decide) (n := 0) (by decide) (of_decide_eq_true rfl) d4_49 (pc' := 50) rfl (fun T14 h14 X14 eH14 W14 => ?_)
  replace F_o0_left := F_o0_left.other W14 (Or.inl ne_o0_b12)
  replace F_o0_bottom := F_o0_bottom.other W14 (Or.inl ne_o0_b12)
  replace F_o0_right := F_o0_right.other W14 (Or.inl ne_o0_b12)
  replace F_o0_baseTop := F_o0_baseTop.other W14 (Or.inl ne_o0_b12)
  replace F_o0_barLeft := F_o0_barLeft.other W14 (Or.inl ne_o0_b12)
  replace F_o0_leftTop := F_o0_leftTop.other W14 (Or.inl ne_o0_b12)
  replace F_o0_barRight := F_o0_barRight.other W14 (Or.inl ne_o0_b12)
  replace F_o0_barTop := F_o0_barTop.other W14 (Or.inl ne_o0_b12)
  replace F_o0_rightTop := F_o0_rightTop.other W14 (Or.inl ne_o0_b12)
  replace E_b1 := E_b1.wr W14
  replace V_b1 := V_b1.other W14 ne_b1_b12
  replace E_b2 := E_b2.wr W14
  replace V_b2 := V_b2.other W14 ne_b2_b12
  replace E_b12 := E_b12.wr W14
  have N14 := Fr.snoc X14 N11 g_b12
  replace K0 := K0.wr W14 (Or.inr sz_b12)
  replace Z0 := Nat.le_trans Z0 (Nat.le_of_eq W14.size.symm)
  replace V_b12 : Ary tr Z h14 b12 .double [(.double left_o0), (.double (0 : UInt64)), (.double (0 : UInt64)), (.double (0 : UInt64))] := V_b12.set W14
  refine own_dup X14 hx hby rfl d4_50 (pc' := 51) rfl ?_
  refine own_iconst X14 hx hby (v := (1 : Int32)) (by decide) d4_51 (pc' := 52) rfl ?_
  refine own_aloadN X14 hx hby rfl rfl d4_52 (pc' := 53) rfl ?_
  refine own_getF X14 hx hby hZ hown (host := "") (Or.inl (hw _ (List.mem_of_getElem? (i := 25) rfl))) Via.refl eH14 F_o0_baseTop d4_53 (pc' := 56) rfl (fun T15 X15 eH15 => ?_)
  refine own_dastore X15 hx hby hZ eH15 V_b12 (by decide) (n := 1) (by decide) (of_decide_eq_true rfl) d4_56 (pc' := 57) rfl (fun T16 h16 X16 eH16 W16 => ?_)
  replace F_o0_left := F_o0_left.other W16 (Or.inl ne_o0_b12)
  replace F_o0_bottom := F_o0_bottom.other W16 (Or.inl ne_o0_b12)
  replace F_o0_right := F_o0_right.other W16 (Or.inl ne_o0_b12)
  replace F_o0_baseTop := F_o0_baseTop.other W16 (Or.inl ne_o0_b12)
  replace F_o0_barLeft := F_o0_barLeft.other W16 (Or.inl ne_o0_b12)
  replace F_o0_leftTop := F_o0_leftTop.other W16 (Or.inl ne_o0_b12)
  replace F_o0_barRight := F_o0_barRight.other W16 (Or.inl ne_o0_b12)
  replace F_o0_barTop := F_o0_barTop.other W16 (Or.inl ne_o0_b12)
  replace F_o0_rightTop := F_o0_rightTop.other W16 (Or.inl ne_o0_b12)
  replace E_b1 := E_b1.wr W16
  replace V_b1 := V_b1.other W16 ne_b1_b12
  replace E_b2 := E_b2.wr W16
  replace V_b2 := V_b2.other W16 ne_b2_b12
  replace E_b12 := E_b12.wr W16
  have N16 := Fr.snoc X16 N14 g_b12
  replace K0 := K0.wr W16 (Or.inr sz_b12)
  replace Z0 := Nat.le_trans Z0 (Nat.le_of_eq W16.size.symm)
  replace V_b12 : Ary tr Z h16 b12 .double [(.double left_o0), (.double baseTop_o0), (.double (0 : UInt64)), (.double (0 : UInt64))] := V_b12.set W16
  refine own_dup X16 hx hby rfl d4_57 (pc' := 58) rfl ?_
  refine own_iconst X16 hx hby (v := (2 : Int32)) (by decide) d4_58 (pc' := 59) rfl ?_
  refine own_aloadN X16 hx hby rfl rfl d4_59 (pc' := 60) rfl ?_
  refine own_getF X16 hx hby hZ hown (host := "") (Or.inl (hw _ (List.mem_of_getElem? (i := 17) rfl))) Via.refl eH16 F_o0_barLeft d4_60 (pc' := 63) rfl (fun T17 X17 eH17 => ?_)
  refine own_dastore X17 hx hby hZ eH17 V_b12 (by decide) (n := 2) (by decide) (of_decide_eq_true rfl) d4_63 (pc' := 64) rfl (fun T18 h18 X18 eH18 W18 => ?_)
  replace F_o0_left := F_o0_left.other W18 (Or.inl ne_o0_b12)
  replace F_o0_bottom := F_o0_bottom.other W18 (Or.inl ne_o0_b12)
  replace F_o0_right := F_o0_right.other W18 (Or.inl ne_o0_b12)
  replace F_o0_baseTop := F_o0_baseTop.other W18 (Or.inl ne_o0_b12)
  replace F_o0_barLeft := F_o0_barLeft.other W18 (Or.inl ne_o0_b12)
  replace F_o0_leftTop := F_o0_leftTop.other W18 (Or.inl ne_o0_b12)
  replace F_o0_barRight := F_o0_barRight.other W18 (Or.inl ne_o0_b12)
  replace F_o0_barTop := F_o0_barTop.other W18 (Or.inl ne_o0_b12)
  replace F_o0_rightTop := F_o0_rightTop.other W18 (Or.inl ne_o0_b12)
  replace E_b1 := E_b1.wr W18
  replace V_b1 := V_b1.other W18 ne_b1_b12
  replace E_b2 := E_b2.wr W18
  replace V_b2 := V_b2.other W18 ne_b2_b12
  replace E_b12 := E_b12.wr W18
  have N18 := Fr.snoc X18 N16 g_b12
  replace K0 := K0.wr W18 (Or.inr sz_b12)
  replace Z0 := Nat.le_trans Z0 (Nat.le_of_eq W18.size.symm)
  replace V_b12 : Ary tr Z h18 b12 .double [(.double left_o0), (.double baseTop_o0), (.double barLeft_o0), (.double (0 : UInt64))] := V_b12.set W18
  refine own_dup X18 hx hby rfl d4_64 (pc' := 65) rfl ?_
  refine own_iconst X18 hx hby (v := (3 : Int32)) (by decide) d4_65 (pc' := 66) rfl ?_
  refine own_aloadN X18 hx hby rfl rfl d4_66 (pc' := 67) rfl ?_
  refine own_getF X18 hx hby hZ hown (host := "") (Or.inl (hw _ (List.mem_of_getElem? (i := 27) rfl))) Via.refl eH18 F_o0_leftTop d4_67 (pc' := 70) rfl (fun T19 X19 eH19 => ?_)
  refine own_dastore X19 hx hby hZ eH19 V_b12 (by decide) (n := 3) (by decide) (of_decide_eq_true rfl) d4_70 (pc' := 71) rfl (fun T20 h20 X20 eH20 W20 => ?_)
  replace F_o0_left := F_o0_left.other W20 (Or.inl ne_o0_b12)
  replace F_o0_bottom := F_o0_bottom.other W20 (Or.inl ne_o0_b12)
  replace F_o0_right := F_o0_right.other W20 (Or.inl ne_o0_b12)
  replace F_o0_baseTop := F_o0_baseTop.other W20 (Or.inl ne_o0_b12)
  replace F_o0_barLeft := F_o0_barLeft.other W20 (Or.inl ne_o0_b12)
  replace F_o0_leftTop := F_o0_leftTop.other W20 (Or.inl ne_o0_b12)
  replace F_o0_barRight := F_o0_barRight.other W20 (Or.inl ne_o0_b12)
  replace F_o0_barTop := F_o0_barTop.other W20 (Or.inl ne_o0_b12)
  replace F_o0_rightTop := F_o0_rightTop.other W20 (Or.inl ne_o0_b12)
  replace E_b1 := E_b1.wr W20
  replace V_b1 := V_b1.other W20 ne_b1_b12
  replace E_b2 := E_b2.wr W20
  replace V_b2 := V_b2.other W20 ne_b2_b12
  replace E_b12 := E_b12.wr W20
  have N20 := Fr.snoc X20 N18 g_b12
  replace K0 := K0.wr W20 (Or.inr sz_b12)
  replace Z0 := Nat.le_trans Z0 (Nat.le_of_eq W20.size.symm)
  replace V_b12 : Ary tr Z h20 b12 .double [(.double left_o0), (.double baseTop_o0), (.double barLeft_o0), (.double leftTop_o0)] := V_b12.set W20
  refine own_aastoreA X20 hx hby hZ eH20 V_b1 E_b12 (by decide) (n := 1) (by decide) (of_decide_eq_true rfl) d4_71 (pc' := 72) rfl (fun T21 h21 X21 eH21 W21 => ?_)
  replace F_o0_left := F_o0_left.other W21 (Or.inl ne_o0_b1)
  replace F_o0_bottom := F_o0_bottom.other W21 (Or.inl ne_o0_b1)
  replace F_o0_right := F_o0_right.other W21 (Or.inl ne_o0_b1)
  replace F_o0_baseTop := F_o0_baseTop.other W21 (Or.inl ne_o0_b1)
  replace F_o0_barLeft := F_o0_barLeft.other W21 (Or.inl ne_o0_b1)
  replace F_o0_leftTop := F_o0_leftTop.other W21 (Or.inl ne_o0_b1)
  replace F_o0_barRight := F_o0_barRight.other W21 (Or.inl ne_o0_b1)
  replace F_o0_barTop := F_o0_barTop.other W21 (Or.inl ne_o0_b1)
  replace F_o0_rightTop := F_o0_rightTop.other W21 (Or.inl ne_o0_b1)
  replace E_b1 := E_b1.wr W21
  replace E_b2 := E_b2.wr W21
  replace V_b2 := V_b2.other W21 (Ne.symm ne_b1_b2)
  replace E_b12 := E_b12.wr W21
  replace V_b12 := V_b12.other W21 (Ne.symm ne_b1_b12)
  have N21 := Fr.snoc X21 N20 g_b1
  replace K0 := K0.wr W21 (Or.inr sz_b1)
  replace Z0 := Nat.le_trans Z0 (Nat.le_of_eq W21.size.symm)
  replace V_b1 : Ary (ovA Z .double "[D") Z h21 b1 (.array .double) [(.ref b2), (.ref b12), .null, .null] := V_b1.set W21
  refine own_dup X21 hx hby rfl d4_72 (pc' := 73) rfl ?_
  refine own_iconst X21 hx hby (v := (2 : Int32)) (by decide) d4_73 (pc' := 74) rfl ?_
  refine own_iconst X21 hx hby (v := (4 : Int32)) (by decide) d4_74 (pc' := 75) rfl ?_
  refine own_newP X21 hx hby hZ (hw _ (List.mem_of_getElem? (i := 40) rfl)) eH21 d4_75 (pc' := 77) rfl (by decide) (N := 4) (by decide) (cap := 4) (by decide) (by decide) (by decide) (by decide) (ad := "[D") (by decide) (fun T22 h22 b22 X22 eH22 E22 g22 E_b22 V_b22 => ?_)
  have g_b22 : n0 ≤ b22 := g22 ▸ Z0
  have sz_b22 : h0.size ≤ b22 := g22 ▸ K0.1
  have ne_o0_b22 : o0 ≠ b22 := Nat.ne_of_lt (g22 ▸ F_o0_left.lt)
  have ne_b1_b22 : b1 ≠ b22 := Nat.ne_of_lt (g22 ▸ E_b1.lt)
  have ne_b2_b22 : b2 ≠ b22 := Nat.ne_of_lt (g22 ▸ E_b2.lt)
  have ne_b12_b22 : b12 ≠ b22 := Nat.ne_of_lt (g22 ▸ E_b12.lt)
  replace F_o0_left := F_o0_left.ext E22
  replace F_o0_bottom := F_o0_bottom.ext E22
  replace F_o0_right := F_o0_right.ext E22
  replace F_o0_baseTop := F_o0_baseTop.ext E22
  replace F_o0_barLeft := F_o0_barLeft.ext E22
  replace F_o0_leftTop := F_o0_leftTop.ext E22
  replace F_o0_barRight := F_o0_barRight.ext E22
  replace F_o0_barTop := F_o0_barTop.ext E22
  replace F_o0_rightTop := F_o0_rightTop.ext E22
  replace E_b1 := E_b1.ext E22
  replace V_b1 := V_b1.ext E22
  replace E_b2 := E_b2.ext E22
  replace V_b2 := V_b2.ext E22
  replace E_b12 := E_b12.ext E22
  replace V_b12 := V_b12.ext E22
  replace K0 := K0.ext E22
  replace Z0 := Nat.le_trans Z0 E22.1
  have V_b22 : Ary tr Z h22 b22 .double [(.double (0 : UInt64)), (.double (0 : UInt64)), (.double (0 : UInt64)), (.double (0 : UInt64))] := V_b22
  refine own_dup X22 hx hby rfl d4_77 (pc' := 78) rfl ?_
  refine own_iconst X22 hx hby (v := (0 : Int32)) (by decide) d4_78 (pc' := 79) rfl ?_
  refine own_aloadN X22 hx hby rfl rfl d4_79 (pc' := 80) rfl ?_
  refine own_getF X22 hx hby hZ hown (host := "") (Or.inl (hw _ (List.mem_of_getElem? (i := 17) rfl))) Via.refl eH22 F_o0_barLeft d4_80 (pc' := 83) rfl (fun T23 X23 eH23 => ?_)
  refine own_dastore X23 hx hby hZ eH23 V_b22 (by decide) (n := 0) (by decide) (of_decide_eq_true rfl) d4_83 (pc' := 84) rfl (fun T24 h24 X24 eH24 W24 => ?_)
  replace F_o0_left := F_o0_left.other W24 (Or.inl ne_o0_b22)
  replace F_o0_bottom := F_o0_bottom.other W24 (Or.inl ne_o0_b22)
  replace F_o0_right := F_o0_right.other W24 (Or.inl ne_o0_b22)
  replace F_o0_baseTop := F_o0_baseTop.other W24 (Or.inl ne_o0_b22)
  replace F_o0_barLeft := F_o0_barLeft.other W24 (Or.inl ne_o0_b22)
  replace F_o0_leftTop := F_o0_leftTop.other W24 (Or.inl ne_o0_b22)
  replace F_o0_barRight := F_o0_barRight.other W24 (Or.inl ne_o0_b22)
  replace F_o0_barTop := F_o0_barTop.other W24 (Or.inl ne_o0_b22)
  replace F_o0_rightTop := F_o0_rightTop.other W24 (Or.inl ne_o0_b22)
  replace E_b1 := E_b1.wr W24
  replace V_b1 := V_b1.other W24 ne_b1_b22
  replace E_b2 := E_b2.wr W24
  replace V_b2 := V_b2.other W24 ne_b2_b22
  replace E_b12 := E_b12.wr W24
  replace V_b12 := V_b12.other W24 ne_b12_b22
  replace E_b22 := E_b22.wr W24
  have N24 := Fr.snoc X24 N21 g_b22
  replace K0 := K0.wr W24 (Or.inr sz_b22)
  replace Z0 := Nat.le_trans Z0 (Nat.le_of_eq W24.size.symm)
  replace V_b22 : Ary tr Z h24 b22 .double [(.double barLeft_o0), (.double (0 : UInt64)), (.double (0 : UInt64)), (.double (0 : UInt64))] := V_b22.set W24
  refine own_dup X24 hx hby rfl d4_84 (pc' := 85) rfl ?_
  refine own_iconst X24 hx hby (v := (1 : Int32)) (by decide) d4_85 (pc' := 86) rfl ?_
  refine own_aloadN X24 hx hby rfl rfl d4_86 (pc' := 87) rfl ?_
  refine own_getF X24 hx hby hZ hown (host := "") (Or.inl (hw _ (List.mem_of_getElem? (i := 25) rfl))) Via.refl eH24 F_o0_baseTop d4_87 (pc' := 90) rfl (fun T25 X25 eH25 => ?_)
  refine own_dastore X25 hx hby hZ eH25 V_b22 (by decide) (n := 1) (by decide) (of_decide_eq_true rfl) d4_90 (pc' := 91) rfl (fun T26 h26 X26 eH26 W26 => ?_)
  replace F_o0_left := F_o0_left.other W26 (Or.inl ne_o0_b22)
  replace F_o0_bottom := F_o0_bottom.other W26 (Or.inl ne_o0_b22)
  replace F_o0_right := F_o0_right.other W26 (Or.inl ne_o0_b22)
  replace F_o0_baseTop := F_o0_baseTop.other W26 (Or.inl ne_o0_b22)
  replace F_o0_barLeft := F_o0_barLeft.other W26 (Or.inl ne_o0_b22)
  replace F_o0_leftTop := F_o0_leftTop.other W26 (Or.inl ne_o0_b22)
  replace F_o0_barRight := F_o0_barRight.other W26 (Or.inl ne_o0_b22)
  replace F_o0_barTop := F_o0_barTop.other W26 (Or.inl ne_o0_b22)
  replace F_o0_rightTop := F_o0_rightTop.other W26 (Or.inl ne_o0_b22)
  replace E_b1 := E_b1.wr W26
  replace V_b1 := V_b1.other W26 ne_b1_b22
  replace E_b2 := E_b2.wr W26
  replace V_b2 := V_b2.other W26 ne_b2_b22
  replace E_b12 := E_b12.wr W26
  replace V_b12 := V_b12.other W26 ne_b12_b22
  replace E_b22 := E_b22.wr W26
  have N26 := Fr.snoc X26 N24 g_b22
  replace K0 := K0.wr W26 (Or.inr sz_b22)
  replace Z0 := Nat.le_trans Z0 (Nat.le_of_eq W26.size.symm)
  replace V_b22 : Ary tr Z h26 b22 .double [(.double barLeft_o0), (.double baseTop_o0), (.double (0 : UInt64)), (.double (0 : UInt64))] := V_b22.set W26
  refine own_dup X26 hx hby rfl d4_91 (pc' := 92) rfl ?_
  refine own_iconst X26 hx hby (v := (2 : Int32)) (by decide) d4_92 (pc' := 93) rfl ?_
  refine own_aloadN X26 hx hby rfl rfl d4_93 (pc' := 94) rfl ?_
  refine own_getF X26 hx hby hZ hown (host := "") (Or.inl (hw _ (List.mem_of_getElem? (i := 19) rfl))) Via.refl eH26 F_o0_barRight d4_94 (pc' := 97) rfl (fun T27 X27 eH27 => ?_)
  refine own_dastore X27 hx hby hZ eH27 V_b22 (by decide) (n := 2) (by decide) (of_decide_eq_true rfl) d4_97 (pc' := 98) rfl (fun T28 h28 X28 eH28 W28 => ?_)
  replace F_o0_left := F_o0_left.other W28 (Or.inl ne_o0_b22)
  replace F_o0_bottom := F_o0_bottom.other W28 (Or.inl ne_o0_b22)
  replace F_o0_right := F_o0_right.other W28 (Or.inl ne_o0_b22)
  replace F_o0_baseTop := F_o0_baseTop.other W28 (Or.inl ne_o0_b22)
  replace F_o0_barLeft := F_o0_barLeft.other W28 (Or.inl ne_o0_b22)
  replace F_o0_leftTop := F_o0_leftTop.other W28 (Or.inl ne_o0_b22)
  replace F_o0_barRight := F_o0_barRight.other W28 (Or.inl ne_o0_b22)
  replace F_o0_barTop := F_o0_barTop.other W28 (Or.inl ne_o0_b22)
  replace F_o0_rightTop := F_o0_rightTop.other W28 (Or.inl ne_o0_b22)
  replace E_b1 := E_b1.wr W28
  replace V_b1 := V_b1.other W28 ne_b1_b22
  replace E_b2 := E_b2.wr W28
  replace V_b2 := V_b2.other W28 ne_b2_b22
  replace E_b12 := E_b12.wr W28
  replace V_b12 := V_b12.other W28 ne_b12_b22
  replace E_b22 := E_b22.wr W28
  have N28 := Fr.snoc X28 N26 g_b22
  replace K0 := K0.wr W28 (Or.inr sz_b22)
  replace Z0 := Nat.le_trans Z0 (Nat.le_of_eq W28.size.symm)
  replace V_b22 : Ary tr Z h28 b22 .double [(.double barLeft_o0), (.double baseTop_o0), (.double barRight_o0), (.double (0 : UInt64))] := V_b22.set W28
  refine own_dup X28 hx hby rfl d4_98 (pc' := 99) rfl ?_
  refine own_iconst X28 hx hby (v := (3 : Int32)) (by decide) d4_99 (pc' := 100) rfl ?_
  refine own_aloadN X28 hx hby rfl rfl d4_100 (pc' := 101) rfl ?_
  refine own_getF X28 hx hby hZ hown (host := "") (Or.inl (hw _ (List.mem_of_getElem? (i := 29) rfl))) Via.refl eH28 F_o0_barTop d4_101 (pc' := 104) rfl (fun T29 X29 eH29 => ?_)
  refine own_dastore X29 hx hby hZ eH29 V_b22 (by decide) (n := 3) (by decide) (of_decide_eq_true rfl) d4_104 (pc' := 105) rfl (fun T30 h30 X30 eH30 W30 => ?_)
  replace F_o0_left := F_o0_left.other W30 (Or.inl ne_o0_b22)
  replace F_o0_bottom := F_o0_bottom.other W30 (Or.inl ne_o0_b22)
  replace F_o0_right := F_o0_right.other W30 (Or.inl ne_o0_b22)
  replace F_o0_baseTop := F_o0_baseTop.other W30 (Or.inl ne_o0_b22)
  replace F_o0_barLeft := F_o0_barLeft.other W30 (Or.inl ne_o0_b22)
  replace F_o0_leftTop := F_o0_leftTop.other W30 (Or.inl ne_o0_b22)
  replace F_o0_barRight := F_o0_barRight.other W30 (Or.inl ne_o0_b22)
  replace F_o0_barTop := F_o0_barTop.other W30 (Or.inl ne_o0_b22)
  replace F_o0_rightTop := F_o0_rightTop.other W30 (Or.inl ne_o0_b22)
  replace E_b1 := E_b1.wr W30
  replace V_b1 := V_b1.other W30 ne_b1_b22
  replace E_b2 := E_b2.wr W30
  replace V_b2 := V_b2.other W30 ne_b2_b22
  replace E_b12 := E_b12.wr W30
  replace V_b12 := V_b12.other W30 ne_b12_b22
  replace E_b22 := E_b22.wr W30
  have N30 := Fr.snoc X30 N28 g_b22
  replace K0 := K0.wr W30 (Or.inr sz_b22)
  replace Z0 := Nat.le_trans Z0 (Nat.le_of_eq W30.size.symm)
  replace V_b22 : Ary tr Z h30 b22 .double [(.double barLeft_o0), (.double baseTop_o0), (.double barRight_o0), (.double barTop_o0)] := V_b22.set W30
  refine own_aastoreA X30 hx hby hZ eH30 V_b1 E_b22 (by decide) (n := 2) (by decide) (of_decide_eq_true rfl) d4_105 (pc' := 106) rfl (fun T31 h31 X31 eH31 W31 => ?_)
  replace F_o0_left := F_o0_left.other W31 (Or.inl ne_o0_b1)
  replace F_o0_bottom := F_o0_bottom.other W31 (Or.inl ne_o0_b1)
  replace F_o0_right := F_o0_right.other W31 (Or.inl ne_o0_b1)
  replace F_o0_baseTop := F_o0_baseTop.other W31 (Or.inl ne_o0_b1)
  replace F_o0_barLeft := F_o0_barLeft.other W31 (Or.inl ne_o0_b1)
  replace F_o0_leftTop := F_o0_leftTop.other W31 (Or.inl ne_o0_b1)
  replace F_o0_barRight := F_o0_barRight.other W31 (Or.inl ne_o0_b1)
  replace F_o0_barTop := F_o0_barTop.other W31 (Or.inl ne_o0_b1)
  replace F_o0_rightTop := F_o0_rightTop.other W31 (Or.inl ne_o0_b1)
  replace E_b1 := E_b1.wr W31
  replace E_b2 := E_b2.wr W31
  replace V_b2 := V_b2.other W31 (Ne.symm ne_b1_b2)
  replace E_b12 := E_b12.wr W31
  replace V_b12 := V_b12.other W31 (Ne.symm ne_b1_b12)
  replace E_b22 := E_b22.wr W31
  replace V_b22 := V_b22.other W31 (Ne.symm ne_b1_b22)
  have N31 := Fr.snoc X31 N30 g_b1
  replace K0 := K0.wr W31 (Or.inr sz_b1)
  replace Z0 := Nat.le_trans Z0 (Nat.le_of_eq W31.size.symm)
  replace V_b1 : Ary (ovA Z .double "[D") Z h31 b1 (.array .double) [(.ref b2), (.ref b12), (.ref b22), .null] := V_b1.set W31
  refine own_dup X31 hx hby rfl d4_106 (pc' := 107) rfl ?_
  refine own_iconst X31 hx hby (v := (3 : Int32)) (by decide) d4_107 (pc' := 108) rfl ?_
  refine own_iconst X31 hx hby (v := (4 : Int32)) (by decide) d4_108 (pc' := 109) rfl ?_
  refine own_newP X31 hx hby hZ (hw _ (List.mem_of_getElem? (i := 40) rfl)) eH31 d4_109 (pc' := 111) rfl (by decide) (N := 4) (by decide) (cap := 4) (by decide) (by decide) (by decide) (by decide) (ad := "[D") (by decide) (fun T32 h32 b32 X32 eH32 E32 g32 E_b32 V_b32 => ?_)
  have g_b32 : n0 ≤ b32 := g32 ▸ Z0
  have sz_b32 : h0.size ≤ b32 := g32 ▸ K0.1
  have ne_o0_b32 : o0 ≠ b32 := Nat.ne_of_lt (g32 ▸ F_o0_left.lt)
  have ne_b1_b32 : b1 ≠ b32 := Nat.ne_of_lt (g32 ▸ E_b1.lt)
  have ne_b2_b32 : b2 ≠ b32 := Nat.ne_of_lt (g32 ▸ E_b2.lt)
  have ne_b12_b32 : b12 ≠ b32 := Nat.ne_of_lt (g32 ▸ E_b12.lt)
  have ne_b22_b32 : b22 ≠ b32 := Nat.ne_of_lt (g32 ▸ E_b22.lt)
  replace F_o0_left := F_o0_left.ext E32
  replace F_o0_bottom := F_o0_bottom.ext E32
  replace F_o0_right := F_o0_right.ext E32
  replace F_o0_baseTop := F_o0_baseTop.ext E32
  replace F_o0_barLeft := F_o0_barLeft.ext E32
  replace F_o0_leftTop := F_o0_leftTop.ext E32
  replace F_o0_barRight := F_o0_barRight.ext E32
  replace F_o0_barTop := F_o0_barTop.ext E32
  replace F_o0_rightTop := F_o0_rightTop.ext E32
  replace E_b1 := E_b1.ext E32
  replace V_b1 := V_b1.ext E32
  replace E_b2 := E_b2.ext E32
  replace V_b2 := V_b2.ext E32
  replace E_b12 := E_b12.ext E32
  replace V_b12 := V_b12.ext E32
  replace E_b22 := E_b22.ext E32
  replace V_b22 := V_b22.ext E32
  replace K0 := K0.ext E32
  replace Z0 := Nat.le_trans Z0 E32.1
  have V_b32 : Ary tr Z h32 b32 .double [(.double (0 : UInt64)), (.double (0 : UInt64)), (.double (0 : UInt64)), (.double (0 : UInt64))] := V_b32
  refine own_dup X32 hx hby rfl d4_111 (pc' := 112) rfl ?_
  refine own_iconst X32 hx hby (v := (0 : Int32)) (by decide) d4_112 (pc' := 113) rfl ?_
  refine own_aloadN X32 hx hby rfl rfl d4_113 (pc' := 114) rfl ?_
  refine own_getF X32 hx hby hZ hown (host := "") (Or.inl (hw _ (List.mem_of_getElem? (i := 19) rfl))) Via.refl eH32 F_o0_barRight d4_114 (pc' := 117) rfl (fun T33 X33 eH33 => ?_)
  refine own_dastore X33 hx hby hZ eH33 V_b32 (by decide) (n := 0) (by decide) (of_decide_eq_true rfl) d4_117 (pc' := 118) rfl (fun T34 h34 X34 eH34 W34 => ?_)
  replace F_o0_left := F_o0_left.other W34 (Or.inl ne_o0_b32)
  replace F_o0_bottom := F_o0_bottom.other W34 (Or.inl ne_o0_b32)
  replace F_o0_right := F_o0_right.other W34 (Or.inl ne_o0_b32)
  replace F_o0_baseTop := F_o0_baseTop.other W34 (Or.inl ne_o0_b32)
  replace F_o0_barLeft := F_o0_barLeft.other W34 (Or.inl ne_o0_b32)
  replace F_o0_leftTop := F_o0_leftTop.other W34 (Or.inl ne_o0_b32)
  replace F_o0_barRight := F_o0_barRight.other W34 (Or.inl ne_o0_b32)
  replace F_o0_barTop := F_o0_barTop.other W34 (Or.inl ne_o0_b32)
  replace F_o0_rightTop := F_o0_rightTop.other W34 (Or.inl ne_o0_b32)
  replace E_b1 := E_b1.wr W34
  replace V_b1 := V_b1.other W34 ne_b1_b32
  replace E_b2 := E_b2.wr W34
  replace V_b2 := V_b2.other W34 ne_b2_b32
  replace E_b12 := E_b12.wr W34
  replace V_b12 := V_b12.other W34 ne_b12_b32
  replace E_b22 := E_b22.wr W34
  replace V_b22 := V_b22.other W34 ne_b22_b32
  replace E_b32 := E_b32.wr W34
  have N34 := Fr.snoc X34 N31 g_b32
  replace K0 := K0.wr W34 (Or.inr sz_b32)
  replace Z0 := Nat.le_trans Z0 (Nat.le_of_eq W34.size.symm)
  replace V_b32 : Ary tr Z h34 b32 .double [(.double barRight_o0), (.double (0 : UInt64)), (.double (0 : UInt64)), (.double (0 : UInt64))] := V_b32.set W34
  refine own_dup X34 hx hby rfl d4_118 (pc' := 119) rfl ?_
  refine own_iconst X34 hx hby (v := (1 : Int32)) (by decide) d4_119 (pc' := 120) rfl ?_
  refine own_aloadN X34 hx hby rfl rfl d4_120 (pc' := 121) rfl ?_
  refine own_getF X34 hx hby hZ hown (host := "") (Or.inl (hw _ (List.mem_of_getElem? (i := 25) rfl))) Via.refl eH34 F_o0_baseTop d4_121 (pc' := 124) rfl (fun T35 X35 eH35 => ?_)
  refine own_dastore X35 hx hby hZ eH35 V_b32 (by decide) (n := 1) (by decide) (of_decide_eq_true rfl) d4_124 (pc' := 125) rfl (fun T36 h36 X36 eH36 W36 => ?_)
  replace F_o0_left := F_o0_left.other W36 (Or.inl ne_o0_b32)
  replace F_o0_bottom := F_o0_bottom.other W36 (Or.inl ne_o0_b32)
  replace F_o0_right := F_o0_right.other W36 (Or.inl ne_o0_b32)
  replace F_o0_baseTop := F_o0_baseTop.other W36 (Or.inl ne_o0_b32)
  replace F_o0_barLeft := F_o0_barLeft.other W36 (Or.inl ne_o0_b32)
  replace F_o0_leftTop := F_o0_leftTop.other W36 (Or.inl ne_o0_b32)
  replace F_o0_barRight := F_o0_barRight.other W36 (Or.inl ne_o0_b32)
  replace F_o0_barTop := F_o0_barTop.other W36 (Or.inl ne_o0_b32)
  replace F_o0_rightTop := F_o0_rightTop.other W36 (Or.inl ne_o0_b32)
  replace E_b1 := E_b1.wr W36
  replace V_b1 := V_b1.other W36 ne_b1_b32
  replace E_b2 := E_b2.wr W36
  replace V_b2 := V_b2.other W36 ne_b2_b32
  replace E_b12 := E_b12.wr W36
  replace V_b12 := V_b12.other W36 ne_b12_b32
  replace E_b22 := E_b22.wr W36
  replace V_b22 := V_b22.other W36 ne_b22_b32
  replace E_b32 := E_b32.wr W36
  have N36 := Fr.snoc X36 N34 g_b32
  replace K0 := K0.wr W36 (Or.inr sz_b32)
  replace Z0 := Nat.le_trans Z0 (Nat.le_of_eq W36.size.symm)
  replace V_b32 : Ary tr Z h36 b32 .double [(.double barRight_o0), (.double baseTop_o0), (.double (0 : UInt64)), (.double (0 : UInt64))] := V_b32.set W36
  refine own_dup X36 hx hby rfl d4_125 (pc' := 126) rfl ?_
  refine own_iconst X36 hx hby (v := (2 : Int32)) (by decide) d4_126 (pc' := 127) rfl ?_
  refine own_aloadN X36 hx hby rfl rfl d4_127 (pc' := 128) rfl ?_
  refine own_getF X36 hx hby hZ hown (host := "") (Or.inl (hw _ (List.mem_of_getElem? (i := 21) rfl))) Via.refl eH36 F_o0_right d4_128 (pc' := 131) rfl (fun T37 X37 eH37 => ?_)
  refine own_dastore X37 hx hby hZ eH37 V_b32 (by decide) (n := 2) (by decide) (of_decide_eq_true rfl) d4_131 (pc' := 132) rfl (fun T38 h38 X38 eH38 W38 => ?_)
  replace F_o0_left := F_o0_left.other W38 (Or.inl ne_o0_b32)
  replace F_o0_bottom := F_o0_bottom.other W38 (Or.inl ne_o0_b32)
  replace F_o0_right := F_o0_right.other W38 (Or.inl ne_o0_b32)
  replace F_o0_baseTop := F_o0_baseTop.other W38 (Or.inl ne_o0_b32)
  replace F_o0_barLeft := F_o0_barLeft.other W38 (Or.inl ne_o0_b32)
  replace F_o0_leftTop := F_o0_leftTop.other W38 (Or.inl ne_o0_b32)
  replace F_o0_barRight := F_o0_barRight.other W38 (Or.inl ne_o0_b32)
  replace F_o0_barTop := F_o0_barTop.other W38 (Or.inl ne_o0_b32)
  replace F_o0_rightTop := F_o0_rightTop.other W38 (Or.inl ne_o0_b32)
  replace E_b1 := E_b1.wr W38
  replace V_b1 := V_b1.other W38 ne_b1_b32
  replace E_b2 := E_b2.wr W38
  replace V_b2 := V_b2.other W38 ne_b2_b32
  replace E_b12 := E_b12.wr W38
  replace V_b12 := V_b12.other W38 ne_b12_b32
  replace E_b22 := E_b22.wr W38
  replace V_b22 := V_b22.other W38 ne_b22_b32
  replace E_b32 := E_b32.wr W38
  have N38 := Fr.snoc X38 N36 g_b32
  replace K0 := K0.wr W38 (Or.inr sz_b32)
  replace Z0 := Nat.le_trans Z0 (Nat.le_of_eq W38.size.symm)
  replace V_b32 : Ary tr Z h38 b32 .double [(.double barRight_o0), (.double baseTop_o0), (.double right_o0), (.double (0 : UInt64))] := V_b32.set W38
  refine own_dup X38 hx hby rfl d4_132 (pc' := 133) rfl ?_
  refine own_iconst X38 hx hby (v := (3 : Int32)) (by decide) d4_133 (pc' := 134) rfl ?_
  refine own_aloadN X38 hx hby rfl rfl d4_134 (pc' := 135) rfl ?_
  refine own_getF X38 hx hby hZ hown (host := "") (Or.inl (hw _ (List.mem_of_getElem? (i := 31) rfl))) Via.refl eH38 F_o0_rightTop d4_135 (pc' := 138) rfl (fun T39 X39 eH39 => ?_)
  refine own_dastore X39 hx hby hZ eH39 V_b32 (by decide) (n := 3) (by decide) (of_decide_eq_true rfl) d4_138 (pc' := 139) rfl (fun T40 h40 X40 eH40 W40 => ?_)
  replace F_o0_left := F_o0_left.other W40 (Or.inl ne_o0_b32)
  replace F_o0_bottom := F_o0_bottom.other W40 (Or.inl ne_o0_b32)
  replace F_o0_right := F_o0_right.other W40 (Or.inl ne_o0_b32)
  replace F_o0_baseTop := F_o0_baseTop.other W40 (Or.inl ne_o0_b32)
  replace F_o0_barLeft := F_o0_barLeft.other W40 (Or.inl ne_o0_b32)
  replace F_o0_leftTop := F_o0_leftTop.other W40 (Or.inl ne_o0_b32)
  replace F_o0_barRight := F_o0_barRight.other W40 (Or.inl ne_o0_b32)
  replace F_o0_barTop := F_o0_barTop.other W40 (Or.inl ne_o0_b32)
  replace F_o0_rightTop := F_o0_rightTop.other W40 (Or.inl ne_o0_b32)
  replace E_b1 := E_b1.wr W40
  replace V_b1 := V_b1.other W40 ne_b1_b32
  replace E_b2 := E_b2.wr W40
  replace V_b2 := V_b2.other W40 ne_b2_b32
  replace E_b12 := E_b12.wr W40
  replace V_b12 := V_b12.other W40 ne_b12_b32
  replace E_b22 := E_b22.wr W40
  replace V_b22 := V_b22.other W40 ne_b22_b32
  replace E_b32 := E_b32.wr W40
  have N40 := Fr.snoc X40 N38 g_b32
  replace K0 := K0.wr W40 (Or.inr sz_b32)
  replace Z0 := Nat.le_trans Z0 (Nat.le_of_eq W40.size.symm)
  replace V_b32 : Ary tr Z h40 b32 .double [(.double barRight_o0), (.double baseTop_o0), (.double right_o0), (.double rightTop_o0)] := V_b32.set W40
  refine own_aastoreA X40 hx hby hZ eH40 V_b1 E_b32 (by decide) (n := 3) (by decide) (of_decide_eq_true rfl) d4_139 (pc' := 140) rfl (fun T41 h41 X41 eH41 W41 => ?_)
  replace F_o0_left := F_o0_left.other W41 (Or.inl ne_o0_b1)
  replace F_o0_bottom := F_o0_bottom.other W41 (Or.inl ne_o0_b1)
  replace F_o0_right := F_o0_right.other W41 (Or.inl ne_o0_b1)
  replace F_o0_baseTop := F_o0_baseTop.other W41 (Or.inl ne_o0_b1)
  replace F_o0_barLeft := F_o0_barLeft.other W41 (Or.inl ne_o0_b1)
  replace F_o0_leftTop := F_o0_leftTop.other W41 (Or.inl ne_o0_b1)
  replace F_o0_barRight := F_o0_barRight.other W41 (Or.inl ne_o0_b1)
  replace F_o0_barTop := F_o0_barTop.other W41 (Or.inl ne_o0_b1)
  replace F_o0_rightTop := F_o0_rightTop.other W41 (Or.inl ne_o0_b1)
  replace E_b1 := E_b1.wr W41
  replace E_b2 := E_b2.wr W41
  replace V_b2 := V_b2.other W41 (Ne.symm ne_b1_b2)
  replace E_b12 := E_b12.wr W41
  replace V_b12 := V_b12.other W41 (Ne.symm ne_b1_b12)
  replace E_b22 := E_b22.wr W41
  replace V_b22 := V_b22.other W41 (Ne.symm ne_b1_b22)
  replace E_b32 := E_b32.wr W41
  replace V_b32 := V_b32.other W41 (Ne.symm ne_b1_b32)
  have N41 := Fr.snoc X41 N40 g_b1
  replace K0 := K0.wr W41 (Or.inr sz_b1)
  replace Z0 := Nat.le_trans Z0 (Nat.le_of_eq W41.size.symm)
  replace V_b1 : Ary (ovA Z .double "[D") Z h41 b1 (.array .double) [(.ref b2), (.ref b12), (.ref b22), (.ref b32)] := V_b1.set W41
  exact own_retA X41 hx hby Bd.notSynchronized Bd.returns rfl rfl d4_140 (by decide) (by decide) eH41 ⟨b1, b2, b12, b22, b32, rfl, N41, K0, sz_b1, sz_b2, sz_b12, sz_b22, sz_b32, ne_b1_b2, ne_b1_b12, ne_b1_b22, ne_b1_b32, ne_b2_b12, ne_b2_b22, ne_b2_b32, ne_b12_b22, ne_b12_b32, ne_b22_b32, E_b1, V_b1, E_b2, V_b2, E_b12, V_b12, E_b22, V_b22, E_b32, V_b32⟩
theorem ef5 (m : MethodId) (x0 : Addr) (x1 : UInt64) (x2 : UInt64) (x3 : UInt64) (x4 : UInt64) : entryFrame m #[(.ref x0), (.double x1), (.double x2), (.double x3), (.double x4)] 9 = mkF m 0 #[.val (.ref x0), .val (.double x1), .second, .val (.double x2), .second, .val (.double x3), .second, .val (.double x4), .second] [] := by first | (simp [entryFrame, mkF, argsToLocals, Value.category]; done) | rfl
def Q5 (Z : State) (o0 : Addr) (f1 : UInt64) (f2 : UInt64) (f3 : UInt64) (f4 : UInt64) (e0 : UInt64) (e1 : UInt64) (e2 : UInt64) (e3 : UInt64) (h0 : Heap) (n0 : Nat) (v : Option Value) (h : Heap) (L : List Loc) : Prop := v = some (.int (1 : Int32)) ∧ Fr n0 L ∧ h0 = h
set_option maxRecDepth 65536 in
set_option maxHeartbeats 40000000 in
theorem rm5 (l : Launch) (Z : State) (a0 : Array Value) (hw : ∀ d ∈ tables_1, d.before a0 Z = true) (ws : List Jvm.Cond) (o0 : Addr) (f1 : UInt64) (f2 : UInt64) (f3 : UInt64) (f4 : UInt64) (e0 : UInt64) (e1 : UInt64) (e2 : UInt64) (e3 : UInt64) (h0 : Heap) (n0 : Nat) (Z0 : n0 ≤ h0.size) (V_o0 : Ary tr Z h0 o0 .double [(.double e0), (.double e1), (.double e2), (.double e3)]) (hc17 : (deq e0 f1)) (hc25 : (deq e1 f2)) (hc34 : (deq e2 f3)) (hc43 : (deq e3 f4)) :
    MetFree l (⟨"com/example/dido/dido/StandingRegionRectanglesPinLaw", "row", "([DDDDD)Z"⟩ : MethodName) (head1 (Jvm.Cond.code (⟨"com/example/dido/dido/StandingRegionRectanglesPinLaw", "row", "([DDDDD)Z"⟩ : MethodName) method_2_code 9 (some .boolean) :: ws) ({ frames := 0, cells := 0, slots := 0, locals := 0 } : Room)) (fun a U => a = #[(.ref o0), (.double f1), (.double f2), (.double f3), (.double f4)] ∧ Z.Warmed39 U.vm ∧ U.heap = h0) (fun _ _ _ _ _ => True) (fun _ U o U' => ∃ v L, o = .returned v ∧ Q5 Z o0 f1 f2 f3 f4 e0 e1 e2 e3 h0 n0 v U'.heap L ∧ FrameEnd U o U' L ({ frames := 0, cells := 0, slots := 0, locals := 0 } : Room).cells ({ frames := 0, cells := 0, slots := 0, locals := 0 } : Room).slots) := by
  refine MetFree.of_bodySF (plainFor_of_name pn_com_example_dido_dido_StandingRegionRectanglesPinLaw) hisR ?_
  intro p e s m args below meth c s₁ Bd hml0 hP hK
  obtain ⟨rfl, hZ, hh⟩ := hP
  have hx := Bd.exec
  have hby := Bd.bytes
  have hml : c.maxLocals = 9 := hml0
  have hown : s.vm.findClass "com/example/dido/dido/StandingRegionRectanglesPinLaw" = some m.cls := findClass_of_methodNamed Bd.named
  have hnm := (name_of_methodNamed Bd.named Bd.method).1
  have X0 : Stand p l e ({ frames := 0, cells := 0, slots := 0, locals := 0 } : Room) s m #[(.ref o0), (.double f1), (.double f2), (.double f3), (.double f4)] below meth c s₁ [] 0 0 := Stand.of_body Bd
  have eH0 : s₁.heap = h0 := by rw [← hh, Bd.state]; rfl
  have N0 := Fr.nil n0
  show Gt p.tables e below (fun o U' => ∃ v L, o = .returned v ∧ Q5 Z o0 f1 f2 f3 f4 e0 e1 e2 e3 h0 n0 v U'.heap L ∧ FrameEnd s o U' L ({ frames := 0, cells := 0, slots := 0, locals := 0 } : Room).cells ({ frames := 0, cells := 0, slots := 0, locals := 0 } : Room).slots) _
  refine own_cast (ef5 m o0 f1 f2 f3 f4) ?_
  refine own_aloadN X0 hx hby rfl rfl d5_0 (pc' := 1) rfl ?_
  refine own_ifnullF X0 hx hby d5_1 (pc' := 4) rfl ?_
  refine own_aloadN X0 hx hby rfl rfl d5_4 (pc' := 5) rfl ?_
  refine own_alen X0 hx hby hZ eH0 V_o0 (z := (4 : Int32)) (by first | rfl | decide) d5_5 (pc' := 6) rfl ?_
  refine own_iconst X0 hx hby (v := (4 : Int32)) (by decide) d5_6 (pc' := 7) rfl ?_
  refine own_icT X0 hx hby d5_7 (by decide) (by decide) (pc' := 12) (by decide) ?_
  refine own_aloadN X0 hx hby rfl rfl d5_12 (pc' := 13) rfl ?_
  refine own_iconst X0 hx hby (v := (0 : Int32)) (by decide) d5_13 (pc' := 14) rfl ?_
  refine own_daload X0 hx hby hZ eH0 V_o0 (by decide) (v := (.double e0)) rfl d5_14 (pc' := 15) rfl ?_
  refine own_dloadN X0 hx hby rfl d5_15 (pc' := 16) rfl ?_
  refine own_dcmp X0 hx hby rfl d5_16 (pc' := 17) rfl ?_
  refine own_ifF X0 hx hby d5_17 (own_dl_ne_p hc17) (pc' := 20) rfl ?_
  refine own_aloadN X0 hx hby rfl rfl d5_20 (pc' := 21) rfl ?_
  refine own_iconst X0 hx hby (v := (1 : Int32)) (by decide) d5_21 (pc' := 22) rfl ?_
  refine own_daload X0 hx hby hZ eH0 V_o0 (by decide) (v := (.double e1)) rfl d5_22 (pc' := 23) rfl ?_
  refine own_dloadN X0 hx hby rfl d5_23 (pc' := 24) rfl ?_
  refine own_dcmp X0 hx hby rfl d5_24 (pc' := 25) rfl ?_
  refine own_ifF X0 hx hby d5_25 (own_dl_ne_p hc25) (pc' := 28) rfl ?_
  refine own_aloadN X0 hx hby rfl rfl d5_28 (pc' := 29) rfl ?_
  refine own_iconst X0 hx hby (v := (2 : Int32)) (by decide) d5_29 (pc' := 30) rfl ?_
  refine own_daload X0 hx hby hZ eH0 V_o0 (by decide) (v := (.double e2)) rfl d5_30 (pc' := 31) rfl ?_
  refine own_dload X0 hx hby rfl d5_31 (pc' := 33) rfl ?_
  refine own_dcmp X0 hx hby rfl d5_33 (pc' := 34) rfl ?_
  refine own_ifF X0 hx hby d5_34 (own_dl_ne_p hc34) (pc' := 37) rfl ?_
  refine own_aloadN X0 hx hby rfl rfl d5_37 (pc' := 38) rfl ?_
  refine own_iconst X0 hx hby (v := (3 : Int32)) (by decide) d5_38 (pc' := 39) rfl ?_
  refine own_daload X0 hx hby hZ eH0 V_o0 (by decide) (v := (.double e3)) rfl d5_39 (pc' := 40) rfl ?_
  refine own_dload X0 hx hby rfl d5_40 (pc' := 42) rfl ?_
  refine own_dcmp X0 hx hby rfl d5_42 (pc' := 43) rfl ?_
  refine own_ifF X0 hx hby d5_43 (own_dl_ne_p hc43) (pc' := 46) rfl ?_
  refine own_iconst X0 hx hby (v := (1 : Int32)) (by decide) d5_46 (pc' := 47) rfl ?_
  refine own_goto X0 hx hby d5_47 (by decide) (pc' := 51) (by decide) ?_
  exact own_retZ X0 hx hby Bd.notSynchronized Bd.returns (Or.inr rfl) d5_51 (by decide) (by decide) eH0 ⟨rfl, N0, rfl⟩
theorem ef0 (m : MethodId) (x0 : Int32) (x1 : Int32) (x2 : Int32) (x3 : Int32) (x4 : Int32) (x5 : Int32) : entryFrame m #[(.int x0), (.int x1), (.int x2), (.int x3), (.int x4), (.int x5)] maxLocals = mkF m 0 #[.val (.int x0), .val (.int x1), .val (.int x2), .val (.int x3), .val (.int x4), .val (.int x5), .unset, .unset, .unset, .unset, .unset, .unset, .unset, .unset, .unset, .unset, .unset, .unset, .unset, .unset, .unset, .unset, .unset, .unset, .unset, .unset] [] := by first | (simp [entryFrame, mkF, argsToLocals, Value.category, maxLocals]; done) | rfl
def Q0 (Z : State) (p0 : Int32) (p1 : Int32) (p2 : Int32) (p3 : Int32) (p4 : Int32) (p5 : Int32) (h0 : Heap) (n0 : Nat) (v : Option Value) (h : Heap) (L : List Loc) : Prop := v = some (.int 1) ∧ Fr n0 L
set_option maxRecDepth 65536 in
set_option maxHeartbeats 40000000 in
theorem rm0 (l : Launch) (Z : State) (a0 : Array Value) (hw : ∀ d ∈ tables_1, d.before a0 Z = true) (ws : List Jvm.Cond) (p0 : Int32) (p1 : Int32) (p2 : Int32) (p3 : Int32) (p4 : Int32) (p5 : Int32) (h0 : Heap) (n0 : Nat) (Z0 : n0 ≤ h0.size) :
    MetFree l x (head1 (Jvm.Cond.code x code maxLocals ret :: ws) room_1) (fun a U => a = #[(.int p0), (.int p1), (.int p2), (.int p3), (.int p4), (.int p5)] ∧ Z.Warmed39 U.vm ∧ U.heap = h0) (fun _ _ _ _ _ => True) (fun _ U o U' => ∃ v L, o = .returned v ∧ Q0 Z p0 p1 p2 p3 p4 p5 h0 n0 v U'.heap L ∧ FrameEnd U o U' L 24 128) := by
  refine MetFree.of_bodySF (plainFor_of_name pn_com_example_dido_dido_StandingRegionRectanglesPinLaw) hisR ?_
  intro p e s m args below meth c s₁ Bd hml0 hP hK
  obtain ⟨rfl, hZ, hh⟩ := hP
  have hx := Bd.exec
  have hby := Bd.bytes
  have hml : c.maxLocals = 26 := hml0
  have hown : s.vm.findClass "com/example/dido/dido/StandingRegionRectanglesPinLaw" = some m.cls := findClass_of_methodNamed Bd.named
  have hnm := (name_of_methodNamed Bd.named Bd.method).1
  have X0 : Stand p l e room_1 s m #[(.int p0), (.int p1), (.int p2), (.int p3), (.int p4), (.int p5)] below meth c s₁ [] 0 0 := Stand.of_body Bd
  have eH0 : s₁.heap = h0 := by rw [← hh, Bd.state]; rfl
  have N0 := Fr.nil n0
  show Gt p.tables e below (fun o U' => ∃ v L, o = .returned v ∧ Q0 Z p0 p1 p2 p3 p4 p5 h0 n0 v U'.heap L ∧ FrameEnd s o U' L 24 128) _
  refine own_cast (ef0 m p0 p1 p2 p3 p4 p5) ?_
  refine own_iloadN X0 hx hby rfl at_0 (pc' := 1) rfl ?_
  obtain ⟨v1, q_v1⟩ : ∃ z : UInt64, (FP.i2d p0) = z := ⟨_, rfl⟩
  have nn_v1 : NoNaN64 v1 := q_v1 ▸ (Fl.i2d_fin _).noNaN
  have f_v1 : Fin64 v1 := q_v1 ▸ Fl.i2d_fin _
  refine own_i2d X0 hx hby q_v1 at_1 (pc' := 2) rfl ?_
  refine own_dstore X0 hx hby (L' := #[.val (.int p0), .val (.int p1), .val (.int p2), .val (.int p3), .val (.int p4), .val (.int p5), .val (.double v1), .second, .unset, .unset, .unset, .unset, .unset, .unset, .unset, .unset, .unset, .unset, .unset, .unset, .unset, .unset, .unset, .unset, .unset, .unset]) rfl at_2 (pc' := 4) rfl ?_
  refine own_iloadN X0 hx hby rfl at_4 (pc' := 5) rfl ?_
  obtain ⟨v2, q_v2⟩ : ∃ z : UInt64, (FP.i2d p1) = z := ⟨_, rfl⟩
  have nn_v2 : NoNaN64 v2 := q_v2 ▸ (Fl.i2d_fin _).noNaN
  have f_v2 : Fin64 v2 := q_v2 ▸ Fl.i2d_fin _
  refine own_i2d X0 hx hby q_v2 at_5 (pc' := 6) rfl ?_
  refine own_dstore X0 hx hby (L' := #[.val (.int p0), .val (.int p1), .val (.int p2), .val (.int p3), .val (.int p4), .val (.int p5), .val (.double v1), .second, .val (.double v2), .second, .unset, .unset, .unset, .unset, .unset, .unset, .unset, .unset, .unset, .unset, .unset, .unset, .unset, .unset, .unset, .unset]) rfl at_6 (pc' := 8) rfl ?_
  refine own_iloadN X0 hx hby rfl at_8 (pc' := 9) rfl ?_
  obtain ⟨v3, q_v3⟩ : ∃ z : UInt64, (FP.i2d p2) = z := ⟨_, rfl⟩
  have nn_v3 : NoNaN64 v3 := q_v3 ▸ (Fl.i2d_fin _).noNaN
  have f_v3 : Fin64 v3 := q_v3 ▸ Fl.i2d_fin _
  refine own_i2d X0 hx hby q_v3 at_9 (pc' := 10) rfl ?_
  refine own_dstore X0 hx hby (L' := #[.val (.int p0), .val (.int p1), .val (.int p2), .val (.int p3), .val (.int p4), .val (.int p5), .val (.double v1), .second, .val (.double v2), .second, .val (.double v3), .second, .unset, .unset, .unset, .unset, .unset, .unset, .unset, .unset, .unset, .unset, .unset, .unset, .unset, .unset]) rfl at_10 (pc' := 12) rfl ?_
  refine own_iloadN X0 hx hby rfl at_12 (pc' := 13) rfl ?_
  obtain ⟨v4, q_v4⟩ : ∃ z : UInt64, (FP.i2d p3) = z := ⟨_, rfl⟩
  have nn_v4 : NoNaN64 v4 := q_v4 ▸ (Fl.i2d_fin _).noNaN
  have f_v4 : Fin64 v4 := q_v4 ▸ Fl.i2d_fin _
  refine own_i2d X0 hx hby q_v4 at_13 (pc' := 14) rfl ?_
  refine own_dstore X0 hx hby (L' := #[.val (.int p0), .val (.int p1), .val (.int p2), .val (.int p3), .val (.int p4), .val (.int p5), .val (.double v1), .second, .val (.double v2), .second, .val (.double v3), .second, .val (.double v4), .second, .unset, .unset, .unset, .unset, .unset, .unset, .unset, .unset, .unset, .unset, .unset, .unset]) rfl at_14 (pc' := 16) rfl ?_
  refine own_iload X0 hx hby rfl at_16 (pc' := 18) rfl ?_
  obtain ⟨v5, q_v5⟩ : ∃ z : UInt64, (FP.i2d p4) = z := ⟨_, rfl⟩
  have nn_v5 : NoNaN64 v5 := q_v5 ▸ (Fl.i2d_fin _).noNaN
  have f_v5 : Fin64 v5 := q_v5 ▸ Fl.i2d_fin _
  refine own_i2d X0 hx hby q_v5 at_18 (pc' := 19) rfl ?_
  refine own_dstore X0 hx hby (L' := #[.val (.int p0), .val (.int p1), .val (.int p2), .val (.int p3), .val (.int p4), .val (.int p5), .val (.double v1), .second, .val (.double v2), .second, .val (.double v3), .second, .val (.double v4), .second, .val (.double v5), .second, .unset, .unset, .unset, .unset, .unset, .unset, .unset, .unset, .unset, .unset]) rfl at_19 (pc' := 21) rfl ?_
  refine own_iload X0 hx hby rfl at_21 (pc' := 23) rfl ?_
  obtain ⟨v6, q_v6⟩ : ∃ z : UInt64, (FP.i2d p5) = z := ⟨_, rfl⟩
  have nn_v6 : NoNaN64 v6 := q_v6 ▸ (Fl.i2d_fin _).noNaN
  have f_v6 : Fin64 v6 := q_v6 ▸ Fl.i2d_fin _
  refine own_i2d X0 hx hby q_v6 at_23 (pc' := 24) rfl ?_
  refine own_dstore X0 hx hby (L' := #[.val (.int p0), .val (.int p1), .val (.int p2), .val (.int p3), .val (.int p4), .val (.int p5), .val (.double v1), .second, .val (.double v2), .second, .val (.double v3), .second, .val (.double v4), .second, .val (.double v5), .second, .val (.double v6), .second, .unset, .unset, .unset, .unset, .unset, .unset, .unset, .unset]) rfl at_24 (pc' := 26) rfl ?_
  refine own_iloadN X0 hx hby rfl at_26 (pc' := 27) rfl ?_
  obtain ⟨v7, q_v7⟩ : ∃ z : UInt64, (FP.i2d p0) = z := ⟨_, rfl⟩
  have nn_v7 : NoNaN64 v7 := q_v7 ▸ (Fl.i2d_fin _).noNaN
  have f_v7 : Fin64 v7 := q_v7 ▸ Fl.i2d_fin _
  refine own_i2d X0 hx hby q_v7 at_27 (pc' := 28) rfl ?_
  refine own_ldc2D X0 hx hby hZ hown (hw _ (List.mem_of_getElem? (i := 0) rfl)) at_28 (pc' := 31) rfl ?_
  obtain ⟨v8, q_v8⟩ : ∃ z : UInt64, (FP.dadd v7 (4602678819172646912 : UInt64)) = z := ⟨_, rfl⟩
  have nn_v8 : NoNaN64 v8 := q_v8 ▸ Fl.dadd_out nn_v7 (by unfold Fin64; decide)
  refine own_dadd X0 hx hby (by rw [q_v8]; exact nn_v8) q_v8 at_31 (pc' := 32) rfl ?_
  refine own_dstore X0 hx hby (L' := #[.val (.int p0), .val (.int p1), .val (.int p2), .val (.int p3), .val (.int p4), .val (.int p5), .val (.double v1), .second, .val (.double v2), .second, .val (.double v3), .second, .val (.double v4), .second, .val (.double v5), .second, .val (.double v6), .second, .val (.double v8), .second, .unset, .unset, .unset, .unset, .unset, .unset]) rfl at_32 (pc' := 34) rfl ?_
  refine own_iloadN X0 hx hby rfl at_34 (pc' := 35) rfl ?_
  obtain ⟨v9, q_v9⟩ : ∃ z : UInt64, (FP.i2d p1) = z := ⟨_, rfl⟩
  have nn_v9 : NoNaN64 v9 := q_v9 ▸ (Fl.i2d_fin _).noNaN
  have f_v9 : Fin64 v9 := q_v9 ▸ Fl.i2d_fin _
  refine own_i2d X0 hx hby q_v9 at_35 (pc' := 36) rfl ?_
  refine own_ldc2D X0 hx hby hZ hown (hw _ (List.mem_of_getElem? (i := 0) rfl)) at_36 (pc' := 39) rfl ?_
  obtain ⟨v10, q_v10⟩ : ∃ z : UInt64, (FP.dadd v9 (4602678819172646912 : UInt64)) = z := ⟨_, rfl⟩
  have nn_v10 : NoNaN64 v10 := q_v10 ▸ Fl.dadd_out nn_v9 (by unfold Fin64; decide)
  refine own_dadd X0 hx hby (by rw [q_v10]; exact nn_v10) q_v10 at_39 (pc' := 40) rfl ?_
  refine own_dstore X0 hx hby (L' := #[.val (.int p0), .val (.int p1), .val (.int p2), .val (.int p3), .val (.int p4), .val (.int p5), .val (.double v1), .second, .val (.double v2), .second, .val (.double v3), .second, .val (.double v4), .second, .val (.double v5), .second, .val (.double v6), .second, .val (.double v8), .second, .val (.double v10), .second, .unset, .unset, .unset, .unset]) rfl at_40 (pc' := 42) rfl ?_
  refine own_iloadN X0 hx hby rfl at_42 (pc' := 43) rfl ?_
  obtain ⟨v11, q_v11⟩ : ∃ z : UInt64, (FP.i2d p2) = z := ⟨_, rfl⟩
  have nn_v11 : NoNaN64 v11 := q_v11 ▸ (Fl.i2d_fin _).noNaN
  have f_v11 : Fin64 v11 := q_v11 ▸ Fl.i2d_fin _
  refine own_i2d X0 hx hby q_v11 at_43 (pc' := 44) rfl ?_
  refine own_ldc2D X0 hx hby hZ hown (hw _ (List.mem_of_getElem? (i := 0) rfl)) at_44 (pc' := 47) rfl ?_
  obtain ⟨v12, q_v12⟩ : ∃ z : UInt64, (FP.dadd v11 (4602678819172646912 : UInt64)) = z := ⟨_, rfl⟩
  have nn_v12 : NoNaN64 v12 := q_v12 ▸ Fl.dadd_out nn_v11 (by unfold Fin64; decide)
  refine own_dadd X0 hx hby (by rw [q_v12]; exact nn_v12) q_v12 at_47 (pc' := 48) rfl ?_
  refine own_dstore X0 hx hby (L' := #[.val (.int p0), .val (.int p1), .val (.int p2), .val (.int p3), .val (.int p4), .val (.int p5), .val (.double v1), .second, .val (.double v2), .second, .val (.double v3), .second, .val (.double v4), .second, .val (.double v5), .second, .val (.double v6), .second, .val (.double v8), .second, .val (.double v10), .second, .val (.double v12), .second, .unset, .unset]) rfl at_48 (pc' := 50) rfl ?_
  refine own_newO X0 hx hby hZ hown (hw _ (List.mem_of_getElem? (i := 1) rfl)) (hw _ (List.mem_of_getElem? (i := 2) rfl)) (hw _ (List.mem_of_getElem? (i := 3) rfl)) eH0 at_50 (pc' := 53) rfl (by decide) (by decide) (fun T13 h13 b13 X13 eH13 E13 g13 E_b13 D13 => ?_)
  have g_b13 : n0 ≤ b13 := g13 ▸ Z0
  replace Z0 := Nat.le_trans Z0 E13.1
  have F_b13_left : Fld Z h13 b13 "com/example/dido/dido/StandingRegion" "left" "D" (.double (0 : UInt64)) := D13 (Or.inr (hw _ (List.mem_of_getElem? (i := 16) rfl))) (ty := .double) (by decide)
  have F_b13_barLeft : Fld Z h13 b13 "com/example/dido/dido/StandingRegion" "barLeft" "D" (.double (0 : UInt64)) := D13 (Or.inr (hw _ (List.mem_of_getElem? (i := 18) rfl))) (ty := .double) (by decide)
  have F_b13_barRight : Fld Z h13 b13 "com/example/dido/dido/StandingRegion" "barRight" "D" (.double (0 : UInt64)) := D13 (Or.inr (hw _ (List.mem_of_getElem? (i := 20) rfl))) (ty := .double) (by decide)
  have F_b13_right : Fld Z h13 b13 "com/example/dido/dido/StandingRegion" "right" "D" (.double (0 : UInt64)) := D13 (Or.inr (hw _ (List.mem_of_getElem? (i := 22) rfl))) (ty := .double) (by decide)
  have F_b13_bottom : Fld Z h13 b13 "com/example/dido/dido/StandingRegion" "bottom" "D" (.double (0 : UInt64)) := D13 (Or.inr (hw _ (List.mem_of_getElem? (i := 24) rfl))) (ty := .double) (by decide)
  have F_b13_baseTop : Fld Z h13 b13 "com/example/dido/dido/StandingRegion" "baseTop" "D" (.double (0 : UInt64)) := D13 (Or.inr (hw _ (List.mem_of_getElem? (i := 26) rfl))) (ty := .double) (by decide)
  have F_b13_leftTop : Fld Z h13 b13 "com/example/dido/dido/StandingRegion" "leftTop" "D" (.double (0 : UInt64)) := D13 (Or.inr (hw _ (List.mem_of_getElem? (i := 28) rfl))) (ty := .double) (by decide)
  have F_b13_barTop : Fld Z h13 b13 "com/example/dido/dido/StandingRegion" "barTop" "D" (.double (0 : UInt64)) := D13 (Or.inr (hw _ (List.mem_of_getElem? (i := 30) rfl))) (ty := .double) (by decide)
  have F_b13_rightTop : Fld Z h13 b13 "com/example/dido/dido/StandingRegion" "rightTop" "D" (.double (0 : UInt64)) := D13 (Or.inr (hw _ (List.mem_of_getElem? (i := 32) rfl))) (ty := .double) (by decide)
  refine own_dup X13 hx hby rfl at_53 (pc' := 54) rfl ?_
  refine own_dload X13 hx hby rfl at_54 (pc' := 56) rfl ?_
  refine own_dload X13 hx hby rfl at_56 (pc' := 58) rfl ?_
  refine own_dload X13 hx hby rfl at_58 (pc' := 60) rfl ?_
  refine own_dload X13 hx hby rfl at_60 (pc' := 62) rfl ?_
  refine own_dload X13 hx hby rfl at_62 (pc' := 64) rfl ?_
  refine own_dload X13 hx hby rfl at_64 (pc' := 66) rfl ?_
  refine own_dload X13 hx hby rfl at_66 (pc' := 68) rfl ?_
  refine own_dload X13 hx hby rfl at_68 (pc' := 70) rfl ?_
  refine own_dload X13 hx hby rfl at_70 (pc' := 72) rfl ?_
  refine own_special X13 hx hby hZ (y := (⟨"com/example/dido/dido/StandingRegion", "<init>", "(DDDDDDDDD)V"⟩ : MethodName)) (rest := [(.ref b13)]) rfl hown (hw _ (List.mem_of_getElem? (i := 4) rfl)) (hw _ (List.mem_of_getElem? (i := 5) rfl)) rfl (hw _ (List.mem_of_getElem? (i := 6) rfl)) (hw _ (List.mem_of_getElem? (i := 3) rfl)) (by decide) (rm1 l Z a0 hw [] b13 v1 v2 v3 v4 v5 v6 v8 v10 v12 (0 : UInt64) (0 : UInt64) (0 : UInt64) (0 : UInt64) (0 : UInt64) (0 : UInt64) (0 : UInt64) (0 : UInt64) (0 : UInt64) h13 n0 Z0 F_b13_left F_b13_barLeft F_b13_barRight F_b13_right F_b13_bottom F_b13_baseTop F_b13_leftTop F_b13_barTop F_b13_rightTop E_b13 g_b13) eH13 (by rw [hml]; rfl) (a := b13) (argsL := [(.double v1), (.double v2), (.double v3), (.double v4), (.double v5), (.double v6), (.double v8), (.double v10), (.double v12)]) rfl (lenOf pd_1 rfl) rfl at_72 (pc' := 75) rfl (by decide) (W := 1) (Nat.le_of_eq rfl) (by decide) (by decide) (by decide) (fun T14 h14 Lc14 v14r X14 eH14 hQ14 => ?_)
  obtain ⟨rfl, Nq14, Kq14, gq14_0, gq14_1, gq14_2, gq14_3, gq14_4, gq14_5, gq14_6, gq14_7, gq14_8, gq14_9⟩ := hQ14
  have N14 := Fr.app N0 Nq14
  replace E_b13 := E_b13.keep Kq14
  have E_b13 := gq14_0
  have F_b13_left := gq14_1
  have F_b13_barLeft := gq14_2
  have F_b13_barRight := gq14_3
  have F_b13_right := gq14_4
  have F_b13_bottom := gq14_5
  have F_b13_baseTop := gq14_6
  have F_b13_leftTop := gq14_7
  have F_b13_barTop := gq14_8
  have F_b13_rightTop := gq14_9
  replace Z0 := Nat.le_trans Z0 Kq14.1
  refine own_astore X14 hx hby rfl (L' := #[.val (.int p0), .val (.int p1), .val (.int p2), .val (.int p3), .val (.int p4), .val (.int p5), .val (.double v1), .second, .val (.double v2), .second, .val (.double v3), .second, .val (.double v4), .second, .val (.double v5), .second, .val (.double v6), .second, .val (.double v8), .second, .val (.double v10), .second, .val (.double v12), .second, .val (.ref b13), .unset]) rfl at_75 (pc' := 77) rfl ?_
  refine own_aload X14 hx hby rfl rfl at_77 (pc' := 79) rfl ?_
  refine own_virtual X14 hx hby hZ (y := (⟨"com/example/dido/dido/StandingRegion", "rectangles", "()[[D"⟩ : MethodName)) (y' := (⟨"com/example/dido/dido/StandingRegion", "rectangles", "()[[D"⟩ : MethodName)) (C := "com/example/dido/dido/StandingRegion") (rest := []) hown (hw _ (List.mem_of_getElem? (i := 33) rfl)) (hw _ (List.mem_of_getElem? (i := 34) rfl)) (notFace_of_selects (args := #[]) (mvT hZ (hw _ (List.mem_of_getElem? (i := 36) rfl)))) (hw _ (List.mem_of_getElem? (i := 36) rfl)) (hw _ (List.mem_of_getElem? (i := 35) rfl)) (hw _ (List.mem_of_getElem? (i := 37) rfl)) (hw _ (List.mem_of_getElem? (i := 3) rfl)) (by decide) (rm4 l Z a0 hw [] b13 v1 v5 v4 v6 v2 v8 v3 v10 v12 h14 n0 Z0 F_b13_left F_b13_bottom F_b13_right F_b13_baseTop F_b13_barLeft F_b13_leftTop F_b13_barRight F_b13_barTop F_b13_rightTop) eH14 (by rw [hml]; rfl) (a := b13) E_b13 (argsL := []) rfl (lenOf pd_2 rfl) rfl at_79 (pc' := 82) rfl (by decide) (W := 0) (Nat.le_of_eq rfl) (by decide) (by decide) (by decide) (fun T15 h15 Lc15 v15r X15 eH15 hQ15 => ?_)
  obtain ⟨b1_15, b2_15, b12_15, b22_15, b32_15, rfl, Nq15, Kq15, gq15_0, gq15_1, gq15_2, gq15_3, gq15_4, gq15_5, gq15_6, gq15_7, gq15_8, gq15_9, gq15_10, gq15_11, gq15_12, gq15_13, gq15_14, gq15_15, gq15_16, gq15_17, gq15_18, gq15_19, gq15_20, gq15_21, gq15_22, gq15_23, gq15_24⟩ := hQ15
  have N15 := Fr.app N14 Nq15
  have g_b1_15 : n0 ≤ b1_15 := Nat.le_trans Z0 gq15_0
  have ne_b13_b1_15 : b13 ≠ b1_15 := Nat.ne_of_lt (Nat.lt_of_lt_of_le E_b13.lt gq15_0)
  have g_b2_15 : n0 ≤ b2_15 := Nat.le_trans Z0 gq15_1
  have ne_b13_b2_15 : b13 ≠ b2_15 := Nat.ne_of_lt (Nat.lt_of_lt_of_le E_b13.lt gq15_1)
  have g_b12_15 : n0 ≤ b12_15 := Nat.le_trans Z0 gq15_2
  have ne_b13_b12_15 : b13 ≠ b12_15 := Nat.ne_of_lt (Nat.lt_of_lt_of_le E_b13.lt gq15_2)
  have g_b22_15 : n0 ≤ b22_15 := Nat.le_trans Z0 gq15_3
  have ne_b13_b22_15 : b13 ≠ b22_15 := Nat.ne_of_lt (Nat.lt_of_lt_of_le E_b13.lt gq15_3)
  have g_b32_15 : n0 ≤ b32_15 := Nat.le_trans Z0 gq15_4
  have ne_b13_b32_15 : b13 ≠ b32_15 := Nat.ne_of_lt (Nat.lt_of_lt_of_le E_b13.lt gq15_4)
  replace E_b13 := E_b13.keep Kq15
  replace F_b13_left := F_b13_left.keep Kq15 nin0
  replace F_b13_barLeft := F_b13_barLeft.keep Kq15 nin0
  replace F_b13_barRight := F_b13_barRight.keep Kq15 nin0
  replace F_b13_right := F_b13_right.keep Kq15 nin0
  replace F_b13_bottom := F_b13_bottom.keep Kq15 nin0
  replace F_b13_baseTop := F_b13_baseTop.keep Kq15 nin0
  replace F_b13_leftTop := F_b13_leftTop.keep Kq15 nin0
  replace F_b13_barTop := F_b13_barTop.keep Kq15 nin0
  replace F_b13_rightTop := F_b13_rightTop.keep Kq15 nin0
  have ne_b1_15_b2_15 := gq15_5
  have ne_b1_15_b12_15 := gq15_6
  have ne_b1_15_b22_15 := gq15_7
  have ne_b1_15_b32_15 := gq15_8
  have ne_b2_15_b12_15 := gq15_9
  have ne_b2_15_b22_15 := gq15_10
  have ne_b2_15_b32_15 := gq15_11
  have ne_b12_15_b22_15 := gq15_12
  have ne_b12_15_b32_15 := gq15_13
  have ne_b22_15_b32_15 := gq15_14
  have E_b1_15 := gq15_15
  have V_b1_15 := gq15_16
  have E_b2_15 := gq15_17
  have V_b2_15 := gq15_18
  have E_b12_15 := gq15_19
  have V_b12_15 := gq15_20
  have E_b22_15 := gq15_21
  have V_b22_15 := gq15_22
  have E_b32_15 := gq15_23
  have V_b32_15 := gq15_24
  replace Z0 := Nat.le_trans Z0 Kq15.1
  refine own_astore X15 hx hby rfl (L' := #[.val (.int p0), .val (.int p1), .val (.int p2), .val (.int p3), .val (.int p4), .val (.int p5), .val (.double v1), .second, .val (.double v2), .second, .val (.double v3), .second, .val (.double v4), .second, .val (.double v5), .second, .val (.double v6), .second, .val (.double v8), .second, .val (.double v10), .second, .val (.double v12), .second, .val (.ref b13), .val (.ref b1_15)]) rfl at_82 (pc' := 84) rfl ?_
  refine own_aload X15 hx hby rfl rfl at_84 (pc' := 86) rfl ?_
  refine own_ifnullF X15 hx hby at_86 (pc' := 89) rfl ?_
  refine own_aload X15 hx hby rfl rfl at_89 (pc' := 91) rfl ?_
  refine own_alen X15 hx hby hZ eH15 V_b1_15 (z := (4 : Int32)) (by first | rfl | decide) at_91 (pc' := 92) rfl ?_
  refine own_iconst X15 hx hby (v := (4 : Int32)) (by decide) at_92 (pc' := 93) rfl ?_
  refine own_icT X15 hx hby at_93 (by decide) (by decide) (pc' := 98) (by decide) ?_
  refine own_aload X15 hx hby rfl rfl at_98 (pc' := 100) rfl ?_
  refine own_iconst X15 hx hby (v := (0 : Int32)) (by decide) at_100 (pc' := 101) rfl ?_
  refine own_aaload X15 hx hby hZ eH15 V_b1_15 rfl (by decide) (v := (.ref b2_15)) rfl at_101 (pc' := 102) rfl ?_
  refine own_dload X15 hx hby rfl at_102 (pc' := 104) rfl ?_
  refine own_dload X15 hx hby rfl at_104 (pc' := 106) rfl ?_
  refine own_dload X15 hx hby rfl at_106 (pc' := 108) rfl ?_
  refine own_dload X15 hx hby rfl at_108 (pc' := 110) rfl ?_
  refine own_static X15 hx hby hZ (y := (⟨"com/example/dido/dido/StandingRegionRectanglesPinLaw", "row", "([DDDDD)Z"⟩ : MethodName)) (rest := []) hown (hw _ (List.mem_of_getElem? (i := 42) rfl)) (hw _ (List.mem_of_getElem? (i := 43) rfl)) (hw _ (List.mem_of_getElem? (i := 45) rfl)) (hw _ (List.mem_of_getElem? (i := 44) rfl)) (by decide) (rm5 l Z a0 hw [] b2_15 v1 v5 v4 v6 v1 v5 v4 v6 h15 n0 Z0 V_b2_15 (own_deq rfl nn_v1) (own_deq rfl nn_v5) (own_deq rfl nn_v4) (own_deq rfl nn_v6)) eH15 (by rw [hml]; rfl) (argsL := [(.ref b2_15), (.double v1), (.double v5), (.double v4), (.double v6)]) rfl (lenOf pd_3 rfl) rfl at_110 (pc' := 113) rfl (by decide) (W := 0) (Nat.le_of_eq rfl) (by decide) (by decide) (by decide) (fun T16 h16 Lc16 v16r X16 eH16 hQ16 => ?_)
  obtain ⟨rfl, Nq16, rfl⟩ := hQ16
  have N16 := Fr.app N15 Nq16
  refine own_ifF X16 hx hby at_113 (by decide) (pc' := 116) rfl ?_
  refine own_aload X16 hx hby rfl rfl at_116 (pc' := 118) rfl ?_
  refine own_iconst X16 hx hby (v := (1 : Int32)) (by decide) at_118 (pc' := 119) rfl ?_
  refine own_aaload X16 hx hby hZ eH16 V_b1_15 rfl (by decide) (v := (.ref b12_15)) rfl at_119 (pc' := 120) rfl ?_
  refine own_dload X16 hx hby rfl at_120 (pc' := 122) rfl ?_
  refine own_dload X16 hx hby rfl at_122 (pc' := 124) rfl ?_
  refine own_dload X16 hx hby rfl at_124 (pc' := 126) rfl ?_
  refine own_dload X16 hx hby rfl at_126 (pc' := 128) rfl ?_
  refine own_static X16 hx hby hZ (y := (⟨"com/example/dido/dido/StandingRegionRectanglesPinLaw", "row", "([DDDDD)Z"⟩ : MethodName)) (rest := []) hown (hw _ (List.mem_of_getElem? (i := 42) rfl)) (hw _ (List.mem_of_getElem? (i := 43) rfl)) (hw _ (List.mem_of_getElem? (i := 45) rfl)) (hw _ (List.mem_of_getElem? (i := 44) rfl)) (by decide) (rm5 l Z a0 hw [] b12_15 v1 v6 v2 v8 v1 v6 v2 v8 h15 n0 Z0 V_b12_15 (own_deq rfl nn_v1) (own_deq rfl nn_v6) (own_deq rfl nn_v2) (own_deq rfl nn_v8)) eH16 (by rw [hml]; rfl) (argsL := [(.ref b12_15), (.double v1), (.double v6), (.double v2), (.double v8)]) rfl (lenOf pd_3 rfl) rfl at_128 (pc' := 131) rfl (by decide) (W := 0) (Nat.le_of_eq rfl) (by decide) (by decide) (by decide) (fun T17 h17 Lc17 v17r X17 eH17 hQ17 => ?_)
  obtain ⟨rfl, Nq17, rfl⟩ := hQ17
  have N17 := Fr.app N16 Nq17
  refine own_ifF X17 hx hby at_131 (by decide) (pc' := 134) rfl ?_
  refine own_aload X17 hx hby rfl rfl at_134 (pc' := 136) rfl ?_
  refine own_iconst X17 hx hby (v := (2 : Int32)) (by decide) at_136 (pc' := 137) rfl ?_
  refine own_aaload X17 hx hby hZ eH17 V_b1_15 rfl (by decide) (v := (.ref b22_15)) rfl at_137 (pc' := 138) rfl ?_
  refine own_dload X17 hx hby rfl at_138 (pc' := 140) rfl ?_
  refine own_dload X17 hx hby rfl at_140 (pc' := 142) rfl ?_
  refine own_dload X17 hx hby rfl at_142 (pc' := 144) rfl ?_
  refine own_dload X17 hx hby rfl at_144 (pc' := 146) rfl ?_
  refine own_static X17 hx hby hZ (y := (⟨"com/example/dido/dido/StandingRegionRectanglesPinLaw", "row", "([DDDDD)Z"⟩ : MethodName)) (rest := []) hown (hw _ (List.mem_of_getElem? (i := 42) rfl)) (hw _ (List.mem_of_getElem? (i := 43) rfl)) (hw _ (List.mem_of_getElem? (i := 45) rfl)) (hw _ (List.mem_of_getElem? (i := 44) rfl)) (by decide) (rm5 l Z a0 hw [] b22_15 v2 v6 v3 v10 v2 v6 v3 v10 h15 n0 Z0 V_b22_15 (own_deq rfl nn_v2) (own_deq rfl nn_v6) (own_deq rfl nn_v3) (own_deq rfl nn_v10)) eH17 (by rw [hml]; rfl) (argsL := [(.ref b22_15), (.double v2), (.double v6), (.double v3), (.double v10)]) rfl (lenOf pd_3 rfl) rfl at_146 (pc' := 149) rfl (by decide) (W := 0) (Nat.le_of_eq rfl) (by decide) (by decide) (by decide) (fun T18 h18 Lc18 v18r X18 eH18 hQ18 => ?_)
  obtain ⟨rfl, Nq18, rfl⟩ := hQ18
  have N18 := Fr.app N17 Nq18
  refine own_ifF X18 hx hby at_149 (by decide) (pc' := 152) rfl ?_
  refine own_aload X18 hx hby rfl rfl at_152 (pc' := 154) rfl ?_
  refine own_iconst X18 hx hby (v := (3 : Int32)) (by decide) at_154 (pc' := 155) rfl ?_
  refine own_aaload X18 hx hby hZ eH18 V_b1_15 rfl (by decide) (v := (.ref b32_15)) rfl at_155 (pc' := 156) rfl ?_
  refine own_dload X18 hx hby rfl at_156 (pc' := 158) rfl ?_
  refine own_dload X18 hx hby rfl at_158 (pc' := 160) rfl ?_
  refine own_dload X18 hx hby rfl at_160 (pc' := 162) rfl ?_
  refine own_dload X18 hx hby rfl at_162 (pc' := 164) rfl ?_
  refine own_static X18 hx hby hZ (y := (⟨"com/example/dido/dido/StandingRegionRectanglesPinLaw", "row", "([DDDDD)Z"⟩ : MethodName)) (rest := []) hown (hw _ (List.mem_of_getElem? (i := 42) rfl)) (hw _ (List.mem_of_getElem? (i := 43) rfl)) (hw _ (List.mem_of_getElem? (i := 45) rfl)) (hw _ (List.mem_of_getElem? (i := 44) rfl)) (by decide) (rm5 l Z a0 hw [] b32_15 v3 v6 v4 v12 v3 v6 v4 v12 h15 n0 Z0 V_b32_15 (own_deq rfl nn_v3) (own_deq rfl nn_v6) (own_deq rfl nn_v4) (own_deq rfl nn_v12)) eH18 (by rw [hml]; rfl) (argsL := [(.ref b32_15), (.double v3), (.double v6), (.double v4), (.double v12)]) rfl (lenOf pd_3 rfl) rfl at_164 (pc' := 167) rfl (by decide) (W := 0) (Nat.le_of_eq rfl) (by decide) (by decide) (by decide) (fun T19 h19 Lc19 v19r X19 eH19 hQ19 => ?_)
  obtain ⟨rfl, Nq19, rfl⟩ := hQ19
  have N19 := Fr.app N18 Nq19
  refine own_ifF X19 hx hby at_167 (by decide) (pc' := 170) rfl ?_
  refine own_iconst X19 hx hby (v := (1 : Int32)) (by decide) at_170 (pc' := 171) rfl ?_
  refine own_goto X19 hx hby at_171 (by decide) (pc' := 175) (by decide) ?_
  exact own_retZ X19 hx hby Bd.notSynchronized Bd.returns (Or.inr rfl) at_175 (by decide) (by decide) eH19 ⟨rfl, N19⟩
set_option maxRecDepth 65536 in
set_option maxHeartbeats 40000000 in
theorem comes_1 {Post : Tables → Env → Array Value → State → Outcome → State → Prop} (hpost : ∀ tb e args s v u, (limb_1_1.after args s (.returned v) u = true ∧ limb_1_2.after args s (.returned v) u = true ∧ True) → FrameEnd s (.returned v) u (Jvm.fieldLocs frame_1_writes args s ++ Jvm.arrayLocs frame_1_arrays args s ++ Jvm.staticLocs frame_1_statics s) 24 128 → Post tb e args s (.returned v) u) :
    ArmFor flags0 classFile x code maxLocals ret World_1 tables_1 room_1 Calls_1 rest_1 Pre_1 Post := by
  intro l hfl _ _ p e ha hc hk s m args below hf hA hF happ hP
  obtain ⟨hcalls, hrest, hpre⟩ := hP
  obtain ⟨-, -, -, hnamed, -, -, -, hat⟩ := (Spec.applies_iff hf).mp happ
  obtain ⟨hg, hn⟩ := and_e (Cond.before_iff.mp (show (Jvm.Cond.and given_1 narrow_1).before args s = true from hpre))
  obtain ⟨gg1, gg2⟩ := and_e hg
  obtain ⟨gg3, gg4⟩ := and_e gg2
  obtain ⟨gg5, gg6⟩ := and_e gg4
  obtain ⟨gg7, gg8⟩ := and_e gg6
  obtain ⟨gg9, gg10⟩ := and_e gg8
  obtain ⟨gg11, gg12⟩ := and_e gg10
  obtain ⟨w0, w1, w2, w3, w4, w5, rfl⟩ : ∃ w0 w1 w2 w3 w4 w5 : Value, args = #[w0, w1, w2, w3, w4, w5] := by
    have hs : args.size = 6 := by simpa [Cond.value, given_1] using gg1
    obtain ⟨L⟩ := args
    match L, hs with
    | [w0, w1, w2, w3, w4, w5], _ => exact ⟨w0, w1, w2, w3, w4, w5, rfl⟩
  have hw := fun d (hd : d ∈ tables_1) => atoms_spec (ws := Jvm.Cond.code x code maxLocals ret :: tables_1) hat d (List.mem_cons_of_mem _ hd)
  have hfit : Fit s := fun {y c} hc i hi => by
    obtain ⟨ha, rfl⟩ := Array.getElem?_eq_some_iff.mp hc
    have q := List.all_eq_true.mp ((Array.all_eq_true_iff_forall_mem.mp hF) _ (Array.getElem_mem ha)) i (List.mem_range.mpr hi)
    simpa [Array.getElem?_eq_getElem hi] using q
  obtain ⟨i0, ei0⟩ := is_v gg3
  obtain rfl : w0 = (.int i0) := Option.some.inj ei0
  obtain ⟨i1, ei1⟩ := is_v gg5
  obtain rfl : w1 = (.int i1) := Option.some.inj ei1
  obtain ⟨i2, ei2⟩ := is_v gg7
  obtain rfl : w2 = (.int i2) := Option.some.inj ei2
  obtain ⟨i3, ei3⟩ := is_v gg9
  obtain rfl : w3 = (.int i3) := Option.some.inj ei3
  obtain ⟨i4, ei4⟩ := is_v gg11
  obtain rfl : w4 = (.int i4) := Option.some.inj ei4
  obtain ⟨i5, ei5⟩ := is_v gg12
  obtain rfl : w5 = (.int i5) := Option.some.inj ei5
  obtain ⟨n, o, h1, h2, h3, _, L, rfl, ⟨rfl, N⟩, hq⟩ := rm0 l s _ hw tables_1 i0 i1 i2 i3 i4 i5 s.heap s.heap.size (Nat.le_refl _) p e ha hc hk s m _ below hf ((Spec.applies_iff_loose hf).mp happ).1 ⟨rfl, State.Warmed39.refl s, rfl⟩ trivial
  refine ⟨n, _, h1, h2, h3, hpost _ _ _ _ _ _ ⟨Cond.after_iff.mpr rfl, Cond.after_iff.mpr (eq_i res_at (Term.int_eval (1)) rfl), trivial⟩ ⟨hq.1, hq.2.1, (hq.2.2.sift fun y hy => Or.inr (N y hy)).mono (by decide) (by decide)⟩⟩
theorem main_1_1 : Claimed_1_1 := comes_1 fun _ _ _ _ _ _ h hF => ⟨h.1, hF⟩
theorem main_1_2 : Claimed_1_2 := comes_1 fun _ _ _ _ _ _ h hF => ⟨h.2.1, hF⟩
end Jvm.Pilot.@@N@@
namespace Jvm.Pilot.@@N@@
open Jvm Jvm.ClassFile Sem Op Lib Jvm.Free Jvm.Stand Jvm.Pilot.@@N@@.Jvm.D
/-! MADE BY PROGRAM (witnessworld.py) out of the Statement's table words and the real class files: 14 classes; the members and pool entries that the words name. The judged class is class 1, her method 2. -/
namespace start1
open Jvm.ClassFile
def u (s : String) : CpInfo := .utf8 (stringToUtf16 s)
/-- a pool by its gaps: so many unusable entries, then the entry; so many at the end -/
def gap : Nat → List CpInfo → List CpInfo
  | 0, r => r
  | n + 1, r => .unusable :: gap n r
def poolList (es : List (Nat × CpInfo)) (last : Nat) : List CpInfo := es.foldr (fun e r => gap e.1 (e.2 :: r)) (gap last [])
def pool (es : List (Nat × CpInfo)) (last : Nat) : Array CpInfo := ⟨poolList es last⟩
def fileOf (pool : Array CpInfo) (this : Nat) (attrs : Array Attribute := #[]) (ms : Array MethodInfo := #[]) (fl : Nat := 33) (sup : Nat := 0) (ifs : Array Nat := #[]) (fds : Array FieldInfo := #[]) : ClassFile where
  minorVersion := 0
  majorVersion := 65
  constantPool := pool
  accessFlags := fl
  thisClass := this
  superClass := sup
  interfaces := ifs
  fields := fds
  methods := ms
  attributes := attrs
def plain (name : String) (sup : Option ClassId) : Class where
  name := name
  kind := .ordinary
  loader := none
  accessFlags := 33
  super := sup
  interfaces := #[]
  cf := none
  fields := #[]
  methods := #[]
  instanceTypes := #[]
  staticTypes := #[]
  resolved := #[]
  callSites := []
  init := .initialized
  statics := none
  mirror := none

def pool0 : Array CpInfo := pool [(5, u "<init>"), (0, u "()V"), (1, .class_ 10), (1, u "java/lang/Object")] 113

def k0c0 : Code := { maxStack := 0, maxLocals := 1, code := object_method_1_code, exceptionTable := #[], attributes := #[] }
def k0m0 : Method := { name := "<init>", desc := "()V", sig := { parameters := [], returnType := none }, accessFlags := 1, code := some k0c0 }
/-- java/lang/Object -/
def k0 : Class := { plain "java/lang/Object" none with
  accessFlags := 33
  interfaces := #[]
  cf := some (fileOf pool0 8 #[] #[{ accessFlags := 1, nameIndex := 5, descriptorIndex := 6, attributes := #[] }] 33 0 #[] #[])
  fields := #[]
  methods := #[k0m0]
  instanceTypes := #[]
  staticTypes := #[]
  resolved := Array.replicate 124 none
  statics := none }

def pool1 : Array CpInfo := pool [(2, .class_ 4), (1, u "java/lang/Object"), (0, u "<init>"), (0, u "()V"), (0, .double 4602678819172646912), (1, .class_ 10), (0, u "com/example/dido/dido/StandingRegion"), (0, .methodref 9 12), (0, .nameAndType 5 13), (0, u "(DDDDDDDDD)V"), (0, .methodref 9 15), (0, .nameAndType 16 17), (0, u "rectangles"), (0, u "()[[D"), (0, .methodref 19 20), (0, .class_ 21), (0, .nameAndType 22 23), (0, u "com/example/dido/dido/StandingRegionRectanglesPinLaw"), (0, u "row"), (0, u "([DDDDD)Z"), (3, u "law"), (0, u "(IIIIII)Z")] 4

def k1m0 : Method := { name := "<init>", desc := "()V", sig := { parameters := [], returnType := none }, accessFlags := 1, code := none }
def k1c1 : Code := { maxStack := 4, maxLocals := 9, code := method_2_code, exceptionTable := #[], attributes := #[] }
def k1m1 : Method := { name := "row", desc := "([DDDDD)Z", sig := { parameters := [(.array .double), .double, .double, .double, .double], returnType := some .boolean }, accessFlags := 10, code := some k1c1 }
def k1c2 : Code := { maxStack := 20, maxLocals := 26, code := code, exceptionTable := #[], attributes := #[] }
def k1m2 : Method := { name := "law", desc := "(IIIIII)Z", sig := { parameters := [.int, .int, .int, .int, .int, .int], returnType := some .boolean }, accessFlags := 9, code := some k1c2 }
/-- com/example/dido/dido/StandingRegionRectanglesPinLaw -/
def k1 : Class := { plain "com/example/dido/dido/StandingRegionRectanglesPinLaw" (some 0) with
  accessFlags := 49
  interfaces := #[]
  cf := some (fileOf pool1 19 #[] #[{ accessFlags := 1, nameIndex := 5, descriptorIndex := 6, attributes := #[] }, { accessFlags := 10, nameIndex := 22, descriptorIndex := 23, attributes := #[] }, { accessFlags := 9, nameIndex := 27, descriptorIndex := 28, attributes := #[] }] 49 2 #[] #[])
  fields := #[]
  methods := #[k1m0, k1m1, k1m2]
  instanceTypes := #[]
  staticTypes := #[]
  resolved := Array.replicate 33 none
  statics := none }

def pool2 : Array CpInfo := pool [(1, .methodref 2 3), (0, .class_ 4), (0, .nameAndType 5 6), (0, u "java/lang/Object"), (0, u "<init>"), (0, u "()V"), (0, .class_ 8), (0, u "java/lang/Record")] 13

def k2c0 : Code := { maxStack := 1, maxLocals := 1, code := jdk_30_method_1_code, exceptionTable := #[], attributes := #[] }
def k2m0 : Method := { name := "<init>", desc := "()V", sig := { parameters := [], returnType := none }, accessFlags := 4, code := some k2c0 }
/-- java/lang/Record -/
def k2 : Class := { plain "java/lang/Record" (some 0) with
  accessFlags := 1057
  interfaces := #[]
  cf := some (fileOf pool2 7 #[] #[{ accessFlags := 4, nameIndex := 5, descriptorIndex := 6, attributes := #[] }] 1057 2 #[] #[])
  fields := #[]
  methods := #[k2m0]
  instanceTypes := #[]
  staticTypes := #[]
  resolved := Array.replicate 22 none
  statics := none }

def pool3 : Array CpInfo := pool [(2, .class_ 4), (1, u "com/example/dido/dido/Region"), (2, .class_ 8), (0, u "java/lang/Object")] 18

/-- com/example/dido/dido/Region -/
def k3 : Class := { plain "com/example/dido/dido/Region" (some 0) with
  accessFlags := 1537
  interfaces := #[]
  cf := some (fileOf pool3 2 #[] #[] 1537 7 #[] #[])
  fields := #[]
  methods := #[]
  instanceTypes := #[]
  staticTypes := #[]
  resolved := Array.replicate 27 none
  statics := none }

def pool4 : Array CpInfo := pool [(1, .methodref 2 3), (0, .class_ 4), (0, .nameAndType 5 6), (0, u "java/lang/Record"), (0, u "<init>"), (0, u "()V"), (0, .fieldref 8 9), (0, .class_ 10), (0, .nameAndType 11 12), (0, u "com/example/dido/dido/StandingRegion"), (0, u "left"), (0, u "D"), (0, .fieldref 8 14), (0, .nameAndType 15 12), (0, u "barLeft"), (0, .fieldref 8 17), (0, .nameAndType 18 12), (0, u "barRight"), (0, .fieldref 8 20), (0, .nameAndType 21 12), (0, u "right"), (0, .fieldref 8 23), (0, .nameAndType 24 12), (0, u "bottom"), (0, .fieldref 8 26), (0, .nameAndType 27 12), (0, u "baseTop"), (0, .fieldref 8 29), (0, .nameAndType 30 12), (0, u "leftTop"), (0, .fieldref 8 32), (0, .nameAndType 33 12), (0, u "barTop"), (0, .fieldref 8 35), (0, .nameAndType 36 12), (0, u "rightTop"), (2, u "(DDDDDDDDD)V"), (6, .class_ 47), (0, u "[D"), (12, .class_ 61), (0, u "com/example/dido/dido/Region"), (8, u "rectangles"), (0, u "()[[D")] 32

def k4c0 : Code := { maxStack := 3, maxLocals := 19, code := prog_24_method_1_code, exceptionTable := #[], attributes := #[] }
def k4m0 : Method := { name := "<init>", desc := "(DDDDDDDDD)V", sig := { parameters := [.double, .double, .double, .double, .double, .double, .double, .double, .double], returnType := none }, accessFlags := 1, code := some k4c0 }
def k4c1 : Code := { maxStack := 8, maxLocals := 1, code := prog_24_method_4_code, exceptionTable := #[], attributes := #[] }
def k4m1 : Method := { name := "rectangles", desc := "()[[D", sig := { parameters := [], returnType := some (.array (.array .double)) }, accessFlags := 1, code := some k4c1 }
/-- com/example/dido/dido/StandingRegion -/
def k4 : Class := { plain "com/example/dido/dido/StandingRegion" (some 2) with
  accessFlags := 49
  interfaces := #[3]
  cf := some (fileOf pool4 8 #[] #[{ accessFlags := 1, nameIndex := 5, descriptorIndex := 39, attributes := #[] }, { accessFlags := 1, nameIndex := 70, descriptorIndex := 71, attributes := #[] }] 49 2 #[60] #[{ accessFlags := 18, nameIndex := 11, descriptorIndex := 12, attributes := #[] }, { accessFlags := 18, nameIndex := 15, descriptorIndex := 12, attributes := #[] }, { accessFlags := 18, nameIndex := 18, descriptorIndex := 12, attributes := #[] }, { accessFlags := 18, nameIndex := 21, descriptorIndex := 12, attributes := #[] }, { accessFlags := 18, nameIndex := 24, descriptorIndex := 12, attributes := #[] }, { accessFlags := 18, nameIndex := 27, descriptorIndex := 12, attributes := #[] }, { accessFlags := 18, nameIndex := 30, descriptorIndex := 12, attributes := #[] }, { accessFlags := 18, nameIndex := 33, descriptorIndex := 12, attributes := #[] }, { accessFlags := 18, nameIndex := 36, descriptorIndex := 12, attributes := #[] }])
  fields := #[{ name := "left", type := .double, accessFlags := 18, slot := 0, constantValue := 0 }, { name := "barLeft", type := .double, accessFlags := 18, slot := 1, constantValue := 0 }, { name := "barRight", type := .double, accessFlags := 18, slot := 2, constantValue := 0 }, { name := "right", type := .double, accessFlags := 18, slot := 3, constantValue := 0 }, { name := "bottom", type := .double, accessFlags := 18, slot := 4, constantValue := 0 }, { name := "baseTop", type := .double, accessFlags := 18, slot := 5, constantValue := 0 }, { name := "leftTop", type := .double, accessFlags := 18, slot := 6, constantValue := 0 }, { name := "barTop", type := .double, accessFlags := 18, slot := 7, constantValue := 0 }, { name := "rightTop", type := .double, accessFlags := 18, slot := 8, constantValue := 0 }]
  methods := #[k4m0, k4m1]
  instanceTypes := #[.double, .double, .double, .double, .double, .double, .double, .double, .double]
  staticTypes := #[]
  resolved := Array.replicate 104 none
  statics := none }

def pool5 : Array CpInfo := pool [(1, u "java/lang/Cloneable"), (0, .class_ 1), (0, u "java/lang/Object"), (0, .class_ 3)] 3

/-- java/lang/Cloneable -/
def k5 : Class := { plain "java/lang/Cloneable" (some 0) with
  accessFlags := 1537
  interfaces := #[]
  cf := some (fileOf pool5 2 #[] #[] 1537 4 #[] #[])
  fields := #[]
  methods := #[]
  instanceTypes := #[]
  staticTypes := #[]
  resolved := Array.replicate 8 none
  statics := none }

def pool6 : Array CpInfo := pool [(1, u "java/io/Serializable"), (0, .class_ 1), (0, u "java/lang/Object"), (0, .class_ 3)] 3

/-- java/io/Serializable -/
def k6 : Class := { plain "java/io/Serializable" (some 0) with
  accessFlags := 1537
  interfaces := #[]
  cf := some (fileOf pool6 2 #[] #[] 1537 4 #[] #[])
  fields := #[]
  methods := #[]
  instanceTypes := #[]
  staticTypes := #[]
  resolved := Array.replicate 8 none
  statics := none }

/-- the primitive byte -/
def k7 : Class := { plain "byte" none with kind := .primitive 'B', accessFlags := 0x411 }
/-- [B -/
def k8 : Class := { plain "[B" (some 0) with kind := .array 7 .byte, interfaces := #[5, 6], accessFlags := 1041 }

/-- the primitive double -/
def k9 : Class := { plain "double" none with kind := .primitive 'D', accessFlags := 0x411 }
/-- [D -/
def k10 : Class := { plain "[D" (some 0) with kind := .array 9 .double, interfaces := #[5, 6], accessFlags := 1041 }

/-- the primitive int -/
def k11 : Class := { plain "int" none with kind := .primitive 'I', accessFlags := 0x411 }
/-- [I -/
def k12 : Class := { plain "[I" (some 0) with kind := .array 11 .int, interfaces := #[5, 6], accessFlags := 1041 }

/-- [[D -/
def k13 : Class := { plain "[[D" (some 0) with kind := .array 10 (.array .double), interfaces := #[5, 6], accessFlags := 1041 }

def heap : Heap := #[]
def classes : Array Class := #[k0, k1, k2, k3, k4, k5, k6, k7, k8, k9, k10, k11, k12, k13]
def interned : List (Array UInt16 × Addr) := []
def slotsUsed : Nat := 0
def theMethod : MethodId := ⟨1, 2⟩
def args0 : Array Value := #[.int 5, .int 7, .int 9, .int 2, .int 3, .int 4]
def aboutOver (below : List Frame) : State where
  vm := { classes := classes, interned := interned.toArray }
  heap := heap
  slotsUsed := slotsUsed
  threads := #[{ frames := .invoking theMethod args0 :: below }]
def below0 : List Frame := [.native { method := ⟨0, 0⟩, args := #[] }]
def about1 : State := aboutOver below0
def p0 : Program := .bare "" "" ""
def e0 : Env := launch0.env 0 0 0
theorem w_frames : about1.frames = Frame.invoking theMethod args0 :: below0 := rfl
set_option maxRecDepth 65536 in
theorem w_args : argsFit about1.vm theMethod args0 = true := by decide +kernel
set_option maxRecDepth 65536 in
theorem w_heap : heapFits about1 = true := by decide +kernel
set_option maxRecDepth 65536 in
theorem w_runnable : about1.curStatus? = some .runnable := by decide +kernel
set_option maxRecDepth 65536 in
theorem w_alone : about1.alone = true := by decide +kernel
set_option maxRecDepth 65536 in
theorem w_named : about1.methodNamed? x = some theMethod := by decide +kernel
set_option maxRecDepth 65536 in
theorem w_hears : about1.hears theMethod below0 = true := by decide +kernel
set_option maxRecDepth 65536 in
theorem w_ripe : about1.ripe theMethod args0 below0 = true := by decide +kernel
theorem w_running : about1.status = .running := rfl
set_option maxRecDepth 65536 in
theorem w_room : about1.hasRoom e0.platform room_1 = true :=
  launch0.hasRoom_least _ room_1 (by decide +kernel) (by decide +kernel) (by decide +kernel) (by decide +kernel) (by decide +kernel) (by decide +kernel)
theorem allAtoms_all (ts : List Jvm.Cond) (a : Array Jvm.Value) (st : Jvm.State) : (allAtoms ts).before a st = ts.all (fun c => c.before a st) := by
  induction ts with
  | nil => rfl
  | cons c t ih =>
    show (Jvm.Cond.and c (allAtoms t)).before a st = _
    rw [Jvm.Cond.before_and, ih, List.all_cons]
def words1 : List Jvm.Cond := Jvm.Cond.code x code maxLocals ret :: tables_1
/-- a 'code' word, met by the world's own term for the bytes: nothing is compared byte by byte -/
theorem code_word {y : MethodName} {bytes : ByteArray} {mx : Nat} {rt : Option FieldType} {a : Array Value} {s : State} {m : MethodId} {meth : Method} {c : Code} (h1 : s.methodNamed? y = some m) (h2 : s.vm.method? m = some meth) (h3 : meth.code = some c) (h4 : c.code = bytes)
    (h5 : (c.maxLocals == mx && c.exceptionTable.isEmpty && decide (c.maxStack ≤ mostOperands) && decide (meth.sig.returnType = rt) && !meth.locks && decide (parseMethodDescriptor y.desc = some meth.sig)) = true) : (Jvm.Cond.code y bytes mx rt).before a s = true := by
  simp only [Bool.and_eq_true, beq_iff_eq, Bool.not_eq_true', decide_eq_true_eq] at h5
  obtain ⟨⟨⟨⟨⟨g1, g2⟩, g3⟩, g4⟩, g5⟩, g6⟩ := h5
  simp [Cond.before, Cond.holds, Cond.value, h1, h2, h3, h4, g1, g2, g3, g4, g5, g6]
def isCode : Jvm.Cond → Bool
  | .code _ _ _ _ => true
  | _ => false
theorem all_split {L : List Jvm.Cond} {P : Jvm.Cond → Bool} (h1 : L.all (fun c => isCode c || P c) = true) (h2 : ∀ c ∈ L.filter isCode, P c = true) : L.all P = true := by
  refine List.all_eq_true.mpr fun c hc => ?_
  have h := List.all_eq_true.mp h1 c hc
  rcases Bool.eq_false_or_eq_true (isCode c) with hi | hi
  · exact h2 c (List.mem_filter.mpr ⟨hc, hi⟩)
  · simpa [hi] using h
set_option maxRecDepth 65536 in
theorem w_c0 : (Jvm.Cond.code x code maxLocals ret).before args0 about1 = true := code_word (m := ⟨1, 2⟩) (meth := k1m2) (c := k1c2) (by decide +kernel) rfl rfl rfl (by decide +kernel)
set_option maxRecDepth 65536 in
theorem w_c1 : (Jvm.Cond.code ({ cls := "com/example/dido/dido/StandingRegion", name := "<init>", desc := "(DDDDDDDDD)V" } : Jvm.MethodName) prog_24_method_1_code (19 : Nat) (Option.none : Option Jvm.ClassFile.FieldType)).before args0 about1 = true := code_word (m := ⟨4, 0⟩) (meth := k4m0) (c := k4c0) (by decide +kernel) rfl rfl rfl (by decide +kernel)
set_option maxRecDepth 65536 in
theorem w_c2 : (Jvm.Cond.code ({ cls := "java/lang/Record", name := "<init>", desc := "()V" } : Jvm.MethodName) jdk_30_method_1_code (1 : Nat) (Option.none : Option Jvm.ClassFile.FieldType)).before args0 about1 = true := code_word (m := ⟨2, 0⟩) (meth := k2m0) (c := k2c0) (by decide +kernel) rfl rfl rfl (by decide +kernel)
set_option maxRecDepth 65536 in
theorem w_c3 : (Jvm.Cond.code ({ cls := "java/lang/Object", name := "<init>", desc := "()V" } : Jvm.MethodName) object_method_1_code (1 : Nat) (Option.none : Option Jvm.ClassFile.FieldType)).before args0 about1 = true := code_word (m := ⟨0, 0⟩) (meth := k0m0) (c := k0c0) (by decide +kernel) rfl rfl rfl (by decide +kernel)
set_option maxRecDepth 65536 in
theorem w_c4 : (Jvm.Cond.code ({ cls := "com/example/dido/dido/StandingRegion", name := "rectangles", desc := "()[[D" } : Jvm.MethodName) prog_24_method_4_code (1 : Nat) (Option.some (Jvm.ClassFile.FieldType.array (Jvm.ClassFile.FieldType.array Jvm.ClassFile.FieldType.double)))).before args0 about1 = true := code_word (m := ⟨4, 1⟩) (meth := k4m1) (c := k4c1) (by decide +kernel) rfl rfl rfl (by decide +kernel)
set_option maxRecDepth 65536 in
theorem w_c5 : (Jvm.Cond.code ({ cls := "com/example/dido/dido/StandingRegionRectanglesPinLaw", name := "row", desc := "([DDDDD)Z" } : Jvm.MethodName) method_2_code (9 : Nat) (Option.some Jvm.ClassFile.FieldType.boolean)).before args0 about1 = true := code_word (m := ⟨1, 1⟩) (meth := k1m1) (c := k1c1) (by decide +kernel) rfl rfl rfl (by decide +kernel)
def codes1 : List Jvm.Cond := [Jvm.Cond.code x code maxLocals ret, Jvm.Cond.code ({ cls := "com/example/dido/dido/StandingRegion", name := "<init>", desc := "(DDDDDDDDD)V" } : Jvm.MethodName) prog_24_method_1_code (19 : Nat) (Option.none : Option Jvm.ClassFile.FieldType), Jvm.Cond.code ({ cls := "java/lang/Record", name := "<init>", desc := "()V" } : Jvm.MethodName) jdk_30_method_1_code (1 : Nat) (Option.none : Option Jvm.ClassFile.FieldType), Jvm.Cond.code ({ cls := "java/lang/Object", name := "<init>", desc := "()V" } : Jvm.MethodName) object_method_1_code (1 : Nat) (Option.none : Option Jvm.ClassFile.FieldType), Jvm.Cond.code ({ cls := "com/example/dido/dido/StandingRegion", name := "rectangles", desc := "()[[D" } : Jvm.MethodName) prog_24_method_4_code (1 : Nat) (Option.some (Jvm.ClassFile.FieldType.array (Jvm.ClassFile.FieldType.array Jvm.ClassFile.FieldType.double))), Jvm.Cond.code ({ cls := "com/example/dido/dido/StandingRegionRectanglesPinLaw", name := "row", desc := "([DDDDD)Z" } : Jvm.MethodName) method_2_code (9 : Nat) (Option.some Jvm.ClassFile.FieldType.boolean)]
set_option maxRecDepth 65536 in
theorem codes_eq : words1.filter isCode = codes1 := rfl
theorem w_codes : ∀ c ∈ words1.filter isCode, c.before args0 about1 = true := by
  rw [codes_eq]
  intro c hc
  simp only [codes1, List.mem_cons, List.not_mem_nil, or_false] at hc
  rcases hc with rfl | rfl | rfl | rfl | rfl | rfl
  · exact w_c0
  · exact w_c1
  · exact w_c2
  · exact w_c3
  · exact w_c4
  · exact w_c5
set_option maxRecDepth 65536 in
theorem w_t1 : (words1.take 24).all (fun c => isCode c || c.before args0 about1) = true := by decide +kernel
set_option maxRecDepth 65536 in
theorem w_t2 : (words1.drop 24).all (fun c => isCode c || c.before args0 about1) = true := by decide +kernel
theorem w_tables : (allAtoms (Jvm.Cond.code x code maxLocals ret :: tables_1)).before args0 about1 = true := by
  rw [allAtoms_all]
  show words1.all (fun c => c.before args0 about1) = true
  refine all_split ?_ w_codes
  rw [← List.take_append_drop 24 words1, List.all_append, w_t1, w_t2]
  rfl
set_option maxRecDepth 65536 in
theorem w_case : (Jvm.Cond.and given_1 narrow_1).before args0 about1 = true := by decide +kernel
theorem w_applies : (headSpec (Jvm.Cond.code x code maxLocals ret :: tables_1) room_1).applies x e0.platform about1 = true :=
  (Spec.applies_iff w_frames).mpr ⟨w_running, w_runnable, w_alone, w_named, w_hears, w_ripe, w_room, w_tables⟩
theorem atStart : AtStart classFile x code maxLocals ret World_1 tables_1 room_1 Calls_1 rest_1 Pre_1 launch0 p0 e0 about1 theMethod args0 below0 :=
  ⟨lists_1, trivial, launch0.admits_env _ _ _, launch0.least_env, fairChoices_fair.cas, fairChoices_fair.clock, w_frames, w_args, w_heap, w_applies, trivial, trivial, w_case⟩
end start1
theorem witness_1 : WitnessClaimed_1 := ⟨start1.p0, start1.e0, start1.about1, start1.theMethod, start1.args0, start1.below0, start1.atStart⟩
end Jvm.Pilot.@@N@@
