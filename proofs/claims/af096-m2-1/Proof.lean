import JvmDerived
import JvmDerived.Pilot.@@N@@Statement
import JvmDerived.Pilot.@@N@@Code
set_option linter.unusedVariables false
set_option linter.unusedSimpArgs false
namespace Jvm.Pilot.@@N@@
open Jvm Jvm.ClassFile Sem Op Lib Jvm.Free Jvm.Stand Jvm.LawKit Jvm.RoadKit Jvm.Free.Fl Bundle Jvm.Pilot.@@N@@.Jvm.D
section OwnG
variable {p : Program} {l : Launch} {e : Env} {R : Room} {s : State} {m : MethodId} {args : Array Value} {below : List Frame} {meth : Method} {c : Code} {T : State} {locs : List Loc} {cells slots : Nat} {Z : State} {a0 : Array Value} {h : Heap} {B : ByteArray} {pc pc' : Nat} {L L' : Array Slot} {rest : List Value} {F : Outcome → State → Prop}
def Gt (tb : Tables) (e : Env) (below : List Frame) (F : Outcome → State → Prop) (S : State) : Prop := ∃ s₂ o, Steps tb e below S s₂ ∧ s₂.status = .running ∧ Ended s₂ below o ∧ F o s₂
theorem Gt.go {tb : Tables} {S S' : State} (k : Gt tb e below F S') (q : ∀ t, Steps tb e below S' t → Steps tb e below S t) : Gt tb e below F S := by
  obtain ⟨a, o, h1, h2⟩ := k; exact ⟨a, o, q _ h1, h2⟩
theorem own_join {tb : Tables} {S S' : State} (q : ∀ F', Gt tb e below F' S' → Gt tb e below F' S) (k : Gt tb e below F S') : Gt tb e below F S := q F k
theorem own_cast {tb : Tables} {g g' : JFrame} (q : g = g') (k : Gt tb e below F (T.setTop g')) : Gt tb e below F (T.setTop g) := q ▸ k
theorem own_iadd (X : Stand p l e R s m args below meth c T locs cells slots) (hx : p.tables.exec = Jvm.exec) (hby : c.code = B) {x y v : Int32} (hv : x + y = v) (hd : decode B pc = .ok (.iadd, 1)) (hp : pc + 1 = pc') (k : Gt p.tables e below F (T.setTop (mkF m pc' L (.int v :: rest)))) : Gt p.tables e below F (T.setTop (mkF m pc L (.int y :: .int x :: rest))) := by
  subst hp; exact (by subst hv; exact k.go fun t q => XS.iadd X.here hx rfl (hb hby hd) rfl q)
theorem own_isub (X : Stand p l e R s m args below meth c T locs cells slots) (hx : p.tables.exec = Jvm.exec) (hby : c.code = B) {x y v : Int32} (hv : x - y = v) (hd : decode B pc = .ok (.isub, 1)) (hp : pc + 1 = pc') (k : Gt p.tables e below F (T.setTop (mkF m pc' L (.int v :: rest)))) : Gt p.tables e below F (T.setTop (mkF m pc L (.int y :: .int x :: rest))) := by
  subst hp; exact (by subst hv; exact k.go fun t q => XS.isub X.here hx rfl (hb hby hd) rfl q)
theorem own_imul (X : Stand p l e R s m args below meth c T locs cells slots) (hx : p.tables.exec = Jvm.exec) (hby : c.code = B) {x y v : Int32} (hv : x * y = v) (hd : decode B pc = .ok (.imul, 1)) (hp : pc + 1 = pc') (k : Gt p.tables e below F (T.setTop (mkF m pc' L (.int v :: rest)))) : Gt p.tables e below F (T.setTop (mkF m pc L (.int y :: .int x :: rest))) := by
  subst hp; exact (by subst hv; exact k.go fun t q => XS.imul X.here hx rfl (hb hby hd) rfl q)
theorem own_iand (X : Stand p l e R s m args below meth c T locs cells slots) (hx : p.tables.exec = Jvm.exec) (hby : c.code = B) {x y v : Int32} (hv : x &&& y = v) (hd : decode B pc = .ok (.iand, 1)) (hp : pc + 1 = pc') (k : Gt p.tables e below F (T.setTop (mkF m pc' L (.int v :: rest)))) : Gt p.tables e below F (T.setTop (mkF m pc L (.int y :: .int x :: rest))) := by
  subst hp; exact (by subst hv; exact k.go fun t q => XS.iand X.here hx rfl (hb hby hd) rfl q)
theorem own_ior (X : Stand p l e R s m args below meth c T locs cells slots) (hx : p.tables.exec = Jvm.exec) (hby : c.code = B) {x y v : Int32} (hv : x ||| y = v) (hd : decode B pc = .ok (.ior, 1)) (hp : pc + 1 = pc') (k : Gt p.tables e below F (T.setTop (mkF m pc' L (.int v :: rest)))) : Gt p.tables e below F (T.setTop (mkF m pc L (.int y :: .int x :: rest))) := by
  subst hp; exact (by subst hv; exact k.go fun t q => XS.ior X.here hx rfl (hb hby hd) rfl q)
theorem own_ixor (X : Stand p l e R s m args below meth c T locs cells slots) (hx : p.tables.exec = Jvm.exec) (hby : c.code = B) {x y v : Int32} (hv : x ^^^ y = v) (hd : decode B pc = .ok (.ixor, 1)) (hp : pc + 1 = pc') (k : Gt p.tables e below F (T.setTop (mkF m pc' L (.int v :: rest)))) : Gt p.tables e below F (T.setTop (mkF m pc L (.int y :: .int x :: rest))) := by
  subst hp; exact (by subst hv; exact k.go fun t q => XS.ixor X.here hx rfl (hb hby hd) rfl q)
theorem own_ishl (X : Stand p l e R s m args below meth c T locs cells slots) (hx : p.tables.exec = Jvm.exec) (hby : c.code = B) {x y v : Int32} (hv : x <<< (y &&& 31) = v) (hd : decode B pc = .ok (.ishl, 1)) (hp : pc + 1 = pc') (k : Gt p.tables e below F (T.setTop (mkF m pc' L (.int v :: rest)))) : Gt p.tables e below F (T.setTop (mkF m pc L (.int y :: .int x :: rest))) := by
  subst hp; exact (by subst hv; exact k.go fun t q => XS.ishl X.here hx rfl (hb hby hd) rfl q)
theorem own_ishr (X : Stand p l e R s m args below meth c T locs cells slots) (hx : p.tables.exec = Jvm.exec) (hby : c.code = B) {x y v : Int32} (hv : x >>> (y &&& 31) = v) (hd : decode B pc = .ok (.ishr, 1)) (hp : pc + 1 = pc') (k : Gt p.tables e below F (T.setTop (mkF m pc' L (.int v :: rest)))) : Gt p.tables e below F (T.setTop (mkF m pc L (.int y :: .int x :: rest))) := by
  subst hp; exact (by subst hv; exact k.go fun t q => XS.ishr X.here hx rfl (hb hby hd) rfl q)
theorem own_iushr (X : Stand p l e R s m args below meth c T locs cells slots) (hx : p.tables.exec = Jvm.exec) (hby : c.code = B) {x y v : Int32} (hv : (x.toUInt32 >>> (y &&& 31).toUInt32).toInt32 = v) (hd : decode B pc = .ok (.iushr, 1)) (hp : pc + 1 = pc') (k : Gt p.tables e below F (T.setTop (mkF m pc' L (.int v :: rest)))) : Gt p.tables e below F (T.setTop (mkF m pc L (.int y :: .int x :: rest))) := by
  subst hp; exact (by subst hv; exact k.go fun t q => XS.iushr X.here hx rfl (hb hby hd) rfl q)
theorem own_ladd (X : Stand p l e R s m args below meth c T locs cells slots) (hx : p.tables.exec = Jvm.exec) (hby : c.code = B) {x y v : Int64} (hv : x + y = v) (hd : decode B pc = .ok (.ladd, 1)) (hp : pc + 1 = pc') (k : Gt p.tables e below F (T.setTop (mkF m pc' L (.long v :: rest)))) : Gt p.tables e below F (T.setTop (mkF m pc L (.long y :: .long x :: rest))) := by
  subst hp; exact (by subst hv; exact k.go fun t q => XS.ladd X.here hx rfl (hb hby hd) rfl q)
theorem own_lsub (X : Stand p l e R s m args below meth c T locs cells slots) (hx : p.tables.exec = Jvm.exec) (hby : c.code = B) {x y v : Int64} (hv : x - y = v) (hd : decode B pc = .ok (.lsub, 1)) (hp : pc + 1 = pc') (k : Gt p.tables e below F (T.setTop (mkF m pc' L (.long v :: rest)))) : Gt p.tables e below F (T.setTop (mkF m pc L (.long y :: .long x :: rest))) := by
  subst hp; exact (by subst hv; exact k.go fun t q => XS.lsub X.here hx rfl (hb hby hd) rfl q)
theorem own_lmul (X : Stand p l e R s m args below meth c T locs cells slots) (hx : p.tables.exec = Jvm.exec) (hby : c.code = B) {x y v : Int64} (hv : x * y = v) (hd : decode B pc = .ok (.lmul, 1)) (hp : pc + 1 = pc') (k : Gt p.tables e below F (T.setTop (mkF m pc' L (.long v :: rest)))) : Gt p.tables e below F (T.setTop (mkF m pc L (.long y :: .long x :: rest))) := by
  subst hp; exact (by subst hv; exact k.go fun t q => XS.lmul X.here hx rfl (hb hby hd) rfl q)
theorem own_land (X : Stand p l e R s m args below meth c T locs cells slots) (hx : p.tables.exec = Jvm.exec) (hby : c.code = B) {x y v : Int64} (hv : x &&& y = v) (hd : decode B pc = .ok (.land, 1)) (hp : pc + 1 = pc') (k : Gt p.tables e below F (T.setTop (mkF m pc' L (.long v :: rest)))) : Gt p.tables e below F (T.setTop (mkF m pc L (.long y :: .long x :: rest))) := by
  subst hp; exact (by subst hv; exact k.go fun t q => XS.land X.here hx rfl (hb hby hd) rfl q)
theorem own_lor (X : Stand p l e R s m args below meth c T locs cells slots) (hx : p.tables.exec = Jvm.exec) (hby : c.code = B) {x y v : Int64} (hv : x ||| y = v) (hd : decode B pc = .ok (.lor, 1)) (hp : pc + 1 = pc') (k : Gt p.tables e below F (T.setTop (mkF m pc' L (.long v :: rest)))) : Gt p.tables e below F (T.setTop (mkF m pc L (.long y :: .long x :: rest))) := by
  subst hp; exact (by subst hv; exact k.go fun t q => XS.lor X.here hx rfl (hb hby hd) rfl q)
theorem own_lxor (X : Stand p l e R s m args below meth c T locs cells slots) (hx : p.tables.exec = Jvm.exec) (hby : c.code = B) {x y v : Int64} (hv : x ^^^ y = v) (hd : decode B pc = .ok (.lxor, 1)) (hp : pc + 1 = pc') (k : Gt p.tables e below F (T.setTop (mkF m pc' L (.long v :: rest)))) : Gt p.tables e below F (T.setTop (mkF m pc L (.long y :: .long x :: rest))) := by
  subst hp; exact (by subst hv; exact k.go fun t q => XS.lxor X.here hx rfl (hb hby hd) rfl q)
theorem own_lshl (X : Stand p l e R s m args below meth c T locs cells slots) (hx : p.tables.exec = Jvm.exec) (hby : c.code = B) {x v : Int64} {y : Int32} (hv : x <<< (y &&& 0x3f).toInt64 = v) (hd : decode B pc = .ok (.lshl, 1)) (hp : pc + 1 = pc') (k : Gt p.tables e below F (T.setTop (mkF m pc' L (.long v :: rest)))) : Gt p.tables e below F (T.setTop (mkF m pc L (.int y :: .long x :: rest))) := by
  subst hp; exact (by subst hv; exact k.go fun t q => XS.lshl X.here hx rfl (hb hby hd) rfl q)
theorem own_lshr (X : Stand p l e R s m args below meth c T locs cells slots) (hx : p.tables.exec = Jvm.exec) (hby : c.code = B) {x v : Int64} {y : Int32} (hv : x >>> (y &&& 0x3f).toInt64 = v) (hd : decode B pc = .ok (.lshr, 1)) (hp : pc + 1 = pc') (k : Gt p.tables e below F (T.setTop (mkF m pc' L (.long v :: rest)))) : Gt p.tables e below F (T.setTop (mkF m pc L (.int y :: .long x :: rest))) := by
  subst hp; exact (by subst hv; exact k.go fun t q => XS.lshr X.here hx rfl (hb hby hd) rfl q)
theorem own_lushr (X : Stand p l e R s m args below meth c T locs cells slots) (hx : p.tables.exec = Jvm.exec) (hby : c.code = B) {x v : Int64} {y : Int32} (hv : (x.toUInt64 >>> (y &&& 0x3f).toInt64.toUInt64).toInt64 = v) (hd : decode B pc = .ok (.lushr, 1)) (hp : pc + 1 = pc') (k : Gt p.tables e below F (T.setTop (mkF m pc' L (.long v :: rest)))) : Gt p.tables e below F (T.setTop (mkF m pc L (.int y :: .long x :: rest))) := by
  subst hp; exact (by subst hv; exact k.go fun t q => XS.lushr X.here hx rfl (hb hby hd) rfl q)
theorem own_idiv (X : Stand p l e R s m args below meth c T locs cells slots) (hx : p.tables.exec = Jvm.exec) (hby : c.code = B) {x y v : Int32} (hy : y ≠ 0) (hv : x / y = v) (hd : decode B pc = .ok (.idiv, 1)) (hp : pc + 1 = pc') (k : Gt p.tables e below F (T.setTop (mkF m pc' L (.int v :: rest)))) : Gt p.tables e below F (T.setTop (mkF m pc L (.int y :: .int x :: rest))) := by
  subst hp; exact (by subst hv; exact k.go fun t q => XS.idiv X.here hx rfl (hb hby hd) rfl hy q)
theorem own_irem (X : Stand p l e R s m args below meth c T locs cells slots) (hx : p.tables.exec = Jvm.exec) (hby : c.code = B) {x y v : Int32} (hy : y ≠ 0) (hv : x % y = v) (hd : decode B pc = .ok (.irem, 1)) (hp : pc + 1 = pc') (k : Gt p.tables e below F (T.setTop (mkF m pc' L (.int v :: rest)))) : Gt p.tables e below F (T.setTop (mkF m pc L (.int y :: .int x :: rest))) := by
  subst hp; exact (by subst hv; exact k.go fun t q => iremM X hx rfl (hb hby hd) rfl hy q)
theorem own_ldiv (X : Stand p l e R s m args below meth c T locs cells slots) (hx : p.tables.exec = Jvm.exec) (hby : c.code = B) {x y v : Int64} (hy : y ≠ 0) (hv : x / y = v) (hd : decode B pc = .ok (.ldiv, 1)) (hp : pc + 1 = pc') (k : Gt p.tables e below F (T.setTop (mkF m pc' L (.long v :: rest)))) : Gt p.tables e below F (T.setTop (mkF m pc L (.long y :: .long x :: rest))) := by
  subst hp; exact (by subst hv; exact k.go fun t q => XS.ldiv X.here hx rfl (hb hby hd) rfl hy q)
theorem own_lrem (X : Stand p l e R s m args below meth c T locs cells slots) (hx : p.tables.exec = Jvm.exec) (hby : c.code = B) {x y v : Int64} (hy : y ≠ 0) (hv : x % y = v) (hd : decode B pc = .ok (.lrem, 1)) (hp : pc + 1 = pc') (k : Gt p.tables e below F (T.setTop (mkF m pc' L (.long v :: rest)))) : Gt p.tables e below F (T.setTop (mkF m pc L (.long y :: .long x :: rest))) := by
  subst hp; exact (by subst hv; rw [← lrem_mod] at k; exact k.go fun t q => XS.lrem X.here hx rfl (hb hby hd) rfl hy q)
theorem own_lcmp (X : Stand p l e R s m args below meth c T locs cells slots) (hx : p.tables.exec = Jvm.exec) (hby : c.code = B) {x y : Int64} {v : Int32} (hv : (if x > y then 1 else if x = y then 0 else -1 : Int32) = v) (hd : decode B pc = .ok (.lcmp, 1)) (hp : pc + 1 = pc') (k : Gt p.tables e below F (T.setTop (mkF m pc' L (.int v :: rest)))) : Gt p.tables e below F (T.setTop (mkF m pc L (.long y :: .long x :: rest))) := by
  subst hp; exact (by subst hv; exact k.go fun t q => XS.lcmp X.here hx rfl (hb hby hd) rfl q)
theorem own_ineg (X : Stand p l e R s m args below meth c T locs cells slots) (hx : p.tables.exec = Jvm.exec) (hby : c.code = B) {x v : Int32} (hv : -x = v) (hd : decode B pc = .ok (.ineg, 1)) (hp : pc + 1 = pc') (k : Gt p.tables e below F (T.setTop (mkF m pc' L (.int v :: rest)))) : Gt p.tables e below F (T.setTop (mkF m pc L (.int x :: rest))) := by
  subst hp; exact (by subst hv; exact k.go fun t q => XS.ineg X.here hx rfl (hb hby hd) rfl q)
theorem own_lneg (X : Stand p l e R s m args below meth c T locs cells slots) (hx : p.tables.exec = Jvm.exec) (hby : c.code = B) {x v : Int64} (hv : -x = v) (hd : decode B pc = .ok (.lneg, 1)) (hp : pc + 1 = pc') (k : Gt p.tables e below F (T.setTop (mkF m pc' L (.long v :: rest)))) : Gt p.tables e below F (T.setTop (mkF m pc L (.long x :: rest))) := by
  subst hp; exact (by subst hv; exact k.go fun t q => XS.lneg X.here hx rfl (hb hby hd) rfl q)
theorem own_i2b (X : Stand p l e R s m args below meth c T locs cells slots) (hx : p.tables.exec = Jvm.exec) (hby : c.code = B) {x v : Int32} (hv : x.toInt8.toInt32 = v) (hd : decode B pc = .ok (.i2b, 1)) (hp : pc + 1 = pc') (k : Gt p.tables e below F (T.setTop (mkF m pc' L (.int v :: rest)))) : Gt p.tables e below F (T.setTop (mkF m pc L (.int x :: rest))) := by
  subst hp; exact (by subst hv; exact k.go fun t q => XS.i2b X.here hx rfl (hb hby hd) rfl q)
theorem own_i2c (X : Stand p l e R s m args below meth c T locs cells slots) (hx : p.tables.exec = Jvm.exec) (hby : c.code = B) {x v : Int32} (hv : x.toUInt32.toUInt16.toUInt32.toInt32 = v) (hd : decode B pc = .ok (.i2c, 1)) (hp : pc + 1 = pc') (k : Gt p.tables e below F (T.setTop (mkF m pc' L (.int v :: rest)))) : Gt p.tables e below F (T.setTop (mkF m pc L (.int x :: rest))) := by
  subst hp; exact (by subst hv; exact k.go fun t q => XS.i2c X.here hx rfl (hb hby hd) rfl q)
theorem own_i2s (X : Stand p l e R s m args below meth c T locs cells slots) (hx : p.tables.exec = Jvm.exec) (hby : c.code = B) {x v : Int32} (hv : x.toInt16.toInt32 = v) (hd : decode B pc = .ok (.i2s, 1)) (hp : pc + 1 = pc') (k : Gt p.tables e below F (T.setTop (mkF m pc' L (.int v :: rest)))) : Gt p.tables e below F (T.setTop (mkF m pc L (.int x :: rest))) := by
  subst hp; exact (by subst hv; exact k.go fun t q => XS.i2s X.here hx rfl (hb hby hd) rfl q)
theorem own_i2l (X : Stand p l e R s m args below meth c T locs cells slots) (hx : p.tables.exec = Jvm.exec) (hby : c.code = B) {x : Int32} {v : Int64} (hv : x.toInt64 = v) (hd : decode B pc = .ok (.i2l, 1)) (hp : pc + 1 = pc') (k : Gt p.tables e below F (T.setTop (mkF m pc' L (.long v :: rest)))) : Gt p.tables e below F (T.setTop (mkF m pc L (.int x :: rest))) := by
  subst hp; exact (by subst hv; exact k.go fun t q => XS.i2l X.here hx rfl (hb hby hd) rfl q)
theorem own_l2i (X : Stand p l e R s m args below meth c T locs cells slots) (hx : p.tables.exec = Jvm.exec) (hby : c.code = B) {x : Int64} {v : Int32} (hv : x.toInt32 = v) (hd : decode B pc = .ok (.l2i, 1)) (hp : pc + 1 = pc') (k : Gt p.tables e below F (T.setTop (mkF m pc' L (.int v :: rest)))) : Gt p.tables e below F (T.setTop (mkF m pc L (.long x :: rest))) := by
  subst hp; exact (by subst hv; exact k.go fun t q => XS.l2i X.here hx rfl (hb hby hd) rfl q)
theorem own_iload (X : Stand p l e R s m args below meth c T locs cells slots) (hx : p.tables.exec = Jvm.exec) (hby : c.code = B) {i : Nat} {v : Int32} (hl : L[i]? = some (.val (.int v))) (hd : decode B pc = .ok (.iload i, 2)) (hp : pc + 2 = pc') (k : Gt p.tables e below F (T.setTop (mkF m pc' L (.int v :: rest)))) : Gt p.tables e below F (T.setTop (mkF m pc L rest)) := by
  subst hp; exact k.go fun t q => XS.iload X.here hx rfl (hb hby hd) hl q
theorem own_iloadN (X : Stand p l e R s m args below meth c T locs cells slots) (hx : p.tables.exec = Jvm.exec) (hby : c.code = B) {i : Fin 4} {v : Int32} (hl : L[i.val]? = some (.val (.int v))) (hd : decode B pc = .ok (.iload_n i, 1)) (hp : pc + 1 = pc') (k : Gt p.tables e below F (T.setTop (mkF m pc' L (.int v :: rest)))) : Gt p.tables e below F (T.setTop (mkF m pc L rest)) := by
  subst hp; exact k.go fun t q => XS.iloadN X.here hx rfl (hb hby hd) hl q
theorem own_lload (X : Stand p l e R s m args below meth c T locs cells slots) (hx : p.tables.exec = Jvm.exec) (hby : c.code = B) {i : Nat} {v : Int64} (hl : L[i]? = some (.val (.long v))) (hd : decode B pc = .ok (.lload i, 2)) (hp : pc + 2 = pc') (k : Gt p.tables e below F (T.setTop (mkF m pc' L (.long v :: rest)))) : Gt p.tables e below F (T.setTop (mkF m pc L rest)) := by
  subst hp; exact k.go fun t q => XS.lload X.here hx rfl (hb hby hd) hl q
theorem own_lloadN (X : Stand p l e R s m args below meth c T locs cells slots) (hx : p.tables.exec = Jvm.exec) (hby : c.code = B) {i : Fin 4} {v : Int64} (hl : L[i.val]? = some (.val (.long v))) (hd : decode B pc = .ok (.lload_n i, 1)) (hp : pc + 1 = pc') (k : Gt p.tables e below F (T.setTop (mkF m pc' L (.long v :: rest)))) : Gt p.tables e below F (T.setTop (mkF m pc L rest)) := by
  subst hp; exact k.go fun t q => XS.lloadN X.here hx rfl (hb hby hd) hl q
theorem own_dload (X : Stand p l e R s m args below meth c T locs cells slots) (hx : p.tables.exec = Jvm.exec) (hby : c.code = B) {i : Nat} {v : UInt64} (hl : L[i]? = some (.val (.double v))) (hd : decode B pc = .ok (.dload i, 2)) (hp : pc + 2 = pc') (k : Gt p.tables e below F (T.setTop (mkF m pc' L (.double v :: rest)))) : Gt p.tables e below F (T.setTop (mkF m pc L rest)) := by
  subst hp; exact k.go fun t q => XS.dload X.here hx rfl (hb hby hd) hl q
theorem own_dloadN (X : Stand p l e R s m args below meth c T locs cells slots) (hx : p.tables.exec = Jvm.exec) (hby : c.code = B) {i : Fin 4} {v : UInt64} (hl : L[i.val]? = some (.val (.double v))) (hd : decode B pc = .ok (.dload_n i, 1)) (hp : pc + 1 = pc') (k : Gt p.tables e below F (T.setTop (mkF m pc' L (.double v :: rest)))) : Gt p.tables e below F (T.setTop (mkF m pc L rest)) := by
  subst hp; exact k.go fun t q => XS.dloadN X.here hx rfl (hb hby hd) hl q
theorem own_aload (X : Stand p l e R s m args below meth c T locs cells slots) (hx : p.tables.exec = Jvm.exec) (hby : c.code = B) {i : Nat} {v : Value} (hl : L[i]? = some (.val v)) (hr : v.isRef = true) (hd : decode B pc = .ok (.aload i, 2)) (hp : pc + 2 = pc') (k : Gt p.tables e below F (T.setTop (mkF m pc' L (v :: rest)))) : Gt p.tables e below F (T.setTop (mkF m pc L rest)) := by
  subst hp; exact k.go fun t q => XS.aload X.here hx rfl (hb hby hd) hl hr q
theorem own_aloadN (X : Stand p l e R s m args below meth c T locs cells slots) (hx : p.tables.exec = Jvm.exec) (hby : c.code = B) {i : Fin 4} {v : Value} (hl : L[i.val]? = some (.val v)) (hr : v.isRef = true) (hd : decode B pc = .ok (.aload_n i, 1)) (hp : pc + 1 = pc') (k : Gt p.tables e below F (T.setTop (mkF m pc' L (v :: rest)))) : Gt p.tables e below F (T.setTop (mkF m pc L rest)) := by
  subst hp; exact k.go fun t q => XS.aloadN X.here hx rfl (hb hby hd) hl hr q
theorem own_istore (X : Stand p l e R s m args below meth c T locs cells slots) (hx : p.tables.exec = Jvm.exec) (hby : c.code = B) {i : Nat} {v : Int32} (hl : storeLocals L i (.int v) = some L') (hd : decode B pc = .ok (.istore i, 2)) (hp : pc + 2 = pc') (k : Gt p.tables e below F (T.setTop (mkF m pc' L' rest))) : Gt p.tables e below F (T.setTop (mkF m pc L (.int v :: rest))) := by
  subst hp; exact k.go fun t q => XS.istore X.here hx rfl (hb hby hd) rfl hl q
theorem own_istoreN (X : Stand p l e R s m args below meth c T locs cells slots) (hx : p.tables.exec = Jvm.exec) (hby : c.code = B) {i : Fin 4} {v : Int32} (hl : storeLocals L i.val (.int v) = some L') (hd : decode B pc = .ok (.istore_n i, 1)) (hp : pc + 1 = pc') (k : Gt p.tables e below F (T.setTop (mkF m pc' L' rest))) : Gt p.tables e below F (T.setTop (mkF m pc L (.int v :: rest))) := by
  subst hp; exact k.go fun t q => XS.istoreN X.here hx rfl (hb hby hd) rfl hl q
theorem own_lstore (X : Stand p l e R s m args below meth c T locs cells slots) (hx : p.tables.exec = Jvm.exec) (hby : c.code = B) {i : Nat} {v : Int64} (hl : storeLocals L i (.long v) = some L') (hd : decode B pc = .ok (.lstore i, 2)) (hp : pc + 2 = pc') (k : Gt p.tables e below F (T.setTop (mkF m pc' L' rest))) : Gt p.tables e below F (T.setTop (mkF m pc L (.long v :: rest))) := by
  subst hp; exact k.go fun t q => XS.lstore X.here hx rfl (hb hby hd) rfl hl q
theorem own_lstoreN (X : Stand p l e R s m args below meth c T locs cells slots) (hx : p.tables.exec = Jvm.exec) (hby : c.code = B) {i : Fin 4} {v : Int64} (hl : storeLocals L i.val (.long v) = some L') (hd : decode B pc = .ok (.lstore_n i, 1)) (hp : pc + 1 = pc') (k : Gt p.tables e below F (T.setTop (mkF m pc' L' rest))) : Gt p.tables e below F (T.setTop (mkF m pc L (.long v :: rest))) := by
  subst hp; exact k.go fun t q => XS.lstoreN X.here hx rfl (hb hby hd) rfl hl q
theorem own_dstore (X : Stand p l e R s m args below meth c T locs cells slots) (hx : p.tables.exec = Jvm.exec) (hby : c.code = B) {i : Nat} {v : UInt64} (hl : storeLocals L i (.double v) = some L') (hd : decode B pc = .ok (.dstore i, 2)) (hp : pc + 2 = pc') (k : Gt p.tables e below F (T.setTop (mkF m pc' L' rest))) : Gt p.tables e below F (T.setTop (mkF m pc L (.double v :: rest))) := by
  subst hp; exact k.go fun t q => XS.dstore X.here hx rfl (hb hby hd) rfl hl q
theorem own_dstoreN (X : Stand p l e R s m args below meth c T locs cells slots) (hx : p.tables.exec = Jvm.exec) (hby : c.code = B) {i : Fin 4} {v : UInt64} (hl : storeLocals L i.val (.double v) = some L') (hd : decode B pc = .ok (.dstore_n i, 1)) (hp : pc + 1 = pc') (k : Gt p.tables e below F (T.setTop (mkF m pc' L' rest))) : Gt p.tables e below F (T.setTop (mkF m pc L (.double v :: rest))) := by
  subst hp; exact k.go fun t q => XS.dstoreN X.here hx rfl (hb hby hd) rfl hl q
theorem own_astore (X : Stand p l e R s m args below meth c T locs cells slots) (hx : p.tables.exec = Jvm.exec) (hby : c.code = B) {i : Nat} {v : Value} (hr : v.isRef = true) (hl : storeLocals L i v = some L') (hd : decode B pc = .ok (.astore i, 2)) (hp : pc + 2 = pc') (k : Gt p.tables e below F (T.setTop (mkF m pc' L' rest))) : Gt p.tables e below F (T.setTop (mkF m pc L (v :: rest))) := by
  subst hp; exact k.go fun t q => XS.astore X.here hx rfl (hb hby hd) rfl hr hl q
theorem own_astoreN (X : Stand p l e R s m args below meth c T locs cells slots) (hx : p.tables.exec = Jvm.exec) (hby : c.code = B) {i : Fin 4} {v : Value} (hr : v.isRef = true) (hl : storeLocals L i.val v = some L') (hd : decode B pc = .ok (.astore_n i, 1)) (hp : pc + 1 = pc') (k : Gt p.tables e below F (T.setTop (mkF m pc' L' rest))) : Gt p.tables e below F (T.setTop (mkF m pc L (v :: rest))) := by
  subst hp; exact k.go fun t q => XS.astoreN X.here hx rfl (hb hby hd) rfl hr hl q
theorem own_iinc (X : Stand p l e R s m args below meth c T locs cells slots) (hx : p.tables.exec = Jvm.exec) (hby : c.code = B) {i : Nat} {cst : Int} {x : Int32} (hl : L[i]? = some (.val (.int x))) (hl' : storeLocals L i (.int (x + Int32.ofInt cst)) = some L') (hd : decode B pc = .ok (.iinc i cst, 3)) (hp : pc + 3 = pc') (k : Gt p.tables e below F (T.setTop (mkF m pc' L' rest))) : Gt p.tables e below F (T.setTop (mkF m pc L rest)) := by
  subst hp; exact k.go fun t q => XS.iinc X.here hx rfl (hb hby hd) hl hl' q
theorem own_iconst (X : Stand p l e R s m args below meth c T locs cells slots) (hx : p.tables.exec = Jvm.exec) (hby : c.code = B) {i : Int} {v : Int32} (hv : Int32.ofInt i = v) (hd : decode B pc = .ok (.iconst i, 1)) (hp : pc + 1 = pc') (k : Gt p.tables e below F (T.setTop (mkF m pc' L (.int v :: rest)))) : Gt p.tables e below F (T.setTop (mkF m pc L rest)) := by
  subst hp; exact (by subst hv; exact k.go fun t q => XS.iconst X.here hx rfl (hb hby hd) q)
theorem own_bipush (X : Stand p l e R s m args below meth c T locs cells slots) (hx : p.tables.exec = Jvm.exec) (hby : c.code = B) {i : Int} {v : Int32} (hv : (Int8.ofInt i).toInt32 = v) (hd : decode B pc = .ok (.bipush i, 2)) (hp : pc + 2 = pc') (k : Gt p.tables e below F (T.setTop (mkF m pc' L (.int v :: rest)))) : Gt p.tables e below F (T.setTop (mkF m pc L rest)) := by
  subst hp; exact (by subst hv; exact k.go fun t q => XS.bipush X.here hx rfl (hb hby hd) q)
theorem own_sipush (X : Stand p l e R s m args below meth c T locs cells slots) (hx : p.tables.exec = Jvm.exec) (hby : c.code = B) {i : Int} {v : Int32} (hv : (Int16.ofInt i).toInt32 = v) (hd : decode B pc = .ok (.sipush i, 3)) (hp : pc + 3 = pc') (k : Gt p.tables e below F (T.setTop (mkF m pc' L (.int v :: rest)))) : Gt p.tables e below F (T.setTop (mkF m pc L rest)) := by
  subst hp; exact (by subst hv; exact k.go fun t q => XS.sipush X.here hx rfl (hb hby hd) q)
theorem own_lconst (X : Stand p l e R s m args below meth c T locs cells slots) (hx : p.tables.exec = Jvm.exec) (hby : c.code = B) {i : Fin 2} {v : Int64} (hv : Int64.ofNat i = v) (hd : decode B pc = .ok (.lconst i, 1)) (hp : pc + 1 = pc') (k : Gt p.tables e below F (T.setTop (mkF m pc' L (.long v :: rest)))) : Gt p.tables e below F (T.setTop (mkF m pc L rest)) := by
  subst hp; exact (by subst hv; exact k.go fun t q => XS.lconst X.here hx rfl (hb hby hd) q)
theorem own_aconst (X : Stand p l e R s m args below meth c T locs cells slots) (hx : p.tables.exec = Jvm.exec) (hby : c.code = B)  (hd : decode B pc = .ok (.aconst_null, 1)) (hp : pc + 1 = pc') (k : Gt p.tables e below F (T.setTop (mkF m pc' L (.null :: rest)))) : Gt p.tables e below F (T.setTop (mkF m pc L rest)) := by
  subst hp; exact k.go fun t q => XS.aconstNull X.here hx rfl (hb hby hd) q
theorem own_dconst0 (X : Stand p l e R s m args below meth c T locs cells slots) (hx : p.tables.exec = Jvm.exec) (hby : c.code = B) {v : UInt64} (hv : FP.dconst0 = v) (hd : decode B pc = .ok (.dconst 0, 1)) (hp : pc + 1 = pc') (k : Gt p.tables e below F (T.setTop (mkF m pc' L (.double v :: rest)))) : Gt p.tables e below F (T.setTop (mkF m pc L rest)) := by
  subst hp; exact k.go fun t q => XS.dconst0 X.here hx rfl (hb hby hd) hv q
theorem own_dconst1 (X : Stand p l e R s m args below meth c T locs cells slots) (hx : p.tables.exec = Jvm.exec) (hby : c.code = B) {v : UInt64} (hv : FP.dconst1 = v) (hd : decode B pc = .ok (.dconst 1, 1)) (hp : pc + 1 = pc') (k : Gt p.tables e below F (T.setTop (mkF m pc' L (.double v :: rest)))) : Gt p.tables e below F (T.setTop (mkF m pc L rest)) := by
  subst hp; exact k.go fun t q => XS.dconst1 X.here hx rfl (hb hby hd) hv q
theorem own_dadd (X : Stand p l e R s m args below meth c T locs cells slots) (hx : p.tables.exec = Jvm.exec) (hby : c.code = B) {x y v : UInt64} (hn : NoNaN64 (FP.dadd x y)) (hv : FP.dadd x y = v) (hd : decode B pc = .ok (.dadd, 1)) (hp : pc + 1 = pc') (k : Gt p.tables e below F (T.setTop (mkF m pc' L (.double v :: rest)))) : Gt p.tables e below F (T.setTop (mkF m pc L (.double y :: .double x :: rest))) := by
  subst hp; exact k.go fun t q => XS.daddS X.here hx rfl (hb hby hd) rfl hn hv q
theorem own_dsub (X : Stand p l e R s m args below meth c T locs cells slots) (hx : p.tables.exec = Jvm.exec) (hby : c.code = B) {x y v : UInt64} (hn : NoNaN64 (FP.dsub x y)) (hv : FP.dsub x y = v) (hd : decode B pc = .ok (.dsub, 1)) (hp : pc + 1 = pc') (k : Gt p.tables e below F (T.setTop (mkF m pc' L (.double v :: rest)))) : Gt p.tables e below F (T.setTop (mkF m pc L (.double y :: .double x :: rest))) := by
  subst hp; exact k.go fun t q => XS.dsubS X.here hx rfl (hb hby hd) rfl hn hv q
theorem own_dmul (X : Stand p l e R s m args below meth c T locs cells slots) (hx : p.tables.exec = Jvm.exec) (hby : c.code = B) {x y v : UInt64} (hn : NoNaN64 (FP.dmul x y)) (hv : FP.dmul x y = v) (hd : decode B pc = .ok (.dmul, 1)) (hp : pc + 1 = pc') (k : Gt p.tables e below F (T.setTop (mkF m pc' L (.double v :: rest)))) : Gt p.tables e below F (T.setTop (mkF m pc L (.double y :: .double x :: rest))) := by
  subst hp; exact k.go fun t q => XS.dmulS X.here hx rfl (hb hby hd) rfl hn hv q
theorem own_ddiv (X : Stand p l e R s m args below meth c T locs cells slots) (hx : p.tables.exec = Jvm.exec) (hby : c.code = B) {x y v : UInt64} (hn : NoNaN64 (FP.ddiv x y)) (hv : FP.ddiv x y = v) (hd : decode B pc = .ok (.ddiv, 1)) (hp : pc + 1 = pc') (k : Gt p.tables e below F (T.setTop (mkF m pc' L (.double v :: rest)))) : Gt p.tables e below F (T.setTop (mkF m pc L (.double y :: .double x :: rest))) := by
  subst hp; exact k.go fun t q => XS.ddivS X.here hx rfl (hb hby hd) rfl hn hv q
theorem own_dneg (X : Stand p l e R s m args below meth c T locs cells slots) (hx : p.tables.exec = Jvm.exec) (hby : c.code = B) {x v : UInt64} (hv : FP.dneg x = v) (hd : decode B pc = .ok (.dneg, 1)) (hp : pc + 1 = pc') (k : Gt p.tables e below F (T.setTop (mkF m pc' L (.double v :: rest)))) : Gt p.tables e below F (T.setTop (mkF m pc L (.double x :: rest))) := by
  subst hp; exact k.go fun t q => XS.dnegS X.here hx rfl (hb hby hd) rfl hv q
theorem own_dcmp (X : Stand p l e R s m args below meth c T locs cells slots) (hx : p.tables.exec = Jvm.exec) (hby : c.code = B) {o : CmpOp} {x y : UInt64} {v : Int32} (hv : cmpValue (FP.dcmp x y) o = v) (hd : decode B pc = .ok (.dcmp o, 1)) (hp : pc + 1 = pc') (k : Gt p.tables e below F (T.setTop (mkF m pc' L (.int v :: rest)))) : Gt p.tables e below F (T.setTop (mkF m pc L (.double y :: .double x :: rest))) := by
  subst hp; exact k.go fun t q => XS.dcmpS X.here hx rfl (hb hby hd) rfl hv q
theorem own_i2d (X : Stand p l e R s m args below meth c T locs cells slots) (hx : p.tables.exec = Jvm.exec) (hby : c.code = B) {x : Int32} {v : UInt64} (hv : FP.i2d x = v) (hd : decode B pc = .ok (.i2d, 1)) (hp : pc + 1 = pc') (k : Gt p.tables e below F (T.setTop (mkF m pc' L (.double v :: rest)))) : Gt p.tables e below F (T.setTop (mkF m pc L (.int x :: rest))) := by
  subst hp; exact k.go fun t q => XS.i2dS X.here hx rfl (hb hby hd) rfl hv q
theorem own_l2d (X : Stand p l e R s m args below meth c T locs cells slots) (hx : p.tables.exec = Jvm.exec) (hby : c.code = B) {x : Int64} {v : UInt64} (hv : FP.l2d x = v) (hd : decode B pc = .ok (.l2d, 1)) (hp : pc + 1 = pc') (k : Gt p.tables e below F (T.setTop (mkF m pc' L (.double v :: rest)))) : Gt p.tables e below F (T.setTop (mkF m pc L (.long x :: rest))) := by
  subst hp; exact k.go fun t q => XS.l2dS X.here hx rfl (hb hby hd) rfl hv q
theorem own_dup (X : Stand p l e R s m args below meth c T locs cells slots) (hx : p.tables.exec = Jvm.exec) (hby : c.code = B) {x : Value} (hc : x.category = 1) (hd : decode B pc = .ok (.dup, 1)) (hp : pc + 1 = pc') (k : Gt p.tables e below F (T.setTop (mkF m pc' L (x :: x :: rest)))) : Gt p.tables e below F (T.setTop (mkF m pc L (x :: rest))) := by
  subst hp; exact k.go fun t q => XS.dup X.here hx rfl (hb hby hd) rfl hc q
theorem own_pop (X : Stand p l e R s m args below meth c T locs cells slots) (hx : p.tables.exec = Jvm.exec) (hby : c.code = B) {x : Value} (hc : x.category = 1) (hd : decode B pc = .ok (.pop, 1)) (hp : pc + 1 = pc') (k : Gt p.tables e below F (T.setTop (mkF m pc' L rest))) : Gt p.tables e below F (T.setTop (mkF m pc L (x :: rest))) := by
  subst hp; exact k.go fun t q => XS.pop X.here hx rfl (hb hby hd) rfl hc q
theorem own_dupX1 (X : Stand p l e R s m args below meth c T locs cells slots) (hx : p.tables.exec = Jvm.exec) (hby : c.code = B) {x y : Value} (hc : x.category = 1) (hc' : y.category = 1) (hd : decode B pc = .ok (.dup_x1, 1)) (hp : pc + 1 = pc') (k : Gt p.tables e below F (T.setTop (mkF m pc' L (x :: y :: x :: rest)))) : Gt p.tables e below F (T.setTop (mkF m pc L (x :: y :: rest))) := by
  subst hp; exact k.go fun t q => XS.dupX1 X.here hx rfl (hb hby hd) rfl hc hc' q
theorem own_dup2 (X : Stand p l e R s m args below meth c T locs cells slots) (hx : p.tables.exec = Jvm.exec) (hby : c.code = B) {x y : Value} (hc : x.category = 1) (hc' : y.category = 1) (hd : decode B pc = .ok (.dup2, 1)) (hp : pc + 1 = pc') (k : Gt p.tables e below F (T.setTop (mkF m pc' L (x :: y :: x :: y :: rest)))) : Gt p.tables e below F (T.setTop (mkF m pc L (x :: y :: rest))) := by
  subst hp; exact k.go fun t q => Jvm.Free.XT.dup2 X.here hx rfl (hb hby hd) rfl hc hc' q
theorem own_goto (X : Stand p l e R s m args below meth c T locs cells slots) (hx : p.tables.exec = Jvm.exec) (hby : c.code = B) {o : Int} (hd : decode B pc = .ok (.goto o, 3)) (ho : 0 ≤ (pc : Int) + o) (hp : ((pc : Int) + o).toNat = pc') (k : Gt p.tables e below F (T.setTop (mkF m pc' L rest))) : Gt p.tables e below F (T.setTop (mkF m pc L rest)) :=
  k.go fun t q => XS.goto X.here hx rfl rfl (hb hby hd) ho hp q
theorem own_ifT (X : Stand p l e R s m args below meth c T locs cells slots) (hx : p.tables.exec = Jvm.exec) (hby : c.code = B) {cd : ClassFile.Cond} {x : Int32} {o : Int} (hd : decode B pc = .ok (.ifCond cd o, 3)) (hc : ifCond.holds cd x = true) (ho : 0 ≤ (pc : Int) + o) (hp : ((pc : Int) + o).toNat = pc') (k : Gt p.tables e below F (T.setTop (mkF m pc' L rest))) : Gt p.tables e below F (T.setTop (mkF m pc L (.int x :: rest))) :=
  k.go fun t q => XS.ifYes X.here hx rfl rfl (hb hby hd) rfl hc ho hp q
theorem own_ifF (X : Stand p l e R s m args below meth c T locs cells slots) (hx : p.tables.exec = Jvm.exec) (hby : c.code = B) {cd : ClassFile.Cond} {x : Int32} {o : Int} (hd : decode B pc = .ok (.ifCond cd o, 3)) (hc : ifCond.holds cd x = false) (hp : pc + 3 = pc') (k : Gt p.tables e below F (T.setTop (mkF m pc' L rest))) : Gt p.tables e below F (T.setTop (mkF m pc L (.int x :: rest))) := by
  subst hp; exact k.go fun t q => XS.ifNo X.here hx rfl (hb hby hd) rfl hc q
theorem own_icT (X : Stand p l e R s m args below meth c T locs cells slots) (hx : p.tables.exec = Jvm.exec) (hby : c.code = B) {cd : ClassFile.Cond} {x y : Int32} {o : Int} (hd : decode B pc = .ok (.if_icmp cd o, 3)) (hc : if_icmp.holds cd x y = true) (ho : 0 ≤ (pc : Int) + o) (hp : ((pc : Int) + o).toNat = pc') (k : Gt p.tables e below F (T.setTop (mkF m pc' L rest))) : Gt p.tables e below F (T.setTop (mkF m pc L (.int y :: .int x :: rest))) :=
  k.go fun t q => XS.icmpYes X.here hx rfl rfl (hb hby hd) rfl hc ho hp q
theorem own_icF (X : Stand p l e R s m args below meth c T locs cells slots) (hx : p.tables.exec = Jvm.exec) (hby : c.code = B) {cd : ClassFile.Cond} {x y : Int32} {o : Int} (hd : decode B pc = .ok (.if_icmp cd o, 3)) (hc : if_icmp.holds cd x y = false) (hp : pc + 3 = pc') (k : Gt p.tables e below F (T.setTop (mkF m pc' L rest))) : Gt p.tables e below F (T.setTop (mkF m pc L (.int y :: .int x :: rest))) := by
  subst hp; exact k.go fun t q => XS.icmpNo X.here hx rfl (hb hby hd) rfl hc q
theorem own_ifnullT (X : Stand p l e R s m args below meth c T locs cells slots) (hx : p.tables.exec = Jvm.exec) (hby : c.code = B) {o : Int} (hd : decode B pc = .ok (.ifnull o, 3)) (ho : 0 ≤ (pc : Int) + o) (hp : ((pc : Int) + o).toNat = pc') (k : Gt p.tables e below F (T.setTop (mkF m pc' L rest))) : Gt p.tables e below F (T.setTop (mkF m pc L (.null :: rest))) :=
  k.go fun t q => XS.ifnullYes X.here hx rfl rfl (hb hby hd) rfl ho hp q
theorem own_ifnullF (X : Stand p l e R s m args below meth c T locs cells slots) (hx : p.tables.exec = Jvm.exec) (hby : c.code = B) {o : Int} {b : Addr} (hd : decode B pc = .ok (.ifnull o, 3)) (hp : pc + 3 = pc') (k : Gt p.tables e below F (T.setTop (mkF m pc' L rest))) : Gt p.tables e below F (T.setTop (mkF m pc L (.ref b :: rest))) := by
  subst hp; exact k.go fun t q => XS.ifnullNo X.here hx rfl (hb hby hd) rfl q
theorem own_ifnonnullT (X : Stand p l e R s m args below meth c T locs cells slots) (hx : p.tables.exec = Jvm.exec) (hby : c.code = B) {o : Int} {b : Addr} (hd : decode B pc = .ok (.ifnonnull o, 3)) (ho : 0 ≤ (pc : Int) + o) (hp : ((pc : Int) + o).toNat = pc') (k : Gt p.tables e below F (T.setTop (mkF m pc' L rest))) : Gt p.tables e below F (T.setTop (mkF m pc L (.ref b :: rest))) :=
  k.go fun t q => XS.ifnonnullYes X.here hx rfl rfl (hb hby hd) rfl ho hp q
theorem own_ifnonnullF (X : Stand p l e R s m args below meth c T locs cells slots) (hx : p.tables.exec = Jvm.exec) (hby : c.code = B) {o : Int} (hd : decode B pc = .ok (.ifnonnull o, 3)) (hp : pc + 3 = pc') (k : Gt p.tables e below F (T.setTop (mkF m pc' L rest))) : Gt p.tables e below F (T.setTop (mkF m pc L (.null :: rest))) := by
  subst hp; exact k.go fun t q => XS.ifnonnullNo X.here hx rfl (hb hby hd) rfl q
theorem own_acmp (X : Stand p l e R s m args below meth c T locs cells slots) (hx : p.tables.exec = Jvm.exec) (hby : c.code = B) {cd : ACond} {x y : Value} (h1 : x.isRef = true) (h2 : y.isRef = true) {o : Int} {same : Bool} (hd : decode B pc = .ok (.if_acmp cd o, 3)) (hq : decide (x = y) = same) (ho : 0 ≤ (pc : Int) + o) (hp : pc' = if acV cd same = true then ((pc : Int) + o).toNat else pc + 3) (k : Gt p.tables e below F (T.setTop (mkF m pc' L rest))) : Gt p.tables e below F (T.setTop (mkF m pc L (y :: x :: rest))) :=
  k.go fun t q => Jvm.RoadKit.acmp X hx rfl h1 h2 rfl (hb hby hd) rfl hq ho hp q
theorem own_ldcI (X : Stand p l e R s m args below meth c T locs cells slots) (hx : p.tables.exec = Jvm.exec) (hby : c.code = B) (hZ : Z.Warmed39 s.vm) {own : String} {i : Nat} {v : Int32} (hown : s.vm.findClass own = some m.cls) (w : (Jvm.Cond.constant own i v).before a0 Z = true) (hd : decode B pc = .ok (.ldc i, 2)) (hp : pc + 2 = pc') (k : Gt p.tables e below F (T.setTop (mkF m pc' L (.int v :: rest)))) : Gt p.tables e below F (T.setTop (mkF m pc L rest)) := by
  subst hp; exact k.go (X.ldcInt hx hown (mvT hZ w) (g := mkF m pc L rest) rfl (hb hby hd))
theorem own_ldc2L (X : Stand p l e R s m args below meth c T locs cells slots) (hx : p.tables.exec = Jvm.exec) (hby : c.code = B) (hZ : Z.Warmed39 s.vm) {own : String} {i : Nat} {v : Int64} (hown : s.vm.findClass own = some m.cls) (w : (Jvm.Cond.constantLong own i v).before a0 Z = true) (hd : decode B pc = .ok (.ldc2_w i, 3)) (hp : pc + 3 = pc') (k : Gt p.tables e below F (T.setTop (mkF m pc' L (.long v :: rest)))) : Gt p.tables e below F (T.setTop (mkF m pc L rest)) := by
  subst hp; exact k.go (X.ldc2Long hx hown (mvT hZ w) (g := mkF m pc L rest) rfl (hb hby hd))
theorem own_ldc2D (X : Stand p l e R s m args below meth c T locs cells slots) (hx : p.tables.exec = Jvm.exec) (hby : c.code = B) (hZ : Z.Warmed39 s.vm) {own : String} {i : Nat} {v : UInt64} (hown : s.vm.findClass own = some m.cls) (w : (Jvm.Cond.constantDouble own i v).before a0 Z = true) (hd : decode B pc = .ok (.ldc2_w i, 3)) (hp : pc + 3 = pc') (k : Gt p.tables e below F (T.setTop (mkF m pc' L (.double v :: rest)))) : Gt p.tables e below F (T.setTop (mkF m pc L rest)) := by
  subst hp; exact k.go (X.ldc2DoubleC hx hown (mvT hZ w) (g := mkF m pc L rest) rfl (hb hby hd))
theorem own_getF (X : Stand p l e R s m args below meth c T locs cells slots) (hx : p.tables.exec = Jvm.exec) (hby : c.code = B) (hZ : Z.Warmed39 s.vm) {own R0 O n d host : String} {index : Nat} (hown : s.vm.findClass own = some m.cls) (w : (Jvm.Cond.fieldLink own index R0 n d).before a0 Z = true ∨ (Jvm.Cond.fieldLinkNest own index R0 n d host).before a0 Z = true) (via : Via Z R0 O n d) (eT : T.heap = h) {a : Addr} {v : Value} (Ff : Fld Z h a O n d v) (hd : decode B pc = .ok (.getfield index, 3)) (hp : pc + 3 = pc') (k : ∀ T', Stand p l e R s m args below meth c T' locs cells slots → T'.heap = h → Gt p.tables e below F (T'.setTop (mkF m pc' L (v :: rest)))) : Gt p.tables e below F (T.setTop (mkF m pc L (.ref a :: rest))) := by
  subst hp; obtain ⟨T', X', e', st⟩ := getF X hx hZ hown w via eT Ff (g := mkF m pc L (.ref a :: rest)) rfl rfl (hb hby hd); exact (k T' X' e').go st
theorem own_getS (X : Stand p l e R s m args below meth c T locs cells slots) (hx : p.tables.exec = Jvm.exec) (hby : c.code = B) (hZ : Z.Warmed39 s.vm) {own R0 O n d host : String} {index : Nat} (hown : s.vm.findClass own = some m.cls) (w : (Jvm.Cond.fieldLink own index R0 n d).before a0 Z = true ∨ (Jvm.Cond.fieldLinkNest own index R0 n d host).before a0 Z = true) (via : Via Z R0 O n d) (eT : T.heap = h) {v : Value} (Ff : Sta Z h O n d v) (hd : decode B pc = .ok (.getstatic index, 3)) (hp : pc + 3 = pc') (k : ∀ T', Stand p l e R s m args below meth c T' locs cells slots → T'.heap = h → Gt p.tables e below F (T'.setTop (mkF m pc' L (v :: rest)))) : Gt p.tables e below F (T.setTop (mkF m pc L rest)) := by
  subst hp; obtain ⟨T', X', e', st⟩ := getS2 X hx hZ hown w via eT Ff (g := mkF m pc L rest) rfl (hb hby hd); exact (k T' X' e').go st
theorem own_putF (X : Stand p l e R s m args below meth c T locs cells slots) (hx : p.tables.exec = Jvm.exec) (hby : c.code = B) (hZ : Z.Warmed39 s.vm) {own R0 O n d host C : String} {index kk : Nat} {ty : FieldType} (hown : s.vm.findClass own = some m.cls) (w : (Jvm.Cond.fieldLink own index R0 n d).before a0 Z = true ∨ (Jvm.Cond.fieldLinkNest own index R0 n d host).before a0 Z = true) (via : Via Z R0 O n d) (eT : T.heap = h) {a : Addr} {v old : Value} (Ff : Fld Z h a O n d old) (E : Exa Z h a C) (La : (Jvm.Cond.lays C O n d).before a0 Z = true ∨ ((Jvm.Cond.laysFinal C O n d).before a0 Z = true ∧ own = O ∧ meth.name = "<init>")) (wi : (Jvm.Cond.instantiable C kk).before a0 Z = true) (hty : parseFieldDescriptor d = some ty) (hn : narrow ty v = v) (hf : fits ty v = true) (hd : decode B pc = .ok (.putfield index, 3)) (hp : pc + 3 = pc') (k : ∀ T' h', Stand p l e R s m args below meth c T' (locs ++ [⟨a, Jvm.RoadKit.slotOf Z O n d⟩]) cells slots → T'.heap = h' → Wr h h' a (Jvm.RoadKit.slotOf Z O n d) v → Gt p.tables e below F (T'.setTop (mkF m pc' L rest))) : Gt p.tables e below F (T.setTop (mkF m pc L (v :: .ref a :: rest))) := by
  subst hp; obtain ⟨T', h', X', e', W, st⟩ := putF X hx hZ hown w via eT Ff E La wi hty hn hf (g := mkF m pc L (v :: .ref a :: rest)) rfl rfl (hb hby hd); exact (k T' h' X' e' W).go st
theorem own_newO (X : Stand p l e R s m args below meth c T locs cells slots) (hx : p.tables.exec = Jvm.exec) (hby : c.code = B) (hZ : Z.Warmed39 s.vm) {own C : String} {index n : Nat} (hown : s.vm.findClass own = some m.cls) (w : (Jvm.Cond.classLink own index C).before a0 Z = true) (wi : (Jvm.Cond.instantiable C n).before a0 Z = true) (wz : (Jvm.Cond.initialized C).before a0 Z = true) (eT : T.heap = h) (hd : decode B pc = .ok (.new index, 3)) (hp : pc + 3 = pc') (hc : cells + 1 ≤ R.cells) (hl : slots + n ≤ R.slots) (k : ∀ T' h' a, Stand p l e R s m args below meth c T' locs (cells + 1) (slots + n) → T'.heap = h' → Ext h h' → h.size = a → Exa Z h' a C → (∀ {O nm d : String} {ty : FieldType}, Laid Z a0 C O nm d → parseFieldDescriptor d = some ty → Fld Z h' a O nm d (defaultValue ty)) → Gt p.tables e below F (T'.setTop (mkF m pc' L (.ref a :: rest)))) : Gt p.tables e below F (T.setTop (mkF m pc L rest)) := by
  subst hp; obtain ⟨T', h', X', e', E', A', D', -, st⟩ := newO X hx hZ hown w wi wz eT (g := mkF m pc L rest) rfl (hb hby hd) hc hl; exact (k T' h' _ X' e' E' rfl A' D').go st
theorem own_initO (X : Stand p l e R s m args below meth c T locs cells slots) (hx : p.tables.exec = Jvm.exec) (hby : c.code = B) (hZ : Z.Warmed39 s.vm) {own : String} {idx : Nat} (hown : s.vm.findClass own = some m.cls) (w1 : (Jvm.Cond.methodLink own idx Lib.objectInit).before a0 Z = true) (w2 : (Jvm.Cond.instanceMethod Lib.objectInit).before a0 Z = true) (w3 : (Jvm.Cond.code Lib.objectInit ⟨#[0xb1]⟩ 1 none).before a0 Z = true) (eT : T.heap = h) (hsize : L.size = c.maxLocals) {a : Addr} (hd : decode B pc = .ok (.invokespecial idx, 3)) (hp : pc + 3 = pc') (hf : 1 ≤ R.frames) {W : Nat} (hW : (rest.map fun v => v.category).sum ≤ W) (hl : W + 12 ≤ R.locals) (k : ∀ T', Stand p l e R s m args below meth c T' locs cells slots → T'.heap = h → Gt p.tables e below F (T'.setTop (mkF m pc' L rest))) : Gt p.tables e below F (T.setTop (mkF m pc L (.ref a :: rest))) := by
  subst hp; obtain ⟨T', X', e', st⟩ := initO X hx hZ hown w1 w2 w3 eT (g := mkF m pc L (.ref a :: rest)) rfl hsize rfl (hb hby hd) hf (W := W) (by show 2 * 0 + _ ≤ _; rw [Nat.mul_zero, Nat.zero_add]; exact hW) hl; exact (k T' X' e').go st
theorem own_special (X : Stand p l e R s m args below meth c T locs cells slots) (hx : p.tables.exec = Jvm.exec) (hby : c.code = B) (hZ : Z.Warmed39 s.vm) {own : String} {index : Nat} {y : MethodName} {bytes : ByteArray} {maxL : Nat} {ret : Option FieldType} {rm : Room} {as' : Array Value} {Q : Option Value → Heap → List Loc → Prop} (hy1 : y.name = "<init>") (hown : s.vm.findClass own = some m.cls) (w1 : (Jvm.Cond.methodLink own index y).before a0 Z = true) (w2 : (Jvm.Cond.instanceMethod y).before a0 Z = true) (hret : ret = none) (w3 : (Jvm.Cond.code y bytes maxL ret).before a0 Z = true) (w4 : (Jvm.Cond.initialized y.cls).before a0 Z = true) (hy : y.cls ≠ "java/lang/invoke/MethodHandle" ∧ y.cls ≠ "java/lang/invoke/VarHandle") (hM : MetFree l y (head1 [Jvm.Cond.code y bytes maxL ret] rm) (fun a U => a = as' ∧ Z.Warmed39 U.vm ∧ U.heap = h) (fun _ _ _ _ _ => True) (fun _ U o U' => ∃ v L, o = .returned v ∧ Q v U'.heap L ∧ FrameEnd U o U' L rm.cells rm.slots)) (eT : T.heap = h) (hsize : L.size = c.maxLocals) {a : Addr} {argsL : List Value} (has : as' = (.ref a :: argsL).toArray) (hlen : ∀ sig, parseMethodDescriptor y.desc = some sig → argsL.length = sig.parameters.length) {st : List Value} (hst : st = argsL.reverse ++ .ref a :: rest) (hd : decode B pc = .ok (.invokespecial index, 3)) (hp : pc + 3 = pc') (hf : rm.frames + 1 ≤ R.frames) {W : Nat} (hW : (rest.map fun v => v.category).sum ≤ W) (hl : W + (maxL + 11) + rm.locals ≤ R.locals) (hc : cells + rm.cells ≤ R.cells) (hs : slots + rm.slots ≤ R.slots) (k : ∀ T' h' L' v, Stand p l e R s m args below meth c T' (locs ++ L') (cells + rm.cells) (slots + rm.slots) → T'.heap = h' → Q v h' L' → Gt p.tables e below F (T'.setTop (mkF m pc' L (v.toList ++ rest)))) : Gt p.tables e below F (T.setTop (mkF m pc L st)) := by
  subst hp hret has hst
  obtain ⟨v, vm1, ⟨T', L1, k1, n1⟩, -, X', ⟨Lc, hQ, l1, l2, l3⟩, st⟩ := X.specialBack hx (y := y) hy1 hown (mvT hZ w1) (mvT hZ w2) (mvT hZ w3) hy (backOf (W := W) hM hZ w3 w4 hf hl) (g := mkF m pc L (argsL.reverse ++ .ref a :: rest)) rfl hsize (Steps.refl _) (a := a) (argsL := argsL) (rest := rest) hlen rfl (by show 2 * 0 + _ ≤ _; rw [Nat.mul_zero, Nat.zero_add]; exact hW) (hb hby hd) (fun _ _ => ⟨rfl, eT, hc, hs⟩)
  dsimp only [Pt.U, Pt.locs, Pt.cells, Pt.slots] at X' l1 l2 l3 st hQ
  subst l1 l2 l3
  exact (k T' _ Lc v X' rfl hQ).go fun t q => st.trans q
theorem own_virtual (X : Stand p l e R s m args below meth c T locs cells slots) (hx : p.tables.exec = Jvm.exec) (hby : c.code = B) (hZ : Z.Warmed39 s.vm) {own : String} {index : Nat} {y : MethodName} {bytes : ByteArray} {maxL : Nat} {ret : Option FieldType} {rm : Room} {as' : Array Value} {Q : Option Value → Heap → List Loc → Prop} {C : String} {y' : MethodName} (hown : s.vm.findClass own = some m.cls) (w1 : (Jvm.Cond.methodLink own index y').before a0 Z = true) (w2 : (Jvm.Cond.declares y').before a0 Z = true) (hnf : NotFace s y') (w5 : (Jvm.Cond.selects C y' y).before a0 Z = true) (w6 : (Jvm.Cond.instanceMethod y).before a0 Z = true) (w3 : (Jvm.Cond.code y bytes maxL ret).before a0 Z = true) (w4 : (Jvm.Cond.initialized y.cls).before a0 Z = true) (hy : y'.cls ≠ "java/lang/invoke/MethodHandle" ∧ y'.cls ≠ "java/lang/invoke/VarHandle") (hM : MetFree l y (head1 [Jvm.Cond.code y bytes maxL ret] rm) (fun a U => a = as' ∧ Z.Warmed39 U.vm ∧ U.heap = h) (fun _ _ _ _ _ => True) (fun _ U o U' => ∃ v L, o = .returned v ∧ Q v U'.heap L ∧ FrameEnd U o U' L rm.cells rm.slots)) (eT : T.heap = h) (hsize : L.size = c.maxLocals) {a : Addr} (E : Exa Z h a C) {argsL : List Value} (has : as' = (.ref a :: argsL).toArray) (hlen : ∀ sig, parseMethodDescriptor y'.desc = some sig → argsL.length = sig.parameters.length) {st : List Value} (hst : st = argsL.reverse ++ .ref a :: rest) (hd : decode B pc = .ok (.invokevirtual index, 3)) (hp : pc + 3 = pc') (hf : rm.frames + 1 ≤ R.frames) {W : Nat} (hW : (rest.map fun v => v.category).sum ≤ W) (hl : W + (maxL + 11) + rm.locals ≤ R.locals) (hc : cells + rm.cells ≤ R.cells) (hs : slots + rm.slots ≤ R.slots) (k : ∀ T' h' L' v, Stand p l e R s m args below meth c T' (locs ++ L') (cells + rm.cells) (slots + rm.slots) → T'.heap = h' → Q v h' L' → Gt p.tables e below F (T'.setTop (mkF m pc' L (v.toList ++ rest)))) : Gt p.tables e below F (T.setTop (mkF m pc L st)) := by
  subst hp has hst
  obtain ⟨cq, kq, qa, qb, qc⟩ := isOf hZ eT E
  obtain ⟨v, vm1, ⟨T', L1, k1, n1⟩, -, X', ⟨Lc, hQ, l1, l2, l3⟩, st⟩ := X.virtualBack hx (y := y') (z := y) hown (mvT hZ w1) (mvT hZ w2) hnf (mvT hZ w5) (mvT hZ w6) hy (backOf (W := W) hM hZ w3 w4 hf hl) qa qc (g := mkF m pc L (argsL.reverse ++ .ref a :: rest)) rfl hsize (Steps.refl _) (argsL := argsL) (rest := rest) hlen rfl (by show 2 * 0 + _ ≤ _; rw [Nat.mul_zero, Nat.zero_add]; exact hW) (hb hby hd) (fun _ _ => ⟨rfl, eT, hc, hs⟩)
  dsimp only [Pt.U, Pt.locs, Pt.cells, Pt.slots] at X' l1 l2 l3 st hQ
  subst l1 l2 l3
  exact (k T' _ Lc v X' rfl hQ).go fun t q => st.trans q
theorem own_static (X : Stand p l e R s m args below meth c T locs cells slots) (hx : p.tables.exec = Jvm.exec) (hby : c.code = B) (hZ : Z.Warmed39 s.vm) {own : String} {index : Nat} {y : MethodName} {bytes : ByteArray} {maxL : Nat} {ret : Option FieldType} {rm : Room} {as' : Array Value} {Q : Option Value → Heap → List Loc → Prop} (hown : s.vm.findClass own = some m.cls) (w1 : (Jvm.Cond.methodLink own index y).before a0 Z = true) (w2 : (Jvm.Cond.static y).before a0 Z = true) (w3 : (Jvm.Cond.code y bytes maxL ret).before a0 Z = true) (w4 : (Jvm.Cond.initialized y.cls).before a0 Z = true) (hy : y.cls ≠ "java/lang/invoke/MethodHandle" ∧ y.cls ≠ "java/lang/invoke/VarHandle") (hM : MetFree l y (head1 [Jvm.Cond.code y bytes maxL ret] rm) (fun a U => a = as' ∧ Z.Warmed39 U.vm ∧ U.heap = h) (fun _ _ _ _ _ => True) (fun _ U o U' => ∃ v L, o = .returned v ∧ Q v U'.heap L ∧ FrameEnd U o U' L rm.cells rm.slots)) (eT : T.heap = h) (hsize : L.size = c.maxLocals) {argsL : List Value} (has : as' = argsL.toArray) (hlen : ∀ sig, parseMethodDescriptor y.desc = some sig → argsL.length = sig.parameters.length) {st : List Value} (hst : st = argsL.reverse ++ rest) (hd : decode B pc = .ok (.invokestatic index, 3)) (hp : pc + 3 = pc') (hf : rm.frames + 1 ≤ R.frames) {W : Nat} (hW : (rest.map fun v => v.category).sum ≤ W) (hl : W + (maxL + 11) + rm.locals ≤ R.locals) (hc : cells + rm.cells ≤ R.cells) (hs : slots + rm.slots ≤ R.slots) (k : ∀ T' h' L' v, Stand p l e R s m args below meth c T' (locs ++ L') (cells + rm.cells) (slots + rm.slots) → T'.heap = h' → Q v h' L' → Gt p.tables e below F (T'.setTop (mkF m pc' L (v.toList ++ rest)))) : Gt p.tables e below F (T.setTop (mkF m pc L st)) := by
  subst hp has hst
  obtain ⟨v, vm1, ⟨T', L1, k1, n1⟩, -, X', ⟨Lc, hQ, l1, l2, l3⟩, st⟩ := Jvm.LawKit.callS X hx (y := y) hown (mvT hZ w1) (mvT hZ w2) (mvT hZ w4) (mvT hZ w3) hy (backOf (W := W) hM hZ w3 w4 hf hl) (g := mkF m pc L (argsL.reverse ++ rest)) rfl hsize (argsL := argsL) (rest := rest) hlen rfl (by show 2 * 0 + _ ≤ _; rw [Nat.mul_zero, Nat.zero_add]; exact hW) (hb hby hd) (fun _ _ => ⟨rfl, eT, hc, hs⟩)
  dsimp only [Pt.U, Pt.locs, Pt.cells, Pt.slots] at X' l1 l2 l3 st hQ
  subst l1 l2 l3
  exact (k T' _ Lc v X' rfl hQ).go fun t q => st _ q
theorem own_private (X : Stand p l e R s m args below meth c T locs cells slots) (hx : p.tables.exec = Jvm.exec) (hby : c.code = B) (hZ : Z.Warmed39 s.vm) {own : String} {index : Nat} {y : MethodName} {bytes : ByteArray} {maxL : Nat} {ret : Option FieldType} {rm : Room} {as' : Array Value} {Q : Option Value → Heap → List Loc → Prop} (hown : s.vm.findClass own = some m.cls) (w1 : (Jvm.Cond.methodLink own index y).before a0 Z = true) (w2 : (Jvm.Cond.instanceMethod y).before a0 Z = true) {ni : Nat} (w5 : (Jvm.Cond.instantiable y.cls ni).before a0 Z = true) (w6 : (Jvm.Cond.privateMethod y).before a0 Z = true) (w3 : (Jvm.Cond.code y bytes maxL ret).before a0 Z = true) (w4 : (Jvm.Cond.initialized y.cls).before a0 Z = true) (hy : y.cls ≠ "java/lang/invoke/MethodHandle" ∧ y.cls ≠ "java/lang/invoke/VarHandle") (hM : MetFree l y (head1 [Jvm.Cond.code y bytes maxL ret] rm) (fun a U => a = as' ∧ Z.Warmed39 U.vm ∧ U.heap = h) (fun _ _ _ _ _ => True) (fun _ U o U' => ∃ v L, o = .returned v ∧ Q v U'.heap L ∧ FrameEnd U o U' L rm.cells rm.slots)) (eT : T.heap = h) (hsize : L.size = c.maxLocals) {a : Addr} (E : Exa Z h a y.cls) {argsL : List Value} (has : as' = (.ref a :: argsL).toArray) (hlen : ∀ sig, parseMethodDescriptor y.desc = some sig → argsL.length = sig.parameters.length) {st : List Value} (hst : st = argsL.reverse ++ .ref a :: rest) (hd : decode B pc = .ok (.invokevirtual index, 3)) (hp : pc + 3 = pc') (hf : rm.frames + 1 ≤ R.frames) {W : Nat} (hW : (rest.map fun v => v.category).sum ≤ W) (hl : W + (maxL + 11) + rm.locals ≤ R.locals) (hc : cells + rm.cells ≤ R.cells) (hs : slots + rm.slots ≤ R.slots) (k : ∀ T' h' L' v, Stand p l e R s m args below meth c T' (locs ++ L') (cells + rm.cells) (slots + rm.slots) → T'.heap = h' → Q v h' L' → Gt p.tables e below F (T'.setTop (mkF m pc' L (v.toList ++ rest)))) : Gt p.tables e below F (T.setTop (mkF m pc L st)) := by
  subst hp has hst
  obtain ⟨cq, q1, q2⟩ := E.cell
  obtain ⟨cI, kI, i1, i2, -, i3, -⟩ := Cond.instantiable_spec (mv (s := s) (args := args) hZ w5)
  have hpr := Cond.privateMethod_at (mvP (s := s) hZ w6 (args := #[]))
  have hsel := Jvm.Stand.selects_self_of_private i1 i2 (Bool.or_eq_false_iff.mp i3).1 hpr (mvT (s := s) (args := args) hZ w2) hy
  obtain ⟨v, vm1, ⟨T', L1, k1, n1⟩, -, X', ⟨Lc, hQ, l1, l2, l3⟩, st⟩ := X.privateBack hx (y := y) hown (mvT hZ w1) (mvT hZ w2) hsel hpr (mvT hZ w3) hy (backOf (W := W) hM hZ w3 w4 hf hl) (g := mkF m pc L (argsL.reverse ++ .ref a :: rest)) rfl hsize (Steps.refl _) (a := a) (by rw [eT]; exact q1) q2 (argsL := argsL) (rest := rest) hlen rfl (by show 2 * 0 + _ ≤ _; rw [Nat.mul_zero, Nat.zero_add]; exact hW) (hb hby hd) (fun _ _ => ⟨rfl, eT, hc, hs⟩)
  dsimp only [Pt.U, Pt.locs, Pt.cells, Pt.slots] at X' l1 l2 l3 st hQ
  subst l1 l2 l3
  exact (k T' _ Lc v X' rfl hQ).go fun t q => st.trans q
theorem own_retV (X : Stand p l e R s m args below meth c T locs cells slots) (hx : p.tables.exec = Jvm.exec) (hby : c.code = B) (hlocks : meth.locks = false) {Q : Option Value → Heap → List Loc → Prop} {kc ks : Nat} (hret : meth.sig.returnType = none) (hd : decode B pc = .ok (.return_, 1)) (hc : cells ≤ kc) (hs : slots ≤ ks) (eT : T.heap = h) (hq : Q none h locs) : Gt p.tables e below (fun o U' => ∃ v Lc, o = .returned v ∧ Q v U'.heap Lc ∧ FrameEnd s o U' Lc kc ks) (T.setTop (mkF m pc L [])) := by
  subst eT
  obtain ⟨fs, hr, hrun, hended, hW, hsame⟩ := X.leave (v := none) (fun _ => rfl) hlocks
  exact ⟨_, _, X.returnOut hx hret (hb hby hd) hr, hrun, hended, _, _, rfl, hq, ⟨_, rfl⟩, hW, hsame.mono hc hs⟩
theorem own_retI (X : Stand p l e R s m args below meth c T locs cells slots) (hx : p.tables.exec = Jvm.exec) (hby : c.code = B) (hlocks : meth.locks = false) {Q : Option Value → Heap → List Loc → Prop} {kc ks : Nat} (hret : meth.sig.returnType = some .int) {z : Int32} (hd : decode B pc = .ok (.ireturn, 1)) (hc : cells ≤ kc) (hs : slots ≤ ks) (eT : T.heap = h) (hq : Q (some (.int z)) h locs) : Gt p.tables e below (fun o U' => ∃ v Lc, o = .returned v ∧ Q v U'.heap Lc ∧ FrameEnd s o U' Lc kc ks) (T.setTop (mkF m pc L (.int z :: rest))) := by
  subst eT
  obtain ⟨fs, hr, hrun, hended, hW, hsame⟩ := X.leave (v := (some (.int z))) (fun h => by rw [hret] at h; cases h) hlocks
  exact ⟨_, _, retOut X hx hret rfl (Or.inl ⟨rfl, Or.inl rfl, z, rfl⟩) (hb hby hd) hr, hrun, hended, _, _, rfl, hq, ⟨_, rfl⟩, hW, hsame.mono hc hs⟩
theorem own_retL (X : Stand p l e R s m args below meth c T locs cells slots) (hx : p.tables.exec = Jvm.exec) (hby : c.code = B) (hlocks : meth.locks = false) {Q : Option Value → Heap → List Loc → Prop} {kc ks : Nat} (hret : meth.sig.returnType = some .long) {z : Int64} (hd : decode B pc = .ok (.lreturn, 1)) (hc : cells ≤ kc) (hs : slots ≤ ks) (eT : T.heap = h) (hq : Q (some (.long z)) h locs) : Gt p.tables e below (fun o U' => ∃ v Lc, o = .returned v ∧ Q v U'.heap Lc ∧ FrameEnd s o U' Lc kc ks) (T.setTop (mkF m pc L (.long z :: rest))) := by
  subst eT
  obtain ⟨fs, hr, hrun, hended, hW, hsame⟩ := X.leave (v := (some (.long z))) (fun h => by rw [hret] at h; cases h) hlocks
  exact ⟨_, _, retOut X hx hret rfl (Or.inr (Or.inl ⟨rfl, rfl, z, rfl⟩)) (hb hby hd) hr, hrun, hended, _, _, rfl, hq, ⟨_, rfl⟩, hW, hsame.mono hc hs⟩
theorem own_retD (X : Stand p l e R s m args below meth c T locs cells slots) (hx : p.tables.exec = Jvm.exec) (hby : c.code = B) (hlocks : meth.locks = false) {Q : Option Value → Heap → List Loc → Prop} {kc ks : Nat} (hret : meth.sig.returnType = some .double) {z : UInt64} (hd : decode B pc = .ok (.dreturn, 1)) (hc : cells ≤ kc) (hs : slots ≤ ks) (eT : T.heap = h) (hq : Q (some (.double z)) h locs) : Gt p.tables e below (fun o U' => ∃ v Lc, o = .returned v ∧ Q v U'.heap Lc ∧ FrameEnd s o U' Lc kc ks) (T.setTop (mkF m pc L (.double z :: rest))) := by
  subst eT
  obtain ⟨fs, hr, hrun, hended, hW, hsame⟩ := X.leave (v := (some (.double z))) (fun h => by rw [hret] at h; cases h) hlocks
  exact ⟨_, _, retOut X hx hret rfl (Or.inr (Or.inr (Or.inl ⟨rfl, rfl, z, rfl⟩))) (hb hby hd) hr, hrun, hended, _, _, rfl, hq, ⟨_, rfl⟩, hW, hsame.mono hc hs⟩
theorem own_retZ (X : Stand p l e R s m args below meth c T locs cells slots) (hx : p.tables.exec = Jvm.exec) (hby : c.code = B) (hlocks : meth.locks = false) {Q : Option Value → Heap → List Loc → Prop} {kc ks : Nat} (hret : meth.sig.returnType = some .boolean) {z : Int32} (hz : z = 0 ∨ z = 1) (hd : decode B pc = .ok (.ireturn, 1)) (hc : cells ≤ kc) (hs : slots ≤ ks) (eT : T.heap = h) (hq : Q (some (.int z)) h locs) : Gt p.tables e below (fun o U' => ∃ v Lc, o = .returned v ∧ Q v U'.heap Lc ∧ FrameEnd s o U' Lc kc ks) (T.setTop (mkF m pc L (.int z :: rest))) := by
  subst eT
  obtain ⟨fs, hr, hrun, hended, hW, hsame⟩ := X.leave (v := (some (.int z))) (fun h => by rw [hret] at h; cases h) hlocks
  exact ⟨_, _, retOut X hx hret (by rcases hz with rfl | rfl <;> rfl) (Or.inl ⟨rfl, Or.inr (Or.inl rfl), z, rfl⟩) (hb hby hd) hr, hrun, hended, _, _, rfl, hq, ⟨_, rfl⟩, hW, hsame.mono hc hs⟩
theorem own_retA (X : Stand p l e R s m args below meth c T locs cells slots) (hx : p.tables.exec = Jvm.exec) (hby : c.code = B) (hlocks : meth.locks = false) {Q : Option Value → Heap → List Loc → Prop} {kc ks : Nat} {t : FieldType} (hret : meth.sig.returnType = some t) (ht : t.isReference = true) {z : Value} (hz : z.isRef = true) (hd : decode B pc = .ok (.areturn, 1)) (hc : cells ≤ kc) (hs : slots ≤ ks) (eT : T.heap = h) (hq : Q (some z) h locs) : Gt p.tables e below (fun o U' => ∃ v Lc, o = .returned v ∧ Q v U'.heap Lc ∧ FrameEnd s o U' Lc kc ks) (T.setTop (mkF m pc L (z :: rest))) := by
  subst eT
  obtain ⟨fs, hr, hrun, hended, hW, hsame⟩ := X.leave (v := (some z)) (fun h => by rw [hret] at h; cases h) hlocks
  exact ⟨_, _, retOut X hx hret (by rcases ref_cases hz with rfl | ⟨a, rfl⟩ <;> cases t <;> simp_all [narrow, FieldType.isReference]) (Or.inr (Or.inr (Or.inr (Or.inr ⟨rfl, ht, hz⟩)))) (hb hby hd) hr, hrun, hended, _, _, rfl, hq, ⟨_, rfl⟩, hW, hsame.mono hc hs⟩
end OwnG
section OwnA
variable {p : Program} {l : Launch} {e : Env} {R : Room} {s : State} {m : MethodId} {args : Array Value} {below : List Frame} {meth : Method} {c : Code} {T : State} {locs : List Loc} {cells slots : Nat} {Z : State} {a0 : Array Value} {h h' : Heap} {B : ByteArray} {pc pc' : Nat} {L L' : Array Slot} {rest : List Value} {F : Outcome → State → Prop} {a b : Addr} {ty : FieldType} {vs : List Value} {P : ClassId → Prop} {sl : Nat} {v : Value} {ws : List Addr}
def tr (_ : ClassId) : Prop := True
/-- an array at a of kind ty whose components are the list vs, of a class with P -/
def Ary (P : ClassId → Prop) (Z : State) (h : Heap) (a : Addr) (ty : FieldType) (vs : List Value) : Prop := ∃ c : Cell, Arr Z h a c ty ∧ P c.cls ∧ c.slots.toList = vs ∧ vs.length < 2 ^ 31
theorem Ary.lt (V : Ary P Z h a ty vs) : a < h.size := by obtain ⟨c, A, -⟩ := V; exact A.lt
theorem Ary.ext (V : Ary P Z h a ty vs) (E : Ext h h') : Ary P Z h' a ty vs := by obtain ⟨c, A, r⟩ := V; exact ⟨c, A.ext E, r⟩
theorem Ary.other (V : Ary P Z h b ty vs) (W : Wr h h' a sl v) (q : b ≠ a) : Ary P Z h' b ty vs := by obtain ⟨c, A, r⟩ := V; exact ⟨c, A.other W q, r⟩
theorem Ary.keep (V : Ary P Z h a ty vs) (K : Keep h h' ws) (q : a ∉ ws) : Ary P Z h' a ty vs := by obtain ⟨c, A, r⟩ := V; exact ⟨c, ⟨K.2.1 a c A.1 q, A.2⟩, r⟩
theorem Ary.set (V : Ary P Z h a ty vs) (W : Wr h h' a sl v) : Ary P Z h' a ty (vs.set sl v) := by
  obtain ⟨c, A, q, r, t⟩ := V
  refine ⟨_, A.same W, q, ?_, by rw [List.length_set]; exact t⟩
  show (c.slots.setIfInBounds sl v).toList = _
  rw [Array.toList_setIfInBounds, r]
theorem Ary.size {cl : Cell} (r : cl.slots.toList = vs) : cl.slots.size = vs.length := by rw [← r]; simp
theorem Ary.inb {cl : Cell} {i : Int32} (r : cl.slots.toList = vs) (hi : ¬ i < 0) (hl : i.toNatClampNeg < vs.length) : ¬ (i < 0 ∨ cl.slots.size ≤ i.toNatClampNeg) := by
  rw [Ary.size r]; intro q; rcases q with q | q
  · exact hi q
  · omega
theorem Ary.at {cl : Cell} {i : Nat} (r : cl.slots.toList = vs) (hg : vs[i]? = some v) : cl.slots[i]? = some v := by
  rw [← hg, ← r]; simp
theorem own_alen (X : Stand p l e R s m args below meth c T locs cells slots) (hx : p.tables.exec = Jvm.exec) (hby : c.code = B) (hZ : Z.Warmed39 s.vm) (eT : T.heap = h) (V : Ary P Z h a ty vs) {z : Int32} (hz : vs.length.toInt32 = z) (hd : decode B pc = .ok (.arraylength, 1)) (hp : pc + 1 = pc') (k : Gt p.tables e below F (T.setTop (mkF m pc' L (.int z :: rest)))) : Gt p.tables e below F (T.setTop (mkF m pc L (.ref a :: rest))) := by
  subst hp hz
  obtain ⟨cl, A, -, r, t⟩ := V
  refine k.go fun t q => X.arraylength hx (by rw [eT]; exact A.1) (State.isArrayOf_alike hZ.alike A.2.1) (g := mkF m pc L (.ref a :: rest)) rfl rfl (hb hby hd) _ ?_
  rw [Ary.size r]; exact q
theorem own_iaload (X : Stand p l e R s m args below meth c T locs cells slots) (hx : p.tables.exec = Jvm.exec) (hby : c.code = B) (hZ : Z.Warmed39 s.vm) (eT : T.heap = h) (V : Ary P Z h a .int vs) {i : Int32} (hi : ¬ i < 0) (hg : vs[i.toNatClampNeg]? = some v) (hd : decode B pc = .ok (.iaload, 1)) (hp : pc + 1 = pc') (k : Gt p.tables e below F (T.setTop (mkF m pc' L (v :: rest)))) : Gt p.tables e below F (T.setTop (mkF m pc L (.int i :: .ref a :: rest))) := by
  subst hp
  obtain ⟨cl, A, -, r, t⟩ := V
  exact k.go fun t q => X.iaload hx (by rw [eT]; exact A.1) (State.isArrayOf_alike hZ.alike A.2.1) A.2.2 (Ary.inb r hi (List.getElem?_eq_some_iff.mp hg).1) (Ary.at r hg) (g := mkF m pc L (.int i :: .ref a :: rest)) rfl rfl (hb hby hd) _ q
theorem own_laload (X : Stand p l e R s m args below meth c T locs cells slots) (hx : p.tables.exec = Jvm.exec) (hby : c.code = B) (hZ : Z.Warmed39 s.vm) (eT : T.heap = h) (V : Ary P Z h a .long vs) {i : Int32} (hi : ¬ i < 0) (hg : vs[i.toNatClampNeg]? = some v) (hd : decode B pc = .ok (.laload, 1)) (hp : pc + 1 = pc') (k : Gt p.tables e below F (T.setTop (mkF m pc' L (v :: rest)))) : Gt p.tables e below F (T.setTop (mkF m pc L (.int i :: .ref a :: rest))) := by
  subst hp
  obtain ⟨cl, A, -, r, t⟩ := V
  exact k.go fun t q => X.laload hx (by rw [eT]; exact A.1) (State.isArrayOf_alike hZ.alike A.2.1) A.2.2 (Ary.inb r hi (List.getElem?_eq_some_iff.mp hg).1) (Ary.at r hg) (g := mkF m pc L (.int i :: .ref a :: rest)) rfl rfl (hb hby hd) _ q
theorem own_daload (X : Stand p l e R s m args below meth c T locs cells slots) (hx : p.tables.exec = Jvm.exec) (hby : c.code = B) (hZ : Z.Warmed39 s.vm) (eT : T.heap = h) (V : Ary P Z h a .double vs) {i : Int32} (hi : ¬ i < 0) (hg : vs[i.toNatClampNeg]? = some v) (hd : decode B pc = .ok (.daload, 1)) (hp : pc + 1 = pc') (k : Gt p.tables e below F (T.setTop (mkF m pc' L (v :: rest)))) : Gt p.tables e below F (T.setTop (mkF m pc L (.int i :: .ref a :: rest))) := by
  subst hp
  obtain ⟨cl, A, -, r, t⟩ := V
  exact k.go fun t q => X.daload hx (by rw [eT]; exact A.1) (State.isArrayOf_alike hZ.alike A.2.1) A.2.2 (Ary.inb r hi (List.getElem?_eq_some_iff.mp hg).1) (Ary.at r hg) (g := mkF m pc L (.int i :: .ref a :: rest)) rfl rfl (hb hby hd) _ q
theorem own_aaload (X : Stand p l e R s m args below meth c T locs cells slots) (hx : p.tables.exec = Jvm.exec) (hby : c.code = B) (hZ : Z.Warmed39 s.vm) (eT : T.heap = h) (V : Ary P Z h a ty vs) (hty : ty.isReference = true) {i : Int32} (hi : ¬ i < 0) (hg : vs[i.toNatClampNeg]? = some v) (hd : decode B pc = .ok (.aaload, 1)) (hp : pc + 1 = pc') (k : Gt p.tables e below F (T.setTop (mkF m pc' L (v :: rest)))) : Gt p.tables e below F (T.setTop (mkF m pc L (.int i :: .ref a :: rest))) := by
  subst hp
  obtain ⟨cl, A, -, r, t⟩ := V
  exact k.go fun t q => X.aaload hx (by rw [eT]; exact A.1) (State.isArrayOf_alike hZ.alike A.2.1) hty A.2.2 (Ary.inb r hi (List.getElem?_eq_some_iff.mp hg).1) (Ary.at r hg) (g := mkF m pc L (.int i :: .ref a :: rest)) rfl rfl (hb hby hd) _ q
theorem own_iastore (X : Stand p l e R s m args below meth c T locs cells slots) (hx : p.tables.exec = Jvm.exec) (hby : c.code = B) (hZ : Z.Warmed39 s.vm) (eT : T.heap = h) (V : Ary P Z h a .int vs) {i x : Int32} {n : Nat} (hi : ¬ i < 0) (hn : i.toNatClampNeg = n) (hl : n < vs.length) (hd : decode B pc = .ok (.iastore, 1)) (hp : pc + 1 = pc') (k : ∀ T' h', Stand p l e R s m args below meth c T' (locs ++ [⟨a, n⟩]) cells slots → T'.heap = h' → Wr h h' a n (.int x) → Gt p.tables e below F (T'.setTop (mkF m pc' L rest))) : Gt p.tables e below F (T.setTop (mkF m pc L (.int x :: .int i :: .ref a :: rest))) := by
  subst hp hn
  obtain ⟨cl, A, -, r, t⟩ := V
  obtain ⟨T', h', X', e', W, st⟩ := stI X hx hZ eT A (Ary.inb r hi hl) (g := mkF m pc L (.int x :: .int i :: .ref a :: rest)) rfl rfl (hb hby hd)
  exact (k T' h' X' e' W).go st
theorem own_lastore (X : Stand p l e R s m args below meth c T locs cells slots) (hx : p.tables.exec = Jvm.exec) (hby : c.code = B) (hZ : Z.Warmed39 s.vm) (eT : T.heap = h) (V : Ary P Z h a .long vs) {i : Int32} {x : Int64} {n : Nat} (hi : ¬ i < 0) (hn : i.toNatClampNeg = n) (hl : n < vs.length) (hd : decode B pc = .ok (.lastore, 1)) (hp : pc + 1 = pc') (k : ∀ T' h', Stand p l e R s m args below meth c T' (locs ++ [⟨a, n⟩]) cells slots → T'.heap = h' → Wr h h' a n (.long x) → Gt p.tables e below F (T'.setTop (mkF m pc' L rest))) : Gt p.tables e below F (T.setTop (mkF m pc L (.long x :: .int i :: .ref a :: rest))) := by
  subst hp hn
  obtain ⟨cl, A, -, r, t⟩ := V
  obtain ⟨T', h', X', e', W, st⟩ := stJ X hx hZ eT A (Ary.inb r hi hl) (g := mkF m pc L (.long x :: .int i :: .ref a :: rest)) rfl rfl (hb hby hd)
  exact (k T' h' X' e' W).go st
theorem own_dastore (X : Stand p l e R s m args below meth c T locs cells slots) (hx : p.tables.exec = Jvm.exec) (hby : c.code = B) (hZ : Z.Warmed39 s.vm) (eT : T.heap = h) (V : Ary P Z h a .double vs) {i : Int32} {x : UInt64} {n : Nat} (hi : ¬ i < 0) (hn : i.toNatClampNeg = n) (hl : n < vs.length) (hd : decode B pc = .ok (.dastore, 1)) (hp : pc + 1 = pc') (k : ∀ T' h', Stand p l e R s m args below meth c T' (locs ++ [⟨a, n⟩]) cells slots → T'.heap = h' → Wr h h' a n (.double x) → Gt p.tables e below F (T'.setTop (mkF m pc' L rest))) : Gt p.tables e below F (T.setTop (mkF m pc L (.double x :: .int i :: .ref a :: rest))) := by
  subst hp hn
  obtain ⟨cl, A, -, r, t⟩ := V
  obtain ⟨T', h', X', e', W, st⟩ := stD X hx hZ eT A (Ary.inb r hi hl) (g := mkF m pc L (.double x :: .int i :: .ref a :: rest)) rfl rfl (hb hby hd)
  exact (k T' h' X' e' W).go st
/-- what lies in it: an array class over C -/
def ovA (Z : State) (ty : FieldType) (C : String) (k : ClassId) : Prop := OvrA Z k ty C
def ovO (Z : State) (C : String) (k : ClassId) : Prop := Ovr Z k C
theorem own_aastoreA (X : Stand p l e R s m args below meth c T locs cells slots) (hx : p.tables.exec = Jvm.exec) (hby : c.code = B) (hZ : Z.Warmed39 s.vm) (eT : T.heap = h) {C : String} (V : Ary (ovA Z ty C) Z h a (.array ty) vs) {i : Int32} {x : Addr} {n : Nat} (E : Exa Z h x C) (hi : ¬ i < 0) (hn : i.toNatClampNeg = n) (hl : n < vs.length) (hd : decode B pc = .ok (.aastore, 1)) (hp : pc + 1 = pc') (k : ∀ T' h', Stand p l e R s m args below meth c T' (locs ++ [⟨a, n⟩]) cells slots → T'.heap = h' → Wr h h' a n (.ref x) → Gt p.tables e below F (T'.setTop (mkF m pc' L rest))) : Gt p.tables e below F (T.setTop (mkF m pc L (.ref x :: .int i :: .ref a :: rest))) := by
  subst hp hn
  obtain ⟨cl, A, O, r, t⟩ := V
  obtain ⟨T', h', X', e', W, st⟩ := stR X hx hZ eT A (Ary.inb r hi hl) rfl (Sto.ofVA A rfl O (Ins.self E)) (g := mkF m pc L (.ref x :: .int i :: .ref a :: rest)) rfl rfl (hb hby hd)
  exact (k T' h' X' e' W).go st
theorem own_aastoreO (X : Stand p l e R s m args below meth c T locs cells slots) (hx : p.tables.exec = Jvm.exec) (hby : c.code = B) (hZ : Z.Warmed39 s.vm) (eT : T.heap = h) {C : String} (V : Ary (ovO Z C) Z h a (.object C) vs) {i : Int32} {x : Addr} {n : Nat} (E : Exa Z h x C) (hi : ¬ i < 0) (hn : i.toNatClampNeg = n) (hl : n < vs.length) (hd : decode B pc = .ok (.aastore, 1)) (hp : pc + 1 = pc') (k : ∀ T' h', Stand p l e R s m args below meth c T' (locs ++ [⟨a, n⟩]) cells slots → T'.heap = h' → Wr h h' a n (.ref x) → Gt p.tables e below F (T'.setTop (mkF m pc' L rest))) : Gt p.tables e below F (T.setTop (mkF m pc L (.ref x :: .int i :: .ref a :: rest))) := by
  subst hp hn
  obtain ⟨cl, A, O, r, t⟩ := V
  obtain ⟨T', h', X', e', W, st⟩ := stR X hx hZ eT A (Ary.inb r hi hl) rfl (Sto.of A O (Ins.self E)) (g := mkF m pc L (.ref x :: .int i :: .ref a :: rest)) rfl rfl (hb hby hd)
  exact (k T' h' X' e' W).go st
theorem own_newP (X : Stand p l e R s m args below meth c T locs cells slots) (hx : p.tables.exec = Jvm.exec) (hby : c.code = B) (hZ : Z.Warmed39 s.vm) {aty : ArrayType} (w : (Jvm.Cond.arrayClass (newarray.typeOf aty)).before a0 Z = true) (eT : T.heap = h) (hd : decode B pc = .ok (.newarray aty, 2)) (hp : pc + 2 = pc') {n : Int32} (hn : ¬ n < 0) {N : Nat} (hN : n.toNatClampNeg = N) {cap : Nat} (hcap : N ≤ cap) (hbb : cap * 8 ≤ 536870912) (hc : cells + 1 ≤ R.cells) (hl : slots + cap ≤ R.slots) {ad : String} (had : "[" ++ (newarray.typeOf aty).toString = ad)
    (k : ∀ T' h' a, Stand p l e R s m args below meth c T' locs (cells + 1) (slots + cap) → T'.heap = h' → Ext h h' → h.size = a → Exa Z h' a ad → Ary tr Z h' a (newarray.typeOf aty) (List.replicate N (defaultValue (newarray.typeOf aty))) → Gt p.tables e below F (T'.setTop (mkF m pc' L (.ref a :: rest)))) : Gt p.tables e below F (T.setTop (mkF m pc L (.int n :: rest))) := by
  subst hp hN
  obtain ⟨T', h', cA, X', e', E', A', Ex, st⟩ := newPE X hx hZ w eT (g := mkF m pc L (.int n :: rest)) rfl (hb hby hd) rfl hn hcap hbb hc hl had
  exact (k T' h' _ X' e' E' rfl Ex ⟨_, A', trivial, by simp [newA], by rw [List.length_replicate]; exact (back32 hn).2⟩).go st
theorem own_newRA (X : Stand p l e R s m args below meth c T locs cells slots) (hx : p.tables.exec = Jvm.exec) (hby : c.code = B) (hZ : Z.Warmed39 s.vm) {own C : String} {index : Nat} (hown : s.vm.findClass own = some m.cls) (hC : (FieldType.array ty).toString = C) (w1 : (Jvm.Cond.classLink own index C).before a0 Z = true) (w2 : (Jvm.Cond.arrayOver (.array ty)).before a0 Z = true) (eT : T.heap = h) (hd : decode B pc = .ok (.anewarray index, 3)) (hp : pc + 3 = pc') {n : Int32} (hn : ¬ n < 0) {N : Nat} (hN : n.toNatClampNeg = N) {cap : Nat} (hcap : N ≤ cap) (hbb : cap * 8 ≤ 536870912) (hc : cells + 1 ≤ R.cells) (hl : slots + cap ≤ R.slots) {ad : String} (had : "[" ++ C = ad)
    (k : ∀ T' h' a, Stand p l e R s m args below meth c T' locs (cells + 1) (slots + cap) → T'.heap = h' → Ext h h' → h.size = a → Exa Z h' a ad → Ary (ovA Z ty C) Z h' a (.array ty) (List.replicate N .null) → Gt p.tables e below F (T'.setTop (mkF m pc' L (.ref a :: rest)))) : Gt p.tables e below F (T.setTop (mkF m pc L (.int n :: rest))) := by
  subst hp hN
  obtain ⟨T', h', cA, X', e', E', A', Ex, O, st⟩ := newRA X hx hZ hown hC w1 w2 eT (g := mkF m pc L (.int n :: rest)) rfl (hb hby hd) rfl hn hcap hbb hc hl had
  exact (k T' h' _ X' e' E' rfl Ex ⟨_, A', O, by simp [newA, defaultValue], by rw [List.length_replicate]; exact (back32 hn).2⟩).go st
theorem own_newRO (X : Stand p l e R s m args below meth c T locs cells slots) (hx : p.tables.exec = Jvm.exec) (hby : c.code = B) (hZ : Z.Warmed39 s.vm) {own C : String} {index : Nat} (hown : s.vm.findClass own = some m.cls) (w1 : (Jvm.Cond.classLink own index C).before a0 Z = true) (w2 : (Jvm.Cond.arrayOver (.object C)).before a0 Z = true) (eT : T.heap = h) (hd : decode B pc = .ok (.anewarray index, 3)) (hp : pc + 3 = pc') {n : Int32} (hn : ¬ n < 0) {N : Nat} (hN : n.toNatClampNeg = N) {cap : Nat} (hcap : N ≤ cap) (hbb : cap * 8 ≤ 536870912) (hc : cells + 1 ≤ R.cells) (hl : slots + cap ≤ R.slots) {ad : String} (had : "[" ++ (FieldType.object C).toString = ad)
    (k : ∀ T' h' a, Stand p l e R s m args below meth c T' locs (cells + 1) (slots + cap) → T'.heap = h' → Ext h h' → h.size = a → Exa Z h' a ad → Ary (ovO Z C) Z h' a (.object C) (List.replicate N .null) → Gt p.tables e below F (T'.setTop (mkF m pc' L (.ref a :: rest)))) : Gt p.tables e below F (T.setTop (mkF m pc L (.int n :: rest))) := by
  subst hp hN
  obtain ⟨T', h', cA, X', e', E', A', Ex, O, st⟩ := newRE X hx hZ hown w1 w2 eT (g := mkF m pc L (.int n :: rest)) rfl (hb hby hd) rfl hn hcap hbb hc hl had
  exact (k T' h' _ X' e' E' rfl Ex ⟨_, A', O, by simp [newA, defaultValue], by rw [List.length_replicate]; exact (back32 hn).2⟩).go st
/-- new T[3][3] of a primitive kind -/
theorem own_grid3 (X : Stand p l e R s m args below meth c T locs cells slots) (hx : p.tables.exec = Jvm.exec) (hby : c.code = B) (hZ : Z.Warmed39 s.vm) {own C ad : String} {index : Nat} (hown : s.vm.findClass own = some m.cls) (hC : (FieldType.array ty).toString = C) (had : "[" ++ C = ad)
    (w1 : (Jvm.Cond.classLink own index ad).before a0 Z = true) (w2 : (Jvm.Cond.arrayOver (.array ty)).before a0 Z = true) (w3 : (Jvm.Cond.arrayClass ty).before a0 Z = true) (eT : T.heap = h) (hd : decode B pc = .ok (.multianewarray index 2, 4)) (hp : pc + 4 = pc') (hdf : fits ty (defaultValue ty) = true) (hdd : (defaultValue ty).isDefault = true) (hc : cells + 4 ≤ R.cells) (hl : slots + 12 ≤ R.slots)
    (k : ∀ T' h' a b1 b2 b3, Stand p l e R s m args below meth c T' locs (cells + 4) (slots + 12) → T'.heap = h' → Ext h h' → h.size = a → a < b1 → b1 < b2 → b2 < b3 → Exa Z h' a ad → Ary (ovA Z ty C) Z h' a (.array ty) [.ref b1, .ref b2, .ref b3] → Exa Z h' b1 C → Exa Z h' b2 C → Exa Z h' b3 C → Ary tr Z h' b1 ty [defaultValue ty, defaultValue ty, defaultValue ty] → Ary tr Z h' b2 ty [defaultValue ty, defaultValue ty, defaultValue ty] → Ary tr Z h' b3 ty [defaultValue ty, defaultValue ty, defaultValue ty] → Gt p.tables e below F (T'.setTop (mkF m pc' L (.ref a :: rest)))) : Gt p.tables e below F (T.setTop (mkF m pc L (.int 3 :: .int 3 :: rest))) := by
  subst hp
  obtain ⟨T', h', cA, comp, X', e', E', ⟨cl, A1, A2, A3, A4, A5, A6⟩, O, Ex, I, st⟩ := gridM X hx hZ hown hC had w1 w2 w3 eT (g := mkF m pc L (.int 3 :: .int 3 :: rest)) rfl (hb hby hd) (n := 3) (k := 3) rfl (by decide) (by decide) (N := 3) (by decide) (xs := [h.size + 1, h.size + 2, h.size + 3]) rfl (cap := 3) (by decide) (by decide) (by decide) hdf hdd hc hl
  have i1 := I 0 _ rfl; have i2 := I 1 _ rfl; have i3 := I 2 _ rfl
  have f : ∀ x, Arr Z h' x (newA comp ty 3) ty → Ary tr Z h' x ty [defaultValue ty, defaultValue ty, defaultValue ty] := fun x q => ⟨_, q, trivial, by simp [newA], by show 3 < 2 ^ 31; decide⟩
  refine (k T' h' _ _ _ _ X' e' E' rfl (Nat.lt_succ_self _) (Nat.lt_succ_self _) (Nat.lt_succ_self _) Ex ⟨cl, A1, A2 ▸ O, ?_, by show 3 < 2 ^ 31; decide⟩ i1.2 i2.2 i3.2 (f _ i1.1) (f _ i2.1) (f _ i3.1)).go st
  have sz : cl.slots.size = 3 := A3
  refine List.ext_getElem? fun i => ?_
  by_cases hi : i < 3
  · have q := A5 i (by omega)
    rw [Array.getElem?_toList, q]
    match i, hi with
    | 0, _ => rfl
    | 1, _ => rfl
    | 2, _ => rfl
  · rw [List.getElem?_eq_none (by simp; omega), List.getElem?_eq_none (by simp; omega)]
end OwnA
section OwnL
theorem own_lget {α : Type} {L : List α} {d : α} {i : Nat} {f : α → Value} (h : i < L.length) : (L.map f)[i]? = some (f (L.getD i d)) := by
  rw [List.getElem?_map, List.getD_eq_getElem?_getD, List.getElem?_eq_getElem h]; rfl
theorem own_rg0 {i : Int32} {m : Int} (h : 0 ≤ i.toInt ∧ i.toInt < m) : ¬ i < 0 := by
  rw [Int32.lt_iff_toInt_lt]; have : (0 : Int32).toInt = 0 := by decide
  omega
theorem own_rgl {α : Type} {L : List α} {i : Int32} {m : Int} {n : Nat} (h : 0 ≤ i.toInt ∧ i.toInt < m) (hl : L.length = n) (e : m.toNat = n := by rfl) : i.toNatClampNeg < L.length := by
  show i.toInt.toNat < _; omega
end OwnL
section OwnC
variable {x y : UInt64} {i j : Int64} {a b : Int32}
abbrev dlt (x y : UInt64) : Prop := FP.dcmp x y = some .lt
abbrev dgt (x y : UInt64) : Prop := FP.dcmp x y = some .gt
abbrev deq (x y : UInt64) : Prop := FP.dcmp x y = some .eq
abbrev dle (x y : UInt64) : Prop := FP.dcmp x y = some .lt ∨ FP.dcmp x y = some .eq
abbrev dge (x y : UInt64) : Prop := FP.dcmp x y = some .gt ∨ FP.dcmp x y = some .eq
theorem own_dl_lt_p (h : dge x y) : ifCond.holds .lt (cmpValue (FP.dcmp x y) .l) = false := by
  unfold dge at h; revert h; generalize FP.dcmp x y = o; rcases o with _ | (_ | _ | _) <;> decide
theorem own_dl_lt_n (h : ¬ dge x y) : ifCond.holds .lt (cmpValue (FP.dcmp x y) .l) = true := by
  unfold dge at h; revert h; generalize FP.dcmp x y = o; rcases o with _ | (_ | _ | _) <;> decide
theorem own_dl_ge_p (h : dge x y) : ifCond.holds .ge (cmpValue (FP.dcmp x y) .l) = true := by
  unfold dge at h; revert h; generalize FP.dcmp x y = o; rcases o with _ | (_ | _ | _) <;> decide
theorem own_dl_ge_n (h : ¬ dge x y) : ifCond.holds .ge (cmpValue (FP.dcmp x y) .l) = false := by
  unfold dge at h; revert h; generalize FP.dcmp x y = o; rcases o with _ | (_ | _ | _) <;> decide
theorem own_dl_gt_p (h : dgt x y) : ifCond.holds .gt (cmpValue (FP.dcmp x y) .l) = true := by
  unfold dgt at h; revert h; generalize FP.dcmp x y = o; rcases o with _ | (_ | _ | _) <;> decide
theorem own_dl_gt_n (h : ¬ dgt x y) : ifCond.holds .gt (cmpValue (FP.dcmp x y) .l) = false := by
  unfold dgt at h; revert h; generalize FP.dcmp x y = o; rcases o with _ | (_ | _ | _) <;> decide
theorem own_dl_le_p (h : dgt x y) : ifCond.holds .le (cmpValue (FP.dcmp x y) .l) = false := by
  unfold dgt at h; revert h; generalize FP.dcmp x y = o; rcases o with _ | (_ | _ | _) <;> decide
theorem own_dl_le_n (h : ¬ dgt x y) : ifCond.holds .le (cmpValue (FP.dcmp x y) .l) = true := by
  unfold dgt at h; revert h; generalize FP.dcmp x y = o; rcases o with _ | (_ | _ | _) <;> decide
theorem own_dl_eq_p (h : deq x y) : ifCond.holds .eq (cmpValue (FP.dcmp x y) .l) = true := by
  unfold deq at h; revert h; generalize FP.dcmp x y = o; rcases o with _ | (_ | _ | _) <;> decide
theorem own_dl_eq_n (h : ¬ deq x y) : ifCond.holds .eq (cmpValue (FP.dcmp x y) .l) = false := by
  unfold deq at h; revert h; generalize FP.dcmp x y = o; rcases o with _ | (_ | _ | _) <;> decide
theorem own_dl_ne_p (h : deq x y) : ifCond.holds .ne (cmpValue (FP.dcmp x y) .l) = false := by
  unfold deq at h; revert h; generalize FP.dcmp x y = o; rcases o with _ | (_ | _ | _) <;> decide
theorem own_dl_ne_n (h : ¬ deq x y) : ifCond.holds .ne (cmpValue (FP.dcmp x y) .l) = true := by
  unfold deq at h; revert h; generalize FP.dcmp x y = o; rcases o with _ | (_ | _ | _) <;> decide
theorem own_dg_lt_p (h : dlt x y) : ifCond.holds .lt (cmpValue (FP.dcmp x y) .g) = true := by
  unfold dlt at h; revert h; generalize FP.dcmp x y = o; rcases o with _ | (_ | _ | _) <;> decide
theorem own_dg_lt_n (h : ¬ dlt x y) : ifCond.holds .lt (cmpValue (FP.dcmp x y) .g) = false := by
  unfold dlt at h; revert h; generalize FP.dcmp x y = o; rcases o with _ | (_ | _ | _) <;> decide
theorem own_dg_ge_p (h : dlt x y) : ifCond.holds .ge (cmpValue (FP.dcmp x y) .g) = false := by
  unfold dlt at h; revert h; generalize FP.dcmp x y = o; rcases o with _ | (_ | _ | _) <;> decide
theorem own_dg_ge_n (h : ¬ dlt x y) : ifCond.holds .ge (cmpValue (FP.dcmp x y) .g) = true := by
  unfold dlt at h; revert h; generalize FP.dcmp x y = o; rcases o with _ | (_ | _ | _) <;> decide
theorem own_dg_gt_p (h : dle x y) : ifCond.holds .gt (cmpValue (FP.dcmp x y) .g) = false := by
  unfold dle at h; revert h; generalize FP.dcmp x y = o; rcases o with _ | (_ | _ | _) <;> decide
theorem own_dg_gt_n (h : ¬ dle x y) : ifCond.holds .gt (cmpValue (FP.dcmp x y) .g) = true := by
  unfold dle at h; revert h; generalize FP.dcmp x y = o; rcases o with _ | (_ | _ | _) <;> decide
theorem own_dg_le_p (h : dle x y) : ifCond.holds .le (cmpValue (FP.dcmp x y) .g) = true := by
  unfold dle at h; revert h; generalize FP.dcmp x y = o; rcases o with _ | (_ | _ | _) <;> decide
theorem own_dg_le_n (h : ¬ dle x y) : ifCond.holds .le (cmpValue (FP.dcmp x y) .g) = false := by
  unfold dle at h; revert h; generalize FP.dcmp x y = o; rcases o with _ | (_ | _ | _) <;> decide
theorem own_dg_eq_p (h : deq x y) : ifCond.holds .eq (cmpValue (FP.dcmp x y) .g) = true := by
  unfold deq at h; revert h; generalize FP.dcmp x y = o; rcases o with _ | (_ | _ | _) <;> decide
theorem own_dg_eq_n (h : ¬ deq x y) : ifCond.holds .eq (cmpValue (FP.dcmp x y) .g) = false := by
  unfold deq at h; revert h; generalize FP.dcmp x y = o; rcases o with _ | (_ | _ | _) <;> decide
theorem own_dg_ne_p (h : deq x y) : ifCond.holds .ne (cmpValue (FP.dcmp x y) .g) = false := by
  unfold deq at h; revert h; generalize FP.dcmp x y = o; rcases o with _ | (_ | _ | _) <;> decide
theorem own_dg_ne_n (h : ¬ deq x y) : ifCond.holds .ne (cmpValue (FP.dcmp x y) .g) = true := by
  unfold deq at h; revert h; generalize FP.dcmp x y = o; rcases o with _ | (_ | _ | _) <;> decide
theorem own_lc_lt_p (h : i < j) : ifCond.holds .lt (if i > j then 1 else if i = j then 0 else -1 : Int32) = true := by
  simp only [gt_iff_lt, Int64.lt_iff_toInt_lt, ← Int64.toInt_inj] at h ⊢
  rcases Int.lt_trichotomy i.toInt j.toInt with q | q | q
  · rw [if_neg (by omega), if_neg (by omega)]; first | rfl | (exfalso; omega)
  · rw [if_neg (by omega), if_pos q]; first | rfl | (exfalso; omega)
  · rw [if_pos q]; first | rfl | (exfalso; omega)
theorem own_lc_lt_n (h : ¬ i < j) : ifCond.holds .lt (if i > j then 1 else if i = j then 0 else -1 : Int32) = false := by
  simp only [gt_iff_lt, Int64.lt_iff_toInt_lt, ← Int64.toInt_inj] at h ⊢
  rcases Int.lt_trichotomy i.toInt j.toInt with q | q | q
  · rw [if_neg (by omega), if_neg (by omega)]; first | rfl | (exfalso; omega)
  · rw [if_neg (by omega), if_pos q]; first | rfl | (exfalso; omega)
  · rw [if_pos q]; first | rfl | (exfalso; omega)
theorem own_lc_ge_p (h : i < j) : ifCond.holds .ge (if i > j then 1 else if i = j then 0 else -1 : Int32) = false := by
  simp only [gt_iff_lt, Int64.lt_iff_toInt_lt, ← Int64.toInt_inj] at h ⊢
  rcases Int.lt_trichotomy i.toInt j.toInt with q | q | q
  · rw [if_neg (by omega), if_neg (by omega)]; first | rfl | (exfalso; omega)
  · rw [if_neg (by omega), if_pos q]; first | rfl | (exfalso; omega)
  · rw [if_pos q]; first | rfl | (exfalso; omega)
theorem own_lc_ge_n (h : ¬ i < j) : ifCond.holds .ge (if i > j then 1 else if i = j then 0 else -1 : Int32) = true := by
  simp only [gt_iff_lt, Int64.lt_iff_toInt_lt, ← Int64.toInt_inj] at h ⊢
  rcases Int.lt_trichotomy i.toInt j.toInt with q | q | q
  · rw [if_neg (by omega), if_neg (by omega)]; first | rfl | (exfalso; omega)
  · rw [if_neg (by omega), if_pos q]; first | rfl | (exfalso; omega)
  · rw [if_pos q]; first | rfl | (exfalso; omega)
theorem own_lc_gt_p (h : j < i) : ifCond.holds .gt (if i > j then 1 else if i = j then 0 else -1 : Int32) = true := by
  simp only [gt_iff_lt, Int64.lt_iff_toInt_lt, ← Int64.toInt_inj] at h ⊢
  rcases Int.lt_trichotomy i.toInt j.toInt with q | q | q
  · rw [if_neg (by omega), if_neg (by omega)]; first | rfl | (exfalso; omega)
  · rw [if_neg (by omega), if_pos q]; first | rfl | (exfalso; omega)
  · rw [if_pos q]; first | rfl | (exfalso; omega)
theorem own_lc_gt_n (h : ¬ j < i) : ifCond.holds .gt (if i > j then 1 else if i = j then 0 else -1 : Int32) = false := by
  simp only [gt_iff_lt, Int64.lt_iff_toInt_lt, ← Int64.toInt_inj] at h ⊢
  rcases Int.lt_trichotomy i.toInt j.toInt with q | q | q
  · rw [if_neg (by omega), if_neg (by omega)]; first | rfl | (exfalso; omega)
  · rw [if_neg (by omega), if_pos q]; first | rfl | (exfalso; omega)
  · rw [if_pos q]; first | rfl | (exfalso; omega)
theorem own_lc_le_p (h : j < i) : ifCond.holds .le (if i > j then 1 else if i = j then 0 else -1 : Int32) = false := by
  simp only [gt_iff_lt, Int64.lt_iff_toInt_lt, ← Int64.toInt_inj] at h ⊢
  rcases Int.lt_trichotomy i.toInt j.toInt with q | q | q
  · rw [if_neg (by omega), if_neg (by omega)]; first | rfl | (exfalso; omega)
  · rw [if_neg (by omega), if_pos q]; first | rfl | (exfalso; omega)
  · rw [if_pos q]; first | rfl | (exfalso; omega)
theorem own_lc_le_n (h : ¬ j < i) : ifCond.holds .le (if i > j then 1 else if i = j then 0 else -1 : Int32) = true := by
  simp only [gt_iff_lt, Int64.lt_iff_toInt_lt, ← Int64.toInt_inj] at h ⊢
  rcases Int.lt_trichotomy i.toInt j.toInt with q | q | q
  · rw [if_neg (by omega), if_neg (by omega)]; first | rfl | (exfalso; omega)
  · rw [if_neg (by omega), if_pos q]; first | rfl | (exfalso; omega)
  · rw [if_pos q]; first | rfl | (exfalso; omega)
theorem own_lc_eq_p (h : i = j) : ifCond.holds .eq (if i > j then 1 else if i = j then 0 else -1 : Int32) = true := by
  simp only [gt_iff_lt, Int64.lt_iff_toInt_lt, ← Int64.toInt_inj] at h ⊢
  rcases Int.lt_trichotomy i.toInt j.toInt with q | q | q
  · rw [if_neg (by omega), if_neg (by omega)]; first | rfl | (exfalso; omega)
  · rw [if_neg (by omega), if_pos q]; first | rfl | (exfalso; omega)
  · rw [if_pos q]; first | rfl | (exfalso; omega)
theorem own_lc_eq_n (h : ¬ i = j) : ifCond.holds .eq (if i > j then 1 else if i = j then 0 else -1 : Int32) = false := by
  simp only [gt_iff_lt, Int64.lt_iff_toInt_lt, ← Int64.toInt_inj] at h ⊢
  rcases Int.lt_trichotomy i.toInt j.toInt with q | q | q
  · rw [if_neg (by omega), if_neg (by omega)]; first | rfl | (exfalso; omega)
  · rw [if_neg (by omega), if_pos q]; first | rfl | (exfalso; omega)
  · rw [if_pos q]; first | rfl | (exfalso; omega)
theorem own_lc_ne_p (h : i = j) : ifCond.holds .ne (if i > j then 1 else if i = j then 0 else -1 : Int32) = false := by
  simp only [gt_iff_lt, Int64.lt_iff_toInt_lt, ← Int64.toInt_inj] at h ⊢
  rcases Int.lt_trichotomy i.toInt j.toInt with q | q | q
  · rw [if_neg (by omega), if_neg (by omega)]; first | rfl | (exfalso; omega)
  · rw [if_neg (by omega), if_pos q]; first | rfl | (exfalso; omega)
  · rw [if_pos q]; first | rfl | (exfalso; omega)
theorem own_lc_ne_n (h : ¬ i = j) : ifCond.holds .ne (if i > j then 1 else if i = j then 0 else -1 : Int32) = true := by
  simp only [gt_iff_lt, Int64.lt_iff_toInt_lt, ← Int64.toInt_inj] at h ⊢
  rcases Int.lt_trichotomy i.toInt j.toInt with q | q | q
  · rw [if_neg (by omega), if_neg (by omega)]; first | rfl | (exfalso; omega)
  · rw [if_neg (by omega), if_pos q]; first | rfl | (exfalso; omega)
  · rw [if_pos q]; first | rfl | (exfalso; omega)
theorem own_i0_lt_p (h : a < 0) : ifCond.holds .lt a = true := (if0 _ _).trans (tlt h).1
theorem own_i0_lt_n (h : ¬ a < 0) : ifCond.holds .lt a = false := (if0 _ _).trans (flt h).1
theorem own_i0_ge_p (h : a < 0) : ifCond.holds .ge a = false := (if0 _ _).trans (tlt h).2.1
theorem own_i0_ge_n (h : ¬ a < 0) : ifCond.holds .ge a = true := (if0 _ _).trans (flt h).2.1
theorem own_i0_gt_p (h : 0 < a) : ifCond.holds .gt a = true := (if0 _ _).trans (tlt h).2.2.1
theorem own_i0_gt_n (h : ¬ 0 < a) : ifCond.holds .gt a = false := (if0 _ _).trans (flt h).2.2.1
theorem own_i0_le_p (h : 0 < a) : ifCond.holds .le a = false := (if0 _ _).trans (tlt h).2.2.2
theorem own_i0_le_n (h : ¬ 0 < a) : ifCond.holds .le a = true := (if0 _ _).trans (flt h).2.2.2
theorem own_i0_eq_p (h : a = 0) : ifCond.holds .eq a = true := (if0 _ _).trans (teq h).1
theorem own_i0_eq_n (h : ¬ a = 0) : ifCond.holds .eq a = false := (if0 _ _).trans (feq h).1
theorem own_i0_ne_p (h : a = 0) : ifCond.holds .ne a = false := (if0 _ _).trans (teq h).2
theorem own_i0_ne_n (h : ¬ a = 0) : ifCond.holds .ne a = true := (if0 _ _).trans (feq h).2
theorem own_ic_lt_p (h : a < b) : if_icmp.holds .lt a b = true := (tlt h).1
theorem own_ic_lt_n (h : ¬ a < b) : if_icmp.holds .lt a b = false := (flt h).1
theorem own_ic_ge_p (h : a < b) : if_icmp.holds .ge a b = false := (tlt h).2.1
theorem own_ic_ge_n (h : ¬ a < b) : if_icmp.holds .ge a b = true := (flt h).2.1
theorem own_ic_gt_p (h : b < a) : if_icmp.holds .gt a b = true := (tlt h).2.2.1
theorem own_ic_gt_n (h : ¬ b < a) : if_icmp.holds .gt a b = false := (flt h).2.2.1
theorem own_ic_le_p (h : b < a) : if_icmp.holds .le a b = false := (tlt h).2.2.2
theorem own_ic_le_n (h : ¬ b < a) : if_icmp.holds .le a b = true := (flt h).2.2.2
theorem own_ic_eq_p (h : a = b) : if_icmp.holds .eq a b = true := (teq h).1
theorem own_ic_eq_n (h : ¬ a = b) : if_icmp.holds .eq a b = false := (feq h).1
theorem own_ic_ne_p (h : a = b) : if_icmp.holds .ne a b = false := (teq h).2
theorem own_ic_ne_n (h : ¬ a = b) : if_icmp.holds .ne a b = true := (feq h).2
end OwnC
section OwnF
open Jvm.FP.Core (val64 zval zmag b64 one64 DFin DZero good_b64 val64_fits inUnits signed sgn)
/-- the value in units of 2^-1074 -/
abbrev zv (x : UInt64) : Int := zval b64 (val64 x)
def uu : Int := ((one64 : Nat) : Int)
theorem uu_pos : 0 < uu := by have := FP.Core.one64_pos; show (0 : Int) < ((one64 : Nat) : Int); omega
theorem own_add_le {x y V : UInt64} (hx : DFin x) (hy : DFin y) (hV : val64 V ≠ .nan) (h : zv x + zv y ≤ zv V) : zv (FP.dadd x y) ≤ zv V := by
  show zval b64 (val64 (FP.Core.dadd x y)) ≤ _
  rw [FP.Core.val64_dadd]; exact FP.Core.sum_le good_b64 hx hy (val64_fits x) (val64_fits y) (val64_fits V) hV h
theorem own_add_ge {x y V : UInt64} (hx : DFin x) (hy : DFin y) (hV : val64 V ≠ .nan) (h : zv V ≤ zv x + zv y) : zv V ≤ zv (FP.dadd x y) := by
  show _ ≤ zval b64 (val64 (FP.Core.dadd x y))
  rw [FP.Core.val64_dadd]; exact FP.Core.sum_ge good_b64 hx hy (val64_fits x) (val64_fits y) (val64_fits V) hV h
theorem own_neg_fin {y : UInt64} (hy : DFin y) : ∃ s c q, FP.Core.negate (val64 y) = .fin s c q := by
  obtain ⟨s, c, q, h⟩ := hy; exact ⟨!s, c, q, by rw [h]; rfl⟩
theorem own_sub_le {x y V : UInt64} (hx : DFin x) (hy : DFin y) (hV : val64 V ≠ .nan) (h : zv x - zv y ≤ zv V) : zv (FP.dsub x y) ≤ zv V := by
  show zval b64 (val64 (FP.Core.dsub x y)) ≤ _
  rw [FP.Core.val64_dsub]; exact FP.Core.sum_le good_b64 hx (own_neg_fin hy) (val64_fits x) (FP.Core.negate_fits (val64_fits y)) (val64_fits V) hV (by rw [FP.Core.zval_negate]; unfold zv at h; omega)
theorem own_sub_ge {x y V : UInt64} (hx : DFin x) (hy : DFin y) (hV : val64 V ≠ .nan) (h : zv V ≤ zv x - zv y) : zv V ≤ zv (FP.dsub x y) := by
  show _ ≤ zval b64 (val64 (FP.Core.dsub x y))
  rw [FP.Core.val64_dsub]; exact FP.Core.sum_ge good_b64 hx (own_neg_fin hy) (val64_fits x) (FP.Core.negate_fits (val64_fits y)) (val64_fits V) hV (by rw [FP.Core.zval_negate]; unfold zv at h; omega)
theorem own_signed_mul (s t : Bool) (m n : Nat) : signed (s != t) (m * n) = signed s m * signed t n := by
  cases s <;> cases t <;> simp [signed, Int.neg_mul, Int.mul_neg]
theorem own_qm : b64.qmin = -1074 := by decide
theorem own_pow_e0 : ((2 ^ (b64.qmin - 2 * b64.qmin).toNat : Nat) : Int) = uu := by
  show _ = ((one64 : Nat) : Int); rw [← FP.Core.pow_qmin64]; congr 3
theorem own_mul_le {x y V : UInt64} (hx : DFin x) (hy : DFin y) (hV : val64 V ≠ .nan) (h : zv x * zv y ≤ zv V * uu) : zv (FP.dmul x y) ≤ zv V := by
  show zval b64 (val64 (FP.Core.dmul x y)) ≤ _
  obtain ⟨s, c, q, ex⟩ := hx
  obtain ⟨t, d, r, ey⟩ := hy
  have fx := val64_fits x; have fy := val64_fits y
  rw [ex] at fx; rw [ey] at fy
  unfold zv at h
  rw [ex, ey] at h
  rw [FP.Core.val64_dmul, ex, ey]
  obtain ⟨e1, e2, e3⟩ := FP.Core.product_units fx fy
  rw [e1]
  refine FP.Core.zval_round_le good_b64 (val64_fits V) hV (e0 := 2 * b64.qmin) (by rw [own_qm]; decide) e2 ?_
  rw [e3, own_pow_e0, own_signed_mul]; exact h
theorem own_mul_ge {x y V : UInt64} (hx : DFin x) (hy : DFin y) (hV : val64 V ≠ .nan) (h : zv V * uu ≤ zv x * zv y) : zv V ≤ zv (FP.dmul x y) := by
  show _ ≤ zval b64 (val64 (FP.Core.dmul x y))
  obtain ⟨s, c, q, ex⟩ := hx
  obtain ⟨t, d, r, ey⟩ := hy
  have fx := val64_fits x; have fy := val64_fits y
  rw [ex] at fx; rw [ey] at fy
  unfold zv at h
  rw [ex, ey] at h
  rw [FP.Core.val64_dmul, ex, ey]
  obtain ⟨e1, e2, e3⟩ := FP.Core.product_units fx fy
  rw [e1]
  refine FP.Core.zval_round_ge good_b64 (val64_fits V) hV (e0 := 2 * b64.qmin) (by rw [own_qm]; decide) e2 ?_
  rw [e3, own_pow_e0, own_signed_mul]; exact h
/-- a quotient's two sides in whole units -/
theorem own_div_units {c d : Nat} {q r : Int} (hq : -1074 ≤ q) (hr : -1074 ≤ r) (hr2 : r ≤ 971) (v : Nat) :
    ∃ k : Nat, 0 < k ∧ inUnits c (q - r) (-2148) * k = inUnits c q (-1074) * one64 * 2 ^ 1074 ∧ (v * 2 ^ (1074 : Nat) * d) * k = v * inUnits d r (-1074) * 2 ^ 1074 := by
  refine ⟨2 ^ (r + 1074).toNat, Nat.two_pow_pos _, ?_, ?_⟩
  · unfold inUnits one64
    rw [Nat.mul_assoc, ← Nat.pow_add, Nat.mul_assoc, Nat.mul_assoc, ← Nat.pow_add, ← Nat.pow_add, show (q - r - -2148).toNat + (r + 1074).toNat = (q - -1074).toNat + (1074 + 1074) by omega]
  · unfold inUnits
    rw [show (r - -1074).toNat = (r + 1074).toNat by omega]
    generalize 2 ^ (1074 : Nat) = w
    generalize 2 ^ (r + 1074).toNat = u
    simp only [Nat.mul_comm, Nat.mul_left_comm, Nat.mul_assoc]
theorem own_div_mag_le {x y V : UInt64} (hx : DFin x) (hy : DFin y) (hz : ¬ DZero y) (hV : val64 V ≠ .nan) (h : zmag b64 (val64 x) * one64 ≤ zmag b64 (val64 V) * zmag b64 (val64 y)) : zmag b64 (val64 (FP.ddiv x y)) ≤ zmag b64 (val64 V) := by
  show zmag b64 (val64 (FP.Core.ddiv x y)) ≤ _
  obtain ⟨s, c, q, ex⟩ := hx
  obtain ⟨t, d, r, ey⟩ := hy
  have fx := val64_fits x; have fy := val64_fits y
  rw [ex] at fx; rw [ey] at fy
  have hd : d ≠ 0 := fun e => hz ⟨t, r, by rw [ey, e]⟩
  rw [FP.Core.val64_ddiv, ex, ey]
  rw [ex, ey] at h
  show zmag b64 (if d = 0 then _ else FP.Core.roundRatio b64 (s != t) c d (q - r)) ≤ _
  rw [if_neg hd]
  have b1 : -1074 ≤ q := own_qm ▸ fx.2.1
  have b2 : -1074 ≤ r := own_qm ▸ fy.2.1
  have b3 : r ≤ 971 := fy.2.2.1
  refine FP.Core.zmag_roundRatio_le good_b64 (Nat.pos_of_ne_zero hd) (val64_fits V) hV (e0 := -2148) (by rw [own_qm]; decide) (by omega) ?_
  obtain ⟨k, hk, k1, k2⟩ := own_div_units (c := c) (d := d) b1 b2 b3 (zmag b64 (val64 V))
  rw [show (b64.qmin - -2148).toNat = 1074 by rw [own_qm]; decide]
  refine Nat.le_of_mul_le_mul_right ?_ hk
  rw [k1, k2]
  exact Nat.mul_le_mul_right _ (by have := h; simp only [zmag, own_qm] at this; exact this)
theorem own_div_mag_ge {x y V : UInt64} (hx : DFin x) (hy : DFin y) (hz : ¬ DZero y) (h : zmag b64 (val64 V) * zmag b64 (val64 y) ≤ zmag b64 (val64 x) * one64) : zmag b64 (val64 V) ≤ zmag b64 (val64 (FP.ddiv x y)) := by
  show _ ≤ zmag b64 (val64 (FP.Core.ddiv x y))
  obtain ⟨s, c, q, ex⟩ := hx
  obtain ⟨t, d, r, ey⟩ := hy
  have fx := val64_fits x; have fy := val64_fits y
  rw [ex] at fx; rw [ey] at fy
  have hd : d ≠ 0 := fun e => hz ⟨t, r, by rw [ey, e]⟩
  rw [FP.Core.val64_ddiv, ex, ey]
  rw [ex, ey] at h
  show _ ≤ zmag b64 (if d = 0 then _ else FP.Core.roundRatio b64 (s != t) c d (q - r))
  rw [if_neg hd]
  have b1 : -1074 ≤ q := own_qm ▸ fx.2.1
  have b2 : -1074 ≤ r := own_qm ▸ fy.2.1
  have b3 : r ≤ 971 := fy.2.2.1
  refine FP.Core.zmag_roundRatio_ge good_b64 (Nat.pos_of_ne_zero hd) (val64_fits V) (e0 := -2148) (by rw [own_qm]; decide) (by omega) ?_
  obtain ⟨k, hk, k1, k2⟩ := own_div_units (c := c) (d := d) b1 b2 b3 (zmag b64 (val64 V))
  rw [show (b64.qmin - -2148).toNat = 1074 by rw [own_qm]; decide]
  refine Nat.le_of_mul_le_mul_right ?_ hk
  rw [k1, k2]
  exact Nat.mul_le_mul_right _ (by have := h; simp only [zmag, own_qm] at this; exact this)
theorem own_sgn_div {x y : UInt64} (hx : DFin x) (hy : DFin y) (hz : ¬ DZero y) : sgn (val64 (FP.ddiv x y)) = (sgn (val64 x) != sgn (val64 y)) := by
  show sgn (val64 (FP.Core.ddiv x y)) = _
  obtain ⟨s, c, q, ex⟩ := hx
  obtain ⟨t, d, r, ey⟩ := hy
  have hd : d ≠ 0 := fun e => hz ⟨t, r, by rw [ey, e]⟩
  rw [FP.Core.val64_ddiv, ex, ey]
  show sgn (if d = 0 then _ else FP.Core.roundRatio b64 (s != t) c d (q - r)) = _
  rw [if_neg hd, FP.Core.sgn_roundRatio]; rfl
theorem own_notz {y : UInt64} (hy : DFin y) (h : 0 < zv y) : ¬ DZero y := fun q => by have := q.zval; unfold zv at h; omega
theorem own_possg {y : UInt64} (h : 0 < zv y) : sgn (val64 y) = false ∧ ((zmag b64 (val64 y) : Nat) : Int) = zv y := by
  unfold zv zval at *
  cases e : sgn (val64 y) <;> rw [e] at h <;> simp only [signed, if_true, Bool.false_eq_true, if_false] at h ⊢
  · exact ⟨trivial, trivial⟩
  · omega
theorem own_div_le {x y V : UInt64} (hx : DFin x) (hy : DFin y) (h0 : 0 < zv y) (hV : val64 V ≠ .nan) (h : zv x * uu ≤ zv V * zv y) : zv (FP.ddiv x y) ≤ zv V := by
  have hz := own_notz hy h0
  obtain ⟨s1, s2⟩ := own_possg h0
  have sd := own_sgn_div hx hy hz
  have L := own_div_mag_le (V := V) hx hy hz hV
  have G := own_div_mag_ge (V := V) hx hy hz
  rw [← s2] at h
  have hy0 : 0 < zmag b64 (val64 y) := by omega
  unfold zv zval at h ⊢
  rw [sd, s1]
  have u0 := FP.Core.one64_pos
  have e : uu = ((one64 : Nat) : Int) := rfl
  rw [e] at h
  generalize zmag b64 (val64 y) = my at *
  generalize zmag b64 (val64 x) = mx at *
  generalize zmag b64 (val64 V) = mv at *
  generalize zmag b64 (val64 (FP.ddiv x y)) = md at *
  generalize one64 = u at *
  have p1 : ((mx : Nat) : Int) * ((u : Nat) : Int) = ((mx * u : Nat) : Int) := (Int.natCast_mul ..).symm
  have p2 : ((mv : Nat) : Int) * ((my : Nat) : Int) = ((mv * my : Nat) : Int) := (Int.natCast_mul ..).symm
  have z1 : mv * my = 0 → mv = 0 := fun q => by rcases Nat.mul_eq_zero.mp q with q | q <;> omega
  generalize sgn (val64 x) = sx at h ⊢
  generalize sgn (val64 V) = sV at h ⊢
  cases sx <;> cases sV <;> simp only [signed, if_true, Bool.false_eq_true, if_false, Int.neg_mul, p1, p2, bne_self_eq_false, Bool.bne_false] at h ⊢
  · have := L (by omega); omega
  · have := L (by omega); have := z1 (by omega); omega
  · omega
  · have := G (by omega); omega
theorem own_div_ge {x y V : UInt64} (hx : DFin x) (hy : DFin y) (h0 : 0 < zv y) (hV : val64 V ≠ .nan) (h : zv V * zv y ≤ zv x * uu) : zv V ≤ zv (FP.ddiv x y) := by
  have hz := own_notz hy h0
  obtain ⟨s1, s2⟩ := own_possg h0
  have sd := own_sgn_div hx hy hz
  have L := own_div_mag_le (V := V) hx hy hz hV
  have G := own_div_mag_ge (V := V) hx hy hz
  rw [← s2] at h
  have hy0 : 0 < zmag b64 (val64 y) := by omega
  unfold zv zval at h ⊢
  rw [sd, s1]
  have u0 := FP.Core.one64_pos
  have e : uu = ((one64 : Nat) : Int) := rfl
  rw [e] at h
  generalize zmag b64 (val64 y) = my at *
  generalize zmag b64 (val64 x) = mx at *
  generalize zmag b64 (val64 V) = mv at *
  generalize zmag b64 (val64 (FP.ddiv x y)) = md at *
  generalize one64 = u at *
  have p1 : ((mx : Nat) : Int) * ((u : Nat) : Int) = ((mx * u : Nat) : Int) := (Int.natCast_mul ..).symm
  have p2 : ((mv : Nat) : Int) * ((my : Nat) : Int) = ((mv * my : Nat) : Int) := (Int.natCast_mul ..).symm
  have z1 : mv * my = 0 → mv = 0 := fun q => by rcases Nat.mul_eq_zero.mp q with q | q <;> omega
  generalize sgn (val64 x) = sx at h ⊢
  generalize sgn (val64 V) = sV at h ⊢
  cases sx <;> cases sV <;> simp only [signed, if_true, Bool.false_eq_true, if_false, Int.neg_mul, p1, p2, bne_self_eq_false, Bool.bne_false] at h ⊢
  · have := G (by omega); omega
  · omega
  · have := L (by omega); have := z1 (by omega); omega
  · have := L (by omega); omega
theorem own_bits_of_zv {x : UInt64} (hn : val64 x ≠ .nan) {V : UInt64} (hV : DFin V) (h : zv x = zv V) : DFin x := by
  have q := hV.zval_lt
  cases e : val64 x with
  | nan => exact absurd e hn
  | fin s c r => exact ⟨s, c, r, e⟩
  | inf s =>
    exfalso
    have a1 : (zv x).natAbs = zmag b64 (val64 x) := by unfold zv zval; cases sgn (val64 x) <;> simp [signed]
    have a2 : (zv V).natAbs = zmag b64 (val64 V) := by unfold zv zval; cases sgn (val64 V) <;> simp [signed]
    rw [h, a2, e] at a1
    rw [a1] at q
    exact Nat.lt_irrefl _ q
/-- every n / 2^k of at most 53 digits is a double -/
theorem own_rep (n : Int) (k : Nat) (h1 : n.natAbs < 9007199254740992) (hk : k ≤ 1074) : ∃ V : UInt64, DFin V ∧ zv V * ((2 ^ k : Nat) : Int) = n * uu := by
  obtain ⟨c', q', e1, e2⟩ := FP.Core.round_exact good_b64 (decide (n < 0)) (c := n.natAbs) (q := -(k : Int)) (by exact h1) (by rw [own_qm]; omega) (by have h971 : b64.qmax = 971 := (by decide); omega)
  have f := FP.Core.round_fits good_b64 (.fin (decide (n < 0)) n.natAbs (-(k : Int)))
  refine ⟨FP.Core.of64 (FP.Core.round b64 (.fin (decide (n < 0)) n.natAbs (-(k : Int)))), ⟨decide (n < 0), c', q', by rw [FP.Core.val64_of64 f, e1]⟩, ?_⟩
  unfold zv
  rw [FP.Core.val64_of64 f, e1]
  show signed (decide (n < 0)) (inUnits c' q' b64.qmin) * _ = _
  rw [e2]
  unfold inUnits
  rw [FP.Core.signed_mul, Int.mul_assoc, ← Int.natCast_mul, ← Nat.pow_add, show (-(k : Int) - b64.qmin).toNat + k = 1074 by rw [own_qm]; omega]
  have s0 : signed (decide (n < 0)) n.natAbs = n := by
    unfold signed
    by_cases q : n < 0 <;> simp [q] <;> omega
  rw [s0]; rfl
/-- x is the number n / 2^k -/
def Dy (x : UInt64) (n : Int) (k : Nat) : Prop := DFin x ∧ zv x * ((2 ^ k : Nat) : Int) = n * uu
theorem Dy.fin {x : UInt64} {n : Int} {k : Nat} (D : Dy x n k) : DFin x := D.1
theorem Dy.nn {x : UInt64} {n : Int} {k : Nat} (D : Dy x n k) : NoNaN64 x := Fl.val64_no.mpr D.1.ne_nan
theorem own_pk (k : Nat) : 0 < ((2 ^ k : Nat) : Int) := by have := Nat.two_pow_pos k; omega
theorem own_mid {a b c d : Int} {k : Nat} (h1 : a * ((2 ^ k : Nat) : Int) = c) (h2 : b * ((2 ^ k : Nat) : Int) = d) : (a ≤ b ↔ c ≤ d) ∧ (a < b ↔ c < d) ∧ (a = b ↔ c = d) := by
  have p := own_pk k
  subst h1 h2
  generalize ((2 ^ k : Nat) : Int) = w at *
  exact ⟨(Int.mul_le_mul_right p).symm, (Int.mul_lt_mul_right p).symm, ⟨fun q => by rw [q], fun q => Int.eq_of_mul_eq_mul_right (by omega) q⟩⟩
theorem Dy.cmp {x y : UInt64} {n m : Int} {k : Nat} (A : Dy x n k) (B : Dy y m k) : FP.dcmp x y = some (compare n m) := by
  show FP.Core.dcmp x y = _
  rw [FP.Core.dcmp_zval A.1.ne_nan B.1.ne_nan]
  congr 1
  obtain ⟨-, q2, q3⟩ := own_mid A.2 B.2
  have u := uu_pos
  refine FP.Core.compare_congr (q2.trans ⟨fun q => ?_, fun q => Int.mul_lt_mul_of_pos_right q u⟩) (q3.trans ⟨fun q => Int.eq_of_mul_eq_mul_right (by omega) q, fun q => by rw [q]⟩)
  exact Int.lt_of_mul_lt_mul_right q (Int.le_of_lt u)
theorem Dy.lt {x y : UInt64} {n m : Int} {k : Nat} (A : Dy x n k) (B : Dy y m k) : FP.dcmp x y = some .lt ↔ n < m := by
  rw [A.cmp B, Option.some.injEq, FP.Core.compare_lt_iff]
theorem Dy.gt {x y : UInt64} {n m : Int} {k : Nat} (A : Dy x n k) (B : Dy y m k) : FP.dcmp x y = some .gt ↔ m < n := by
  rw [A.cmp B, Option.some.injEq, FP.Core.compare_gt_iff]
theorem Dy.eq {x y : UInt64} {n m : Int} {k : Nat} (A : Dy x n k) (B : Dy y m k) : FP.dcmp x y = some .eq ↔ n = m := by
  rw [A.cmp B, Option.some.injEq, FP.Core.compare_eq_iff]
theorem Dy.of_zv {x V : UInt64} {n : Int} {k : Nat} (hn : val64 x ≠ .nan) (hV : DFin V) (e : zv V * ((2 ^ k : Nat) : Int) = n * uu) (h1 : zv x ≤ zv V) (h2 : zv V ≤ zv x) : Dy x n k := by
  have q : zv x = zv V := by omega
  exact ⟨own_bits_of_zv hn hV q, by rw [q]; exact e⟩
theorem own_nn_add {x y : UInt64} (hx : DFin x) (hy : DFin y) : val64 (FP.dadd x y) ≠ .nan := Fl.val64_no.mp (Fl.noNaN64_no.mpr (FP.Core.dadd_out hx.notNaN hy))
theorem own_nn_sub {x y : UInt64} (hx : DFin x) (hy : DFin y) : val64 (FP.dsub x y) ≠ .nan := Fl.val64_no.mp (Fl.noNaN64_no.mpr (FP.Core.dsub_out hx.notNaN hy))
theorem own_nn_mul {x y : UInt64} (hx : DFin x) (hy : DFin y) : val64 (FP.dmul x y) ≠ .nan := Fl.val64_no.mp (Fl.noNaN64_no.mpr (FP.Core.dmul_out hx hy))
theorem own_nn_div {x y : UInt64} (hx : DFin x) (hy : DFin y) (hz : ¬ DZero y) : val64 (FP.ddiv x y) ≠ .nan := Fl.val64_no.mp (Fl.noNaN64_no.mpr (FP.Core.ddiv_out hx.notNaN hy hz))
theorem Dy.add {x y : UInt64} {n m : Int} {k : Nat} (A : Dy x n k) (B : Dy y m k) (hb : (n + m).natAbs < 9007199254740992) (hk : k ≤ 1074) : Dy (FP.dadd x y) (n + m) k := by
  obtain ⟨V, fV, eV⟩ := own_rep (n + m) k hb hk
  have e : (zv x + zv y) * ((2 ^ k : Nat) : Int) = (n + m) * uu := by rw [Int.add_mul, A.2, B.2, Int.add_mul]
  obtain ⟨-, -, q⟩ := own_mid e eV
  have q := q.mpr rfl
  exact Dy.of_zv (own_nn_add A.1 B.1) fV eV (own_add_le A.1 B.1 fV.ne_nan (by omega)) (own_add_ge A.1 B.1 fV.ne_nan (by omega))
theorem Dy.sub {x y : UInt64} {n m : Int} {k : Nat} (A : Dy x n k) (B : Dy y m k) (hb : (n - m).natAbs < 9007199254740992) (hk : k ≤ 1074) : Dy (FP.dsub x y) (n - m) k := by
  obtain ⟨V, fV, eV⟩ := own_rep (n - m) k hb hk
  have e : (zv x - zv y) * ((2 ^ k : Nat) : Int) = (n - m) * uu := by rw [Int.sub_mul, A.2, B.2, Int.sub_mul]
  obtain ⟨-, -, q⟩ := own_mid e eV
  have q := q.mpr rfl
  exact Dy.of_zv (own_nn_sub A.1 B.1) fV eV (own_sub_le A.1 B.1 fV.ne_nan (by omega)) (own_sub_ge A.1 B.1 fV.ne_nan (by omega))
theorem own_alg1 {X Y K J n m u : Int} (a : X * K = n * u) (b : Y * J = m * u) : X * Y * (K * J) = n * m * u * u := by
  calc X * Y * (K * J) = (X * K) * (Y * J) := by ac_rfl
    _ = (n * u) * (m * u) := by rw [a, b]
    _ = n * m * u * u := by ac_rfl
theorem own_alg2 {V K N u : Int} (e : V * K = N * u) : V * u * K = N * u * u := by
  calc V * u * K = V * K * u := by ac_rfl
    _ = N * u * u := by rw [e]
theorem own_alg3 {X Y V K J I n m r u : Int} (a : X * K = n * u) (b : Y * J = m * u) (e : V * I = r * u) : X * u * (K * (J * I)) = n * (J * I) * (u * u) ∧ V * Y * (K * (J * I)) = r * m * K * (u * u) := by
  constructor
  · calc X * u * (K * (J * I)) = (X * K) * u * (J * I) := by ac_rfl
      _ = n * u * u * (J * I) := by rw [a]
      _ = n * (J * I) * (u * u) := by ac_rfl
  · calc V * Y * (K * (J * I)) = (V * I) * (Y * J) * K := by ac_rfl
      _ = (r * u) * (m * u) * K := by rw [e, b]
      _ = r * m * K * (u * u) := by ac_rfl
theorem Dy.mul {x y : UInt64} {n m : Int} {k j : Nat} (A : Dy x n k) (B : Dy y m j) (hb : (n * m).natAbs < 9007199254740992) (hk : k + j ≤ 1074) : Dy (FP.dmul x y) (n * m) (k + j) := by
  obtain ⟨V, fV, eV⟩ := own_rep (n * m) (k + j) hb hk
  have e : (zv x * zv y) * ((2 ^ (k + j) : Nat) : Int) = (n * m) * uu * uu := by
    rw [Nat.pow_add, Int.natCast_mul]; exact own_alg1 A.2 B.2
  have e' : (zv V * uu) * ((2 ^ (k + j) : Nat) : Int) = (n * m) * uu * uu := own_alg2 eV
  obtain ⟨-, -, q⟩ := own_mid e e'
  have q := q.mpr rfl
  exact Dy.of_zv (own_nn_mul A.1 B.1) fV eV (own_mul_le A.1 B.1 fV.ne_nan (by omega)) (own_mul_ge A.1 B.1 fV.ne_nan (by omega))
theorem Dy.pos {y : UInt64} {m : Int} {j : Nat} (B : Dy y m j) (hm : 0 < m) : 0 < zv y := by
  have p := own_pk j
  have b := B.2
  have : 0 < m * uu := Int.mul_pos hm uu_pos
  rw [← b] at this
  exact Int.lt_of_mul_lt_mul_right (by rw [Int.zero_mul]; exact this) (Int.le_of_lt p)
/-- an exact quotient -/
theorem Dy.div {x y : UInt64} {n m r : Int} {k j i : Nat} (A : Dy x n k) (B : Dy y m j) (hm : 0 < m) (hq : n * ((2 ^ (j + i) : Nat) : Int) = r * m * ((2 ^ k : Nat) : Int)) (hb : r.natAbs < 9007199254740992) (hi : i ≤ 1074) : Dy (FP.ddiv x y) r i := by
  obtain ⟨V, fV, eV⟩ := own_rep r i hb hi
  have h0 := B.pos hm
  have e : zv x * uu = zv V * zv y := by
    have pk := own_pk k; have pj := own_pk j; have pi := own_pk i
    rw [Nat.pow_add, Int.natCast_mul] at hq
    obtain ⟨a1, a2⟩ := own_alg3 A.2 B.2 eV
    refine Int.eq_of_mul_eq_mul_right (a := ((2 ^ k : Nat) : Int) * (((2 ^ j : Nat) : Int) * ((2 ^ i : Nat) : Int))) (Int.ne_of_gt (Int.mul_pos pk (Int.mul_pos pj pi))) ?_
    rw [a1, a2, hq]
  exact Dy.of_zv (own_nn_div A.1 B.1 (own_notz B.1 h0)) fV eV (own_div_le A.1 B.1 h0 fV.ne_nan (by omega)) (own_div_ge A.1 B.1 h0 fV.ne_nan (by omega))
theorem Dy.up {x : UInt64} {n : Int} {k : Nat} (A : Dy x n k) (j : Nat) : Dy x (n * ((2 ^ j : Nat) : Int)) (k + j) := by
  refine ⟨A.1, ?_⟩
  rw [Nat.pow_add, Int.natCast_mul, ← Int.mul_assoc, A.2]; exact Int.mul_right_comm _ _ _
theorem Dy.to {x : UInt64} {n n' : Int} {k : Nat} (A : Dy x n k) (e : n = n') : Dy x n' k := e ▸ A
theorem own_dy_int {x : UInt64} {i : Int} (h : FP.Core.DInt i x) : Dy x i 0 := by
  have z := FP.Core.DInt_zval h
  have n := FP.Core.DInt_ne_nan h
  refine ⟨?_, by rw [show ((2 ^ 0 : Nat) : Int) = 1 from rfl, Int.mul_one]; exact z⟩
  unfold FP.Core.DInt at h
  cases e : val64 x with
  | nan => exact absurd e n
  | inf s => rw [e] at h; exact h.elim
  | fin s c q => exact ⟨s, c, q, e⟩
theorem dy_i2d (a : Int32) : Dy (FP.i2d a) a.toInt 0 := own_dy_int (FP.Core.i2d_int a)
theorem dy_l2d {a : Int64} (h1 : -9007199254740992 < a.toInt) (h2 : a.toInt < 9007199254740992) : Dy (FP.l2d a) a.toInt 0 := own_dy_int (FP.Core.l2d_whole ⟨h1, h2⟩)
/-- 0.0 + x is x, bit for bit, for a finite x that isn't -0.0 -/
theorem own_zero_add {x : UInt64} {s : Bool} {c : Nat} {q : Int} (hx : val64 x = .fin s c q) (h0 : c = 0 → s = false) : FP.dadd 0 x = x := by
  show FP.Core.dadd 0 x = x
  have fx := val64_fits x
  rw [hx] at fx
  have hq := fx.2.1
  have key : val64 (FP.Core.dadd 0 x) = .fin s c q := by
    rw [FP.Core.val64_dadd, FP.Core.val64_zero, hx]
    have m : min b64.qmin q = b64.qmin := by omega
    have u : FP.Core.sumUnits false 0 b64.qmin s c q b64.qmin = signed s (inUnits c q b64.qmin) := by
      unfold FP.Core.sumUnits; simp [signed, inUnits]
    show FP.Core.roundRatio b64 (FP.Core.sumSign false s (FP.Core.sumUnits false 0 b64.qmin s c q (min b64.qmin q))) (FP.Core.sumUnits false 0 b64.qmin s c q (min b64.qmin q)).natAbs 1 (min b64.qmin q) = _
    rw [m, u]
    have na : (signed s (inUnits c q b64.qmin)).natAbs = inUnits c q b64.qmin := by unfold signed; cases s <;> simp
    have sg : FP.Core.sumSign false s (signed s (inUnits c q b64.qmin)) = s := by
      have pp := Nat.two_pow_pos (q - b64.qmin).toNat
      unfold FP.Core.sumSign
      by_cases c0 : c = 0
      · subst c0; simp [signed, inUnits, h0 rfl]
      · have : 0 < inUnits c q b64.qmin := Nat.mul_pos (Nat.pos_of_ne_zero c0) pp
        cases s <;> simp [signed] <;> omega
    rw [na, sg]
    refine FP.Core.roundRatio_exact good_b64 (by decide) fx ?_
    rw [show (b64.qmin - q).toNat = 0 by omega, Nat.pow_zero, Nat.mul_one, Nat.mul_one]; rfl
  exact FP.Core.val64_inj (by rw [key]; exact FP.Core.Datum.noConfusion) (key.trans hx.symm)
theorem own_scale3 {X Y n m r : Int} {k j i : Nat} {V : Int} (a : X * ((2 ^ k : Nat) : Int) = n * uu) (b : Y * ((2 ^ j : Nat) : Int) = m * uu) (e : V * ((2 ^ i : Nat) : Int) = r * uu) :
    X * uu * (((2 ^ k : Nat) : Int) * (((2 ^ j : Nat) : Int) * ((2 ^ i : Nat) : Int))) = n * ((2 ^ (j + i) : Nat) : Int) * (uu * uu) ∧ V * Y * (((2 ^ k : Nat) : Int) * (((2 ^ j : Nat) : Int) * ((2 ^ i : Nat) : Int))) = r * m * ((2 ^ k : Nat) : Int) * (uu * uu) := by
  rw [Nat.pow_add, Int.natCast_mul]; exact own_alg3 a b e
theorem Dy.div_le {x y V : UInt64} {n m r : Int} {k j i : Nat} (A : Dy x n k) (B : Dy y m j) (hm : 0 < m) (C : Dy V r i) (h : n * ((2 ^ (j + i) : Nat) : Int) ≤ r * m * ((2 ^ k : Nat) : Int)) : zv (FP.ddiv x y) ≤ zv V := by
  refine own_div_le A.1 B.1 (B.pos hm) C.1.ne_nan ?_
  obtain ⟨e1, e2⟩ := own_scale3 A.2 B.2 C.2
  have p : 0 < ((2 ^ k : Nat) : Int) * (((2 ^ j : Nat) : Int) * ((2 ^ i : Nat) : Int)) := Int.mul_pos (own_pk k) (Int.mul_pos (own_pk j) (own_pk i))
  refine Int.le_of_mul_le_mul_right ?_ p
  rw [e1, e2]
  exact Int.mul_le_mul_of_nonneg_right h (Int.le_of_lt (Int.mul_pos uu_pos uu_pos))
theorem Dy.div_ge {x y V : UInt64} {n m r : Int} {k j i : Nat} (A : Dy x n k) (B : Dy y m j) (hm : 0 < m) (C : Dy V r i) (h : r * m * ((2 ^ k : Nat) : Int) ≤ n * ((2 ^ (j + i) : Nat) : Int)) : zv V ≤ zv (FP.ddiv x y) := by
  refine own_div_ge A.1 B.1 (B.pos hm) C.1.ne_nan ?_
  obtain ⟨e1, e2⟩ := own_scale3 A.2 B.2 C.2
  have p : 0 < ((2 ^ k : Nat) : Int) * (((2 ^ j : Nat) : Int) * ((2 ^ i : Nat) : Int)) := Int.mul_pos (own_pk k) (Int.mul_pos (own_pk j) (own_pk i))
  refine Int.le_of_mul_le_mul_right ?_ p
  rw [e1, e2]
  exact Int.mul_le_mul_of_nonneg_right h (Int.le_of_lt (Int.mul_pos uu_pos uu_pos))
/-- the order of two numbers written over one power of two -/
theorem Dy.zle {x y : UInt64} {n m : Int} {k : Nat} (A : Dy x n k) (B : Dy y m k) : (zv x ≤ zv y ↔ n ≤ m) ∧ (zv x < zv y ↔ n < m) := by
  obtain ⟨q1, q2, -⟩ := own_mid A.2 B.2
  have u := uu_pos
  exact ⟨q1.trans ⟨fun q => Int.le_of_mul_le_mul_right q u, fun q => Int.mul_le_mul_of_nonneg_right q (Int.le_of_lt u)⟩, q2.trans ⟨fun q => Int.lt_of_mul_lt_mul_right q (Int.le_of_lt u), fun q => Int.mul_lt_mul_of_pos_right q u⟩⟩
end OwnF
theorem pn_com_example_dido_dido_PlanarRingHoldsPinLaw : plainName "com/example/dido/dido/PlanarRingHoldsPinLaw" = true := by first | (simp [plainName, overriddenIn]; done) | decide +kernel
theorem pn_com_example_dido_dido_PlanarRing : plainName "com/example/dido/dido/PlanarRing" = true := by first | (simp [plainName, overriddenIn]; done) | decide +kernel
theorem d1_0 : decode method_2_code 0 = .ok (.lload 4, 2) := by decide +kernel
theorem d1_2 : decode method_2_code 2 = .ok (.lload_n 0, 1) := by decide +kernel
theorem d1_3 : decode method_2_code 3 = .ok (.lsub, 1) := by decide +kernel
theorem d1_4 : decode method_2_code 4 = .ok (.lload 10, 2) := by decide +kernel
theorem d1_6 : decode method_2_code 6 = .ok (.lload_n 2, 1) := by decide +kernel
theorem d1_7 : decode method_2_code 7 = .ok (.lsub, 1) := by decide +kernel
theorem d1_8 : decode method_2_code 8 = .ok (.lmul, 1) := by decide +kernel
theorem d1_9 : decode method_2_code 9 = .ok (.lload 6, 2) := by decide +kernel
theorem d1_11 : decode method_2_code 11 = .ok (.lload_n 2, 1) := by decide +kernel
theorem d1_12 : decode method_2_code 12 = .ok (.lsub, 1) := by decide +kernel
theorem d1_13 : decode method_2_code 13 = .ok (.lload 8, 2) := by decide +kernel
theorem d1_15 : decode method_2_code 15 = .ok (.lload_n 0, 1) := by decide +kernel
theorem d1_16 : decode method_2_code 16 = .ok (.lsub, 1) := by decide +kernel
theorem d1_17 : decode method_2_code 17 = .ok (.lmul, 1) := by decide +kernel
theorem d1_18 : decode method_2_code 18 = .ok (.lsub, 1) := by decide +kernel
theorem d1_19 : decode method_2_code 19 = .ok (.lreturn, 1) := by decide +kernel
theorem d2_0 : decode prog_15_method_4_code 0 = .ok (.iconst 0, 1) := by decide +kernel
theorem d2_1 : decode prog_15_method_4_code 1 = .ok (.istore 5, 2) := by decide +kernel
theorem d2_3 : decode prog_15_method_4_code 3 = .ok (.iconst 0, 1) := by decide +kernel
theorem d2_4 : decode prog_15_method_4_code 4 = .ok (.istore 6, 2) := by decide +kernel
theorem d2_6 : decode prog_15_method_4_code 6 = .ok (.iload 6, 2) := by decide +kernel
theorem d2_8 : decode prog_15_method_4_code 8 = .ok (.aload_n 0, 1) := by decide +kernel
theorem d2_9 : decode prog_15_method_4_code 9 = .ok (.arraylength, 1) := by decide +kernel
theorem d2_10 : decode prog_15_method_4_code 10 = .ok (.if_icmp .ge 107, 3) := by decide +kernel
theorem d2_13 : decode prog_15_method_4_code 13 = .ok (.iload 6, 2) := by decide +kernel
theorem d2_15 : decode prog_15_method_4_code 15 = .ok (.iconst 2, 1) := by decide +kernel
theorem d2_16 : decode prog_15_method_4_code 16 = .ok (.iadd, 1) := by decide +kernel
theorem d2_17 : decode prog_15_method_4_code 17 = .ok (.aload_n 0, 1) := by decide +kernel
theorem d2_18 : decode prog_15_method_4_code 18 = .ok (.arraylength, 1) := by decide +kernel
theorem d2_19 : decode prog_15_method_4_code 19 = .ok (.irem, 1) := by decide +kernel
theorem d2_20 : decode prog_15_method_4_code 20 = .ok (.istore 7, 2) := by decide +kernel
theorem d2_22 : decode prog_15_method_4_code 22 = .ok (.aload_n 0, 1) := by decide +kernel
theorem d2_23 : decode prog_15_method_4_code 23 = .ok (.iload 6, 2) := by decide +kernel
theorem d2_25 : decode prog_15_method_4_code 25 = .ok (.iconst 1, 1) := by decide +kernel
theorem d2_26 : decode prog_15_method_4_code 26 = .ok (.iadd, 1) := by decide +kernel
theorem d2_27 : decode prog_15_method_4_code 27 = .ok (.daload, 1) := by decide +kernel
theorem d2_28 : decode prog_15_method_4_code 28 = .ok (.dload_n 3, 1) := by decide +kernel
theorem d2_29 : decode prog_15_method_4_code 29 = .ok (.dcmp .l, 1) := by decide +kernel
theorem d2_30 : decode prog_15_method_4_code 30 = .ok (.ifCond .le 7, 3) := by decide +kernel
theorem d2_33 : decode prog_15_method_4_code 33 = .ok (.iconst 1, 1) := by decide +kernel
theorem d2_34 : decode prog_15_method_4_code 34 = .ok (.goto 4, 3) := by decide +kernel
theorem d2_37 : decode prog_15_method_4_code 37 = .ok (.iconst 0, 1) := by decide +kernel
theorem d2_38 : decode prog_15_method_4_code 38 = .ok (.aload_n 0, 1) := by decide +kernel
theorem d2_39 : decode prog_15_method_4_code 39 = .ok (.iload 7, 2) := by decide +kernel
theorem d2_41 : decode prog_15_method_4_code 41 = .ok (.iconst 1, 1) := by decide +kernel
theorem d2_42 : decode prog_15_method_4_code 42 = .ok (.iadd, 1) := by decide +kernel
theorem d2_43 : decode prog_15_method_4_code 43 = .ok (.daload, 1) := by decide +kernel
theorem d2_44 : decode prog_15_method_4_code 44 = .ok (.dload_n 3, 1) := by decide +kernel
theorem d2_45 : decode prog_15_method_4_code 45 = .ok (.dcmp .l, 1) := by decide +kernel
theorem d2_46 : decode prog_15_method_4_code 46 = .ok (.ifCond .le 7, 3) := by decide +kernel
theorem d2_49 : decode prog_15_method_4_code 49 = .ok (.iconst 1, 1) := by decide +kernel
theorem d2_50 : decode prog_15_method_4_code 50 = .ok (.goto 4, 3) := by decide +kernel
theorem d2_53 : decode prog_15_method_4_code 53 = .ok (.iconst 0, 1) := by decide +kernel
theorem d2_54 : decode prog_15_method_4_code 54 = .ok (.if_icmp .eq 57, 3) := by decide +kernel
theorem d2_57 : decode prog_15_method_4_code 57 = .ok (.dload_n 1, 1) := by decide +kernel
theorem d2_58 : decode prog_15_method_4_code 58 = .ok (.aload_n 0, 1) := by decide +kernel
theorem d2_59 : decode prog_15_method_4_code 59 = .ok (.iload 6, 2) := by decide +kernel
theorem d2_61 : decode prog_15_method_4_code 61 = .ok (.daload, 1) := by decide +kernel
theorem d2_62 : decode prog_15_method_4_code 62 = .ok (.dload_n 3, 1) := by decide +kernel
theorem d2_63 : decode prog_15_method_4_code 63 = .ok (.aload_n 0, 1) := by decide +kernel
theorem d2_64 : decode prog_15_method_4_code 64 = .ok (.iload 6, 2) := by decide +kernel
theorem d2_66 : decode prog_15_method_4_code 66 = .ok (.iconst 1, 1) := by decide +kernel
theorem d2_67 : decode prog_15_method_4_code 67 = .ok (.iadd, 1) := by decide +kernel
theorem d2_68 : decode prog_15_method_4_code 68 = .ok (.daload, 1) := by decide +kernel
theorem d2_69 : decode prog_15_method_4_code 69 = .ok (.dsub, 1) := by decide +kernel
theorem d2_70 : decode prog_15_method_4_code 70 = .ok (.aload_n 0, 1) := by decide +kernel
theorem d2_71 : decode prog_15_method_4_code 71 = .ok (.iload 7, 2) := by decide +kernel
theorem d2_73 : decode prog_15_method_4_code 73 = .ok (.daload, 1) := by decide +kernel
theorem d2_74 : decode prog_15_method_4_code 74 = .ok (.aload_n 0, 1) := by decide +kernel
theorem d2_75 : decode prog_15_method_4_code 75 = .ok (.iload 6, 2) := by decide +kernel
theorem d2_77 : decode prog_15_method_4_code 77 = .ok (.daload, 1) := by decide +kernel
theorem d2_78 : decode prog_15_method_4_code 78 = .ok (.dsub, 1) := by decide +kernel
theorem d2_79 : decode prog_15_method_4_code 79 = .ok (.dmul, 1) := by decide +kernel
theorem d2_80 : decode prog_15_method_4_code 80 = .ok (.aload_n 0, 1) := by decide +kernel
theorem d2_81 : decode prog_15_method_4_code 81 = .ok (.iload 7, 2) := by decide +kernel
theorem d2_83 : decode prog_15_method_4_code 83 = .ok (.iconst 1, 1) := by decide +kernel
theorem d2_84 : decode prog_15_method_4_code 84 = .ok (.iadd, 1) := by decide +kernel
theorem d2_85 : decode prog_15_method_4_code 85 = .ok (.daload, 1) := by decide +kernel
theorem d2_86 : decode prog_15_method_4_code 86 = .ok (.aload_n 0, 1) := by decide +kernel
theorem d2_87 : decode prog_15_method_4_code 87 = .ok (.iload 6, 2) := by decide +kernel
theorem d2_89 : decode prog_15_method_4_code 89 = .ok (.iconst 1, 1) := by decide +kernel
theorem d2_90 : decode prog_15_method_4_code 90 = .ok (.iadd, 1) := by decide +kernel
theorem d2_91 : decode prog_15_method_4_code 91 = .ok (.daload, 1) := by decide +kernel
theorem d2_92 : decode prog_15_method_4_code 92 = .ok (.dsub, 1) := by decide +kernel
theorem d2_93 : decode prog_15_method_4_code 93 = .ok (.ddiv, 1) := by decide +kernel
theorem d2_94 : decode prog_15_method_4_code 94 = .ok (.dadd, 1) := by decide +kernel
theorem d2_95 : decode prog_15_method_4_code 95 = .ok (.dcmp .g, 1) := by decide +kernel
theorem d2_96 : decode prog_15_method_4_code 96 = .ok (.ifCond .ge 15, 3) := by decide +kernel
theorem d2_99 : decode prog_15_method_4_code 99 = .ok (.iload 5, 2) := by decide +kernel
theorem d2_101 : decode prog_15_method_4_code 101 = .ok (.ifCond .ne 7, 3) := by decide +kernel
theorem d2_104 : decode prog_15_method_4_code 104 = .ok (.iconst 1, 1) := by decide +kernel
theorem d2_105 : decode prog_15_method_4_code 105 = .ok (.goto 4, 3) := by decide +kernel
theorem d2_108 : decode prog_15_method_4_code 108 = .ok (.iconst 0, 1) := by decide +kernel
theorem d2_109 : decode prog_15_method_4_code 109 = .ok (.istore 5, 2) := by decide +kernel
theorem d2_111 : decode prog_15_method_4_code 111 = .ok (.iinc 6 2, 3) := by decide +kernel
theorem d2_114 : decode prog_15_method_4_code 114 = .ok (.goto (-108), 3) := by decide +kernel
theorem d2_117 : decode prog_15_method_4_code 117 = .ok (.iload 5, 2) := by decide +kernel
theorem d2_119 : decode prog_15_method_4_code 119 = .ok (.ireturn, 1) := by decide +kernel
theorem pd_0 : parseMethodDescriptor "(JJJJJJ)J" = some ⟨[.long, .long, .long, .long, .long, .long], some .long⟩ := by decide +kernel
theorem pd_1 : parseMethodDescriptor "([DDD)Z" = some ⟨[(.array .double), .double, .double], some .boolean⟩ := by decide +kernel


theorem ow_ladd {x y : Int64} (h : (x.toInt + y.toInt).natAbs < 9223372036854775808) : (x + y).toInt = x.toInt + y.toInt := FP.Core.int64_add (by omega) (by omega)
theorem ow_lsub {x y : Int64} (h : (x.toInt - y.toInt).natAbs < 9223372036854775808) : (x - y).toInt = x.toInt - y.toInt := FP.Core.int64_sub (by omega) (by omega)
theorem ow_lmul {x y : Int64} (h : (x.toInt * y.toInt).natAbs < 9223372036854775808) : (x * y).toInt = x.toInt * y.toInt := FP.Core.int64_mul (by omega) (by omega)

theorem own_d0 : Dy (0 : UInt64) 0 0 := ⟨⟨false, 0, -1074, by decide +kernel⟩, by decide +kernel⟩
theorem own_mb {a b : Int} {A B : Nat} (ha : a.natAbs ≤ A) (hb : b.natAbs ≤ B) : (a * b).natAbs ≤ A * B := by rw [Int.natAbs_mul]; exact Nat.mul_le_mul ha hb

theorem own_ite01 {p : Prop} [Decidable p] {a b : Int32} (ha : a = 0 ∨ a = 1) (hb : b = 0 ∨ b = 1) : (if p then a else b) = 0 ∨ (if p then a else b) = 1 := by
  by_cases h : p
  · rw [if_pos h]; exact ha
  · rw [if_neg h]; exact hb

open Jvm.FP.Core (val64 zmag zval sgn signed b64 one64 DFin DZero) in
theorem own_negsg {y : UInt64} (h : zv y < 0) : sgn (val64 y) = true ∧ -((zmag b64 (val64 y) : Nat) : Int) = zv y := by
  unfold zv zval at *
  cases e : sgn (val64 y) <;> rw [e] at h <;> simp only [signed, if_true, Bool.false_eq_true, if_false] at h ⊢
  · omega
  · exact ⟨trivial, trivial⟩
open Jvm.FP.Core (val64 zmag zval sgn signed b64 one64 DFin DZero) in
theorem own_div_leN {x y V : UInt64} (hx : DFin x) (hy : DFin y) (h0 : zv y < 0) (hV : val64 V ≠ .nan) (h : zv V * zv y ≤ zv x * uu) : zv (FP.ddiv x y) ≤ zv V := by
  have hz : ¬ DZero y := fun q => by have := q.zval; unfold zv at h0; omega
  obtain ⟨s1, s2⟩ := own_negsg h0
  have sd : sgn (val64 (FP.ddiv x y)) = !sgn (val64 x) := by rw [own_sgn_div hx hy hz, s1]; cases sgn (val64 x) <;> rfl
  have L := own_div_mag_le (V := V) hx hy hz hV
  have G := own_div_mag_ge (V := V) hx hy hz
  rw [← s2] at h
  have hy0 : 0 < zmag b64 (val64 y) := by omega
  unfold zv zval at h ⊢
  rw [sd]
  have u0 := FP.Core.one64_pos
  have e : uu = ((one64 : Nat) : Int) := rfl
  rw [e] at h
  generalize zmag b64 (val64 y) = my at *
  generalize zmag b64 (val64 x) = mx at *
  generalize zmag b64 (val64 V) = mv at *
  generalize zmag b64 (val64 (FP.ddiv x y)) = md at *
  generalize one64 = u at *
  have p1 : ((mx : Nat) : Int) * ((u : Nat) : Int) = ((mx * u : Nat) : Int) := (Int.natCast_mul ..).symm
  have p2 : ((mv : Nat) : Int) * ((my : Nat) : Int) = ((mv * my : Nat) : Int) := (Int.natCast_mul ..).symm
  have z1 : mv * my = 0 → mv = 0 := fun q => by rcases Nat.mul_eq_zero.mp q with q | q <;> omega
  generalize sgn (val64 x) = sx at h ⊢
  generalize sgn (val64 V) = sV at h ⊢
  cases sx <;> cases sV <;> simp only [signed, if_true, Bool.false_eq_true, if_false, Int.neg_mul, Int.mul_neg, Int.neg_neg, p1, p2, Bool.not_false, Bool.not_true] at h ⊢
  · omega
  · have := G (by omega); omega
  · have := L (by omega); omega
  · have := L (by omega); have := z1 (by omega); omega
open Jvm.FP.Core (val64 zmag zval sgn signed b64 one64 DFin DZero) in
theorem own_div_geN {x y V : UInt64} (hx : DFin x) (hy : DFin y) (h0 : zv y < 0) (hV : val64 V ≠ .nan) (h : zv x * uu ≤ zv V * zv y) : zv V ≤ zv (FP.ddiv x y) := by
  have hz : ¬ DZero y := fun q => by have := q.zval; unfold zv at h0; omega
  obtain ⟨s1, s2⟩ := own_negsg h0
  have sd : sgn (val64 (FP.ddiv x y)) = !sgn (val64 x) := by rw [own_sgn_div hx hy hz, s1]; cases sgn (val64 x) <;> rfl
  have L := own_div_mag_le (V := V) hx hy hz hV
  have G := own_div_mag_ge (V := V) hx hy hz
  rw [← s2] at h
  have hy0 : 0 < zmag b64 (val64 y) := by omega
  unfold zv zval at h ⊢
  rw [sd]
  have u0 := FP.Core.one64_pos
  have e : uu = ((one64 : Nat) : Int) := rfl
  rw [e] at h
  generalize zmag b64 (val64 y) = my at *
  generalize zmag b64 (val64 x) = mx at *
  generalize zmag b64 (val64 V) = mv at *
  generalize zmag b64 (val64 (FP.ddiv x y)) = md at *
  generalize one64 = u at *
  have p1 : ((mx : Nat) : Int) * ((u : Nat) : Int) = ((mx * u : Nat) : Int) := (Int.natCast_mul ..).symm
  have p2 : ((mv : Nat) : Int) * ((my : Nat) : Int) = ((mv * my : Nat) : Int) := (Int.natCast_mul ..).symm
  have z1 : mv * my = 0 → mv = 0 := fun q => by rcases Nat.mul_eq_zero.mp q with q | q <;> omega
  generalize sgn (val64 x) = sx at h ⊢
  generalize sgn (val64 V) = sV at h ⊢
  cases sx <;> cases sV <;> simp only [signed, if_true, Bool.false_eq_true, if_false, Int.neg_mul, Int.mul_neg, Int.neg_neg, p1, p2, Bool.not_false, Bool.not_true] at h ⊢
  · have := L (by omega); have := z1 (by omega); omega
  · have := L (by omega); omega
  · have := G (by omega); omega
  · omega
theorem own_dyneg {y : UInt64} {m : Int} {j : Nat} (B : Dy y m j) (hm : m < 0) : zv y < 0 := by
  have p := own_pk j
  have b := B.2
  have : m * uu < 0 * uu := Int.mul_lt_mul_of_pos_right hm uu_pos
  rw [Int.zero_mul, ← b] at this
  exact Int.lt_of_mul_lt_mul_right (by rw [Int.zero_mul]; exact this) (Int.le_of_lt p)
theorem own_div_leN' {x y V : UInt64} {n m r : Int} {k j i : Nat} (A : Dy x n k) (B : Dy y m j) (hm : m < 0) (C : Dy V r i) (h : r * m * ((2 ^ k : Nat) : Int) ≤ n * ((2 ^ (j + i) : Nat) : Int)) : zv (FP.ddiv x y) ≤ zv V := by
  refine own_div_leN A.1 B.1 (own_dyneg B hm) C.1.ne_nan ?_
  obtain ⟨e1, e2⟩ := own_scale3 A.2 B.2 C.2
  have p : 0 < ((2 ^ k : Nat) : Int) * (((2 ^ j : Nat) : Int) * ((2 ^ i : Nat) : Int)) := Int.mul_pos (own_pk k) (Int.mul_pos (own_pk j) (own_pk i))
  refine Int.le_of_mul_le_mul_right ?_ p
  rw [e1, e2]
  exact Int.mul_le_mul_of_nonneg_right h (Int.le_of_lt (Int.mul_pos uu_pos uu_pos))
theorem own_div_geN' {x y V : UInt64} {n m r : Int} {k j i : Nat} (A : Dy x n k) (B : Dy y m j) (hm : m < 0) (C : Dy V r i) (h : n * ((2 ^ (j + i) : Nat) : Int) ≤ r * m * ((2 ^ k : Nat) : Int)) : zv V ≤ zv (FP.ddiv x y) := by
  refine own_div_geN A.1 B.1 (own_dyneg B hm) C.1.ne_nan ?_
  obtain ⟨e1, e2⟩ := own_scale3 A.2 B.2 C.2
  have p : 0 < ((2 ^ k : Nat) : Int) * (((2 ^ j : Nat) : Int) * ((2 ^ i : Nat) : Int)) := Int.mul_pos (own_pk k) (Int.mul_pos (own_pk j) (own_pk i))
  refine Int.le_of_mul_le_mul_right ?_ p
  rw [e1, e2]
  exact Int.mul_le_mul_of_nonneg_right h (Int.le_of_lt (Int.mul_pos uu_pos uu_pos))
theorem own_fin_of_mag {x V : UInt64} (hn : FP.Core.val64 x ≠ .nan) (hV : FP.Core.DFin V) (h : FP.Core.zmag FP.Core.b64 (FP.Core.val64 x) ≤ FP.Core.zmag FP.Core.b64 (FP.Core.val64 V)) : FP.Core.DFin x := by
  have q := hV.zval_lt
  cases e : FP.Core.val64 x with
  | nan => exact absurd e hn
  | fin s c r => exact ⟨s, c, r, e⟩
  | inf s =>
    rw [e] at h
    exact absurd q (Nat.not_lt.mpr h)
theorem own_one {y : UInt64} {m : Int} (S : Dy y m 0) : zv y = m * uu := by
  have s := S.2; rwa [show ((2 ^ 0 : Nat) : Int) = 1 from rfl, Int.mul_one] at s
theorem own_nz0 {y : UInt64} {m : Int} (S : Dy y m 0) (hm : m ≠ 0) : ¬ FP.Core.DZero y := fun z => by
  have e := z.zval
  have s := own_one S
  have s' : m * uu = 0 := by rw [← s]; exact e
  rcases Int.mul_eq_zero.mp s' with q | q
  · exact hm q
  · have := uu_pos; omega
theorem own_ge1 {y : UInt64} {m : Int} (S : Dy y m 0) (hm : m ≠ 0) : FP.Core.one64 ≤ FP.Core.zmag FP.Core.b64 (FP.Core.val64 y) := by
  have s := own_one S
  have a1 : (zv y).natAbs = FP.Core.zmag FP.Core.b64 (FP.Core.val64 y) := by unfold zv FP.Core.zval; cases FP.Core.sgn (FP.Core.val64 y) <;> simp [FP.Core.signed]
  have u : uu.natAbs = FP.Core.one64 := by show ((FP.Core.one64 : Nat) : Int).natAbs = _; exact Int.natAbs_natCast _
  rw [← a1, s, Int.natAbs_mul, u]
  exact Nat.le_mul_of_pos_left _ (by omega)
theorem own_rep16 (n : Int) (h : n.natAbs < 9007199254740992) : ∃ V : UInt64, Dy V n 16 := by
  obtain ⟨V, a, b⟩ := own_rep n 16 h (by decide); exact ⟨V, a, b⟩
theorem own_key {V V2 x1 : UInt64} {a n k : Int} (X1 : Dy x1 a 0) (DV : Dy V n 16) (D2 : Dy V2 k 16) (h : k = a * 65536 + n) : zv V2 = zv x1 + zv V := by
  have e16 : ((2 ^ 16 : Nat) : Int) = 65536 := by decide
  have f1 := DV.2; have f2 := D2.2; have f3 := own_one X1
  rw [e16] at f1 f2
  have g : zv V2 * 65536 = (zv x1 + zv V) * 65536 := by
    rw [Int.add_mul, f1, f2, f3, h, Int.add_mul, Int.mul_right_comm]
  exact Int.eq_of_mul_eq_mul_right (by decide) g
theorem own_sumhi {x1 Qn px V : UInt64} {a1 p : Int} (X1 : Dy x1 a1 0) (P : Dy px p 0) (hQ : FP.Core.DFin Qn) (ha : a1.natAbs ≤ 32768) (hp : p.natAbs ≤ 32768) (DV : Dy V ((p - a1) * 65536 + 1) 16) (h : zv V ≤ zv Qn) : dlt px (FP.dadd x1 Qn) := by
  obtain ⟨V2, D2⟩ := own_rep16 (p * 65536 + 1) (by omega)
  have key := own_key X1 DV D2 (by omega)
  have hge := own_add_ge X1.1 hQ D2.1.ne_nan (by rw [key]; exact Int.add_le_add_left h _)
  have lt := (Dy.zle (P.up 16) D2).2.mpr (by rw [show ((2 ^ 16 : Nat) : Int) = 65536 from by decide]; omega)
  exact FP.Core.dcmp_lt.mpr ⟨P.1.ne_nan, own_nn_add X1.1 hQ, Int.lt_of_lt_of_le lt hge⟩
theorem own_sumlo {x1 Qn px V : UInt64} {a1 p : Int} (X1 : Dy x1 a1 0) (P : Dy px p 0) (hQ : FP.Core.DFin Qn) (ha : a1.natAbs ≤ 32768) (hp : p.natAbs ≤ 32768) (DV : Dy V ((p - a1) * 65536 - 1) 16) (h : zv Qn ≤ zv V) : ¬ dlt px (FP.dadd x1 Qn) := by
  obtain ⟨V2, D2⟩ := own_rep16 (p * 65536 - 1) (by omega)
  have key := own_key X1 DV D2 (by omega)
  have hle := own_add_le X1.1 hQ D2.1.ne_nan (by rw [key]; exact Int.add_le_add_left h _)
  have lt := (Dy.zle D2 (P.up 16)).2.mpr (by rw [show ((2 ^ 16 : Nat) : Int) = 65536 from by decide]; omega)
  intro g
  obtain ⟨-, -, g⟩ := FP.Core.dcmp_lt.mp g
  exact absurd (Int.lt_of_lt_of_le g hle) (Int.not_lt.mpr (Int.le_of_lt lt))
/-- where the edge meets the height of the point: exact on both sides, since the point is off the line by 2^-16 at the least -/
theorem own_edge2 {x1 nu de px : UInt64} {a1 p A m : Int} (X1 : Dy x1 a1 0) (P : Dy px p 0) (M : Dy nu A 0) (S : Dy de m 0) (ha : a1.natAbs ≤ 32768) (hp : p.natAbs ≤ 32768) (hm : m.natAbs ≤ 65536) (hm0 : m ≠ 0) (fQ : FP.Core.DFin (FP.ddiv nu de)) (hd : A - m * (p - a1) ≠ 0) :
    dlt px (FP.dadd x1 (FP.ddiv nu de)) ↔ (if 0 < m then 0 < A - m * (p - a1) else A - m * (p - a1) < 0) := by
  have e16 : ((2 ^ (0 + 16) : Nat) : Int) = 65536 := by decide
  have e00 : ((2 ^ 0 : Nat) : Int) = 1 := by decide
  obtain ⟨VH, DH⟩ := own_rep16 ((p - a1) * 65536 + 1) (by omega)
  obtain ⟨VL, DL⟩ := own_rep16 ((p - a1) * 65536 - 1) (by omega)
  have hi := own_sumhi X1 P fQ ha hp DH
  have lo := own_sumlo X1 P fQ ha hp DL
  have k1 : ((p - a1) * 65536 + 1) * m = m * (p - a1) * 65536 + m := by rw [Int.add_mul, Int.one_mul, Int.mul_right_comm, Int.mul_comm (p - a1) m]
  have k2 : ((p - a1) * 65536 - 1) * m = m * (p - a1) * 65536 - m := by rw [Int.sub_mul, Int.one_mul, Int.mul_right_comm, Int.mul_comm (p - a1) m]
  generalize m * (p - a1) = t at *
  by_cases h0 : 0 < m
  · rw [if_pos h0]
    constructor
    · intro l
      rcases Int.lt_trichotomy 0 (A - t) with g | g | g
      · exact g
      · exact absurd g.symm hd
      · exact absurd l (lo (Dy.div_le M S h0 DL (by rw [e16, e00, k2]; omega)))
    · intro g
      exact hi (Dy.div_ge M S h0 DH (by rw [e16, e00, k1]; omega))
  · rw [if_neg h0]
    have h1 : m < 0 := by omega
    constructor
    · intro l
      rcases Int.lt_trichotomy 0 (A - t) with g | g | g
      · exact absurd l (lo (own_div_leN' M S h1 DL (by rw [e16, e00, k2]; omega)))
      · exact absurd g.symm hd
      · exact g
    · intro g
      exact hi (own_div_geN' M S h1 DH (by rw [e16, e00, k1]; omega))
theorem own_edge {x1 y1 x2 y2 px py : UInt64} {a1 b1 a2 b2 p q : Int} (X1 : Dy x1 a1 0) (Y1 : Dy y1 b1 0) (X2 : Dy x2 a2 0) (Y2 : Dy y2 b2 0) (P : Dy px p 0) (Q : Dy py q 0) (ha1 : a1.natAbs ≤ 32768) (hb1 : b1.natAbs ≤ 32768) (ha2 : a2.natAbs ≤ 32768) (hb2 : b2.natAbs ≤ 32768) (hp : p.natAbs ≤ 32768) (hq : q.natAbs ≤ 32768) (hb : b1 ≠ b2) :
    (NoNaN64 (FP.dsub py y1) ∧ NoNaN64 (FP.dsub x2 x1) ∧ NoNaN64 (FP.dmul (FP.dsub py y1) (FP.dsub x2 x1)) ∧ NoNaN64 (FP.dsub y2 y1) ∧ NoNaN64 (FP.ddiv (FP.dmul (FP.dsub py y1) (FP.dsub x2 x1)) (FP.dsub y2 y1)) ∧ NoNaN64 (FP.dadd x1 (FP.ddiv (FP.dmul (FP.dsub py y1) (FP.dsub x2 x1)) (FP.dsub y2 y1)))) ∧
    ((a2 - a1) * (q - b1) - (b2 - b1) * (p - a1) ≠ 0 → (dlt px (FP.dadd x1 (FP.ddiv (FP.dmul (FP.dsub py y1) (FP.dsub x2 x1)) (FP.dsub y2 y1))) ↔ (if 0 < b2 - b1 then 0 < (a2 - a1) * (q - b1) - (b2 - b1) * (p - a1) else (a2 - a1) * (q - b1) - (b2 - b1) * (p - a1) < 0))) := by
  have S1 := Q.sub Y1 (by omega) (by decide)
  have S2 := X2.sub X1 (by omega) (by decide)
  have S3 := Y2.sub Y1 (by omega) (by decide)
  have mb := own_mb (a := q - b1) (b := a2 - a1) (A := 65536) (B := 65536) (by omega) (by omega)
  have M : Dy (FP.dmul (FP.dsub py y1) (FP.dsub x2 x1)) ((q - b1) * (a2 - a1)) 0 := S1.mul S2 (by omega) (by decide)
  have hne : b2 - b1 ≠ 0 := by omega
  have nz := own_nz0 S3 hne
  have nnQ := own_nn_div M.1 S3.1 nz
  have fQ := own_fin_of_mag nnQ M.1 (own_div_mag_le M.1 S3.1 nz M.1.ne_nan (Nat.mul_le_mul_left _ (own_ge1 S3 hne)))
  refine ⟨⟨S1.nn, S2.nn, M.nn, S3.nn, Fl.val64_no.mpr nnQ, Fl.val64_no.mpr (own_nn_add X1.1 fQ)⟩, fun hd => ?_⟩
  rw [Int.mul_comm (a2 - a1)] at hd ⊢
  exact own_edge2 X1 P M S3 ha1 hp (by omega) hne fQ hd
theorem own_hne {y1 y2 py : UInt64} {b1 b2 q : Int} (Y1 : Dy y1 b1 0) (Y2 : Dy y2 b2 0) (Q : Dy py q 0) (h : ¬ ((if dgt y1 py then (1 : Int32) else (0 : Int32)) = (if dgt y2 py then (1 : Int32) else (0 : Int32)))) : b1 ≠ b2 := fun e => h (by
  have t1 := Y1.gt Q
  have t2 := Y2.gt Q
  subst e
  by_cases g : q < b1
  · rw [if_pos (t1.mpr g), if_pos (t2.mpr g)]
  · rw [if_neg (fun k => g (t1.mp k)), if_neg (fun k => g (t2.mp k))])
/-- three products that add to nothing -/
theorem own_pos3 {d1 d2 d3 c1 c2 c3 : Int} (h1 : 0 < d1) (h2 : 0 < d2) (h3 : 0 < d3) (k1 : 0 ≤ c1) (k2 : 0 ≤ c2) (k3 : 0 ≤ c3) (e : d1 * c1 + d2 * c2 + d3 * c3 = 0) : c1 = 0 ∧ c2 = 0 ∧ c3 = 0 := by
  have m1 := Int.mul_nonneg (Int.le_of_lt h1) k1
  have m2 := Int.mul_nonneg (Int.le_of_lt h2) k2
  have m3 := Int.mul_nonneg (Int.le_of_lt h3) k3
  have z1 : d1 * c1 = 0 := by omega
  have z2 : d2 * c2 = 0 := by omega
  have z3 : d3 * c3 = 0 := by omega
  refine ⟨?_, ?_, ?_⟩
  · rcases Int.mul_eq_zero.mp z1 with q | q <;> omega
  · rcases Int.mul_eq_zero.mp z2 with q | q <;> omega
  · rcases Int.mul_eq_zero.mp z3 with q | q <;> omega
theorem own_same3 {d1 d2 d3 c1 c2 c3 : Int} (e : d1 * c1 + d2 * c2 + d3 * c3 = 0) (h : (0 < c1 ∧ 0 < c2 ∧ 0 < c3) ∨ (c1 ≤ 0 ∧ c2 ≤ 0 ∧ c3 ≤ 0)) (nz : ¬ (c1 = 0 ∧ c2 = 0 ∧ c3 = 0)) : ¬ (0 < d1 ∧ 0 < d2 ∧ 0 < d3) ∧ ¬ (d1 < 0 ∧ d2 < 0 ∧ d3 < 0) := by
  refine ⟨fun ⟨a, b, d⟩ => ?_, fun ⟨a, b, d⟩ => ?_⟩
  · rcases h with ⟨x, y, z⟩ | ⟨x, y, z⟩
    · exact nz (own_pos3 a b d (by omega) (by omega) (by omega) e)
    · have q := own_pos3 (c1 := -c1) (c2 := -c2) (c3 := -c3) a b d (by omega) (by omega) (by omega) (by simp only [Int.mul_neg]; omega)
      exact nz (by omega)
  · rcases h with ⟨x, y, z⟩ | ⟨x, y, z⟩
    · exact nz (own_pos3 (d1 := -d1) (d2 := -d2) (d3 := -d3) (by omega) (by omega) (by omega) (by omega) (by omega) (by omega) (by simp only [Int.neg_mul]; omega))
    · have q := own_pos3 (d1 := -d1) (d2 := -d2) (d3 := -d3) (c1 := -c1) (c2 := -c2) (c3 := -c3) (by omega) (by omega) (by omega) (by omega) (by omega) (by omega) (by simp only [Int.mul_neg, Int.neg_mul, Int.neg_neg]; omega)
      exact nz (by omega)
theorem own_odd3 {d1 d2 d3 c1 c2 c3 : Int} (e : d1 * c1 + d2 * c2 + d3 * c3 = 0) (h : (c1 ≤ 0 ∧ c2 ≤ 0 ∧ 0 < c3) ∨ (0 < c1 ∧ 0 < c2 ∧ c3 ≤ 0)) (n3 : d3 ≠ 0) : (d1 ≤ 0 ∨ d2 ≤ 0 ∨ 0 < d3) ∧ (0 ≤ d1 ∨ 0 ≤ d2 ∨ d3 < 0) := by
  constructor
  · by_cases g : 0 < d1 ∧ 0 < d2 ∧ d3 < 0
    · exfalso
      obtain ⟨a, b, d⟩ := g
      rcases h with ⟨x, y, z⟩ | ⟨x, y, z⟩
      · have q := own_pos3 (d3 := -d3) (c1 := -c1) (c2 := -c2) (c3 := c3) a b (by omega) (by omega) (by omega) (by omega) (by simp only [Int.mul_neg, Int.neg_mul]; omega)
        omega
      · have q := own_pos3 (d3 := -d3) (c1 := c1) (c2 := c2) (c3 := -c3) a b (by omega) (by omega) (by omega) (by omega) (by simp only [Int.mul_neg, Int.neg_mul, Int.neg_neg]; omega)
        omega
    · omega
  · by_cases g : d1 < 0 ∧ d2 < 0 ∧ 0 < d3
    · exfalso
      obtain ⟨a, b, d⟩ := g
      rcases h with ⟨x, y, z⟩ | ⟨x, y, z⟩
      · have q := own_pos3 (d1 := -d1) (d2 := -d2) (c1 := -c1) (c2 := -c2) (c3 := c3) (by omega) (by omega) d (by omega) (by omega) (by omega) (by simp only [Int.mul_neg, Int.neg_mul, Int.neg_neg]; omega)
        omega
      · have q := own_pos3 (d1 := -d1) (d2 := -d2) (c1 := c1) (c2 := c2) (c3 := -c3) (by omega) (by omega) d (by omega) (by omega) (by omega) (by simp only [Int.mul_neg, Int.neg_mul]; omega)
        omega
    · omega
theorem own_det {x y u v : Int} : (y - x) * (-u) - (v - u) * (-x) = x * v - y * u := by
  have e1 : (y - x) * (-u) = x * u - y * u := by rw [Int.mul_neg, Int.sub_mul]; omega
  have e2 : (v - u) * (-x) = x * u - x * v := by rw [Int.mul_neg, Int.sub_mul, Int.mul_comm v x, Int.mul_comm u x]; omega
  omega
theorem own_idn {x y z u v w : Int} : (x * v - y * u) * w + (y * w - z * v) * u + (z * u - x * w) * v = 0 := by
  have e1 : (x * v - y * u) * w = x * v * w - y * u * w := Int.sub_mul ..
  have e2 : (y * w - z * v) * u = y * u * w - z * u * v := by rw [Int.sub_mul, Int.mul_right_comm y w u, Int.mul_right_comm z v u]
  have e3 : (z * u - x * w) * v = z * u * v - x * v * w := by rw [Int.sub_mul, Int.mul_right_comm x w v]
  omega
theorem own_shift {a1 b1 a2 b2 p q : Int} : (a2 - a1) * (q - b1) - (b2 - b1) * (p - a1) = (a1 - p) * (b2 - q) - (a2 - p) * (b1 - q) := by
  have := own_det (x := a1 - p) (y := a2 - p) (u := b1 - q) (v := b2 - q)
  rw [← this, show a2 - p - (a1 - p) = a2 - a1 by omega, show -(b1 - q) = q - b1 by omega, show b2 - q - (b1 - q) = b2 - b1 by omega, show -(a1 - p) = p - a1 by omega]
theorem own_sum0 {a1 b1 a2 b2 a3 b3 p q D1 D2 D3 : Int} (e1 : D1 = (a2 - a1) * (q - b1) - (b2 - b1) * (p - a1)) (e2 : D2 = (a3 - a2) * (q - b2) - (b3 - b2) * (p - a2)) (e3 : D3 = (a1 - a3) * (q - b3) - (b1 - b3) * (p - a3)) : D1 * (b3 - q) + D2 * (b1 - q) + D3 * (b2 - q) = 0 := by
  rw [e1, e2, e3, own_shift, own_shift, own_shift]
  exact own_idn
theorem own_s16 {x n : Int32} (q : x.toInt16.toInt32 = n) : n.toInt.natAbs ≤ 32768 := by
  rw [← q, Int16.toInt_toInt32]
  have a := x.toInt16.le_toInt; have b := x.toInt16.toInt_lt
  omega
theorem own_l32 {x y : Int32} (hx : x.toInt.natAbs ≤ 32768) (hy : y.toInt.natAbs ≤ 32768) : ((x.toInt64) - (y.toInt64)).toInt = x.toInt - y.toInt := by
  rw [ow_lsub (by rw [Int32.toInt_toInt64, Int32.toInt_toInt64]; omega), Int32.toInt_toInt64, Int32.toInt_toInt64]
theorem own_cross {p0 p1 p2 p3 p4 p5 : Int32} {d : Int64} (h0 : p0.toInt.natAbs ≤ 32768) (h1 : p1.toInt.natAbs ≤ 32768) (h2 : p2.toInt.natAbs ≤ 32768) (h3 : p3.toInt.natAbs ≤ 32768) (h4 : p4.toInt.natAbs ≤ 32768) (h5 : p5.toInt.natAbs ≤ 32768) (q : ((((p2.toInt64) - (p0.toInt64)) * ((p5.toInt64) - (p1.toInt64))) - (((p3.toInt64) - (p1.toInt64)) * ((p4.toInt64) - (p0.toInt64)))) = d) : d.toInt = (p2.toInt - p0.toInt) * (p5.toInt - p1.toInt) - (p3.toInt - p1.toInt) * (p4.toInt - p0.toInt) := by
  have m1 := own_mb (a := p2.toInt - p0.toInt) (b := p5.toInt - p1.toInt) (A := 65536) (B := 65536) (by omega) (by omega)
  have m2 := own_mb (a := p3.toInt - p1.toInt) (b := p4.toInt - p0.toInt) (A := 65536) (B := 65536) (by omega) (by omega)
  have e1 : (((p2.toInt64) - (p0.toInt64)) * ((p5.toInt64) - (p1.toInt64))).toInt = (p2.toInt - p0.toInt) * (p5.toInt - p1.toInt) := by
    rw [ow_lmul (by rw [own_l32 h2 h0, own_l32 h5 h1]; omega), own_l32 h2 h0, own_l32 h5 h1]
  have e2 : (((p3.toInt64) - (p1.toInt64)) * ((p4.toInt64) - (p0.toInt64))).toInt = (p3.toInt - p1.toInt) * (p4.toInt - p0.toInt) := by
    rw [ow_lmul (by rw [own_l32 h3 h1, own_l32 h4 h0]; omega), own_l32 h3 h1, own_l32 h4 h0]
  rw [← q, ow_lsub (by rw [e1, e2]; omega), e1, e2]
theorem own_10 : ((1 : Int32) = 0) = False := by simp
theorem own_01 : ((0 : Int32) = 1) = False := by simp
theorem own_z64 : (0 : Int64).toInt = 0 := by decide

theorem own_w {d1 d2 d3 : Int64} {w : Int32} (q : (if (0 : Int64) < d1 then (if (0 : Int64) < d2 then (if (0 : Int64) < d3 then (1 : Int32) else (if d1 < (0 : Int64) then (if d2 < (0 : Int64) then (if d3 < (0 : Int64) then (1 : Int32) else (0 : Int32)) else (0 : Int32)) else (0 : Int32))) else (if d1 < (0 : Int64) then (if d2 < (0 : Int64) then (if d3 < (0 : Int64) then (1 : Int32) else (0 : Int32)) else (0 : Int32)) else (0 : Int32))) else (if d1 < (0 : Int64) then (if d2 < (0 : Int64) then (if d3 < (0 : Int64) then (1 : Int32) else (0 : Int32)) else (0 : Int32)) else (0 : Int32))) = w) : (w = 1 ∧ ((0 < d1.toInt ∧ 0 < d2.toInt ∧ 0 < d3.toInt) ∨ (d1.toInt < 0 ∧ d2.toInt < 0 ∧ d3.toInt < 0))) ∨ (w = 0 ∧ ¬ (0 < d1.toInt ∧ 0 < d2.toInt ∧ 0 < d3.toInt) ∧ ¬ (d1.toInt < 0 ∧ d2.toInt < 0 ∧ d3.toInt < 0)) := by
  simp only [Int64.lt_iff_toInt_lt, own_z64] at q
  repeat' split at q
  all_goals (subst q; first | exact Or.inl ⟨rfl, by omega⟩ | exact Or.inr ⟨rfl, by omega, by omega⟩ | (exfalso; omega))
theorem own_final {x1 y1 x2 y2 x3 y3 px py : UInt64} {a1 b1 a2 b2 a3 b3 p q : Int} (X1 : Dy x1 a1 0) (Y1 : Dy y1 b1 0) (X2 : Dy x2 a2 0) (Y2 : Dy y2 b2 0) (X3 : Dy x3 a3 0) (Y3 : Dy y3 b3 0) (P : Dy px p 0) (Q : Dy py q 0) (ha1 : a1.natAbs ≤ 32768) (hb1 : b1.natAbs ≤ 32768) (ha2 : a2.natAbs ≤ 32768) (hb2 : b2.natAbs ≤ 32768) (ha3 : a3.natAbs ≤ 32768) (hb3 : b3.natAbs ≤ 32768) (hp : p.natAbs ≤ 32768) (hq : q.natAbs ≤ 32768) {d1 d2 d3 : Int64} (e1 : d1.toInt = (a2 - a1) * (q - b1) - (b2 - b1) * (p - a1)) (e2 : d2.toInt = (a3 - a2) * (q - b2) - (b3 - b2) * (p - a2)) (e3 : d3.toInt = (a1 - a3) * (q - b3) - (b1 - b3) * (p - a3)) (n1 : ¬ d1 = (0 : Int64)) (n2 : ¬ d2 = (0 : Int64)) (n3 : ¬ d3 = (0 : Int64)) {r w : Int32} (qr : (if (if dgt y3 py then (1 : Int32) else (0 : Int32)) = (if dgt y1 py then (1 : Int32) else (0 : Int32)) then (if (if dgt y2 py then (1 : Int32) else (0 : Int32)) = (if dgt y3 py then (1 : Int32) else (0 : Int32)) then (if (if dgt y1 py then (1 : Int32) else (0 : Int32)) = (if dgt y2 py then (1 : Int32) else (0 : Int32)) then (0 : Int32) else (if dlt px (FP.dadd x1 (FP.ddiv (FP.dmul (FP.dsub py y1) (FP.dsub x2 x1)) (FP.dsub y2 y1))) then (1 : Int32) else (0 : Int32))) else (if dlt px (FP.dadd x2 (FP.ddiv (FP.dmul (FP.dsub py y2) (FP.dsub x3 x2)) (FP.dsub y3 y2))) then (if (if (if dgt y1 py then (1 : Int32) else (0 : Int32)) = (if dgt y2 py then (1 : Int32) else (0 : Int32)) then (0 : Int32) else (if dlt px (FP.dadd x1 (FP.ddiv (FP.dmul (FP.dsub py y1) (FP.dsub x2 x1)) (FP.dsub y2 y1))) then (1 : Int32) else (0 : Int32))) = 0 then (1 : Int32) else (0 : Int32)) else (if (if dgt y1 py then (1 : Int32) else (0 : Int32)) = (if dgt y2 py then (1 : Int32) else (0 : Int32)) then (0 : Int32) else (if dlt px (FP.dadd x1 (FP.ddiv (FP.dmul (FP.dsub py y1) (FP.dsub x2 x1)) (FP.dsub y2 y1))) then (1 : Int32) else (0 : Int32))))) else (if dlt px (FP.dadd x3 (FP.ddiv (FP.dmul (FP.dsub py y3) (FP.dsub x1 x3)) (FP.dsub y1 y3))) then (if (if (if dgt y2 py then (1 : Int32) else (0 : Int32)) = (if dgt y3 py then (1 : Int32) else (0 : Int32)) then (if (if dgt y1 py then (1 : Int32) else (0 : Int32)) = (if dgt y2 py then (1 : Int32) else (0 : Int32)) then (0 : Int32) else (if dlt px (FP.dadd x1 (FP.ddiv (FP.dmul (FP.dsub py y1) (FP.dsub x2 x1)) (FP.dsub y2 y1))) then (1 : Int32) else (0 : Int32))) else (if dlt px (FP.dadd x2 (FP.ddiv (FP.dmul (FP.dsub py y2) (FP.dsub x3 x2)) (FP.dsub y3 y2))) then (if (if (if dgt y1 py then (1 : Int32) else (0 : Int32)) = (if dgt y2 py then (1 : Int32) else (0 : Int32)) then (0 : Int32) else (if dlt px (FP.dadd x1 (FP.ddiv (FP.dmul (FP.dsub py y1) (FP.dsub x2 x1)) (FP.dsub y2 y1))) then (1 : Int32) else (0 : Int32))) = 0 then (1 : Int32) else (0 : Int32)) else (if (if dgt y1 py then (1 : Int32) else (0 : Int32)) = (if dgt y2 py then (1 : Int32) else (0 : Int32)) then (0 : Int32) else (if dlt px (FP.dadd x1 (FP.ddiv (FP.dmul (FP.dsub py y1) (FP.dsub x2 x1)) (FP.dsub y2 y1))) then (1 : Int32) else (0 : Int32))))) = 0 then (1 : Int32) else (0 : Int32)) else (if (if dgt y2 py then (1 : Int32) else (0 : Int32)) = (if dgt y3 py then (1 : Int32) else (0 : Int32)) then (if (if dgt y1 py then (1 : Int32) else (0 : Int32)) = (if dgt y2 py then (1 : Int32) else (0 : Int32)) then (0 : Int32) else (if dlt px (FP.dadd x1 (FP.ddiv (FP.dmul (FP.dsub py y1) (FP.dsub x2 x1)) (FP.dsub y2 y1))) then (1 : Int32) else (0 : Int32))) else (if dlt px (FP.dadd x2 (FP.ddiv (FP.dmul (FP.dsub py y2) (FP.dsub x3 x2)) (FP.dsub y3 y2))) then (if (if (if dgt y1 py then (1 : Int32) else (0 : Int32)) = (if dgt y2 py then (1 : Int32) else (0 : Int32)) then (0 : Int32) else (if dlt px (FP.dadd x1 (FP.ddiv (FP.dmul (FP.dsub py y1) (FP.dsub x2 x1)) (FP.dsub y2 y1))) then (1 : Int32) else (0 : Int32))) = 0 then (1 : Int32) else (0 : Int32)) else (if (if dgt y1 py then (1 : Int32) else (0 : Int32)) = (if dgt y2 py then (1 : Int32) else (0 : Int32)) then (0 : Int32) else (if dlt px (FP.dadd x1 (FP.ddiv (FP.dmul (FP.dsub py y1) (FP.dsub x2 x1)) (FP.dsub y2 y1))) then (1 : Int32) else (0 : Int32))))))) = r) (qw : (if (0 : Int64) < d1 then (if (0 : Int64) < d2 then (if (0 : Int64) < d3 then (1 : Int32) else (if d1 < (0 : Int64) then (if d2 < (0 : Int64) then (if d3 < (0 : Int64) then (1 : Int32) else (0 : Int32)) else (0 : Int32)) else (0 : Int32))) else (if d1 < (0 : Int64) then (if d2 < (0 : Int64) then (if d3 < (0 : Int64) then (1 : Int32) else (0 : Int32)) else (0 : Int32)) else (0 : Int32))) else (if d1 < (0 : Int64) then (if d2 < (0 : Int64) then (if d3 < (0 : Int64) then (1 : Int32) else (0 : Int32)) else (0 : Int32)) else (0 : Int32))) = w) : r = w := by
  have W := own_w qw
  rw [← Int64.toInt_inj, own_z64] at n1 n2 n3
  have P1 : dgt y1 py ↔ q < b1 := Y1.gt Q
  have P2 : dgt y2 py ↔ q < b2 := Y2.gt Q
  have P3 : dgt y3 py ↔ q < b3 := Y3.gt Q
  have sm := own_sum0 e1 e2 e3
  have nz : ¬ (b3 - q = 0 ∧ b1 - q = 0 ∧ b2 - q = 0) := fun ⟨u, v, t⟩ => n1 (by rw [e1, show q - b1 = 0 by omega, show b2 - b1 = 0 by omega, Int.mul_zero, Int.zero_mul]; rfl)
  have C1 := fun hb => (own_edge X1 Y1 X2 Y2 P Q ha1 hb1 ha2 hb2 hp hq hb).2 (e1 ▸ n1)
  have C2 := fun hb => (own_edge X2 Y2 X3 Y3 P Q ha2 hb2 ha3 hb3 hp hq hb).2 (e2 ▸ n2)
  have C3 := fun hb => (own_edge X3 Y3 X1 Y1 P Q ha3 hb3 ha1 hb1 hp hq hb).2 (e3 ▸ n3)
  rw [← e1] at C1
  rw [← e2] at C2
  rw [← e3] at C3
  clear e1 e2 e3 qw
  generalize d1.toInt = D1 at *
  generalize d2.toInt = D2 at *
  generalize d3.toInt = D3 at *
  by_cases g1 : q < b1 <;> by_cases g2 : q < b2 <;> by_cases g3 : q < b3
  · have t := own_same3 sm (by omega) nz
    clear C1 C2 C3
    by_cases z1 : 0 < D1 <;> by_cases z2 : 0 < D2 <;> by_cases z3 : 0 < D3 <;> simp only [P1, P2, P3, g1, g2, g3, z1, z2, z3, if_true, if_false, own_10, own_01, eq_self, not_true_eq_false, not_false_eq_true] at qr <;> rcases W with ⟨rfl, W⟩ | ⟨rfl, W⟩ <;> first | exact qr.symm | (exfalso; omega)
  · have k2 := C2 (by omega)
    rw [if_neg (by omega)] at k2
    replace k2 := k2.trans (show D2 < 0 ↔ ¬ (0 < D2) by omega)
    have k3 := C3 (by omega)
    rw [if_pos (by omega)] at k3
    have t := own_odd3 (d1 := D2) (c1 := b1 - q) (d2 := D3) (c2 := b2 - q) (d3 := D1) (c3 := b3 - q) (by omega) (by omega) n1
    clear C1 C2 C3
    by_cases z1 : 0 < D1 <;> by_cases z2 : 0 < D2 <;> by_cases z3 : 0 < D3 <;> simp only [P1, P2, P3, g1, g2, g3, k2, k3, z1, z2, z3, if_true, if_false, own_10, own_01, eq_self, not_true_eq_false, not_false_eq_true] at qr <;> rcases W with ⟨rfl, W⟩ | ⟨rfl, W⟩ <;> first | exact qr.symm | (exfalso; omega)
  · have k1 := C1 (by omega)
    rw [if_neg (by omega)] at k1
    replace k1 := k1.trans (show D1 < 0 ↔ ¬ (0 < D1) by omega)
    have k2 := C2 (by omega)
    rw [if_pos (by omega)] at k2
    have t := own_odd3 (d1 := D1) (c1 := b3 - q) (d2 := D2) (c2 := b1 - q) (d3 := D3) (c3 := b2 - q) (by omega) (by omega) n3
    clear C1 C2 C3
    by_cases z1 : 0 < D1 <;> by_cases z2 : 0 < D2 <;> by_cases z3 : 0 < D3 <;> simp only [P1, P2, P3, g1, g2, g3, k1, k2, z1, z2, z3, if_true, if_false, own_10, own_01, eq_self, not_true_eq_false, not_false_eq_true] at qr <;> rcases W with ⟨rfl, W⟩ | ⟨rfl, W⟩ <;> first | exact qr.symm | (exfalso; omega)
  · have k1 := C1 (by omega)
    rw [if_neg (by omega)] at k1
    replace k1 := k1.trans (show D1 < 0 ↔ ¬ (0 < D1) by omega)
    have k3 := C3 (by omega)
    rw [if_pos (by omega)] at k3
    have t := own_odd3 (d1 := D3) (c1 := b2 - q) (d2 := D1) (c2 := b3 - q) (d3 := D2) (c3 := b1 - q) (by omega) (by omega) n2
    clear C1 C2 C3
    by_cases z1 : 0 < D1 <;> by_cases z2 : 0 < D2 <;> by_cases z3 : 0 < D3 <;> simp only [P1, P2, P3, g1, g2, g3, k1, k3, z1, z2, z3, if_true, if_false, own_10, own_01, eq_self, not_true_eq_false, not_false_eq_true] at qr <;> rcases W with ⟨rfl, W⟩ | ⟨rfl, W⟩ <;> first | exact qr.symm | (exfalso; omega)
  · have k1 := C1 (by omega)
    rw [if_pos (by omega)] at k1
    have k3 := C3 (by omega)
    rw [if_neg (by omega)] at k3
    replace k3 := k3.trans (show D3 < 0 ↔ ¬ (0 < D3) by omega)
    have t := own_odd3 (d1 := D3) (c1 := b2 - q) (d2 := D1) (c2 := b3 - q) (d3 := D2) (c3 := b1 - q) (by omega) (by omega) n2
    clear C1 C2 C3
    by_cases z1 : 0 < D1 <;> by_cases z2 : 0 < D2 <;> by_cases z3 : 0 < D3 <;> simp only [P1, P2, P3, g1, g2, g3, k1, k3, z1, z2, z3, if_true, if_false, own_10, own_01, eq_self, not_true_eq_false, not_false_eq_true] at qr <;> rcases W with ⟨rfl, W⟩ | ⟨rfl, W⟩ <;> first | exact qr.symm | (exfalso; omega)
  · have k1 := C1 (by omega)
    rw [if_pos (by omega)] at k1
    have k2 := C2 (by omega)
    rw [if_neg (by omega)] at k2
    replace k2 := k2.trans (show D2 < 0 ↔ ¬ (0 < D2) by omega)
    have t := own_odd3 (d1 := D1) (c1 := b3 - q) (d2 := D2) (c2 := b1 - q) (d3 := D3) (c3 := b2 - q) (by omega) (by omega) n3
    clear C1 C2 C3
    by_cases z1 : 0 < D1 <;> by_cases z2 : 0 < D2 <;> by_cases z3 : 0 < D3 <;> simp only [P1, P2, P3, g1, g2, g3, k1, k2, z1, z2, z3, if_true, if_false, own_10, own_01, eq_self, not_true_eq_false, not_false_eq_true] at qr <;> rcases W with ⟨rfl, W⟩ | ⟨rfl, W⟩ <;> first | exact qr.symm | (exfalso; omega)
  · have k2 := C2 (by omega)
    rw [if_pos (by omega)] at k2
    have k3 := C3 (by omega)
    rw [if_neg (by omega)] at k3
    replace k3 := k3.trans (show D3 < 0 ↔ ¬ (0 < D3) by omega)
    have t := own_odd3 (d1 := D2) (c1 := b1 - q) (d2 := D3) (c2 := b2 - q) (d3 := D1) (c3 := b3 - q) (by omega) (by omega) n1
    clear C1 C2 C3
    by_cases z1 : 0 < D1 <;> by_cases z2 : 0 < D2 <;> by_cases z3 : 0 < D3 <;> simp only [P1, P2, P3, g1, g2, g3, k2, k3, z1, z2, z3, if_true, if_false, own_10, own_01, eq_self, not_true_eq_false, not_false_eq_true] at qr <;> rcases W with ⟨rfl, W⟩ | ⟨rfl, W⟩ <;> first | exact qr.symm | (exfalso; omega)
  · have t := own_same3 sm (by omega) nz
    clear C1 C2 C3
    by_cases z1 : 0 < D1 <;> by_cases z2 : 0 < D2 <;> by_cases z3 : 0 < D3 <;> simp only [P1, P2, P3, g1, g2, g3, z1, z2, z3, if_true, if_false, own_10, own_01, eq_self, not_true_eq_false, not_false_eq_true] at qr <;> rcases W with ⟨rfl, W⟩ | ⟨rfl, W⟩ <;> first | exact qr.symm | (exfalso; omega)

theorem ef1 (m : MethodId) (x0 : Int64) (x1 : Int64) (x2 : Int64) (x3 : Int64) (x4 : Int64) (x5 : Int64) : entryFrame m #[(.long x0), (.long x1), (.long x2), (.long x3), (.long x4), (.long x5)] 12 = mkF m 0 #[.val (.long x0), .second, .val (.long x1), .second, .val (.long x2), .second, .val (.long x3), .second, .val (.long x4), .second, .val (.long x5), .second] [] := by first | (simp [entryFrame, mkF, argsToLocals, Value.category]; done) | rfl
def Q1 (Z : State) (p0 : Int64) (p1 : Int64) (p2 : Int64) (p3 : Int64) (p4 : Int64) (p5 : Int64) (h0 : Heap) (n0 : Nat) (v : Option Value) (h : Heap) (L : List Loc) : Prop := v = some (.long (((p2 - p0) * (p5 - p1)) - ((p3 - p1) * (p4 - p0)))) ∧ Fr n0 L ∧ h0 = h
set_option maxRecDepth 65536 in
set_option maxHeartbeats 40000000 in
theorem rm1 (l : Launch) (Z : State) (a0 : Array Value) (hw : ∀ d ∈ tables_1, d.before a0 Z = true) (ws : List Jvm.Cond) (p0 : Int64) (p1 : Int64) (p2 : Int64) (p3 : Int64) (p4 : Int64) (p5 : Int64) (h0 : Heap) (n0 : Nat) (Z0 : n0 ≤ h0.size) :
    MetFree l (⟨"com/example/dido/dido/PlanarRingHoldsPinLaw", "cross", "(JJJJJJ)J"⟩ : MethodName) (head1 (Jvm.Cond.code (⟨"com/example/dido/dido/PlanarRingHoldsPinLaw", "cross", "(JJJJJJ)J"⟩ : MethodName) method_2_code 12 (some .long) :: ws) ({ frames := 0, cells := 0, slots := 0, locals := 0 } : Room)) (fun a U => a = #[(.long p0), (.long p1), (.long p2), (.long p3), (.long p4), (.long p5)] ∧ Z.Warmed39 U.vm ∧ U.heap = h0) (fun _ _ _ _ _ => True) (fun _ U o U' => ∃ v L, o = .returned v ∧ Q1 Z p0 p1 p2 p3 p4 p5 h0 n0 v U'.heap L ∧ FrameEnd U o U' L ({ frames := 0, cells := 0, slots := 0, locals := 0 } : Room).cells ({ frames := 0, cells := 0, slots := 0, locals := 0 } : Room).slots) := by
  refine MetFree.of_bodySF (plainFor_of_name pn_com_example_dido_dido_PlanarRingHoldsPinLaw) hisR ?_
  intro p e s m args below meth c s₁ Bd hml0 hP hK
  obtain ⟨rfl, hZ, hh⟩ := hP
  have hx := Bd.exec
  have hby := Bd.bytes
  have hml : c.maxLocals = 12 := hml0
  have hown : s.vm.findClass "com/example/dido/dido/PlanarRingHoldsPinLaw" = some m.cls := findClass_of_methodNamed Bd.named
  have hnm := (name_of_methodNamed Bd.named Bd.method).1
  have X0 : Stand p l e ({ frames := 0, cells := 0, slots := 0, locals := 0 } : Room) s m #[(.long p0), (.long p1), (.long p2), (.long p3), (.long p4), (.long p5)] below meth c s₁ [] 0 0 := Stand.of_body Bd
  have eH0 : s₁.heap = h0 := by rw [← hh, Bd.state]; rfl
  have N0 := Fr.nil n0
  show Gt p.tables e below (fun o U' => ∃ v L, o = .returned v ∧ Q1 Z p0 p1 p2 p3 p4 p5 h0 n0 v U'.heap L ∧ FrameEnd s o U' L ({ frames := 0, cells := 0, slots := 0, locals := 0 } : Room).cells ({ frames := 0, cells := 0, slots := 0, locals := 0 } : Room).slots) _
  refine own_cast (ef1 m p0 p1 p2 p3 p4 p5) ?_
  refine own_lload X0 hx hby rfl d1_0 (pc' := 2) rfl ?_
  refine own_lloadN X0 hx hby rfl d1_2 (pc' := 3) rfl ?_
  refine own_lsub X0 hx hby rfl d1_3 (pc' := 4) rfl ?_
  refine own_lload X0 hx hby rfl d1_4 (pc' := 6) rfl ?_
  refine own_lloadN X0 hx hby rfl d1_6 (pc' := 7) rfl ?_
  refine own_lsub X0 hx hby rfl d1_7 (pc' := 8) rfl ?_
  refine own_lmul X0 hx hby rfl d1_8 (pc' := 9) rfl ?_
  refine own_lload X0 hx hby rfl d1_9 (pc' := 11) rfl ?_
  refine own_lloadN X0 hx hby rfl d1_11 (pc' := 12) rfl ?_
  refine own_lsub X0 hx hby rfl d1_12 (pc' := 13) rfl ?_
  refine own_lload X0 hx hby rfl d1_13 (pc' := 15) rfl ?_
  refine own_lloadN X0 hx hby rfl d1_15 (pc' := 16) rfl ?_
  refine own_lsub X0 hx hby rfl d1_16 (pc' := 17) rfl ?_
  refine own_lmul X0 hx hby rfl d1_17 (pc' := 18) rfl ?_
  refine own_lsub X0 hx hby rfl d1_18 (pc' := 19) rfl ?_
  exact own_retL X0 hx hby Bd.notSynchronized Bd.returns d1_19 (by decide) (by decide) eH0 ⟨rfl, N0, rfl⟩
theorem ef2 (m : MethodId) (x0 : Addr) (x1 : UInt64) (x2 : UInt64) : entryFrame m #[(.ref x0), (.double x1), (.double x2)] 8 = mkF m 0 #[.val (.ref x0), .val (.double x1), .second, .val (.double x2), .second, .unset, .unset, .unset] [] := by first | (simp [entryFrame, mkF, argsToLocals, Value.category]; done) | rfl
def Q2 (Z : State) (o0 : Addr) (f1 : UInt64) (f2 : UInt64) (x1 : UInt64) (y1 : UInt64) (x2 : UInt64) (y2 : UInt64) (x3 : UInt64) (y3 : UInt64) (h0 : Heap) (n0 : Nat) (v : Option Value) (h : Heap) (L : List Loc) : Prop := v = some (.int (if (if dgt y3 f2 then (1 : Int32) else (0 : Int32)) = (if dgt y1 f2 then (1 : Int32) else (0 : Int32)) then (if (if dgt y2 f2 then (1 : Int32) else (0 : Int32)) = (if dgt y3 f2 then (1 : Int32) else (0 : Int32)) then (if (if dgt y1 f2 then (1 : Int32) else (0 : Int32)) = (if dgt y2 f2 then (1 : Int32) else (0 : Int32)) then (0 : Int32) else (if dlt f1 (FP.dadd x1 (FP.ddiv (FP.dmul (FP.dsub f2 y1) (FP.dsub x2 x1)) (FP.dsub y2 y1))) then (1 : Int32) else (0 : Int32))) else (if dlt f1 (FP.dadd x2 (FP.ddiv (FP.dmul (FP.dsub f2 y2) (FP.dsub x3 x2)) (FP.dsub y3 y2))) then (if (if (if dgt y1 f2 then (1 : Int32) else (0 : Int32)) = (if dgt y2 f2 then (1 : Int32) else (0 : Int32)) then (0 : Int32) else (if dlt f1 (FP.dadd x1 (FP.ddiv (FP.dmul (FP.dsub f2 y1) (FP.dsub x2 x1)) (FP.dsub y2 y1))) then (1 : Int32) else (0 : Int32))) = 0 then (1 : Int32) else (0 : Int32)) else (if (if dgt y1 f2 then (1 : Int32) else (0 : Int32)) = (if dgt y2 f2 then (1 : Int32) else (0 : Int32)) then (0 : Int32) else (if dlt f1 (FP.dadd x1 (FP.ddiv (FP.dmul (FP.dsub f2 y1) (FP.dsub x2 x1)) (FP.dsub y2 y1))) then (1 : Int32) else (0 : Int32))))) else (if dlt f1 (FP.dadd x3 (FP.ddiv (FP.dmul (FP.dsub f2 y3) (FP.dsub x1 x3)) (FP.dsub y1 y3))) then (if (if (if dgt y2 f2 then (1 : Int32) else (0 : Int32)) = (if dgt y3 f2 then (1 : Int32) else (0 : Int32)) then (if (if dgt y1 f2 then (1 : Int32) else (0 : Int32)) = (if dgt y2 f2 then (1 : Int32) else (0 : Int32)) then (0 : Int32) else (if dlt f1 (FP.dadd x1 (FP.ddiv (FP.dmul (FP.dsub f2 y1) (FP.dsub x2 x1)) (FP.dsub y2 y1))) then (1 : Int32) else (0 : Int32))) else (if dlt f1 (FP.dadd x2 (FP.ddiv (FP.dmul (FP.dsub f2 y2) (FP.dsub x3 x2)) (FP.dsub y3 y2))) then (if (if (if dgt y1 f2 then (1 : Int32) else (0 : Int32)) = (if dgt y2 f2 then (1 : Int32) else (0 : Int32)) then (0 : Int32) else (if dlt f1 (FP.dadd x1 (FP.ddiv (FP.dmul (FP.dsub f2 y1) (FP.dsub x2 x1)) (FP.dsub y2 y1))) then (1 : Int32) else (0 : Int32))) = 0 then (1 : Int32) else (0 : Int32)) else (if (if dgt y1 f2 then (1 : Int32) else (0 : Int32)) = (if dgt y2 f2 then (1 : Int32) else (0 : Int32)) then (0 : Int32) else (if dlt f1 (FP.dadd x1 (FP.ddiv (FP.dmul (FP.dsub f2 y1) (FP.dsub x2 x1)) (FP.dsub y2 y1))) then (1 : Int32) else (0 : Int32))))) = 0 then (1 : Int32) else (0 : Int32)) else (if (if dgt y2 f2 then (1 : Int32) else (0 : Int32)) = (if dgt y3 f2 then (1 : Int32) else (0 : Int32)) then (if (if dgt y1 f2 then (1 : Int32) else (0 : Int32)) = (if dgt y2 f2 then (1 : Int32) else (0 : Int32)) then (0 : Int32) else (if dlt f1 (FP.dadd x1 (FP.ddiv (FP.dmul (FP.dsub f2 y1) (FP.dsub x2 x1)) (FP.dsub y2 y1))) then (1 : Int32) else (0 : Int32))) else (if dlt f1 (FP.dadd x2 (FP.ddiv (FP.dmul (FP.dsub f2 y2) (FP.dsub x3 x2)) (FP.dsub y3 y2))) then (if (if (if dgt y1 f2 then (1 : Int32) else (0 : Int32)) = (if dgt y2 f2 then (1 : Int32) else (0 : Int32)) then (0 : Int32) else (if dlt f1 (FP.dadd x1 (FP.ddiv (FP.dmul (FP.dsub f2 y1) (FP.dsub x2 x1)) (FP.dsub y2 y1))) then (1 : Int32) else (0 : Int32))) = 0 then (1 : Int32) else (0 : Int32)) else (if (if dgt y1 f2 then (1 : Int32) else (0 : Int32)) = (if dgt y2 f2 then (1 : Int32) else (0 : Int32)) then (0 : Int32) else (if dlt f1 (FP.dadd x1 (FP.ddiv (FP.dmul (FP.dsub f2 y1) (FP.dsub x2 x1)) (FP.dsub y2 y1))) then (1 : Int32) else (0 : Int32)))))))) ∧ Fr n0 L ∧ h0 = h
set_option maxRecDepth 65536 in
set_option maxHeartbeats 40000000 in
theorem rm2 (l : Launch) (Z : State) (a0 : Array Value) (hw : ∀ d ∈ tables_1, d.before a0 Z = true) (ws : List Jvm.Cond) (o0 : Addr) (f1 : UInt64) (f2 : UInt64) (x1 : UInt64) (y1 : UInt64) (x2 : UInt64) (y2 : UInt64) (x3 : UInt64) (y3 : UInt64) (h0 : Heap) (n0 : Nat) (Z0 : n0 ≤ h0.size) (V_o0 : Ary tr Z h0 o0 .double [(.double x1), (.double y1), (.double x2), (.double y2), (.double x3), (.double y3)]) (hn69_1 : ((¬ ((if dgt y1 f2 then (1 : Int32) else (0 : Int32)) = (if dgt y2 f2 then (1 : Int32) else (0 : Int32)))) → NoNaN64 (FP.dsub f2 y1))) (hn78_1 : ((¬ ((if dgt y1 f2 then (1 : Int32) else (0 : Int32)) = (if dgt y2 f2 then (1 : Int32) else (0 : Int32)))) → NoNaN64 (FP.dsub x2 x1))) (hn79_1 : ((¬ ((if dgt y1 f2 then (1 : Int32) else (0 : Int32)) = (if dgt y2 f2 then (1 : Int32) else (0 : Int32)))) → NoNaN64 (FP.dmul (FP.dsub f2 y1) (FP.dsub x2 x1)))) (hn92_1 : ((¬ ((if dgt y1 f2 then (1 : Int32) else (0 : Int32)) = (if dgt y2 f2 then (1 : Int32) else (0 : Int32)))) → NoNaN64 (FP.dsub y2 y1))) (hn93_1 : ((¬ ((if dgt y1 f2 then (1 : Int32) else (0 : Int32)) = (if dgt y2 f2 then (1 : Int32) else (0 : Int32)))) → NoNaN64 (FP.ddiv (FP.dmul (FP.dsub f2 y1) (FP.dsub x2 x1)) (FP.dsub y2 y1)))) (hn94_1 : ((¬ ((if dgt y1 f2 then (1 : Int32) else (0 : Int32)) = (if dgt y2 f2 then (1 : Int32) else (0 : Int32)))) → NoNaN64 (FP.dadd x1 (FP.ddiv (FP.dmul (FP.dsub f2 y1) (FP.dsub x2 x1)) (FP.dsub y2 y1))))) (hn69_2 : ((¬ ((if dgt y2 f2 then (1 : Int32) else (0 : Int32)) = (if dgt y3 f2 then (1 : Int32) else (0 : Int32)))) → NoNaN64 (FP.dsub f2 y2))) (hn78_2 : ((¬ ((if dgt y2 f2 then (1 : Int32) else (0 : Int32)) = (if dgt y3 f2 then (1 : Int32) else (0 : Int32)))) → NoNaN64 (FP.dsub x3 x2))) (hn79_2 : ((¬ ((if dgt y2 f2 then (1 : Int32) else (0 : Int32)) = (if dgt y3 f2 then (1 : Int32) else (0 : Int32)))) → NoNaN64 (FP.dmul (FP.dsub f2 y2) (FP.dsub x3 x2)))) (hn92_2 : ((¬ ((if dgt y2 f2 then (1 : Int32) else (0 : Int32)) = (if dgt y3 f2 then (1 : Int32) else (0 : Int32)))) → NoNaN64 (FP.dsub y3 y2))) (hn93_2 : ((¬ ((if dgt y2 f2 then (1 : Int32) else (0 : Int32)) = (if dgt y3 f2 then (1 : Int32) else (0 : Int32)))) → NoNaN64 (FP.ddiv (FP.dmul (FP.dsub f2 y2) (FP.dsub x3 x2)) (FP.dsub y3 y2)))) (hn94_2 : ((¬ ((if dgt y2 f2 then (1 : Int32) else (0 : Int32)) = (if dgt y3 f2 then (1 : Int32) else (0 : Int32)))) → NoNaN64 (FP.dadd x2 (FP.ddiv (FP.dmul (FP.dsub f2 y2) (FP.dsub x3 x2)) (FP.dsub y3 y2))))) (hn69_3 : ((¬ ((if dgt y3 f2 then (1 : Int32) else (0 : Int32)) = (if dgt y1 f2 then (1 : Int32) else (0 : Int32)))) → NoNaN64 (FP.dsub f2 y3))) (hn78_3 : ((¬ ((if dgt y3 f2 then (1 : Int32) else (0 : Int32)) = (if dgt y1 f2 then (1 : Int32) else (0 : Int32)))) → NoNaN64 (FP.dsub x1 x3))) (hn79_3 : ((¬ ((if dgt y3 f2 then (1 : Int32) else (0 : Int32)) = (if dgt y1 f2 then (1 : Int32) else (0 : Int32)))) → NoNaN64 (FP.dmul (FP.dsub f2 y3) (FP.dsub x1 x3)))) (hn92_3 : ((¬ ((if dgt y3 f2 then (1 : Int32) else (0 : Int32)) = (if dgt y1 f2 then (1 : Int32) else (0 : Int32)))) → NoNaN64 (FP.dsub y1 y3))) (hn93_3 : ((¬ ((if dgt y3 f2 then (1 : Int32) else (0 : Int32)) = (if dgt y1 f2 then (1 : Int32) else (0 : Int32)))) → NoNaN64 (FP.ddiv (FP.dmul (FP.dsub f2 y3) (FP.dsub x1 x3)) (FP.dsub y1 y3)))) (hn94_3 : ((¬ ((if dgt y3 f2 then (1 : Int32) else (0 : Int32)) = (if dgt y1 f2 then (1 : Int32) else (0 : Int32)))) → NoNaN64 (FP.dadd x3 (FP.ddiv (FP.dmul (FP.dsub f2 y3) (FP.dsub x1 x3)) (FP.dsub y1 y3))))) :
    MetFree l (⟨"com/example/dido/dido/PlanarRing", "holds", "([DDD)Z"⟩ : MethodName) (head1 (Jvm.Cond.code (⟨"com/example/dido/dido/PlanarRing", "holds", "([DDD)Z"⟩ : MethodName) prog_15_method_4_code 8 (some .boolean) :: ws) ({ frames := 0, cells := 0, slots := 0, locals := 0 } : Room)) (fun a U => a = #[(.ref o0), (.double f1), (.double f2)] ∧ Z.Warmed39 U.vm ∧ U.heap = h0) (fun _ _ _ _ _ => True) (fun _ U o U' => ∃ v L, o = .returned v ∧ Q2 Z o0 f1 f2 x1 y1 x2 y2 x3 y3 h0 n0 v U'.heap L ∧ FrameEnd U o U' L ({ frames := 0, cells := 0, slots := 0, locals := 0 } : Room).cells ({ frames := 0, cells := 0, slots := 0, locals := 0 } : Room).slots) := by
  refine MetFree.of_bodySF (plainFor_of_name pn_com_example_dido_dido_PlanarRing) hisR ?_
  intro p e s m args below meth c s₁ Bd hml0 hP hK
  obtain ⟨rfl, hZ, hh⟩ := hP
  have hx := Bd.exec
  have hby := Bd.bytes
  have hml : c.maxLocals = 8 := hml0
  have hown : s.vm.findClass "com/example/dido/dido/PlanarRing" = some m.cls := findClass_of_methodNamed Bd.named
  have hnm := (name_of_methodNamed Bd.named Bd.method).1
  have X0 : Stand p l e ({ frames := 0, cells := 0, slots := 0, locals := 0 } : Room) s m #[(.ref o0), (.double f1), (.double f2)] below meth c s₁ [] 0 0 := Stand.of_body Bd
  have eH0 : s₁.heap = h0 := by rw [← hh, Bd.state]; rfl
  have N0 := Fr.nil n0
  show Gt p.tables e below (fun o U' => ∃ v L, o = .returned v ∧ Q2 Z o0 f1 f2 x1 y1 x2 y2 x3 y3 h0 n0 v U'.heap L ∧ FrameEnd s o U' L ({ frames := 0, cells := 0, slots := 0, locals := 0 } : Room).cells ({ frames := 0, cells := 0, slots := 0, locals := 0 } : Room).slots) _
  refine own_cast (ef2 m o0 f1 f2) ?_
  refine own_iconst X0 hx hby (v := (0 : Int32)) (by decide) d2_0 (pc' := 1) rfl ?_
  refine own_istore X0 hx hby (L' := #[.val (.ref o0), .val (.double f1), .second, .val (.double f2), .second, .val (.int (0 : Int32)), .unset, .unset]) rfl d2_1 (pc' := 3) rfl ?_
  refine own_iconst X0 hx hby (v := (0 : Int32)) (by decide) d2_3 (pc' := 4) rfl ?_
  refine own_istore X0 hx hby (L' := #[.val (.ref o0), .val (.double f1), .second, .val (.double f2), .second, .val (.int (0 : Int32)), .val (.int (0 : Int32)), .unset]) rfl d2_4 (pc' := 6) rfl ?_
  refine own_iload X0 hx hby rfl d2_6 (pc' := 8) rfl ?_
  refine own_aloadN X0 hx hby rfl rfl d2_8 (pc' := 9) rfl ?_
  refine own_alen X0 hx hby hZ eH0 V_o0 (z := (6 : Int32)) (by first | rfl | decide) d2_9 (pc' := 10) rfl ?_
  refine own_icF X0 hx hby d2_10 (by decide) (pc' := 13) rfl ?_
  refine own_iload X0 hx hby rfl d2_13 (pc' := 15) rfl ?_
  refine own_iconst X0 hx hby (v := (2 : Int32)) (by decide) d2_15 (pc' := 16) rfl ?_
  refine own_iadd X0 hx hby (v := (2 : Int32)) (by decide) d2_16 (pc' := 17) rfl ?_
  refine own_aloadN X0 hx hby rfl rfl d2_17 (pc' := 18) rfl ?_
  refine own_alen X0 hx hby hZ eH0 V_o0 (z := (6 : Int32)) (by first | rfl | decide) d2_18 (pc' := 19) rfl ?_
  refine own_irem X0 hx hby (by decide) (v := (2 : Int32)) (by decide) d2_19 (pc' := 20) rfl ?_
  refine own_istore X0 hx hby (L' := #[.val (.ref o0), .val (.double f1), .second, .val (.double f2), .second, .val (.int (0 : Int32)), .val (.int (0 : Int32)), .val (.int (2 : Int32))]) rfl d2_20 (pc' := 22) rfl ?_
  refine own_aloadN X0 hx hby rfl rfl d2_22 (pc' := 23) rfl ?_
  refine own_iload X0 hx hby rfl d2_23 (pc' := 25) rfl ?_
  refine own_iconst X0 hx hby (v := (1 : Int32)) (by decide) d2_25 (pc' := 26) rfl ?_
  refine own_iadd X0 hx hby (v := (1 : Int32)) (by decide) d2_26 (pc' := 27) rfl ?_
  refine own_daload X0 hx hby hZ eH0 V_o0 (by decide) (v := (.double y1)) rfl d2_27 (pc' := 28) rfl ?_
  refine own_dloadN X0 hx hby rfl d2_28 (pc' := 29) rfl ?_
  refine own_dcmp X0 hx hby rfl d2_29 (pc' := 30) rfl ?_
  refine own_join (S' := s₁.setTop (mkF m 38 #[.val (.ref o0), .val (.double f1), .second, .val (.double f2), .second, .val (.int (0 : Int32)), .val (.int (0 : Int32)), .val (.int (2 : Int32))] [(.int (if dgt y1 f2 then (1 : Int32) else (0 : Int32)))])) (fun F' k' => ?_) ?_
  · revert k'; intro k'
    by_cases hc1 : dgt y1 f2
    · simp only [if_pos hc1] at k'
      refine own_ifF X0 hx hby d2_30 (own_dl_le_p hc1) (pc' := 33) rfl ?_
      refine own_iconst X0 hx hby (v := (1 : Int32)) (by decide) d2_33 (pc' := 34) rfl ?_
      refine own_goto X0 hx hby d2_34 (by decide) (pc' := 38) (by decide) ?_
      exact k'
    · simp only [if_neg hc1] at k'
      refine own_ifT X0 hx hby d2_30 (own_dl_le_n hc1) (by decide) (pc' := 37) (by decide) ?_
      refine own_iconst X0 hx hby (v := (0 : Int32)) (by decide) d2_37 (pc' := 38) rfl ?_
      exact k'
  refine own_aloadN X0 hx hby rfl rfl d2_38 (pc' := 39) rfl ?_
  refine own_iload X0 hx hby rfl d2_39 (pc' := 41) rfl ?_
  refine own_iconst X0 hx hby (v := (1 : Int32)) (by decide) d2_41 (pc' := 42) rfl ?_
  refine own_iadd X0 hx hby (v := (3 : Int32)) (by decide) d2_42 (pc' := 43) rfl ?_
  refine own_daload X0 hx hby hZ eH0 V_o0 (by decide) (v := (.double y2)) rfl d2_43 (pc' := 44) rfl ?_
  refine own_dloadN X0 hx hby rfl d2_44 (pc' := 45) rfl ?_
  refine own_dcmp X0 hx hby rfl d2_45 (pc' := 46) rfl ?_
  refine own_join (S' := s₁.setTop (mkF m 54 #[.val (.ref o0), .val (.double f1), .second, .val (.double f2), .second, .val (.int (0 : Int32)), .val (.int (0 : Int32)), .val (.int (2 : Int32))] [(.int (if dgt y2 f2 then (1 : Int32) else (0 : Int32))), (.int (if dgt y1 f2 then (1 : Int32) else (0 : Int32)))])) (fun F' k' => ?_) ?_
  · revert k'; intro k'
    by_cases hc2 : dgt y2 f2
    · simp only [if_pos hc2] at k'
      refine own_ifF X0 hx hby d2_46 (own_dl_le_p hc2) (pc' := 49) rfl ?_
      refine own_iconst X0 hx hby (v := (1 : Int32)) (by decide) d2_49 (pc' := 50) rfl ?_
      refine own_goto X0 hx hby d2_50 (by decide) (pc' := 54) (by decide) ?_
      exact k'
    · simp only [if_neg hc2] at k'
      refine own_ifT X0 hx hby d2_46 (own_dl_le_n hc2) (by decide) (pc' := 53) (by decide) ?_
      refine own_iconst X0 hx hby (v := (0 : Int32)) (by decide) d2_53 (pc' := 54) rfl ?_
      exact k'
  obtain ⟨w3, q_w3⟩ : ∃ z : Int32, (if (if dgt y1 f2 then (1 : Int32) else (0 : Int32)) = (if dgt y2 f2 then (1 : Int32) else (0 : Int32)) then (0 : Int32) else (if dlt f1 (FP.dadd x1 (FP.ddiv (FP.dmul (FP.dsub f2 y1) (FP.dsub x2 x1)) (FP.dsub y2 y1))) then (1 : Int32) else (0 : Int32))) = z := ⟨_, rfl⟩
  have b_w3 : w3 = 0 ∨ w3 = 1 := by rw [← q_w3]; exact (own_ite01 (Or.inl rfl) (own_ite01 (Or.inr rfl) (Or.inl rfl)))
  refine own_join (S' := s₁.setTop (mkF m 111 #[.val (.ref o0), .val (.double f1), .second, .val (.double f2), .second, .val (.int w3), .val (.int (0 : Int32)), .val (.int (2 : Int32))] [])) (fun F' k' => ?_) ?_
  · rw [← q_w3] at k'
    by_cases hc4 : (if dgt y1 f2 then (1 : Int32) else (0 : Int32)) = (if dgt y2 f2 then (1 : Int32) else (0 : Int32))
    · simp only [if_pos hc4] at k'
      refine own_icT X0 hx hby d2_54 (own_ic_eq_p hc4) (by decide) (pc' := 111) (by decide) ?_
      exact k'
    · simp only [if_neg hc4] at k'
      refine own_icF X0 hx hby d2_54 (own_ic_eq_n hc4) (pc' := 57) rfl ?_
      refine own_dloadN X0 hx hby rfl d2_57 (pc' := 58) rfl ?_
      refine own_aloadN X0 hx hby rfl rfl d2_58 (pc' := 59) rfl ?_
      refine own_iload X0 hx hby rfl d2_59 (pc' := 61) rfl ?_
      refine own_daload X0 hx hby hZ eH0 V_o0 (by decide) (v := (.double x1)) rfl d2_61 (pc' := 62) rfl ?_
      refine own_dloadN X0 hx hby rfl d2_62 (pc' := 63) rfl ?_
      refine own_aloadN X0 hx hby rfl rfl d2_63 (pc' := 64) rfl ?_
      refine own_iload X0 hx hby rfl d2_64 (pc' := 66) rfl ?_
      refine own_iconst X0 hx hby (v := (1 : Int32)) (by decide) d2_66 (pc' := 67) rfl ?_
      refine own_iadd X0 hx hby (v := (1 : Int32)) (by decide) d2_67 (pc' := 68) rfl ?_
      refine own_daload X0 hx hby hZ eH0 V_o0 (by decide) (v := (.double y1)) rfl d2_68 (pc' := 69) rfl ?_
      refine own_dsub X0 hx hby (hn69_1 hc4) rfl d2_69 (pc' := 70) rfl ?_
      refine own_aloadN X0 hx hby rfl rfl d2_70 (pc' := 71) rfl ?_
      refine own_iload X0 hx hby rfl d2_71 (pc' := 73) rfl ?_
      refine own_daload X0 hx hby hZ eH0 V_o0 (by decide) (v := (.double x2)) rfl d2_73 (pc' := 74) rfl ?_
      refine own_aloadN X0 hx hby rfl rfl d2_74 (pc' := 75) rfl ?_
      refine own_iload X0 hx hby rfl d2_75 (pc' := 77) rfl ?_
      refine own_daload X0 hx hby hZ eH0 V_o0 (by decide) (v := (.double x1)) rfl d2_77 (pc' := 78) rfl ?_
      refine own_dsub X0 hx hby (hn78_1 hc4) rfl d2_78 (pc' := 79) rfl ?_
      refine own_dmul X0 hx hby (hn79_1 hc4) rfl d2_79 (pc' := 80) rfl ?_
      refine own_aloadN X0 hx hby rfl rfl d2_80 (pc' := 81) rfl ?_
      refine own_iload X0 hx hby rfl d2_81 (pc' := 83) rfl ?_
      refine own_iconst X0 hx hby (v := (1 : Int32)) (by decide) d2_83 (pc' := 84) rfl ?_
      refine own_iadd X0 hx hby (v := (3 : Int32)) (by decide) d2_84 (pc' := 85) rfl ?_
      refine own_daload X0 hx hby hZ eH0 V_o0 (by decide) (v := (.double y2)) rfl d2_85 (pc' := 86) rfl ?_
      refine own_aloadN X0 hx hby rfl rfl d2_86 (pc' := 87) rfl ?_
      refine own_iload X0 hx hby rfl d2_87 (pc' := 89) rfl ?_
      refine own_iconst X0 hx hby (v := (1 : Int32)) (by decide) d2_89 (pc' := 90) rfl ?_
      refine own_iadd X0 hx hby (v := (1 : Int32)) (by decide) d2_90 (pc' := 91) rfl ?_
      refine own_daload X0 hx hby hZ eH0 V_o0 (by decide) (v := (.double y1)) rfl d2_91 (pc' := 92) rfl ?_
      refine own_dsub X0 hx hby (hn92_1 hc4) rfl d2_92 (pc' := 93) rfl ?_
      refine own_ddiv X0 hx hby (hn93_1 hc4) rfl d2_93 (pc' := 94) rfl ?_
      refine own_dadd X0 hx hby (hn94_1 hc4) rfl d2_94 (pc' := 95) rfl ?_
      refine own_dcmp X0 hx hby rfl d2_95 (pc' := 96) rfl ?_
      by_cases hc5 : dlt f1 (FP.dadd x1 (FP.ddiv (FP.dmul (FP.dsub f2 y1) (FP.dsub x2 x1)) (FP.dsub y2 y1)))
      · simp only [if_pos hc5] at k'
        refine own_ifF X0 hx hby d2_96 (own_dg_ge_p hc5) (pc' := 99) rfl ?_
        refine own_iload X0 hx hby rfl d2_99 (pc' := 101) rfl ?_
        refine own_ifF X0 hx hby d2_101 (by decide) (pc' := 104) rfl ?_
        refine own_iconst X0 hx hby (v := (1 : Int32)) (by decide) d2_104 (pc' := 105) rfl ?_
        refine own_goto X0 hx hby d2_105 (by decide) (pc' := 109) (by decide) ?_
        refine own_istore X0 hx hby (L' := #[.val (.ref o0), .val (.double f1), .second, .val (.double f2), .second, .val (.int (1 : Int32)), .val (.int (0 : Int32)), .val (.int (2 : Int32))]) rfl d2_109 (pc' := 111) rfl ?_
        exact k'
      · simp only [if_neg hc5] at k'
        refine own_ifT X0 hx hby d2_96 (own_dg_ge_n hc5) (by decide) (pc' := 111) (by decide) ?_
        exact k'
  refine own_iinc X0 hx hby rfl (L' := #[.val (.ref o0), .val (.double f1), .second, .val (.double f2), .second, .val (.int w3), .val (.int (2 : Int32)), .val (.int (2 : Int32))]) rfl d2_111 (pc' := 114) rfl ?_
  refine own_goto X0 hx hby d2_114 (by decide) (pc' := 6) (by decide) ?_
  refine own_iload X0 hx hby rfl d2_6 (pc' := 8) rfl ?_
  refine own_aloadN X0 hx hby rfl rfl d2_8 (pc' := 9) rfl ?_
  refine own_alen X0 hx hby hZ eH0 V_o0 (z := (6 : Int32)) (by first | rfl | decide) d2_9 (pc' := 10) rfl ?_
  refine own_icF X0 hx hby d2_10 (by decide) (pc' := 13) rfl ?_
  refine own_iload X0 hx hby rfl d2_13 (pc' := 15) rfl ?_
  refine own_iconst X0 hx hby (v := (2 : Int32)) (by decide) d2_15 (pc' := 16) rfl ?_
  refine own_iadd X0 hx hby (v := (4 : Int32)) (by decide) d2_16 (pc' := 17) rfl ?_
  refine own_aloadN X0 hx hby rfl rfl d2_17 (pc' := 18) rfl ?_
  refine own_alen X0 hx hby hZ eH0 V_o0 (z := (6 : Int32)) (by first | rfl | decide) d2_18 (pc' := 19) rfl ?_
  refine own_irem X0 hx hby (by decide) (v := (4 : Int32)) (by decide) d2_19 (pc' := 20) rfl ?_
  refine own_istore X0 hx hby (L' := #[.val (.ref o0), .val (.double f1), .second, .val (.double f2), .second, .val (.int w3), .val (.int (2 : Int32)), .val (.int (4 : Int32))]) rfl d2_20 (pc' := 22) rfl ?_
  refine own_aloadN X0 hx hby rfl rfl d2_22 (pc' := 23) rfl ?_
  refine own_iload X0 hx hby rfl d2_23 (pc' := 25) rfl ?_
  refine own_iconst X0 hx hby (v := (1 : Int32)) (by decide) d2_25 (pc' := 26) rfl ?_
  refine own_iadd X0 hx hby (v := (3 : Int32)) (by decide) d2_26 (pc' := 27) rfl ?_
  refine own_daload X0 hx hby hZ eH0 V_o0 (by decide) (v := (.double y2)) rfl d2_27 (pc' := 28) rfl ?_
  refine own_dloadN X0 hx hby rfl d2_28 (pc' := 29) rfl ?_
  refine own_dcmp X0 hx hby rfl d2_29 (pc' := 30) rfl ?_
  refine own_join (S' := s₁.setTop (mkF m 38 #[.val (.ref o0), .val (.double f1), .second, .val (.double f2), .second, .val (.int w3), .val (.int (2 : Int32)), .val (.int (4 : Int32))] [(.int (if dgt y2 f2 then (1 : Int32) else (0 : Int32)))])) (fun F' k' => ?_) ?_
  · revert k'; intro k'
    by_cases hc6 : dgt y2 f2
    · simp only [if_pos hc6] at k'
      refine own_ifF X0 hx hby d2_30 (own_dl_le_p hc6) (pc' := 33) rfl ?_
      refine own_iconst X0 hx hby (v := (1 : Int32)) (by decide) d2_33 (pc' := 34) rfl ?_
      refine own_goto X0 hx hby d2_34 (by decide) (pc' := 38) (by decide) ?_
      exact k'
    · simp only [if_neg hc6] at k'
      refine own_ifT X0 hx hby d2_30 (own_dl_le_n hc6) (by decide) (pc' := 37) (by decide) ?_
      refine own_iconst X0 hx hby (v := (0 : Int32)) (by decide) d2_37 (pc' := 38) rfl ?_
      exact k'
  refine own_aloadN X0 hx hby rfl rfl d2_38 (pc' := 39) rfl ?_
  refine own_iload X0 hx hby rfl d2_39 (pc' := 41) rfl ?_
  refine own_iconst X0 hx hby (v := (1 : Int32)) (by decide) d2_41 (pc' := 42) rfl ?_
  refine own_iadd X0 hx hby (v := (5 : Int32)) (by decide) d2_42 (pc' := 43) rfl ?_
  refine own_daload X0 hx hby hZ eH0 V_o0 (by decide) (v := (.double y3)) rfl d2_43 (pc' := 44) rfl ?_
  refine own_dloadN X0 hx hby rfl d2_44 (pc' := 45) rfl ?_
  refine own_dcmp X0 hx hby rfl d2_45 (pc' := 46) rfl ?_
  refine own_join (S' := s₁.setTop (mkF m 54 #[.val (.ref o0), .val (.double f1), .second, .val (.double f2), .second, .val (.int w3), .val (.int (2 : Int32)), .val (.int (4 : Int32))] [(.int (if dgt y3 f2 then (1 : Int32) else (0 : Int32))), (.int (if dgt y2 f2 then (1 : Int32) else (0 : Int32)))])) (fun F' k' => ?_) ?_
  · revert k'; intro k'
    by_cases hc7 : dgt y3 f2
    · simp only [if_pos hc7] at k'
      refine own_ifF X0 hx hby d2_46 (own_dl_le_p hc7) (pc' := 49) rfl ?_
      refine own_iconst X0 hx hby (v := (1 : Int32)) (by decide) d2_49 (pc' := 50) rfl ?_
      refine own_goto X0 hx hby d2_50 (by decide) (pc' := 54) (by decide) ?_
      exact k'
    · simp only [if_neg hc7] at k'
      refine own_ifT X0 hx hby d2_46 (own_dl_le_n hc7) (by decide) (pc' := 53) (by decide) ?_
      refine own_iconst X0 hx hby (v := (0 : Int32)) (by decide) d2_53 (pc' := 54) rfl ?_
      exact k'
  obtain ⟨w8, q_w8⟩ : ∃ z : Int32, (if (if dgt y2 f2 then (1 : Int32) else (0 : Int32)) = (if dgt y3 f2 then (1 : Int32) else (0 : Int32)) then w3 else (if dlt f1 (FP.dadd x2 (FP.ddiv (FP.dmul (FP.dsub f2 y2) (FP.dsub x3 x2)) (FP.dsub y3 y2))) then (if w3 = 0 then (1 : Int32) else (0 : Int32)) else w3)) = z := ⟨_, rfl⟩
  have b_w8 : w8 = 0 ∨ w8 = 1 := by rw [← q_w8]; exact (own_ite01 b_w3 (own_ite01 (own_ite01 (Or.inr rfl) (Or.inl rfl)) b_w3))
  refine own_join (S' := s₁.setTop (mkF m 111 #[.val (.ref o0), .val (.double f1), .second, .val (.double f2), .second, .val (.int w8), .val (.int (2 : Int32)), .val (.int (4 : Int32))] [])) (fun F' k' => ?_) ?_
  · rw [← q_w8] at k'
    by_cases hc9 : (if dgt y2 f2 then (1 : Int32) else (0 : Int32)) = (if dgt y3 f2 then (1 : Int32) else (0 : Int32))
    · simp only [if_pos hc9] at k'
      refine own_icT X0 hx hby d2_54 (own_ic_eq_p hc9) (by decide) (pc' := 111) (by decide) ?_
      exact k'
    · simp only [if_neg hc9] at k'
      refine own_icF X0 hx hby d2_54 (own_ic_eq_n hc9) (pc' := 57) rfl ?_
      refine own_dloadN X0 hx hby rfl d2_57 (pc' := 58) rfl ?_
      refine own_aloadN X0 hx hby rfl rfl d2_58 (pc' := 59) rfl ?_
      refine own_iload X0 hx hby rfl d2_59 (pc' := 61) rfl ?_
      refine own_daload X0 hx hby hZ eH0 V_o0 (by decide) (v := (.double x2)) rfl d2_61 (pc' := 62) rfl ?_
      refine own_dloadN X0 hx hby rfl d2_62 (pc' := 63) rfl ?_
      refine own_aloadN X0 hx hby rfl rfl d2_63 (pc' := 64) rfl ?_
      refine own_iload X0 hx hby rfl d2_64 (pc' := 66) rfl ?_
      refine own_iconst X0 hx hby (v := (1 : Int32)) (by decide) d2_66 (pc' := 67) rfl ?_
      refine own_iadd X0 hx hby (v := (3 : Int32)) (by decide) d2_67 (pc' := 68) rfl ?_
      refine own_daload X0 hx hby hZ eH0 V_o0 (by decide) (v := (.double y2)) rfl d2_68 (pc' := 69) rfl ?_
      refine own_dsub X0 hx hby (hn69_2 hc9) rfl d2_69 (pc' := 70) rfl ?_
      refine own_aloadN X0 hx hby rfl rfl d2_70 (pc' := 71) rfl ?_
      refine own_iload X0 hx hby rfl d2_71 (pc' := 73) rfl ?_
      refine own_daload X0 hx hby hZ eH0 V_o0 (by decide) (v := (.double x3)) rfl d2_73 (pc' := 74) rfl ?_
      refine own_aloadN X0 hx hby rfl rfl d2_74 (pc' := 75) rfl ?_
      refine own_iload X0 hx hby rfl d2_75 (pc' := 77) rfl ?_
      refine own_daload X0 hx hby hZ eH0 V_o0 (by decide) (v := (.double x2)) rfl d2_77 (pc' := 78) rfl ?_
      refine own_dsub X0 hx hby (hn78_2 hc9) rfl d2_78 (pc' := 79) rfl ?_
      refine own_dmul X0 hx hby (hn79_2 hc9) rfl d2_79 (pc' := 80) rfl ?_
      refine own_aloadN X0 hx hby rfl rfl d2_80 (pc' := 81) rfl ?_
      refine own_iload X0 hx hby rfl d2_81 (pc' := 83) rfl ?_
      refine own_iconst X0 hx hby (v := (1 : Int32)) (by decide) d2_83 (pc' := 84) rfl ?_
      refine own_iadd X0 hx hby (v := (5 : Int32)) (by decide) d2_84 (pc' := 85) rfl ?_
      refine own_daload X0 hx hby hZ eH0 V_o0 (by decide) (v := (.double y3)) rfl d2_85 (pc' := 86) rfl ?_
      refine own_aloadN X0 hx hby rfl rfl d2_86 (pc' := 87) rfl ?_
      refine own_iload X0 hx hby rfl d2_87 (pc' := 89) rfl ?_
      refine own_iconst X0 hx hby (v := (1 : Int32)) (by decide) d2_89 (pc' := 90) rfl ?_
      refine own_iadd X0 hx hby (v := (3 : Int32)) (by decide) d2_90 (pc' := 91) rfl ?_
      refine own_daload X0 hx hby hZ eH0 V_o0 (by decide) (v := (.double y2)) rfl d2_91 (pc' := 92) rfl ?_
      refine own_dsub X0 hx hby (hn92_2 hc9) rfl d2_92 (pc' := 93) rfl ?_
      refine own_ddiv X0 hx hby (hn93_2 hc9) rfl d2_93 (pc' := 94) rfl ?_
      refine own_dadd X0 hx hby (hn94_2 hc9) rfl d2_94 (pc' := 95) rfl ?_
      refine own_dcmp X0 hx hby rfl d2_95 (pc' := 96) rfl ?_
      by_cases hc10 : dlt f1 (FP.dadd x2 (FP.ddiv (FP.dmul (FP.dsub f2 y2) (FP.dsub x3 x2)) (FP.dsub y3 y2)))
      · simp only [if_pos hc10] at k'
        refine own_ifF X0 hx hby d2_96 (own_dg_ge_p hc10) (pc' := 99) rfl ?_
        refine own_iload X0 hx hby rfl d2_99 (pc' := 101) rfl ?_
        by_cases hc11 : w3 = 0
        · simp only [if_pos hc11] at k'
          refine own_ifF X0 hx hby d2_101 (own_i0_ne_p hc11) (pc' := 104) rfl ?_
          refine own_iconst X0 hx hby (v := (1 : Int32)) (by decide) d2_104 (pc' := 105) rfl ?_
          refine own_goto X0 hx hby d2_105 (by decide) (pc' := 109) (by decide) ?_
          refine own_istore X0 hx hby (L' := #[.val (.ref o0), .val (.double f1), .second, .val (.double f2), .second, .val (.int (1 : Int32)), .val (.int (2 : Int32)), .val (.int (4 : Int32))]) rfl d2_109 (pc' := 111) rfl ?_
          exact k'
        · simp only [if_neg hc11] at k'
          refine own_ifT X0 hx hby d2_101 (own_i0_ne_n hc11) (by decide) (pc' := 108) (by decide) ?_
          refine own_iconst X0 hx hby (v := (0 : Int32)) (by decide) d2_108 (pc' := 109) rfl ?_
          refine own_istore X0 hx hby (L' := #[.val (.ref o0), .val (.double f1), .second, .val (.double f2), .second, .val (.int (0 : Int32)), .val (.int (2 : Int32)), .val (.int (4 : Int32))]) rfl d2_109 (pc' := 111) rfl ?_
          exact k'
      · simp only [if_neg hc10] at k'
        refine own_ifT X0 hx hby d2_96 (own_dg_ge_n hc10) (by decide) (pc' := 111) (by decide) ?_
        exact k'
  refine own_iinc X0 hx hby rfl (L' := #[.val (.ref o0), .val (.double f1), .second, .val (.double f2), .second, .val (.int w8), .val (.int (4 : Int32)), .val (.int (4 : Int32))]) rfl d2_111 (pc' := 114) rfl ?_
  refine own_goto X0 hx hby d2_114 (by decide) (pc' := 6) (by decide) ?_
  refine own_iload X0 hx hby rfl d2_6 (pc' := 8) rfl ?_
  refine own_aloadN X0 hx hby rfl rfl d2_8 (pc' := 9) rfl ?_
  refine own_alen X0 hx hby hZ eH0 V_o0 (z := (6 : Int32)) (by first | rfl | decide) d2_9 (pc' := 10) rfl ?_
  refine own_icF X0 hx hby d2_10 (by decide) (pc' := 13) rfl ?_
  refine own_iload X0 hx hby rfl d2_13 (pc' := 15) rfl ?_
  refine own_iconst X0 hx hby (v := (2 : Int32)) (by decide) d2_15 (pc' := 16) rfl ?_
  refine own_iadd X0 hx hby (v := (6 : Int32)) (by decide) d2_16 (pc' := 17) rfl ?_
  refine own_aloadN X0 hx hby rfl rfl d2_17 (pc' := 18) rfl ?_
  refine own_alen X0 hx hby hZ eH0 V_o0 (z := (6 : Int32)) (by first | rfl | decide) d2_18 (pc' := 19) rfl ?_
  refine own_irem X0 hx hby (by decide) (v := (0 : Int32)) (by decide) d2_19 (pc' := 20) rfl ?_
  refine own_istore X0 hx hby (L' := #[.val (.ref o0), .val (.double f1), .second, .val (.double f2), .second, .val (.int w8), .val (.int (4 : Int32)), .val (.int (0 : Int32))]) rfl d2_20 (pc' := 22) rfl ?_
  refine own_aloadN X0 hx hby rfl rfl d2_22 (pc' := 23) rfl ?_
  refine own_iload X0 hx hby rfl d2_23 (pc' := 25) rfl ?_
  refine own_iconst X0 hx hby (v := (1 : Int32)) (by decide) d2_25 (pc' := 26) rfl ?_
  refine own_iadd X0 hx hby (v := (5 : Int32)) (by decide) d2_26 (pc' := 27) rfl ?_
  refine own_daload X0 hx hby hZ eH0 V_o0 (by decide) (v := (.double y3)) rfl d2_27 (pc' := 28) rfl ?_
  refine own_dloadN X0 hx hby rfl d2_28 (pc' := 29) rfl ?_
  refine own_dcmp X0 hx hby rfl d2_29 (pc' := 30) rfl ?_
  refine own_join (S' := s₁.setTop (mkF m 38 #[.val (.ref o0), .val (.double f1), .second, .val (.double f2), .second, .val (.int w8), .val (.int (4 : Int32)), .val (.int (0 : Int32))] [(.int (if dgt y3 f2 then (1 : Int32) else (0 : Int32)))])) (fun F' k' => ?_) ?_
  · revert k'; intro k'
    by_cases hc12 : dgt y3 f2
    · simp only [if_pos hc12] at k'
      refine own_ifF X0 hx hby d2_30 (own_dl_le_p hc12) (pc' := 33) rfl ?_
      refine own_iconst X0 hx hby (v := (1 : Int32)) (by decide) d2_33 (pc' := 34) rfl ?_
      refine own_goto X0 hx hby d2_34 (by decide) (pc' := 38) (by decide) ?_
      exact k'
    · simp only [if_neg hc12] at k'
      refine own_ifT X0 hx hby d2_30 (own_dl_le_n hc12) (by decide) (pc' := 37) (by decide) ?_
      refine own_iconst X0 hx hby (v := (0 : Int32)) (by decide) d2_37 (pc' := 38) rfl ?_
      exact k'
  refine own_aloadN X0 hx hby rfl rfl d2_38 (pc' := 39) rfl ?_
  refine own_iload X0 hx hby rfl d2_39 (pc' := 41) rfl ?_
  refine own_iconst X0 hx hby (v := (1 : Int32)) (by decide) d2_41 (pc' := 42) rfl ?_
  refine own_iadd X0 hx hby (v := (1 : Int32)) (by decide) d2_42 (pc' := 43) rfl ?_
  refine own_daload X0 hx hby hZ eH0 V_o0 (by decide) (v := (.double y1)) rfl d2_43 (pc' := 44) rfl ?_
  refine own_dloadN X0 hx hby rfl d2_44 (pc' := 45) rfl ?_
  refine own_dcmp X0 hx hby rfl d2_45 (pc' := 46) rfl ?_
  refine own_join (S' := s₁.setTop (mkF m 54 #[.val (.ref o0), .val (.double f1), .second, .val (.double f2), .second, .val (.int w8), .val (.int (4 : Int32)), .val (.int (0 : Int32))] [(.int (if dgt y1 f2 then (1 : Int32) else (0 : Int32))), (.int (if dgt y3 f2 then (1 : Int32) else (0 : Int32)))])) (fun F' k' => ?_) ?_
  · revert k'; intro k'
    by_cases hc13 : dgt y1 f2
    · simp only [if_pos hc13] at k'
      refine own_ifF X0 hx hby d2_46 (own_dl_le_p hc13) (pc' := 49) rfl ?_
      refine own_iconst X0 hx hby (v := (1 : Int32)) (by decide) d2_49 (pc' := 50) rfl ?_
      refine own_goto X0 hx hby d2_50 (by decide) (pc' := 54) (by decide) ?_
      exact k'
    · simp only [if_neg hc13] at k'
      refine own_ifT X0 hx hby d2_46 (own_dl_le_n hc13) (by decide) (pc' := 53) (by decide) ?_
      refine own_iconst X0 hx hby (v := (0 : Int32)) (by decide) d2_53 (pc' := 54) rfl ?_
      exact k'
  obtain ⟨w14, q_w14⟩ : ∃ z : Int32, (if (if dgt y3 f2 then (1 : Int32) else (0 : Int32)) = (if dgt y1 f2 then (1 : Int32) else (0 : Int32)) then w8 else (if dlt f1 (FP.dadd x3 (FP.ddiv (FP.dmul (FP.dsub f2 y3) (FP.dsub x1 x3)) (FP.dsub y1 y3))) then (if w8 = 0 then (1 : Int32) else (0 : Int32)) else w8)) = z := ⟨_, rfl⟩
  have b_w14 : w14 = 0 ∨ w14 = 1 := by rw [← q_w14]; exact (own_ite01 b_w8 (own_ite01 (own_ite01 (Or.inr rfl) (Or.inl rfl)) b_w8))
  refine own_join (S' := s₁.setTop (mkF m 111 #[.val (.ref o0), .val (.double f1), .second, .val (.double f2), .second, .val (.int w14), .val (.int (4 : Int32)), .val (.int (0 : Int32))] [])) (fun F' k' => ?_) ?_
  · rw [← q_w14] at k'
    by_cases hc15 : (if dgt y3 f2 then (1 : Int32) else (0 : Int32)) = (if dgt y1 f2 then (1 : Int32) else (0 : Int32))
    · simp only [if_pos hc15] at k'
      refine own_icT X0 hx hby d2_54 (own_ic_eq_p hc15) (by decide) (pc' := 111) (by decide) ?_
      exact k'
    · simp only [if_neg hc15] at k'
      refine own_icF X0 hx hby d2_54 (own_ic_eq_n hc15) (pc' := 57) rfl ?_
      refine own_dloadN X0 hx hby rfl d2_57 (pc' := 58) rfl ?_
      refine own_aloadN X0 hx hby rfl rfl d2_58 (pc' := 59) rfl ?_
      refine own_iload X0 hx hby rfl d2_59 (pc' := 61) rfl ?_
      refine own_daload X0 hx hby hZ eH0 V_o0 (by decide) (v := (.double x3)) rfl d2_61 (pc' := 62) rfl ?_
      refine own_dloadN X0 hx hby rfl d2_62 (pc' := 63) rfl ?_
      refine own_aloadN X0 hx hby rfl rfl d2_63 (pc' := 64) rfl ?_
      refine own_iload X0 hx hby rfl d2_64 (pc' := 66) rfl ?_
      refine own_iconst X0 hx hby (v := (1 : Int32)) (by decide) d2_66 (pc' := 67) rfl ?_
      refine own_iadd X0 hx hby (v := (5 : Int32)) (by decide) d2_67 (pc' := 68) rfl ?_
      refine own_daload X0 hx hby hZ eH0 V_o0 (by decide) (v := (.double y3)) rfl d2_68 (pc' := 69) rfl ?_
      refine own_dsub X0 hx hby (hn69_3 hc15) rfl d2_69 (pc' := 70) rfl ?_
      refine own_aloadN X0 hx hby rfl rfl d2_70 (pc' := 71) rfl ?_
      refine own_iload X0 hx hby rfl d2_71 (pc' := 73) rfl ?_
      refine own_daload X0 hx hby hZ eH0 V_o0 (by decide) (v := (.double x1)) rfl d2_73 (pc' := 74) rfl ?_
      refine own_aloadN X0 hx hby rfl rfl d2_74 (pc' := 75) rfl ?_
      refine own_iload X0 hx hby rfl d2_75 (pc' := 77) rfl ?_
      refine own_daload X0 hx hby hZ eH0 V_o0 (by decide) (v := (.double x3)) rfl d2_77 (pc' := 78) rfl ?_
      refine own_dsub X0 hx hby (hn78_3 hc15) rfl d2_78 (pc' := 79) rfl ?_
      refine own_dmul X0 hx hby (hn79_3 hc15) rfl d2_79 (pc' := 80) rfl ?_
      refine own_aloadN X0 hx hby rfl rfl d2_80 (pc' := 81) rfl ?_
      refine own_iload X0 hx hby rfl d2_81 (pc' := 83) rfl ?_
      refine own_iconst X0 hx hby (v := (1 : Int32)) (by decide) d2_83 (pc' := 84) rfl ?_
      refine own_iadd X0 hx hby (v := (1 : Int32)) (by decide) d2_84 (pc' := 85) rfl ?_
      refine own_daload X0 hx hby hZ eH0 V_o0 (by decide) (v := (.double y1)) rfl d2_85 (pc' := 86) rfl ?_
      refine own_aloadN X0 hx hby rfl rfl d2_86 (pc' := 87) rfl ?_
      refine own_iload X0 hx hby rfl d2_87 (pc' := 89) rfl ?_
      refine own_iconst X0 hx hby (v := (1 : Int32)) (by decide) d2_89 (pc' := 90) rfl ?_
      refine own_iadd X0 hx hby (v := (5 : Int32)) (by decide) d2_90 (pc' := 91) rfl ?_
      refine own_daload X0 hx hby hZ eH0 V_o0 (by decide) (v := (.double y3)) rfl d2_91 (pc' := 92) rfl ?_
      refine own_dsub X0 hx hby (hn92_3 hc15) rfl d2_92 (pc' := 93) rfl ?_
      refine own_ddiv X0 hx hby (hn93_3 hc15) rfl d2_93 (pc' := 94) rfl ?_
      refine own_dadd X0 hx hby (hn94_3 hc15) rfl d2_94 (pc' := 95) rfl ?_
      refine own_dcmp X0 hx hby rfl d2_95 (pc' := 96) rfl ?_
      by_cases hc16 : dlt f1 (FP.dadd x3 (FP.ddiv (FP.dmul (FP.dsub f2 y3) (FP.dsub x1 x3)) (FP.dsub y1 y3)))
      · simp only [if_pos hc16] at k'
        refine own_ifF X0 hx hby d2_96 (own_dg_ge_p hc16) (pc' := 99) rfl ?_
        refine own_iload X0 hx hby rfl d2_99 (pc' := 101) rfl ?_
        by_cases hc17 : w8 = 0
        · simp only [if_pos hc17] at k'
          refine own_ifF X0 hx hby d2_101 (own_i0_ne_p hc17) (pc' := 104) rfl ?_
          refine own_iconst X0 hx hby (v := (1 : Int32)) (by decide) d2_104 (pc' := 105) rfl ?_
          refine own_goto X0 hx hby d2_105 (by decide) (pc' := 109) (by decide) ?_
          refine own_istore X0 hx hby (L' := #[.val (.ref o0), .val (.double f1), .second, .val (.double f2), .second, .val (.int (1 : Int32)), .val (.int (4 : Int32)), .val (.int (0 : Int32))]) rfl d2_109 (pc' := 111) rfl ?_
          exact k'
        · simp only [if_neg hc17] at k'
          refine own_ifT X0 hx hby d2_101 (own_i0_ne_n hc17) (by decide) (pc' := 108) (by decide) ?_
          refine own_iconst X0 hx hby (v := (0 : Int32)) (by decide) d2_108 (pc' := 109) rfl ?_
          refine own_istore X0 hx hby (L' := #[.val (.ref o0), .val (.double f1), .second, .val (.double f2), .second, .val (.int (0 : Int32)), .val (.int (4 : Int32)), .val (.int (0 : Int32))]) rfl d2_109 (pc' := 111) rfl ?_
          exact k'
      · simp only [if_neg hc16] at k'
        refine own_ifT X0 hx hby d2_96 (own_dg_ge_n hc16) (by decide) (pc' := 111) (by decide) ?_
        exact k'
  refine own_iinc X0 hx hby rfl (L' := #[.val (.ref o0), .val (.double f1), .second, .val (.double f2), .second, .val (.int w14), .val (.int (6 : Int32)), .val (.int (0 : Int32))]) rfl d2_111 (pc' := 114) rfl ?_
  refine own_goto X0 hx hby d2_114 (by decide) (pc' := 6) (by decide) ?_
  refine own_iload X0 hx hby rfl d2_6 (pc' := 8) rfl ?_
  refine own_aloadN X0 hx hby rfl rfl d2_8 (pc' := 9) rfl ?_
  refine own_alen X0 hx hby hZ eH0 V_o0 (z := (6 : Int32)) (by first | rfl | decide) d2_9 (pc' := 10) rfl ?_
  refine own_icT X0 hx hby d2_10 (by decide) (by decide) (pc' := 117) (by decide) ?_
  refine own_iload X0 hx hby rfl d2_117 (pc' := 119) rfl ?_
  exact own_retZ X0 hx hby Bd.notSynchronized Bd.returns b_w14 d2_119 (by decide) (by decide) eH0 ⟨(by rw [q_w3, q_w8, q_w14]), N0, rfl⟩
theorem ef0 (m : MethodId) (x0 : Int32) (x1 : Int32) (x2 : Int32) (x3 : Int32) : entryFrame m #[(.int x0), (.int x1), (.int x2), (.int x3)] maxLocals = mkF m 0 #[.val (.int x0), .val (.int x1), .val (.int x2), .val (.int x3), .unset, .unset, .unset, .unset, .unset, .unset, .unset, .unset, .unset, .unset, .unset, .unset, .unset, .unset, .unset, .unset] [] := by first | (simp [entryFrame, mkF, argsToLocals, Value.category, maxLocals]; done) | rfl
def Q0 (Z : State) (p0 : Int32) (p1 : Int32) (p2 : Int32) (p3 : Int32) (h0 : Heap) (n0 : Nat) (v : Option Value) (h : Heap) (L : List Loc) : Prop := v = some (.int 1) ∧ Fr n0 L
set_option maxRecDepth 65536 in
set_option maxHeartbeats 40000000 in
theorem rm0 (l : Launch) (Z : State) (a0 : Array Value) (hw : ∀ d ∈ tables_1, d.before a0 Z = true) (ws : List Jvm.Cond) (p0 : Int32) (p1 : Int32) (p2 : Int32) (p3 : Int32) (h0 : Heap) (n0 : Nat) (Z0 : n0 ≤ h0.size) :
    MetFree l x (head1 (Jvm.Cond.code x code maxLocals ret :: ws) room_1) (fun a U => a = #[(.int p0), (.int p1), (.int p2), (.int p3)] ∧ Z.Warmed39 U.vm ∧ U.heap = h0) (fun _ _ _ _ _ => True) (fun _ U o U' => ∃ v L, o = .returned v ∧ Q0 Z p0 p1 p2 p3 h0 n0 v U'.heap L ∧ FrameEnd U o U' L 16 128) := by
  refine MetFree.of_bodySF (plainFor_of_name pn_com_example_dido_dido_PlanarRingHoldsPinLaw) hisR ?_
  intro p e s m args below meth c s₁ Bd hml0 hP hK
  obtain ⟨rfl, hZ, hh⟩ := hP
  have hx := Bd.exec
  have hby := Bd.bytes
  have hml : c.maxLocals = 20 := hml0
  have hown : s.vm.findClass "com/example/dido/dido/PlanarRingHoldsPinLaw" = some m.cls := findClass_of_methodNamed Bd.named
  have hnm := (name_of_methodNamed Bd.named Bd.method).1
  have X0 : Stand p l e room_1 s m #[(.int p0), (.int p1), (.int p2), (.int p3)] below meth c s₁ [] 0 0 := Stand.of_body Bd
  have eH0 : s₁.heap = h0 := by rw [← hh, Bd.state]; rfl
  have N0 := Fr.nil n0
  show Gt p.tables e below (fun o U' => ∃ v L, o = .returned v ∧ Q0 Z p0 p1 p2 p3 h0 n0 v U'.heap L ∧ FrameEnd s o U' L 16 128) _
  refine own_cast (ef0 m p0 p1 p2 p3) ?_
  refine own_iloadN X0 hx hby rfl at_0 (pc' := 1) rfl ?_
  refine own_i2s X0 hx hby rfl at_1 (pc' := 2) rfl ?_
  generalize q_n1 : (p0.toInt16.toInt32) = n1
  refine own_istore X0 hx hby (L' := #[.val (.int p0), .val (.int p1), .val (.int p2), .val (.int p3), .val (.int n1), .unset, .unset, .unset, .unset, .unset, .unset, .unset, .unset, .unset, .unset, .unset, .unset, .unset, .unset, .unset]) rfl at_2 (pc' := 4) rfl ?_
  refine own_iloadN X0 hx hby rfl at_4 (pc' := 5) rfl ?_
  refine own_bipush X0 hx hby (v := (16 : Int32)) (by decide) at_5 (pc' := 7) rfl ?_
  refine own_ishr X0 hx hby rfl at_7 (pc' := 8) rfl ?_
  refine own_i2s X0 hx hby rfl at_8 (pc' := 9) rfl ?_
  generalize q_n2 : ((p0 >>> ((16 : Int32) &&& 31)).toInt16.toInt32) = n2
  refine own_istore X0 hx hby (L' := #[.val (.int p0), .val (.int p1), .val (.int p2), .val (.int p3), .val (.int n1), .val (.int n2), .unset, .unset, .unset, .unset, .unset, .unset, .unset, .unset, .unset, .unset, .unset, .unset, .unset, .unset]) rfl at_9 (pc' := 11) rfl ?_
  refine own_iloadN X0 hx hby rfl at_11 (pc' := 12) rfl ?_
  refine own_i2s X0 hx hby rfl at_12 (pc' := 13) rfl ?_
  generalize q_n3 : (p1.toInt16.toInt32) = n3
  refine own_istore X0 hx hby (L' := #[.val (.int p0), .val (.int p1), .val (.int p2), .val (.int p3), .val (.int n1), .val (.int n2), .val (.int n3), .unset, .unset, .unset, .unset, .unset, .unset, .unset, .unset, .unset, .unset, .unset, .unset, .unset]) rfl at_13 (pc' := 15) rfl ?_
  refine own_iloadN X0 hx hby rfl at_15 (pc' := 16) rfl ?_
  refine own_bipush X0 hx hby (v := (16 : Int32)) (by decide) at_16 (pc' := 18) rfl ?_
  refine own_ishr X0 hx hby rfl at_18 (pc' := 19) rfl ?_
  refine own_i2s X0 hx hby rfl at_19 (pc' := 20) rfl ?_
  generalize q_n4 : ((p1 >>> ((16 : Int32) &&& 31)).toInt16.toInt32) = n4
  refine own_istore X0 hx hby (L' := #[.val (.int p0), .val (.int p1), .val (.int p2), .val (.int p3), .val (.int n1), .val (.int n2), .val (.int n3), .val (.int n4), .unset, .unset, .unset, .unset, .unset, .unset, .unset, .unset, .unset, .unset, .unset, .unset]) rfl at_20 (pc' := 22) rfl ?_
  refine own_iloadN X0 hx hby rfl at_22 (pc' := 23) rfl ?_
  refine own_i2s X0 hx hby rfl at_23 (pc' := 24) rfl ?_
  generalize q_n5 : (p2.toInt16.toInt32) = n5
  refine own_istore X0 hx hby (L' := #[.val (.int p0), .val (.int p1), .val (.int p2), .val (.int p3), .val (.int n1), .val (.int n2), .val (.int n3), .val (.int n4), .val (.int n5), .unset, .unset, .unset, .unset, .unset, .unset, .unset, .unset, .unset, .unset, .unset]) rfl at_24 (pc' := 26) rfl ?_
  refine own_iloadN X0 hx hby rfl at_26 (pc' := 27) rfl ?_
  refine own_bipush X0 hx hby (v := (16 : Int32)) (by decide) at_27 (pc' := 29) rfl ?_
  refine own_ishr X0 hx hby rfl at_29 (pc' := 30) rfl ?_
  refine own_i2s X0 hx hby rfl at_30 (pc' := 31) rfl ?_
  generalize q_n6 : ((p2 >>> ((16 : Int32) &&& 31)).toInt16.toInt32) = n6
  refine own_istore X0 hx hby (L' := #[.val (.int p0), .val (.int p1), .val (.int p2), .val (.int p3), .val (.int n1), .val (.int n2), .val (.int n3), .val (.int n4), .val (.int n5), .val (.int n6), .unset, .unset, .unset, .unset, .unset, .unset, .unset, .unset, .unset, .unset]) rfl at_31 (pc' := 33) rfl ?_
  refine own_iloadN X0 hx hby rfl at_33 (pc' := 34) rfl ?_
  refine own_i2s X0 hx hby rfl at_34 (pc' := 35) rfl ?_
  generalize q_n7 : (p3.toInt16.toInt32) = n7
  refine own_istore X0 hx hby (L' := #[.val (.int p0), .val (.int p1), .val (.int p2), .val (.int p3), .val (.int n1), .val (.int n2), .val (.int n3), .val (.int n4), .val (.int n5), .val (.int n6), .val (.int n7), .unset, .unset, .unset, .unset, .unset, .unset, .unset, .unset, .unset]) rfl at_35 (pc' := 37) rfl ?_
  refine own_iloadN X0 hx hby rfl at_37 (pc' := 38) rfl ?_
  refine own_bipush X0 hx hby (v := (16 : Int32)) (by decide) at_38 (pc' := 40) rfl ?_
  refine own_ishr X0 hx hby rfl at_40 (pc' := 41) rfl ?_
  refine own_i2s X0 hx hby rfl at_41 (pc' := 42) rfl ?_
  generalize q_n8 : ((p3 >>> ((16 : Int32) &&& 31)).toInt16.toInt32) = n8
  refine own_istore X0 hx hby (L' := #[.val (.int p0), .val (.int p1), .val (.int p2), .val (.int p3), .val (.int n1), .val (.int n2), .val (.int n3), .val (.int n4), .val (.int n5), .val (.int n6), .val (.int n7), .val (.int n8), .unset, .unset, .unset, .unset, .unset, .unset, .unset, .unset]) rfl at_42 (pc' := 44) rfl ?_
  refine own_iload X0 hx hby rfl at_44 (pc' := 46) rfl ?_
  refine own_i2l X0 hx hby rfl at_46 (pc' := 47) rfl ?_
  refine own_iload X0 hx hby rfl at_47 (pc' := 49) rfl ?_
  refine own_i2l X0 hx hby rfl at_49 (pc' := 50) rfl ?_
  refine own_iload X0 hx hby rfl at_50 (pc' := 52) rfl ?_
  refine own_i2l X0 hx hby rfl at_52 (pc' := 53) rfl ?_
  refine own_iload X0 hx hby rfl at_53 (pc' := 55) rfl ?_
  refine own_i2l X0 hx hby rfl at_55 (pc' := 56) rfl ?_
  refine own_iload X0 hx hby rfl at_56 (pc' := 58) rfl ?_
  refine own_i2l X0 hx hby rfl at_58 (pc' := 59) rfl ?_
  refine own_iload X0 hx hby rfl at_59 (pc' := 61) rfl ?_
  refine own_i2l X0 hx hby rfl at_61 (pc' := 62) rfl ?_
  refine own_static X0 hx hby hZ (y := (⟨"com/example/dido/dido/PlanarRingHoldsPinLaw", "cross", "(JJJJJJ)J"⟩ : MethodName)) (rest := []) hown (hw _ (List.mem_of_getElem? (i := 0) rfl)) (hw _ (List.mem_of_getElem? (i := 1) rfl)) (hw _ (List.mem_of_getElem? (i := 3) rfl)) (hw _ (List.mem_of_getElem? (i := 2) rfl)) (by decide) (rm1 l Z a0 hw [] (n1.toInt64) (n2.toInt64) (n3.toInt64) (n4.toInt64) (n7.toInt64) (n8.toInt64) h0 n0 Z0) eH0 (by rw [hml]; rfl) (argsL := [(.long (n1.toInt64)), (.long (n2.toInt64)), (.long (n3.toInt64)), (.long (n4.toInt64)), (.long (n7.toInt64)), (.long (n8.toInt64))]) rfl (lenOf pd_0 rfl) rfl at_62 (pc' := 65) rfl (by decide) (W := 0) (Nat.le_of_eq rfl) (by decide) (by decide) (by decide) (fun T9 h9 Lc9 v9r X9 eH9 hQ9 => ?_)
  obtain ⟨rfl, Nq9, rfl⟩ := hQ9
  have N9 := Fr.app N0 Nq9
  dsimp only [Option.toList, List.cons_append, List.nil_append]
  generalize q_r10 : ((((n3.toInt64) - (n1.toInt64)) * ((n8.toInt64) - (n2.toInt64))) - (((n4.toInt64) - (n2.toInt64)) * ((n7.toInt64) - (n1.toInt64)))) = r10
  have B_n1 := own_s16 q_n1
  have B_n2 := own_s16 q_n2
  have B_n3 := own_s16 q_n3
  have B_n4 := own_s16 q_n4
  have B_n5 := own_s16 q_n5
  have B_n6 := own_s16 q_n6
  have B_n7 := own_s16 q_n7
  have B_n8 := own_s16 q_n8
  have e1 := own_cross B_n1 B_n2 B_n3 B_n4 B_n7 B_n8 q_r10
  refine own_lstore X9 hx hby (L' := #[.val (.int p0), .val (.int p1), .val (.int p2), .val (.int p3), .val (.int n1), .val (.int n2), .val (.int n3), .val (.int n4), .val (.int n5), .val (.int n6), .val (.int n7), .val (.int n8), .val (.long r10), .second, .unset, .unset, .unset, .unset, .unset, .unset]) rfl at_65 (pc' := 67) rfl ?_
  refine own_iload X9 hx hby rfl at_67 (pc' := 69) rfl ?_
  refine own_i2l X9 hx hby rfl at_69 (pc' := 70) rfl ?_
  refine own_iload X9 hx hby rfl at_70 (pc' := 72) rfl ?_
  refine own_i2l X9 hx hby rfl at_72 (pc' := 73) rfl ?_
  refine own_iload X9 hx hby rfl at_73 (pc' := 75) rfl ?_
  refine own_i2l X9 hx hby rfl at_75 (pc' := 76) rfl ?_
  refine own_iload X9 hx hby rfl at_76 (pc' := 78) rfl ?_
  refine own_i2l X9 hx hby rfl at_78 (pc' := 79) rfl ?_
  refine own_iload X9 hx hby rfl at_79 (pc' := 81) rfl ?_
  refine own_i2l X9 hx hby rfl at_81 (pc' := 82) rfl ?_
  refine own_iload X9 hx hby rfl at_82 (pc' := 84) rfl ?_
  refine own_i2l X9 hx hby rfl at_84 (pc' := 85) rfl ?_
  refine own_static X9 hx hby hZ (y := (⟨"com/example/dido/dido/PlanarRingHoldsPinLaw", "cross", "(JJJJJJ)J"⟩ : MethodName)) (rest := []) hown (hw _ (List.mem_of_getElem? (i := 0) rfl)) (hw _ (List.mem_of_getElem? (i := 1) rfl)) (hw _ (List.mem_of_getElem? (i := 3) rfl)) (hw _ (List.mem_of_getElem? (i := 2) rfl)) (by decide) (rm1 l Z a0 hw [] (n3.toInt64) (n4.toInt64) (n5.toInt64) (n6.toInt64) (n7.toInt64) (n8.toInt64) h0 n0 Z0) eH9 (by rw [hml]; rfl) (argsL := [(.long (n3.toInt64)), (.long (n4.toInt64)), (.long (n5.toInt64)), (.long (n6.toInt64)), (.long (n7.toInt64)), (.long (n8.toInt64))]) rfl (lenOf pd_0 rfl) rfl at_85 (pc' := 88) rfl (by decide) (W := 0) (Nat.le_of_eq rfl) (by decide) (by decide) (by decide) (fun T11 h11 Lc11 v11r X11 eH11 hQ11 => ?_)
  obtain ⟨rfl, Nq11, rfl⟩ := hQ11
  have N11 := Fr.app N9 Nq11
  dsimp only [Option.toList, List.cons_append, List.nil_append]
  generalize q_r12 : ((((n5.toInt64) - (n3.toInt64)) * ((n8.toInt64) - (n4.toInt64))) - (((n6.toInt64) - (n4.toInt64)) * ((n7.toInt64) - (n3.toInt64)))) = r12
  have e2 := own_cross B_n3 B_n4 B_n5 B_n6 B_n7 B_n8 q_r12
  refine own_lstore X11 hx hby (L' := #[.val (.int p0), .val (.int p1), .val (.int p2), .val (.int p3), .val (.int n1), .val (.int n2), .val (.int n3), .val (.int n4), .val (.int n5), .val (.int n6), .val (.int n7), .val (.int n8), .val (.long r10), .second, .val (.long r12), .second, .unset, .unset, .unset, .unset]) rfl at_88 (pc' := 90) rfl ?_
  refine own_iload X11 hx hby rfl at_90 (pc' := 92) rfl ?_
  refine own_i2l X11 hx hby rfl at_92 (pc' := 93) rfl ?_
  refine own_iload X11 hx hby rfl at_93 (pc' := 95) rfl ?_
  refine own_i2l X11 hx hby rfl at_95 (pc' := 96) rfl ?_
  refine own_iload X11 hx hby rfl at_96 (pc' := 98) rfl ?_
  refine own_i2l X11 hx hby rfl at_98 (pc' := 99) rfl ?_
  refine own_iload X11 hx hby rfl at_99 (pc' := 101) rfl ?_
  refine own_i2l X11 hx hby rfl at_101 (pc' := 102) rfl ?_
  refine own_iload X11 hx hby rfl at_102 (pc' := 104) rfl ?_
  refine own_i2l X11 hx hby rfl at_104 (pc' := 105) rfl ?_
  refine own_iload X11 hx hby rfl at_105 (pc' := 107) rfl ?_
  refine own_i2l X11 hx hby rfl at_107 (pc' := 108) rfl ?_
  refine own_static X11 hx hby hZ (y := (⟨"com/example/dido/dido/PlanarRingHoldsPinLaw", "cross", "(JJJJJJ)J"⟩ : MethodName)) (rest := []) hown (hw _ (List.mem_of_getElem? (i := 0) rfl)) (hw _ (List.mem_of_getElem? (i := 1) rfl)) (hw _ (List.mem_of_getElem? (i := 3) rfl)) (hw _ (List.mem_of_getElem? (i := 2) rfl)) (by decide) (rm1 l Z a0 hw [] (n5.toInt64) (n6.toInt64) (n1.toInt64) (n2.toInt64) (n7.toInt64) (n8.toInt64) h0 n0 Z0) eH11 (by rw [hml]; rfl) (argsL := [(.long (n5.toInt64)), (.long (n6.toInt64)), (.long (n1.toInt64)), (.long (n2.toInt64)), (.long (n7.toInt64)), (.long (n8.toInt64))]) rfl (lenOf pd_0 rfl) rfl at_108 (pc' := 111) rfl (by decide) (W := 0) (Nat.le_of_eq rfl) (by decide) (by decide) (by decide) (fun T13 h13 Lc13 v13r X13 eH13 hQ13 => ?_)
  obtain ⟨rfl, Nq13, rfl⟩ := hQ13
  have N13 := Fr.app N11 Nq13
  dsimp only [Option.toList, List.cons_append, List.nil_append]
  generalize q_r14 : ((((n1.toInt64) - (n5.toInt64)) * ((n8.toInt64) - (n6.toInt64))) - (((n2.toInt64) - (n6.toInt64)) * ((n7.toInt64) - (n5.toInt64)))) = r14
  have e3 := own_cross B_n5 B_n6 B_n1 B_n2 B_n7 B_n8 q_r14
  refine own_lstore X13 hx hby (L' := #[.val (.int p0), .val (.int p1), .val (.int p2), .val (.int p3), .val (.int n1), .val (.int n2), .val (.int n3), .val (.int n4), .val (.int n5), .val (.int n6), .val (.int n7), .val (.int n8), .val (.long r10), .second, .val (.long r12), .second, .val (.long r14), .second, .unset, .unset]) rfl at_111 (pc' := 113) rfl ?_
  refine own_lload X13 hx hby rfl at_113 (pc' := 115) rfl ?_
  refine own_lconst X13 hx hby (v := (0 : Int64)) (by decide) at_115 (pc' := 116) rfl ?_
  refine own_lcmp X13 hx hby rfl at_116 (pc' := 117) rfl ?_
  by_cases hc15 : r10 = (0 : Int64)
  · refine own_ifT X13 hx hby at_117 (own_lc_eq_p hc15) (by decide) (pc' := 134) (by decide) ?_
    refine own_iconst X13 hx hby (v := (1 : Int32)) (by decide) at_134 (pc' := 135) rfl ?_
    exact own_retZ X13 hx hby Bd.notSynchronized Bd.returns (Or.inr rfl) at_135 (by decide) (by decide) eH13 ⟨rfl, N13⟩
  · refine own_ifF X13 hx hby at_117 (own_lc_eq_n hc15) (pc' := 120) rfl ?_
    refine own_lload X13 hx hby rfl at_120 (pc' := 122) rfl ?_
    refine own_lconst X13 hx hby (v := (0 : Int64)) (by decide) at_122 (pc' := 123) rfl ?_
    refine own_lcmp X13 hx hby rfl at_123 (pc' := 124) rfl ?_
    by_cases hc16 : r12 = (0 : Int64)
    · refine own_ifT X13 hx hby at_124 (own_lc_eq_p hc16) (by decide) (pc' := 134) (by decide) ?_
      refine own_iconst X13 hx hby (v := (1 : Int32)) (by decide) at_134 (pc' := 135) rfl ?_
      as_aux_lemma =>
        exact own_retZ X13 hx hby Bd.notSynchronized Bd.returns (Or.inr rfl) at_135 (by decide) (by decide) eH13 ⟨rfl, N13⟩
    · refine own_ifF X13 hx hby at_124 (own_lc_eq_n hc16) (pc' := 127) rfl ?_
      as_aux_lemma =>
        refine own_lload X13 hx hby rfl at_127 (pc' := 129) rfl ?_
        refine own_lconst X13 hx hby (v := (0 : Int64)) (by decide) at_129 (pc' := 130) rfl ?_
        refine own_lcmp X13 hx hby rfl at_130 (pc' := 131) rfl ?_
        by_cases hc17 : r14 = (0 : Int64)
        · refine own_ifF X13 hx hby at_131 (own_lc_ne_p hc17) (pc' := 134) rfl ?_
          refine own_iconst X13 hx hby (v := (1 : Int32)) (by decide) at_134 (pc' := 135) rfl ?_
          exact own_retZ X13 hx hby Bd.notSynchronized Bd.returns (Or.inr rfl) at_135 (by decide) (by decide) eH13 ⟨rfl, N13⟩
        · refine own_ifT X13 hx hby at_131 (own_lc_ne_n hc17) (by decide) (pc' := 136) (by decide) ?_
          refine own_lload X13 hx hby rfl at_136 (pc' := 138) rfl ?_
          refine own_lconst X13 hx hby (v := (0 : Int64)) (by decide) at_138 (pc' := 139) rfl ?_
          refine own_lcmp X13 hx hby rfl at_139 (pc' := 140) rfl ?_
          obtain ⟨w18, q_w18⟩ : ∃ z : Int32, (if (0 : Int64) < r10 then (if (0 : Int64) < r12 then (if (0 : Int64) < r14 then (1 : Int32) else (if r10 < (0 : Int64) then (if r12 < (0 : Int64) then (if r14 < (0 : Int64) then (1 : Int32) else (0 : Int32)) else (0 : Int32)) else (0 : Int32))) else (if r10 < (0 : Int64) then (if r12 < (0 : Int64) then (if r14 < (0 : Int64) then (1 : Int32) else (0 : Int32)) else (0 : Int32)) else (0 : Int32))) else (if r10 < (0 : Int64) then (if r12 < (0 : Int64) then (if r14 < (0 : Int64) then (1 : Int32) else (0 : Int32)) else (0 : Int32)) else (0 : Int32))) = z := ⟨_, rfl⟩
          refine own_join (S' := T13.setTop (mkF m 183 #[.val (.int p0), .val (.int p1), .val (.int p2), .val (.int p3), .val (.int n1), .val (.int n2), .val (.int n3), .val (.int n4), .val (.int n5), .val (.int n6), .val (.int n7), .val (.int n8), .val (.long r10), .second, .val (.long r12), .second, .val (.long r14), .second, .unset, .unset] [(.int w18)])) (fun F' k' => ?_) ?_
          · rw [← q_w18] at k'
            by_cases hc19 : (0 : Int64) < r10
            · simp only [if_pos hc19] at k'
              refine own_ifF X13 hx hby at_140 (own_lc_le_p hc19) (pc' := 143) rfl ?_
              refine own_lload X13 hx hby rfl at_143 (pc' := 145) rfl ?_
              refine own_lconst X13 hx hby (v := (0 : Int64)) (by decide) at_145 (pc' := 146) rfl ?_
              refine own_lcmp X13 hx hby rfl at_146 (pc' := 147) rfl ?_
              by_cases hc20 : (0 : Int64) < r12
              · simp only [if_pos hc20] at k'
                refine own_ifF X13 hx hby at_147 (own_lc_le_p hc20) (pc' := 150) rfl ?_
                refine own_lload X13 hx hby rfl at_150 (pc' := 152) rfl ?_
                refine own_lconst X13 hx hby (v := (0 : Int64)) (by decide) at_152 (pc' := 153) rfl ?_
                refine own_lcmp X13 hx hby rfl at_153 (pc' := 154) rfl ?_
                by_cases hc21 : (0 : Int64) < r14
                · simp only [if_pos hc21] at k'
                  refine own_ifT X13 hx hby at_154 (own_lc_gt_p hc21) (by decide) (pc' := 178) (by decide) ?_
                  refine own_iconst X13 hx hby (v := (1 : Int32)) (by decide) at_178 (pc' := 179) rfl ?_
                  refine own_goto X13 hx hby at_179 (by decide) (pc' := 183) (by decide) ?_
                  exact k'
                · simp only [if_neg hc21] at k'
                  refine own_ifF X13 hx hby at_154 (own_lc_gt_n hc21) (pc' := 157) rfl ?_
                  refine own_lload X13 hx hby rfl at_157 (pc' := 159) rfl ?_
                  refine own_lconst X13 hx hby (v := (0 : Int64)) (by decide) at_159 (pc' := 160) rfl ?_
                  refine own_lcmp X13 hx hby rfl at_160 (pc' := 161) rfl ?_
                  by_cases hc22 : r10 < (0 : Int64)
                  · simp only [if_pos hc22] at k'
                    refine own_ifF X13 hx hby at_161 (own_lc_ge_p hc22) (pc' := 164) rfl ?_
                    refine own_lload X13 hx hby rfl at_164 (pc' := 166) rfl ?_
                    refine own_lconst X13 hx hby (v := (0 : Int64)) (by decide) at_166 (pc' := 167) rfl ?_
                    refine own_lcmp X13 hx hby rfl at_167 (pc' := 168) rfl ?_
                    by_cases hc23 : r12 < (0 : Int64)
                    · simp only [if_pos hc23] at k'
                      refine own_ifF X13 hx hby at_168 (own_lc_ge_p hc23) (pc' := 171) rfl ?_
                      refine own_lload X13 hx hby rfl at_171 (pc' := 173) rfl ?_
                      refine own_lconst X13 hx hby (v := (0 : Int64)) (by decide) at_173 (pc' := 174) rfl ?_
                      refine own_lcmp X13 hx hby rfl at_174 (pc' := 175) rfl ?_
                      by_cases hc24 : r14 < (0 : Int64)
                      · simp only [if_pos hc24] at k'
                        refine own_ifF X13 hx hby at_175 (own_lc_ge_p hc24) (pc' := 178) rfl ?_
                        refine own_iconst X13 hx hby (v := (1 : Int32)) (by decide) at_178 (pc' := 179) rfl ?_
                        refine own_goto X13 hx hby at_179 (by decide) (pc' := 183) (by decide) ?_
                        exact k'
                      · simp only [if_neg hc24] at k'
                        refine own_ifT X13 hx hby at_175 (own_lc_ge_n hc24) (by decide) (pc' := 182) (by decide) ?_
                        refine own_iconst X13 hx hby (v := (0 : Int32)) (by decide) at_182 (pc' := 183) rfl ?_
                        exact k'
                    · simp only [if_neg hc23] at k'
                      refine own_ifT X13 hx hby at_168 (own_lc_ge_n hc23) (by decide) (pc' := 182) (by decide) ?_
                      refine own_iconst X13 hx hby (v := (0 : Int32)) (by decide) at_182 (pc' := 183) rfl ?_
                      exact k'
                  · simp only [if_neg hc22] at k'
                    refine own_ifT X13 hx hby at_161 (own_lc_ge_n hc22) (by decide) (pc' := 182) (by decide) ?_
                    refine own_iconst X13 hx hby (v := (0 : Int32)) (by decide) at_182 (pc' := 183) rfl ?_
                    exact k'
              · simp only [if_neg hc20] at k'
                refine own_ifT X13 hx hby at_147 (own_lc_le_n hc20) (by decide) (pc' := 157) (by decide) ?_
                refine own_lload X13 hx hby rfl at_157 (pc' := 159) rfl ?_
                refine own_lconst X13 hx hby (v := (0 : Int64)) (by decide) at_159 (pc' := 160) rfl ?_
                refine own_lcmp X13 hx hby rfl at_160 (pc' := 161) rfl ?_
                by_cases hc25 : r10 < (0 : Int64)
                · simp only [if_pos hc25] at k'
                  refine own_ifF X13 hx hby at_161 (own_lc_ge_p hc25) (pc' := 164) rfl ?_
                  refine own_lload X13 hx hby rfl at_164 (pc' := 166) rfl ?_
                  refine own_lconst X13 hx hby (v := (0 : Int64)) (by decide) at_166 (pc' := 167) rfl ?_
                  refine own_lcmp X13 hx hby rfl at_167 (pc' := 168) rfl ?_
                  by_cases hc26 : r12 < (0 : Int64)
                  · simp only [if_pos hc26] at k'
                    refine own_ifF X13 hx hby at_168 (own_lc_ge_p hc26) (pc' := 171) rfl ?_
                    refine own_lload X13 hx hby rfl at_171 (pc' := 173) rfl ?_
                    refine own_lconst X13 hx hby (v := (0 : Int64)) (by decide) at_173 (pc' := 174) rfl ?_
                    refine own_lcmp X13 hx hby rfl at_174 (pc' := 175) rfl ?_
                    by_cases hc27 : r14 < (0 : Int64)
                    · simp only [if_pos hc27] at k'
                      refine own_ifF X13 hx hby at_175 (own_lc_ge_p hc27) (pc' := 178) rfl ?_
                      refine own_iconst X13 hx hby (v := (1 : Int32)) (by decide) at_178 (pc' := 179) rfl ?_
                      refine own_goto X13 hx hby at_179 (by decide) (pc' := 183) (by decide) ?_
                      exact k'
                    · simp only [if_neg hc27] at k'
                      refine own_ifT X13 hx hby at_175 (own_lc_ge_n hc27) (by decide) (pc' := 182) (by decide) ?_
                      refine own_iconst X13 hx hby (v := (0 : Int32)) (by decide) at_182 (pc' := 183) rfl ?_
                      exact k'
                  · simp only [if_neg hc26] at k'
                    refine own_ifT X13 hx hby at_168 (own_lc_ge_n hc26) (by decide) (pc' := 182) (by decide) ?_
                    refine own_iconst X13 hx hby (v := (0 : Int32)) (by decide) at_182 (pc' := 183) rfl ?_
                    exact k'
                · simp only [if_neg hc25] at k'
                  refine own_ifT X13 hx hby at_161 (own_lc_ge_n hc25) (by decide) (pc' := 182) (by decide) ?_
                  refine own_iconst X13 hx hby (v := (0 : Int32)) (by decide) at_182 (pc' := 183) rfl ?_
                  exact k'
            · simp only [if_neg hc19] at k'
              refine own_ifT X13 hx hby at_140 (own_lc_le_n hc19) (by decide) (pc' := 157) (by decide) ?_
              refine own_lload X13 hx hby rfl at_157 (pc' := 159) rfl ?_
              refine own_lconst X13 hx hby (v := (0 : Int64)) (by decide) at_159 (pc' := 160) rfl ?_
              refine own_lcmp X13 hx hby rfl at_160 (pc' := 161) rfl ?_
              by_cases hc28 : r10 < (0 : Int64)
              · simp only [if_pos hc28] at k'
                refine own_ifF X13 hx hby at_161 (own_lc_ge_p hc28) (pc' := 164) rfl ?_
                refine own_lload X13 hx hby rfl at_164 (pc' := 166) rfl ?_
                refine own_lconst X13 hx hby (v := (0 : Int64)) (by decide) at_166 (pc' := 167) rfl ?_
                refine own_lcmp X13 hx hby rfl at_167 (pc' := 168) rfl ?_
                by_cases hc29 : r12 < (0 : Int64)
                · simp only [if_pos hc29] at k'
                  refine own_ifF X13 hx hby at_168 (own_lc_ge_p hc29) (pc' := 171) rfl ?_
                  as_aux_lemma =>
                    refine own_lload X13 hx hby rfl at_171 (pc' := 173) rfl ?_
                    refine own_lconst X13 hx hby (v := (0 : Int64)) (by decide) at_173 (pc' := 174) rfl ?_
                    refine own_lcmp X13 hx hby rfl at_174 (pc' := 175) rfl ?_
                    by_cases hc30 : r14 < (0 : Int64)
                    · simp only [if_pos hc30] at k'
                      refine own_ifF X13 hx hby at_175 (own_lc_ge_p hc30) (pc' := 178) rfl ?_
                      refine own_iconst X13 hx hby (v := (1 : Int32)) (by decide) at_178 (pc' := 179) rfl ?_
                      refine own_goto X13 hx hby at_179 (by decide) (pc' := 183) (by decide) ?_
                      exact k'
                    · simp only [if_neg hc30] at k'
                      refine own_ifT X13 hx hby at_175 (own_lc_ge_n hc30) (by decide) (pc' := 182) (by decide) ?_
                      refine own_iconst X13 hx hby (v := (0 : Int32)) (by decide) at_182 (pc' := 183) rfl ?_
                      exact k'
                · simp only [if_neg hc29] at k'
                  refine own_ifT X13 hx hby at_168 (own_lc_ge_n hc29) (by decide) (pc' := 182) (by decide) ?_
                  as_aux_lemma =>
                    refine own_iconst X13 hx hby (v := (0 : Int32)) (by decide) at_182 (pc' := 183) rfl ?_
                    exact k'
              · simp only [if_neg hc28] at k'
                refine own_ifT X13 hx hby at_161 (own_lc_ge_n hc28) (by decide) (pc' := 182) (by decide) ?_
                as_aux_lemma =>
                  refine own_iconst X13 hx hby (v := (0 : Int32)) (by decide) at_182 (pc' := 183) rfl ?_
                  exact k'
          as_aux_lemma =>
            refine own_istore X13 hx hby (L' := #[.val (.int p0), .val (.int p1), .val (.int p2), .val (.int p3), .val (.int n1), .val (.int n2), .val (.int n3), .val (.int n4), .val (.int n5), .val (.int n6), .val (.int n7), .val (.int n8), .val (.long r10), .second, .val (.long r12), .second, .val (.long r14), .second, .val (.int w18), .unset]) rfl at_183 (pc' := 185) rfl ?_
            refine own_bipush X13 hx hby (v := (6 : Int32)) (by decide) at_185 (pc' := 187) rfl ?_
            refine own_newP X13 hx hby hZ (hw _ (List.mem_of_getElem? (i := 4) rfl)) eH13 at_187 (pc' := 189) rfl (by decide) (N := 6) (by decide) (cap := 6) (by decide) (by decide) (by decide) (by decide) (ad := "[D") (by decide) (fun T31 h31 b31 X31 eH31 E31 g31 E_b31 V_b31 => ?_)
            have g_b31 : n0 ≤ b31 := g31 ▸ Z0
            replace Z0 := Nat.le_trans Z0 E31.1
            have V_b31 : Ary tr Z h31 b31 .double [(.double (0 : UInt64)), (.double (0 : UInt64)), (.double (0 : UInt64)), (.double (0 : UInt64)), (.double (0 : UInt64)), (.double (0 : UInt64))] := V_b31
            refine own_dup X31 hx hby rfl at_189 (pc' := 190) rfl ?_
            refine own_iconst X31 hx hby (v := (0 : Int32)) (by decide) at_190 (pc' := 191) rfl ?_
            refine own_iload X31 hx hby rfl at_191 (pc' := 193) rfl ?_
            obtain ⟨v32, q_v32⟩ : ∃ z : UInt64, (FP.i2d n1) = z := ⟨_, rfl⟩
            have D_v32 : Dy v32 n1.toInt 0 := q_v32 ▸ dy_i2d n1
            refine own_i2d X31 hx hby q_v32 at_193 (pc' := 194) rfl ?_
            refine own_dastore X31 hx hby hZ eH31 V_b31 (by decide) (n := 0) (by decide) (of_decide_eq_true rfl) at_194 (pc' := 195) rfl (fun T33 h33 X33 eH33 W33 => ?_)
            replace E_b31 := E_b31.wr W33
            have N33 := Fr.snoc X33 N13 g_b31
            replace Z0 := Nat.le_trans Z0 (Nat.le_of_eq W33.size.symm)
            replace V_b31 : Ary tr Z h33 b31 .double [(.double v32), (.double (0 : UInt64)), (.double (0 : UInt64)), (.double (0 : UInt64)), (.double (0 : UInt64)), (.double (0 : UInt64))] := V_b31.set W33
            refine own_dup X33 hx hby rfl at_195 (pc' := 196) rfl ?_
            refine own_iconst X33 hx hby (v := (1 : Int32)) (by decide) at_196 (pc' := 197) rfl ?_
            refine own_iload X33 hx hby rfl at_197 (pc' := 199) rfl ?_
            obtain ⟨v34, q_v34⟩ : ∃ z : UInt64, (FP.i2d n2) = z := ⟨_, rfl⟩
            have D_v34 : Dy v34 n2.toInt 0 := q_v34 ▸ dy_i2d n2
            refine own_i2d X33 hx hby q_v34 at_199 (pc' := 200) rfl ?_
            refine own_dastore X33 hx hby hZ eH33 V_b31 (by decide) (n := 1) (by decide) (of_decide_eq_true rfl) at_200 (pc' := 201) rfl (fun T35 h35 X35 eH35 W35 => ?_)
            replace E_b31 := E_b31.wr W35
            have N35 := Fr.snoc X35 N33 g_b31
            replace Z0 := Nat.le_trans Z0 (Nat.le_of_eq W35.size.symm)
            replace V_b31 : Ary tr Z h35 b31 .double [(.double v32), (.double v34), (.double (0 : UInt64)), (.double (0 : UInt64)), (.double (0 : UInt64)), (.double (0 : UInt64))] := V_b31.set W35
            refine own_dup X35 hx hby rfl at_201 (pc' := 202) rfl ?_
            refine own_iconst X35 hx hby (v := (2 : Int32)) (by decide) at_202 (pc' := 203) rfl ?_
            refine own_iload X35 hx hby rfl at_203 (pc' := 205) rfl ?_
            obtain ⟨v36, q_v36⟩ : ∃ z : UInt64, (FP.i2d n3) = z := ⟨_, rfl⟩
            have D_v36 : Dy v36 n3.toInt 0 := q_v36 ▸ dy_i2d n3
            refine own_i2d X35 hx hby q_v36 at_205 (pc' := 206) rfl ?_
            refine own_dastore X35 hx hby hZ eH35 V_b31 (by decide) (n := 2) (by decide) (of_decide_eq_true rfl) at_206 (pc' := 207) rfl (fun T37 h37 X37 eH37 W37 => ?_)
            replace E_b31 := E_b31.wr W37
            have N37 := Fr.snoc X37 N35 g_b31
            replace Z0 := Nat.le_trans Z0 (Nat.le_of_eq W37.size.symm)
            replace V_b31 : Ary tr Z h37 b31 .double [(.double v32), (.double v34), (.double v36), (.double (0 : UInt64)), (.double (0 : UInt64)), (.double (0 : UInt64))] := V_b31.set W37
            refine own_dup X37 hx hby rfl at_207 (pc' := 208) rfl ?_
            refine own_iconst X37 hx hby (v := (3 : Int32)) (by decide) at_208 (pc' := 209) rfl ?_
            refine own_iload X37 hx hby rfl at_209 (pc' := 211) rfl ?_
            obtain ⟨v38, q_v38⟩ : ∃ z : UInt64, (FP.i2d n4) = z := ⟨_, rfl⟩
            have D_v38 : Dy v38 n4.toInt 0 := q_v38 ▸ dy_i2d n4
            refine own_i2d X37 hx hby q_v38 at_211 (pc' := 212) rfl ?_
            refine own_dastore X37 hx hby hZ eH37 V_b31 (by decide) (n := 3) (by decide) (of_decide_eq_true rfl) at_212 (pc' := 213) rfl (fun T39 h39 X39 eH39 W39 => ?_)
            replace E_b31 := E_b31.wr W39
            have N39 := Fr.snoc X39 N37 g_b31
            replace Z0 := Nat.le_trans Z0 (Nat.le_of_eq W39.size.symm)
            replace V_b31 : Ary tr Z h39 b31 .double [(.double v32), (.double v34), (.double v36), (.double v38), (.double (0 : UInt64)), (.double (0 : UInt64))] := V_b31.set W39
            refine own_dup X39 hx hby rfl at_213 (pc' := 214) rfl ?_
            refine own_iconst X39 hx hby (v := (4 : Int32)) (by decide) at_214 (pc' := 215) rfl ?_
            refine own_iload X39 hx hby rfl at_215 (pc' := 217) rfl ?_
            obtain ⟨v40, q_v40⟩ : ∃ z : UInt64, (FP.i2d n5) = z := ⟨_, rfl⟩
            have D_v40 : Dy v40 n5.toInt 0 := q_v40 ▸ dy_i2d n5
            refine own_i2d X39 hx hby q_v40 at_217 (pc' := 218) rfl ?_
            refine own_dastore X39 hx hby hZ eH39 V_b31 (by decide) (n := 4) (by decide) (of_decide_eq_true rfl) at_218 (pc' := 219) rfl (fun T41 h41 X41 eH41 W41 => ?_)
            replace E_b31 := E_b31.wr W41
            have N41 := Fr.snoc X41 N39 g_b31
            replace Z0 := Nat.le_trans Z0 (Nat.le_of_eq W41.size.symm)
            replace V_b31 : Ary tr Z h41 b31 .double [(.double v32), (.double v34), (.double v36), (.double v38), (.double v40), (.double (0 : UInt64))] := V_b31.set W41
            refine own_dup X41 hx hby rfl at_219 (pc' := 220) rfl ?_
            refine own_iconst X41 hx hby (v := (5 : Int32)) (by decide) at_220 (pc' := 221) rfl ?_
            refine own_iload X41 hx hby rfl at_221 (pc' := 223) rfl ?_
            obtain ⟨v42, q_v42⟩ : ∃ z : UInt64, (FP.i2d n6) = z := ⟨_, rfl⟩
            have D_v42 : Dy v42 n6.toInt 0 := q_v42 ▸ dy_i2d n6
            refine own_i2d X41 hx hby q_v42 at_223 (pc' := 224) rfl ?_
            refine own_dastore X41 hx hby hZ eH41 V_b31 (by decide) (n := 5) (by decide) (of_decide_eq_true rfl) at_224 (pc' := 225) rfl (fun T43 h43 X43 eH43 W43 => ?_)
            replace E_b31 := E_b31.wr W43
            have N43 := Fr.snoc X43 N41 g_b31
            replace Z0 := Nat.le_trans Z0 (Nat.le_of_eq W43.size.symm)
            replace V_b31 : Ary tr Z h43 b31 .double [(.double v32), (.double v34), (.double v36), (.double v38), (.double v40), (.double v42)] := V_b31.set W43
            refine own_astore X43 hx hby rfl (L' := #[.val (.int p0), .val (.int p1), .val (.int p2), .val (.int p3), .val (.int n1), .val (.int n2), .val (.int n3), .val (.int n4), .val (.int n5), .val (.int n6), .val (.int n7), .val (.int n8), .val (.long r10), .second, .val (.long r12), .second, .val (.long r14), .second, .val (.int w18), .val (.ref b31)]) rfl at_225 (pc' := 227) rfl ?_
            refine own_aload X43 hx hby rfl rfl at_227 (pc' := 229) rfl ?_
            refine own_iload X43 hx hby rfl at_229 (pc' := 231) rfl ?_
            obtain ⟨v44, q_v44⟩ : ∃ z : UInt64, (FP.i2d n7) = z := ⟨_, rfl⟩
            have D_v44 : Dy v44 n7.toInt 0 := q_v44 ▸ dy_i2d n7
            refine own_i2d X43 hx hby q_v44 at_231 (pc' := 232) rfl ?_
            refine own_iload X43 hx hby rfl at_232 (pc' := 234) rfl ?_
            obtain ⟨v45, q_v45⟩ : ∃ z : UInt64, (FP.i2d n8) = z := ⟨_, rfl⟩
            have D_v45 : Dy v45 n8.toInt 0 := q_v45 ▸ dy_i2d n8
            refine own_i2d X43 hx hby q_v45 at_234 (pc' := 235) rfl ?_
            have ED1 := fun hc => (own_edge D_v32 D_v34 D_v36 D_v38 D_v44 D_v45 B_n1 B_n2 B_n3 B_n4 B_n7 B_n8 (own_hne D_v34 D_v38 D_v45 hc)).1
            have ED2 := fun hc => (own_edge D_v36 D_v38 D_v40 D_v42 D_v44 D_v45 B_n3 B_n4 B_n5 B_n6 B_n7 B_n8 (own_hne D_v38 D_v42 D_v45 hc)).1
            have ED3 := fun hc => (own_edge D_v40 D_v42 D_v32 D_v34 D_v44 D_v45 B_n5 B_n6 B_n1 B_n2 B_n7 B_n8 (own_hne D_v42 D_v34 D_v45 hc)).1
            refine own_static X43 hx hby hZ (y := (⟨"com/example/dido/dido/PlanarRing", "holds", "([DDD)Z"⟩ : MethodName)) (rest := []) hown (hw _ (List.mem_of_getElem? (i := 5) rfl)) (hw _ (List.mem_of_getElem? (i := 6) rfl)) (hw _ (List.mem_of_getElem? (i := 8) rfl)) (hw _ (List.mem_of_getElem? (i := 7) rfl)) (by decide) (rm2 l Z a0 hw [] b31 v44 v45 v32 v34 v36 v38 v40 v42 h43 n0 Z0 V_b31 (fun hc => (ED1 hc).1) (fun hc => (ED1 hc).2.1) (fun hc => (ED1 hc).2.2.1) (fun hc => (ED1 hc).2.2.2.1) (fun hc => (ED1 hc).2.2.2.2.1) (fun hc => (ED1 hc).2.2.2.2.2) (fun hc => (ED2 hc).1) (fun hc => (ED2 hc).2.1) (fun hc => (ED2 hc).2.2.1) (fun hc => (ED2 hc).2.2.2.1) (fun hc => (ED2 hc).2.2.2.2.1) (fun hc => (ED2 hc).2.2.2.2.2) (fun hc => (ED3 hc).1) (fun hc => (ED3 hc).2.1) (fun hc => (ED3 hc).2.2.1) (fun hc => (ED3 hc).2.2.2.1) (fun hc => (ED3 hc).2.2.2.2.1) (fun hc => (ED3 hc).2.2.2.2.2)) eH43 (by rw [hml]; rfl) (argsL := [(.ref b31), (.double v44), (.double v45)]) rfl (lenOf pd_1 rfl) rfl at_235 (pc' := 238) rfl (by decide) (W := 0) (Nat.le_of_eq rfl) (by decide) (by decide) (by decide) (fun T46 h46 Lc46 v46r X46 eH46 hQ46 => ?_)
            obtain ⟨rfl, Nq46, rfl⟩ := hQ46
            have N46 := Fr.app N43 Nq46
            dsimp only [Option.toList, List.cons_append, List.nil_append]
            generalize q_r47 : (if (if dgt v42 v45 then (1 : Int32) else (0 : Int32)) = (if dgt v34 v45 then (1 : Int32) else (0 : Int32)) then (if (if dgt v38 v45 then (1 : Int32) else (0 : Int32)) = (if dgt v42 v45 then (1 : Int32) else (0 : Int32)) then (if (if dgt v34 v45 then (1 : Int32) else (0 : Int32)) = (if dgt v38 v45 then (1 : Int32) else (0 : Int32)) then (0 : Int32) else (if dlt v44 (FP.dadd v32 (FP.ddiv (FP.dmul (FP.dsub v45 v34) (FP.dsub v36 v32)) (FP.dsub v38 v34))) then (1 : Int32) else (0 : Int32))) else (if dlt v44 (FP.dadd v36 (FP.ddiv (FP.dmul (FP.dsub v45 v38) (FP.dsub v40 v36)) (FP.dsub v42 v38))) then (if (if (if dgt v34 v45 then (1 : Int32) else (0 : Int32)) = (if dgt v38 v45 then (1 : Int32) else (0 : Int32)) then (0 : Int32) else (if dlt v44 (FP.dadd v32 (FP.ddiv (FP.dmul (FP.dsub v45 v34) (FP.dsub v36 v32)) (FP.dsub v38 v34))) then (1 : Int32) else (0 : Int32))) = 0 then (1 : Int32) else (0 : Int32)) else (if (if dgt v34 v45 then (1 : Int32) else (0 : Int32)) = (if dgt v38 v45 then (1 : Int32) else (0 : Int32)) then (0 : Int32) else (if dlt v44 (FP.dadd v32 (FP.ddiv (FP.dmul (FP.dsub v45 v34) (FP.dsub v36 v32)) (FP.dsub v38 v34))) then (1 : Int32) else (0 : Int32))))) else (if dlt v44 (FP.dadd v40 (FP.ddiv (FP.dmul (FP.dsub v45 v42) (FP.dsub v32 v40)) (FP.dsub v34 v42))) then (if (if (if dgt v38 v45 then (1 : Int32) else (0 : Int32)) = (if dgt v42 v45 then (1 : Int32) else (0 : Int32)) then (if (if dgt v34 v45 then (1 : Int32) else (0 : Int32)) = (if dgt v38 v45 then (1 : Int32) else (0 : Int32)) then (0 : Int32) else (if dlt v44 (FP.dadd v32 (FP.ddiv (FP.dmul (FP.dsub v45 v34) (FP.dsub v36 v32)) (FP.dsub v38 v34))) then (1 : Int32) else (0 : Int32))) else (if dlt v44 (FP.dadd v36 (FP.ddiv (FP.dmul (FP.dsub v45 v38) (FP.dsub v40 v36)) (FP.dsub v42 v38))) then (if (if (if dgt v34 v45 then (1 : Int32) else (0 : Int32)) = (if dgt v38 v45 then (1 : Int32) else (0 : Int32)) then (0 : Int32) else (if dlt v44 (FP.dadd v32 (FP.ddiv (FP.dmul (FP.dsub v45 v34) (FP.dsub v36 v32)) (FP.dsub v38 v34))) then (1 : Int32) else (0 : Int32))) = 0 then (1 : Int32) else (0 : Int32)) else (if (if dgt v34 v45 then (1 : Int32) else (0 : Int32)) = (if dgt v38 v45 then (1 : Int32) else (0 : Int32)) then (0 : Int32) else (if dlt v44 (FP.dadd v32 (FP.ddiv (FP.dmul (FP.dsub v45 v34) (FP.dsub v36 v32)) (FP.dsub v38 v34))) then (1 : Int32) else (0 : Int32))))) = 0 then (1 : Int32) else (0 : Int32)) else (if (if dgt v38 v45 then (1 : Int32) else (0 : Int32)) = (if dgt v42 v45 then (1 : Int32) else (0 : Int32)) then (if (if dgt v34 v45 then (1 : Int32) else (0 : Int32)) = (if dgt v38 v45 then (1 : Int32) else (0 : Int32)) then (0 : Int32) else (if dlt v44 (FP.dadd v32 (FP.ddiv (FP.dmul (FP.dsub v45 v34) (FP.dsub v36 v32)) (FP.dsub v38 v34))) then (1 : Int32) else (0 : Int32))) else (if dlt v44 (FP.dadd v36 (FP.ddiv (FP.dmul (FP.dsub v45 v38) (FP.dsub v40 v36)) (FP.dsub v42 v38))) then (if (if (if dgt v34 v45 then (1 : Int32) else (0 : Int32)) = (if dgt v38 v45 then (1 : Int32) else (0 : Int32)) then (0 : Int32) else (if dlt v44 (FP.dadd v32 (FP.ddiv (FP.dmul (FP.dsub v45 v34) (FP.dsub v36 v32)) (FP.dsub v38 v34))) then (1 : Int32) else (0 : Int32))) = 0 then (1 : Int32) else (0 : Int32)) else (if (if dgt v34 v45 then (1 : Int32) else (0 : Int32)) = (if dgt v38 v45 then (1 : Int32) else (0 : Int32)) then (0 : Int32) else (if dlt v44 (FP.dadd v32 (FP.ddiv (FP.dmul (FP.dsub v45 v34) (FP.dsub v36 v32)) (FP.dsub v38 v34))) then (1 : Int32) else (0 : Int32))))))) = r47
            refine own_iload X46 hx hby rfl at_238 (pc' := 240) rfl ?_
            have hk48 : r47 = w18 := own_final D_v32 D_v34 D_v36 D_v38 D_v40 D_v42 D_v44 D_v45 B_n1 B_n2 B_n3 B_n4 B_n5 B_n6 B_n7 B_n8 e1 e2 e3 hc15 hc16 hc17 q_r47 q_w18
            refine own_icF X46 hx hby at_240 (own_ic_ne_p hk48) (pc' := 243) rfl ?_
            refine own_iconst X46 hx hby (v := (1 : Int32)) (by decide) at_243 (pc' := 244) rfl ?_
            refine own_goto X46 hx hby at_244 (by decide) (pc' := 248) (by decide) ?_
            exact own_retZ X46 hx hby Bd.notSynchronized Bd.returns (Or.inr rfl) at_248 (by decide) (by decide) eH46 ⟨rfl, N46⟩
set_option maxRecDepth 65536 in
set_option maxHeartbeats 40000000 in
theorem comes_1 {Post : Tables → Env → Array Value → State → Outcome → State → Prop} (hpost : ∀ tb e args s v u, (limb_1_1.after args s (.returned v) u = true ∧ limb_1_2.after args s (.returned v) u = true ∧ True) → FrameEnd s (.returned v) u (Jvm.fieldLocs frame_1_writes args s ++ Jvm.arrayLocs frame_1_arrays args s ++ Jvm.staticLocs frame_1_statics s) 16 128 → Post tb e args s (.returned v) u) :
    ArmFor flags0 classFile x code maxLocals ret World_1 tables_1 room_1 Calls_1 rest_1 Pre_1 Post := by
  intro l hfl _ _ p e ha hc hk s m args below hf hA hF happ hP
  obtain ⟨hcalls, hrest, hpre⟩ := hP
  obtain ⟨-, -, -, hnamed, -, -, -, hat⟩ := (Spec.applies_iff hf).mp happ
  obtain ⟨hg, hn⟩ := and_e (Cond.before_iff.mp (show (Jvm.Cond.and given_1 narrow_1).before args s = true from hpre))
  obtain ⟨gg1, gg2⟩ := and_e hg
  obtain ⟨gg3, gg4⟩ := and_e gg2
  obtain ⟨gg5, gg6⟩ := and_e gg4
  obtain ⟨gg7, gg8⟩ := and_e gg6
  obtain ⟨w0, w1, w2, w3, rfl⟩ : ∃ w0 w1 w2 w3 : Value, args = #[w0, w1, w2, w3] := by
    have hs : args.size = 4 := by simpa [Cond.value, given_1] using gg1
    obtain ⟨L⟩ := args
    match L, hs with
    | [w0, w1, w2, w3], _ => exact ⟨w0, w1, w2, w3, rfl⟩
  have hw := fun d (hd : d ∈ tables_1) => atoms_spec (ws := Jvm.Cond.code x code maxLocals ret :: tables_1) hat d (List.mem_cons_of_mem _ hd)
  have hfit : Fit s := fun {y c} hc i hi => by
    obtain ⟨ha, rfl⟩ := Array.getElem?_eq_some_iff.mp hc
    have q := List.all_eq_true.mp ((Array.all_eq_true_iff_forall_mem.mp hF) _ (Array.getElem_mem ha)) i (List.mem_range.mpr hi)
    simpa [Array.getElem?_eq_getElem hi] using q
  obtain ⟨i0, ei0⟩ := is_v gg3
  obtain rfl : w0 = (.int i0) := Option.some.inj ei0
  obtain ⟨i1, ei1⟩ := is_v gg5
  obtain rfl : w1 = (.int i1) := Option.some.inj ei1
  obtain ⟨i2, ei2⟩ := is_v gg7
  obtain rfl : w2 = (.int i2) := Option.some.inj ei2
  obtain ⟨i3, ei3⟩ := is_v gg8
  obtain rfl : w3 = (.int i3) := Option.some.inj ei3
  obtain ⟨n, o, h1, h2, h3, _, L, rfl, ⟨rfl, N⟩, hq⟩ := rm0 l s _ hw tables_1 i0 i1 i2 i3 s.heap s.heap.size (Nat.le_refl _) p e ha hc hk s m _ below hf ((Spec.applies_iff_loose hf).mp happ).1 ⟨rfl, State.Warmed39.refl s, rfl⟩ trivial
  refine ⟨n, _, h1, h2, h3, hpost _ _ _ _ _ _ ⟨Cond.after_iff.mpr rfl, Cond.after_iff.mpr (eq_i res_at (Term.int_eval (1)) rfl), trivial⟩ ⟨hq.1, hq.2.1, (hq.2.2.sift fun y hy => Or.inr (N y hy)).mono (by decide) (by decide)⟩⟩
theorem main_1_1 : Claimed_1_1 := comes_1 fun _ _ _ _ _ _ h hF => ⟨h.1, hF⟩
theorem main_1_2 : Claimed_1_2 := comes_1 fun _ _ _ _ _ _ h hF => ⟨h.2.1, hF⟩
end Jvm.Pilot.@@N@@
namespace Jvm.Pilot.@@N@@
open Jvm Jvm.ClassFile Sem Op Lib Jvm.Free Jvm.Stand Jvm.Pilot.@@N@@.Jvm.D
/-! MADE BY PROGRAM (witnessworld.py) out of the Statement's table words and the real class files: 11 classes; the members and pool entries that the words name. The judged class is class 1, her method 2. -/
namespace start1
open Jvm.ClassFile
def u (s : String) : CpInfo := .utf8 (stringToUtf16 s)
/-- a pool by its gaps: so many unusable entries, then the entry; so many at the end -/
def gap : Nat → List CpInfo → List CpInfo
  | 0, r => r
  | n + 1, r => .unusable :: gap n r
def poolList (es : List (Nat × CpInfo)) (last : Nat) : List CpInfo := es.foldr (fun e r => gap e.1 (e.2 :: r)) (gap last [])
def pool (es : List (Nat × CpInfo)) (last : Nat) : Array CpInfo := ⟨poolList es last⟩
def fileOf (pool : Array CpInfo) (this : Nat) (attrs : Array Attribute := #[]) (ms : Array MethodInfo := #[]) (fl : Nat := 33) (sup : Nat := 0) (ifs : Array Nat := #[]) (fds : Array FieldInfo := #[]) : ClassFile where
  minorVersion := 0
  majorVersion := 65
  constantPool := pool
  accessFlags := fl
  thisClass := this
  superClass := sup
  interfaces := ifs
  fields := fds
  methods := ms
  attributes := attrs
def plain (name : String) (sup : Option ClassId) : Class where
  name := name
  kind := .ordinary
  loader := none
  accessFlags := 33
  super := sup
  interfaces := #[]
  cf := none
  fields := #[]
  methods := #[]
  instanceTypes := #[]
  staticTypes := #[]
  resolved := #[]
  callSites := []
  init := .initialized
  statics := none
  mirror := none

def pool0 : Array CpInfo := pool [(5, u "<init>"), (0, u "()V"), (1, .class_ 10), (1, u "java/lang/Object")] 113

def k0m0 : Method := { name := "<init>", desc := "()V", sig := { parameters := [], returnType := none }, accessFlags := 1, code := none }
/-- java/lang/Object -/
def k0 : Class := { plain "java/lang/Object" none with
  accessFlags := 33
  interfaces := #[]
  cf := some (fileOf pool0 8 #[] #[{ accessFlags := 1, nameIndex := 5, descriptorIndex := 6, attributes := #[] }] 33 0 #[] #[])
  fields := #[]
  methods := #[k0m0]
  instanceTypes := #[]
  staticTypes := #[]
  resolved := Array.replicate 124 none
  statics := none }

def pool1 : Array CpInfo := pool [(2, .class_ 4), (1, u "java/lang/Object"), (0, u "<init>"), (0, u "()V"), (0, .methodref 8 9), (0, .class_ 10), (0, .nameAndType 11 12), (0, u "com/example/dido/dido/PlanarRingHoldsPinLaw"), (0, u "cross"), (0, u "(JJJJJJ)J"), (0, .methodref 14 15), (0, .class_ 16), (0, .nameAndType 17 18), (0, u "com/example/dido/dido/PlanarRing"), (0, u "holds"), (0, u "([DDD)Z"), (2, u "law"), (0, u "(IIII)Z")] 5

def k1m0 : Method := { name := "<init>", desc := "()V", sig := { parameters := [], returnType := none }, accessFlags := 2, code := none }
def k1c1 : Code := { maxStack := 8, maxLocals := 12, code := method_2_code, exceptionTable := #[], attributes := #[] }
def k1m1 : Method := { name := "cross", desc := "(JJJJJJ)J", sig := { parameters := [.long, .long, .long, .long, .long, .long], returnType := some .long }, accessFlags := 10, code := some k1c1 }
def k1c2 : Code := { maxStack := 12, maxLocals := 20, code := code, exceptionTable := #[], attributes := #[] }
def k1m2 : Method := { name := "law", desc := "(IIII)Z", sig := { parameters := [.int, .int, .int, .int], returnType := some .boolean }, accessFlags := 9, code := some k1c2 }
/-- com/example/dido/dido/PlanarRingHoldsPinLaw -/
def k1 : Class := { plain "com/example/dido/dido/PlanarRingHoldsPinLaw" (some 0) with
  accessFlags := 49
  interfaces := #[]
  cf := some (fileOf pool1 8 #[] #[{ accessFlags := 2, nameIndex := 5, descriptorIndex := 6, attributes := #[] }, { accessFlags := 10, nameIndex := 11, descriptorIndex := 12, attributes := #[] }, { accessFlags := 9, nameIndex := 21, descriptorIndex := 22, attributes := #[] }] 49 2 #[] #[])
  fields := #[]
  methods := #[k1m0, k1m1, k1m2]
  instanceTypes := #[]
  staticTypes := #[]
  resolved := Array.replicate 28 none
  statics := none }

def pool2 : Array CpInfo := pool [(2, .class_ 4), (1, u "java/lang/Object"), (0, u "<init>"), (0, u "()V"), (22, .class_ 30), (0, u "com/example/dido/dido/PlanarRing"), (9, u "holds"), (0, u "([DDD)Z")] 2

def k2m0 : Method := { name := "<init>", desc := "()V", sig := { parameters := [], returnType := none }, accessFlags := 2, code := none }
def k2c1 : Code := { maxStack := 11, maxLocals := 8, code := prog_15_method_4_code, exceptionTable := #[], attributes := #[] }
def k2m1 : Method := { name := "holds", desc := "([DDD)Z", sig := { parameters := [(.array .double), .double, .double], returnType := some .boolean }, accessFlags := 8, code := some k2c1 }
/-- com/example/dido/dido/PlanarRing -/
def k2 : Class := { plain "com/example/dido/dido/PlanarRing" (some 0) with
  accessFlags := 32
  interfaces := #[]
  cf := some (fileOf pool2 29 #[] #[{ accessFlags := 2, nameIndex := 5, descriptorIndex := 6, attributes := #[] }, { accessFlags := 8, nameIndex := 40, descriptorIndex := 41, attributes := #[] }] 32 2 #[] #[])
  fields := #[]
  methods := #[k2m0, k2m1]
  instanceTypes := #[]
  staticTypes := #[]
  resolved := Array.replicate 44 none
  statics := none }

def pool3 : Array CpInfo := pool [(1, u "java/lang/Cloneable"), (0, .class_ 1), (0, u "java/lang/Object"), (0, .class_ 3)] 3

/-- java/lang/Cloneable -/
def k3 : Class := { plain "java/lang/Cloneable" (some 0) with
  accessFlags := 1537
  interfaces := #[]
  cf := some (fileOf pool3 2 #[] #[] 1537 4 #[] #[])
  fields := #[]
  methods := #[]
  instanceTypes := #[]
  staticTypes := #[]
  resolved := Array.replicate 8 none
  statics := none }

def pool4 : Array CpInfo := pool [(1, u "java/io/Serializable"), (0, .class_ 1), (0, u "java/lang/Object"), (0, .class_ 3)] 3

/-- java/io/Serializable -/
def k4 : Class := { plain "java/io/Serializable" (some 0) with
  accessFlags := 1537
  interfaces := #[]
  cf := some (fileOf pool4 2 #[] #[] 1537 4 #[] #[])
  fields := #[]
  methods := #[]
  instanceTypes := #[]
  staticTypes := #[]
  resolved := Array.replicate 8 none
  statics := none }

/-- the primitive byte -/
def k5 : Class := { plain "byte" none with kind := .primitive 'B', accessFlags := 0x411 }
/-- [B -/
def k6 : Class := { plain "[B" (some 0) with kind := .array 5 .byte, interfaces := #[3, 4], accessFlags := 1041 }

/-- the primitive double -/
def k7 : Class := { plain "double" none with kind := .primitive 'D', accessFlags := 0x411 }
/-- [D -/
def k8 : Class := { plain "[D" (some 0) with kind := .array 7 .double, interfaces := #[3, 4], accessFlags := 1041 }

/-- the primitive int -/
def k9 : Class := { plain "int" none with kind := .primitive 'I', accessFlags := 0x411 }
/-- [I -/
def k10 : Class := { plain "[I" (some 0) with kind := .array 9 .int, interfaces := #[3, 4], accessFlags := 1041 }

def heap : Heap := #[]
def classes : Array Class := #[k0, k1, k2, k3, k4, k5, k6, k7, k8, k9, k10]
def interned : List (Array UInt16 × Addr) := []
def slotsUsed : Nat := 0
def theMethod : MethodId := ⟨1, 2⟩
def args0 : Array Value := #[.int 5, .int 7, .int 9, .int 2]
def aboutOver (below : List Frame) : State where
  vm := { classes := classes, interned := interned.toArray }
  heap := heap
  slotsUsed := slotsUsed
  threads := #[{ frames := .invoking theMethod args0 :: below }]
def below0 : List Frame := [.native { method := ⟨0, 0⟩, args := #[] }]
def about1 : State := aboutOver below0
def p0 : Program := .bare "" "" ""
def e0 : Env := launch0.env 0 0 0
theorem w_frames : about1.frames = Frame.invoking theMethod args0 :: below0 := rfl
set_option maxRecDepth 65536 in
theorem w_args : argsFit about1.vm theMethod args0 = true := by decide +kernel
set_option maxRecDepth 65536 in
theorem w_heap : heapFits about1 = true := by decide +kernel
set_option maxRecDepth 65536 in
theorem w_runnable : about1.curStatus? = some .runnable := by decide +kernel
set_option maxRecDepth 65536 in
theorem w_alone : about1.alone = true := by decide +kernel
set_option maxRecDepth 65536 in
theorem w_named : about1.methodNamed? x = some theMethod := by decide +kernel
set_option maxRecDepth 65536 in
theorem w_hears : about1.hears theMethod below0 = true := by decide +kernel
set_option maxRecDepth 65536 in
theorem w_ripe : about1.ripe theMethod args0 below0 = true := by decide +kernel
theorem w_running : about1.status = .running := rfl
set_option maxRecDepth 65536 in
theorem w_room : about1.hasRoom e0.platform room_1 = true :=
  launch0.hasRoom_least _ room_1 (by decide +kernel) (by decide +kernel) (by decide +kernel) (by decide +kernel) (by decide +kernel) (by decide +kernel)
theorem allAtoms_all (ts : List Jvm.Cond) (a : Array Jvm.Value) (st : Jvm.State) : (allAtoms ts).before a st = ts.all (fun c => c.before a st) := by
  induction ts with
  | nil => rfl
  | cons c t ih =>
    show (Jvm.Cond.and c (allAtoms t)).before a st = _
    rw [Jvm.Cond.before_and, ih, List.all_cons]
def words1 : List Jvm.Cond := Jvm.Cond.code x code maxLocals ret :: tables_1
/-- a 'code' word, met by the world's own term for the bytes: nothing is compared byte by byte -/
theorem code_word {y : MethodName} {bytes : ByteArray} {mx : Nat} {rt : Option FieldType} {a : Array Value} {s : State} {m : MethodId} {meth : Method} {c : Code} (h1 : s.methodNamed? y = some m) (h2 : s.vm.method? m = some meth) (h3 : meth.code = some c) (h4 : c.code = bytes)
    (h5 : (c.maxLocals == mx && c.exceptionTable.isEmpty && decide (c.maxStack ≤ mostOperands) && decide (meth.sig.returnType = rt) && !meth.locks && decide (parseMethodDescriptor y.desc = some meth.sig)) = true) : (Jvm.Cond.code y bytes mx rt).before a s = true := by
  simp only [Bool.and_eq_true, beq_iff_eq, Bool.not_eq_true', decide_eq_true_eq] at h5
  obtain ⟨⟨⟨⟨⟨g1, g2⟩, g3⟩, g4⟩, g5⟩, g6⟩ := h5
  simp [Cond.before, Cond.holds, Cond.value, h1, h2, h3, h4, g1, g2, g3, g4, g5, g6]
def isCode : Jvm.Cond → Bool
  | .code _ _ _ _ => true
  | _ => false
theorem all_split {L : List Jvm.Cond} {P : Jvm.Cond → Bool} (h1 : L.all (fun c => isCode c || P c) = true) (h2 : ∀ c ∈ L.filter isCode, P c = true) : L.all P = true := by
  refine List.all_eq_true.mpr fun c hc => ?_
  have h := List.all_eq_true.mp h1 c hc
  rcases Bool.eq_false_or_eq_true (isCode c) with hi | hi
  · exact h2 c (List.mem_filter.mpr ⟨hc, hi⟩)
  · simpa [hi] using h
set_option maxRecDepth 65536 in
theorem w_c0 : (Jvm.Cond.code x code maxLocals ret).before args0 about1 = true := code_word (m := ⟨1, 2⟩) (meth := k1m2) (c := k1c2) (by decide +kernel) rfl rfl rfl (by decide +kernel)
set_option maxRecDepth 65536 in
theorem w_c1 : (Jvm.Cond.code ({ cls := "com/example/dido/dido/PlanarRingHoldsPinLaw", name := "cross", desc := "(JJJJJJ)J" } : Jvm.MethodName) method_2_code (12 : Nat) (Option.some Jvm.ClassFile.FieldType.long)).before args0 about1 = true := code_word (m := ⟨1, 1⟩) (meth := k1m1) (c := k1c1) (by decide +kernel) rfl rfl rfl (by decide +kernel)
set_option maxRecDepth 65536 in
theorem w_c2 : (Jvm.Cond.code ({ cls := "com/example/dido/dido/PlanarRing", name := "holds", desc := "([DDD)Z" } : Jvm.MethodName) prog_15_method_4_code (8 : Nat) (Option.some Jvm.ClassFile.FieldType.boolean)).before args0 about1 = true := code_word (m := ⟨2, 1⟩) (meth := k2m1) (c := k2c1) (by decide +kernel) rfl rfl rfl (by decide +kernel)
def codes1 : List Jvm.Cond := [Jvm.Cond.code x code maxLocals ret, Jvm.Cond.code ({ cls := "com/example/dido/dido/PlanarRingHoldsPinLaw", name := "cross", desc := "(JJJJJJ)J" } : Jvm.MethodName) method_2_code (12 : Nat) (Option.some Jvm.ClassFile.FieldType.long), Jvm.Cond.code ({ cls := "com/example/dido/dido/PlanarRing", name := "holds", desc := "([DDD)Z" } : Jvm.MethodName) prog_15_method_4_code (8 : Nat) (Option.some Jvm.ClassFile.FieldType.boolean)]
set_option maxRecDepth 65536 in
theorem codes_eq : words1.filter isCode = codes1 := rfl
theorem w_codes : ∀ c ∈ words1.filter isCode, c.before args0 about1 = true := by
  rw [codes_eq]
  intro c hc
  simp only [codes1, List.mem_cons, List.not_mem_nil, or_false] at hc
  rcases hc with rfl | rfl | rfl
  · exact w_c0
  · exact w_c1
  · exact w_c2
set_option maxRecDepth 65536 in
theorem w_t1 : words1.all (fun c => isCode c || c.before args0 about1) = true := by decide +kernel
theorem w_tables : (allAtoms (Jvm.Cond.code x code maxLocals ret :: tables_1)).before args0 about1 = true := by
  rw [allAtoms_all]
  show words1.all (fun c => c.before args0 about1) = true
  refine all_split ?_ w_codes
  rw [w_t1]
set_option maxRecDepth 65536 in
theorem w_case : (Jvm.Cond.and given_1 narrow_1).before args0 about1 = true := by decide +kernel
theorem w_applies : (headSpec (Jvm.Cond.code x code maxLocals ret :: tables_1) room_1).applies x e0.platform about1 = true :=
  (Spec.applies_iff w_frames).mpr ⟨w_running, w_runnable, w_alone, w_named, w_hears, w_ripe, w_room, w_tables⟩
theorem atStart : AtStart classFile x code maxLocals ret World_1 tables_1 room_1 Calls_1 rest_1 Pre_1 launch0 p0 e0 about1 theMethod args0 below0 :=
  ⟨lists_1, trivial, launch0.admits_env _ _ _, launch0.least_env, fairChoices_fair.cas, fairChoices_fair.clock, w_frames, w_args, w_heap, w_applies, trivial, trivial, w_case⟩
end start1
theorem witness_1 : WitnessClaimed_1 := ⟨start1.p0, start1.e0, start1.about1, start1.theMethod, start1.args0, start1.below0, start1.atStart⟩
end Jvm.Pilot.@@N@@
