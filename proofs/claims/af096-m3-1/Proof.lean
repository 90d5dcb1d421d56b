import JvmDerived
import JvmDerived.Pilot.@@N@@Statement
import JvmDerived.Pilot.@@N@@Code
set_option linter.unusedVariables false
set_option linter.unusedSimpArgs false
namespace Jvm.Pilot.@@N@@
open Jvm Jvm.ClassFile Sem Op Lib Jvm.Free Jvm.Stand Jvm.LawKit Jvm.RoadKit Jvm.Free.Fl Bundle Jvm.Pilot.@@N@@.Jvm.D
section OwnG
variable {p : Program} {l : Launch} {e : Env} {R : Room} {s : State} {m : MethodId} {args : Array Value} {below : List Frame} {meth : Method} {c : Code} {T : State} {locs : List Loc} {cells slots : Nat} {Z : State} {a0 : Array Value} {h : Heap} {B : ByteArray} {pc pc' : Nat} {L L' : Array Slot} {rest : List Value} {F : Outcome → State → Prop}
def Gt (tb : Tables) (e : Env) (below : List Frame) (F : Outcome → State → Prop) (S : State) : Prop := ∃ s₂ o, Steps tb e below S s₂ ∧ s₂.status = .running ∧ Ended s₂ below o ∧ F o s₂
theorem Gt.go {tb : Tables} {S S' : State} (k : Gt tb e below F S') (q : ∀ t, Steps tb e below S' t → Steps tb e below S t) : Gt tb e below F S := by
  obtain ⟨a, o, h1, h2⟩ := k; exact ⟨a, o, q _ h1, h2⟩
theorem own_join {tb : Tables} {S S' : State} (q : ∀ F', Gt tb e below F' S' → Gt tb e below F' S) (k : Gt tb e below F S') : Gt tb e below F S := q F k
theorem own_cast {tb : Tables} {g g' : JFrame} (q : g = g') (k : Gt tb e below F (T.setTop g')) : Gt tb e below F (T.setTop g) := q ▸ k
theorem own_iadd (X : Stand p l e R s m args below meth c T locs cells slots) (hx : p.tables.exec = Jvm.exec) (hby : c.code = B) {x y v : Int32} (hv : x + y = v) (hd : decode B pc = .ok (.iadd, 1)) (hp : pc + 1 = pc') (k : Gt p.tables e below F (T.setTop (mkF m pc' L (.int v :: rest)))) : Gt p.tables e below F (T.setTop (mkF m pc L (.int y :: .int x :: rest))) := by
  subst hp; exact (by subst hv; exact k.go fun t q => XS.iadd X.here hx rfl (hb hby hd) rfl q)
theorem own_isub (X : Stand p l e R s m args below meth c T locs cells slots) (hx : p.tables.exec = Jvm.exec) (hby : c.code = B) {x y v : Int32} (hv : x - y = v) (hd : decode B pc = .ok (.isub, 1)) (hp : pc + 1 = pc') (k : Gt p.tables e below F (T.setTop (mkF m pc' L (.int v :: rest)))) : Gt p.tables e below F (T.setTop (mkF m pc L (.int y :: .int x :: rest))) := by
  subst hp; exact (by subst hv; exact k.go fun t q => XS.isub X.here hx rfl (hb hby hd) rfl q)
theorem own_imul (X : Stand p l e R s m args below meth c T locs cells slots) (hx : p.tables.exec = Jvm.exec) (hby : c.code = B) {x y v : Int32} (hv : x * y = v) (hd : decode B pc = .ok (.imul, 1)) (hp : pc + 1 = pc') (k : Gt p.tables e below F (T.setTop (mkF m pc' L (.int v :: rest)))) : Gt p.tables e below F (T.setTop (mkF m pc L (.int y :: .int x :: rest))) := by
  subst hp; exact (by subst hv; exact k.go fun t q => XS.imul X.here hx rfl (hb hby hd) rfl q)
theorem own_iand (X : Stand p l e R s m args below meth c T locs cells slots) (hx : p.tables.exec = Jvm.exec) (hby : c.code = B) {x y v : Int32} (hv : x &&& y = v) (hd : decode B pc = .ok (.iand, 1)) (hp : pc + 1 = pc') (k : Gt p.tables e below F (T.setTop (mkF m pc' L (.int v :: rest)))) : Gt p.tables e below F (T.setTop (mkF m pc L (.int y :: .int x :: rest))) := by
  subst hp; exact (by subst hv; exact k.go fun t q => XS.iand X.here hx rfl (hb hby hd) rfl q)
theorem own_ior (X : Stand p l e R s m args below meth c T locs cells slots) (hx : p.tables.exec = Jvm.exec) (hby : c.code = B) {x y v : Int32} (hv : x ||| y = v) (hd : decode B pc = .ok (.ior, 1)) (hp : pc + 1 = pc') (k : Gt p.tables e below F (T.setTop (mkF m pc' L (.int v :: rest)))) : Gt p.tables e below F (T.setTop (mkF m pc L (.int y :: .int x :: rest))) := by
  subst hp; exact (by subst hv; exact k.go fun t q => XS.ior X.here hx rfl (hb hby hd) rfl q)
theorem own_ixor (X : Stand p l e R s m args below meth c T locs cells slots) (hx : p.tables.exec = Jvm.exec) (hby : c.code = B) {x y v : Int32} (hv : x ^^^ y = v) (hd : decode B pc = .ok (.ixor, 1)) (hp : pc + 1 = pc') (k : Gt p.tables e below F (T.setTop (mkF m pc' L (.int v :: rest)))) : Gt p.tables e below F (T.setTop (mkF m pc L (.int y :: .int x :: rest))) := by
  subst hp; exact (by subst hv; exact k.go fun t q => XS.ixor X.here hx rfl (hb hby hd) rfl q)
theorem own_ishl (X : Stand p l e R s m args below meth c T locs cells slots) (hx : p.tables.exec = Jvm.exec) (hby : c.code = B) {x y v : Int32} (hv : x <<< (y &&& 31) = v) (hd : decode B pc = .ok (.ishl, 1)) (hp : pc + 1 = pc') (k : Gt p.tables e below F (T.setTop (mkF m pc' L (.int v :: rest)))) : Gt p.tables e below F (T.setTop (mkF m pc L (.int y :: .int x :: rest))) := by
  subst hp; exact (by subst hv; exact k.go fun t q => XS.ishl X.here hx rfl (hb hby hd) rfl q)
theorem own_ishr (X : Stand p l e R s m args below meth c T locs cells slots) (hx : p.tables.exec = Jvm.exec) (hby : c.code = B) {x y v : Int32} (hv : x >>> (y &&& 31) = v) (hd : decode B pc = .ok (.ishr, 1)) (hp : pc + 1 = pc') (k : Gt p.tables e below F (T.setTop (mkF m pc' L (.int v :: rest)))) : Gt p.tables e below F (T.setTop (mkF m pc L (.int y :: .int x :: rest))) := by
  subst hp; exact (by subst hv; exact k.go fun t q => XS.ishr X.here hx rfl (hb hby hd) rfl q)
theorem own_iushr (X : Stand p l e R s m args below meth c T locs cells slots) (hx : p.tables.exec = Jvm.exec) (hby : c.code = B) {x y v : Int32} (hv : (x.toUInt32 >>> (y &&& 31).toUInt32).toInt32 = v) (hd : decode B pc = .ok (.iushr, 1)) (hp : pc + 1 = pc') (k : Gt p.tables e below F (T.setTop (mkF m pc' L (.int v :: rest)))) : Gt p.tables e below F (T.setTop (mkF m pc L (.int y :: .int x :: rest))) := by
  subst hp; exact (by subst hv; exact k.go fun t q => XS.iushr X.here hx rfl (hb hby hd) rfl q)
theorem own_ladd (X : Stand p l e R s m args below meth c T locs cells slots) (hx : p.tables.exec = Jvm.exec) (hby : c.code = B) {x y v : Int64} (hv : x + y = v) (hd : decode B pc = .ok (.ladd, 1)) (hp : pc + 1 = pc') (k : Gt p.tables e below F (T.setTop (mkF m pc' L (.long v :: rest)))) : Gt p.tables e below F (T.setTop (mkF m pc L (.long y :: .long x :: rest))) := by
  subst hp; exact (by subst hv; exact k.go fun t q => XS.ladd X.here hx rfl (hb hby hd) rfl q)
theorem own_lsub (X : Stand p l e R s m args below meth c T locs cells slots) (hx : p.tables.exec = Jvm.exec) (hby : c.code = B) {x y v : Int64} (hv : x - y = v) (hd : decode B pc = .ok (.lsub, 1)) (hp : pc + 1 = pc') (k : Gt p.tables e below F (T.setTop (mkF m pc' L (.long v :: rest)))) : Gt p.tables e below F (T.setTop (mkF m pc L (.long y :: .long x :: rest))) := by
  subst hp; exact (by subst hv; exact k.go fun t q => XS.lsub X.here hx rfl (hb hby hd) rfl q)
theorem own_lmul (X : Stand p l e R s m args below meth c T locs cells slots) (hx : p.tables.exec = Jvm.exec) (hby : c.code = B) {x y v : Int64} (hv : x * y = v) (hd : decode B pc = .ok (.lmul, 1)) (hp : pc + 1 = pc') (k : Gt p.tables e below F (T.setTop (mkF m pc' L (.long v :: rest)))) : Gt p.tables e below F (T.setTop (mkF m pc L (.long y :: .long x :: rest))) := by
  subst hp; exact (by subst hv; exact k.go fun t q => XS.lmul X.here hx rfl (hb hby hd) rfl q)
theorem own_land (X : Stand p l e R s m args below meth c T locs cells slots) (hx : p.tables.exec = Jvm.exec) (hby : c.code = B) {x y v : Int64} (hv : x &&& y = v) (hd : decode B pc = .ok (.land, 1)) (hp : pc + 1 = pc') (k : Gt p.tables e below F (T.setTop (mkF m pc' L (.long v :: rest)))) : Gt p.tables e below F (T.setTop (mkF m pc L (.long y :: .long x :: rest))) := by
  subst hp; exact (by subst hv; exact k.go fun t q => XS.land X.here hx rfl (hb hby hd) rfl q)
theorem own_lor (X : Stand p l e R s m args below meth c T locs cells slots) (hx : p.tables.exec = Jvm.exec) (hby : c.code = B) {x y v : Int64} (hv : x ||| y = v) (hd : decode B pc = .ok (.lor, 1)) (hp : pc + 1 = pc') (k : Gt p.tables e below F (T.setTop (mkF m pc' L (.long v :: rest)))) : Gt p.tables e below F (T.setTop (mkF m pc L (.long y :: .long x :: rest))) := by
  subst hp; exact (by subst hv; exact k.go fun t q => XS.lor X.here hx rfl (hb hby hd) rfl q)
theorem own_lxor (X : Stand p l e R s m args below meth c T locs cells slots) (hx : p.tables.exec = Jvm.exec) (hby : c.code = B) {x y v : Int64} (hv : x ^^^ y = v) (hd : decode B pc = .ok (.lxor, 1)) (hp : pc + 1 = pc') (k : Gt p.tables e below F (T.setTop (mkF m pc' L (.long v :: rest)))) : Gt p.tables e below F (T.setTop (mkF m pc L (.long y :: .long x :: rest))) := by
  subst hp; exact (by subst hv; exact k.go fun t q => XS.lxor X.here hx rfl (hb hby hd) rfl q)
theorem own_lshl (X : Stand p l e R s m args below meth c T locs cells slots) (hx : p.tables.exec = Jvm.exec) (hby : c.code = B) {x v : Int64} {y : Int32} (hv : x <<< (y &&& 0x3f).toInt64 = v) (hd : decode B pc = .ok (.lshl, 1)) (hp : pc + 1 = pc') (k : Gt p.tables e below F (T.setTop (mkF m pc' L (.long v :: rest)))) : Gt p.tables e below F (T.setTop (mkF m pc L (.int y :: .long x :: rest))) := by
  subst hp; exact (by subst hv; exact k.go fun t q => XS.lshl X.here hx rfl (hb hby hd) rfl q)
theorem own_lshr (X : Stand p l e R s m args below meth c T locs cells slots) (hx : p.tables.exec = Jvm.exec) (hby : c.code = B) {x v : Int64} {y : Int32} (hv : x >>> (y &&& 0x3f).toInt64 = v) (hd : decode B pc = .ok (.lshr, 1)) (hp : pc + 1 = pc') (k : Gt p.tables e below F (T.setTop (mkF m pc' L (.long v :: rest)))) : Gt p.tables e below F (T.setTop (mkF m pc L (.int y :: .long x :: rest))) := by
  subst hp; exact (by subst hv; exact k.go fun t q => XS.lshr X.here hx rfl (hb hby hd) rfl q)
theorem own_lushr (X : Stand p l e R s m args below meth c T locs cells slots) (hx : p.tables.exec = Jvm.exec) (hby : c.code = B) {x v : Int64} {y : Int32} (hv : (x.toUInt64 >>> (y &&& 0x3f).toInt64.toUInt64).toInt64 = v) (hd : decode B pc = .ok (.lushr, 1)) (hp : pc + 1 = pc') (k : Gt p.tables e below F (T.setTop (mkF m pc' L (.long v :: rest)))) : Gt p.tables e below F (T.setTop (mkF m pc L (.int y :: .long x :: rest))) := by
  subst hp; exact (by subst hv; exact k.go fun t q => XS.lushr X.here hx rfl (hb hby hd) rfl q)
theorem own_idiv (X : Stand p l e R s m args below meth c T locs cells slots) (hx : p.tables.exec = Jvm.exec) (hby : c.code = B) {x y v : Int32} (hy : y ≠ 0) (hv : x / y = v) (hd : decode B pc = .ok (.idiv, 1)) (hp : pc + 1 = pc') (k : Gt p.tables e below F (T.setTop (mkF m pc' L (.int v :: rest)))) : Gt p.tables e below F (T.setTop (mkF m pc L (.int y :: .int x :: rest))) := by
  subst hp; exact (by subst hv; exact k.go fun t q => XS.idiv X.here hx rfl (hb hby hd) rfl hy q)
theorem own_irem (X : Stand p l e R s m args below meth c T locs cells slots) (hx : p.tables.exec = Jvm.exec) (hby : c.code = B) {x y v : Int32} (hy : y ≠ 0) (hv : x % y = v) (hd : decode B pc = .ok (.irem, 1)) (hp : pc + 1 = pc') (k : Gt p.tables e below F (T.setTop (mkF m pc' L (.int v :: rest)))) : Gt p.tables e below F (T.setTop (mkF m pc L (.int y :: .int x :: rest))) := by
  subst hp; exact (by subst hv; exact k.go fun t q => iremM X hx rfl (hb hby hd) rfl hy q)
theorem own_ldiv (X : Stand p l e R s m args below meth c T locs cells slots) (hx : p.tables.exec = Jvm.exec) (hby : c.code = B) {x y v : Int64} (hy : y ≠ 0) (hv : x / y = v) (hd : decode B pc = .ok (.ldiv, 1)) (hp : pc + 1 = pc') (k : Gt p.tables e below F (T.setTop (mkF m pc' L (.long v :: rest)))) : Gt p.tables e below F (T.setTop (mkF m pc L (.long y :: .long x :: rest))) := by
  subst hp; exact (by subst hv; exact k.go fun t q => XS.ldiv X.here hx rfl (hb hby hd) rfl hy q)
theorem own_lrem (X : Stand p l e R s m args below meth c T locs cells slots) (hx : p.tables.exec = Jvm.exec) (hby : c.code = B) {x y v : Int64} (hy : y ≠ 0) (hv : x % y = v) (hd : decode B pc = .ok (.lrem, 1)) (hp : pc + 1 = pc') (k : Gt p.tables e below F (T.setTop (mkF m pc' L (.long v :: rest)))) : Gt p.tables e below F (T.setTop (mkF m pc L (.long y :: .long x :: rest))) := by
  subst hp; exact (by subst hv; rw [← lrem_mod] at k; exact k.go fun t q => XS.lrem X.here hx rfl (hb hby hd) rfl hy q)
theorem own_lcmp (X : Stand p l e R s m args below meth c T locs cells slots) (hx : p.tables.exec = Jvm.exec) (hby : c.code = B) {x y : Int64} {v : Int32} (hv : (if x > y then 1 else if x = y then 0 else -1 : Int32) = v) (hd : decode B pc = .ok (.lcmp, 1)) (hp : pc + 1 = pc') (k : Gt p.tables e below F (T.setTop (mkF m pc' L (.int v :: rest)))) : Gt p.tables e below F (T.setTop (mkF m pc L (.long y :: .long x :: rest))) := by
  subst hp; exact (by subst hv; exact k.go fun t q => XS.lcmp X.here hx rfl (hb hby hd) rfl q)
theorem own_ineg (X : Stand p l e R s m args below meth c T locs cells slots) (hx : p.tables.exec = Jvm.exec) (hby : c.code = B) {x v : Int32} (hv : -x = v) (hd : decode B pc = .ok (.ineg, 1)) (hp : pc + 1 = pc') (k : Gt p.tables e below F (T.setTop (mkF m pc' L (.int v :: rest)))) : Gt p.tables e below F (T.setTop (mkF m pc L (.int x :: rest))) := by
  subst hp; exact (by subst hv; exact k.go fun t q => XS.ineg X.here hx rfl (hb hby hd) rfl q)
theorem own_lneg (X : Stand p l e R s m args below meth c T locs cells slots) (hx : p.tables.exec = Jvm.exec) (hby : c.code = B) {x v : Int64} (hv : -x = v) (hd : decode B pc = .ok (.lneg, 1)) (hp : pc + 1 = pc') (k : Gt p.tables e below F (T.setTop (mkF m pc' L (.long v :: rest)))) : Gt p.tables e below F (T.setTop (mkF m pc L (.long x :: rest))) := by
  subst hp; exact (by subst hv; exact k.go fun t q => XS.lneg X.here hx rfl (hb hby hd) rfl q)
theorem own_i2b (X : Stand p l e R s m args below meth c T locs cells slots) (hx : p.tables.exec = Jvm.exec) (hby : c.code = B) {x v : Int32} (hv : x.toInt8.toInt32 = v) (hd : decode B pc = .ok (.i2b, 1)) (hp : pc + 1 = pc') (k : Gt p.tables e below F (T.setTop (mkF m pc' L (.int v :: rest)))) : Gt p.tables e below F (T.setTop (mkF m pc L (.int x :: rest))) := by
  subst hp; exact (by subst hv; exact k.go fun t q => XS.i2b X.here hx rfl (hb hby hd) rfl q)
theorem own_i2c (X : Stand p l e R s m args below meth c T locs cells slots) (hx : p.tables.exec = Jvm.exec) (hby : c.code = B) {x v : Int32} (hv : x.toUInt32.toUInt16.toUInt32.toInt32 = v) (hd : decode B pc = .ok (.i2c, 1)) (hp : pc + 1 = pc') (k : Gt p.tables e below F (T.setTop (mkF m pc' L (.int v :: rest)))) : Gt p.tables e below F (T.setTop (mkF m pc L (.int x :: rest))) := by
  subst hp; exact (by subst hv; exact k.go fun t q => XS.i2c X.here hx rfl (hb hby hd) rfl q)
theorem own_i2s (X : Stand p l e R s m args below meth c T locs cells slots) (hx : p.tables.exec = Jvm.exec) (hby : c.code = B) {x v : Int32} (hv : x.toInt16.toInt32 = v) (hd : decode B pc = .ok (.i2s, 1)) (hp : pc + 1 = pc') (k : Gt p.tables e below F (T.setTop (mkF m pc' L (.int v :: rest)))) : Gt p.tables e below F (T.setTop (mkF m pc L (.int x :: rest))) := by
  subst hp; exact (by subst hv; exact k.go fun t q => XS.i2s X.here hx rfl (hb hby hd) rfl q)
theorem own_i2l (X : Stand p l e R s m args below meth c T locs cells slots) (hx : p.tables.exec = Jvm.exec) (hby : c.code = B) {x : Int32} {v : Int64} (hv : x.toInt64 = v) (hd : decode B pc = .ok (.i2l, 1)) (hp : pc + 1 = pc') (k : Gt p.tables e below F (T.setTop (mkF m pc' L (.long v :: rest)))) : Gt p.tables e below F (T.setTop (mkF m pc L (.int x :: rest))) := by
  subst hp; exact (by subst hv; exact k.go fun t q => XS.i2l X.here hx rfl (hb hby hd) rfl q)
theorem own_l2i (X : Stand p l e R s m args below meth c T locs cells slots) (hx : p.tables.exec = Jvm.exec) (hby : c.code = B) {x : Int64} {v : Int32} (hv : x.toInt32 = v) (hd : decode B pc = .ok (.l2i, 1)) (hp : pc + 1 = pc') (k : Gt p.tables e below F (T.setTop (mkF m pc' L (.int v :: rest)))) : Gt p.tables e below F (T.setTop (mkF m pc L (.long x :: rest))) := by
  subst hp; exact (by subst hv; exact k.go fun t q => XS.l2i X.here hx rfl (hb hby hd) rfl q)
theorem own_iload (X : Stand p l e R s m args below meth c T locs cells slots) (hx : p.tables.exec = Jvm.exec) (hby : c.code = B) {i : Nat} {v : Int32} (hl : L[i]? = some (.val (.int v))) (hd : decode B pc = .ok (.iload i, 2)) (hp : pc + 2 = pc') (k : Gt p.tables e below F (T.setTop (mkF m pc' L (.int v :: rest)))) : Gt p.tables e below F (T.setTop (mkF m pc L rest)) := by
  subst hp; exact k.go fun t q => XS.iload X.here hx rfl (hb hby hd) hl q
theorem own_iloadN (X : Stand p l e R s m args below meth c T locs cells slots) (hx : p.tables.exec = Jvm.exec) (hby : c.code = B) {i : Fin 4} {v : Int32} (hl : L[i.val]? = some (.val (.int v))) (hd : decode B pc = .ok (.iload_n i, 1)) (hp : pc + 1 = pc') (k : Gt p.tables e below F (T.setTop (mkF m pc' L (.int v :: rest)))) : Gt p.tables e below F (T.setTop (mkF m pc L rest)) := by
  subst hp; exact k.go fun t q => XS.iloadN X.here hx rfl (hb hby hd) hl q
theorem own_lload (X : Stand p l e R s m args below meth c T locs cells slots) (hx : p.tables.exec = Jvm.exec) (hby : c.code = B) {i : Nat} {v : Int64} (hl : L[i]? = some (.val (.long v))) (hd : decode B pc = .ok (.lload i, 2)) (hp : pc + 2 = pc') (k : Gt p.tables e below F (T.setTop (mkF m pc' L (.long v :: rest)))) : Gt p.tables e below F (T.setTop (mkF m pc L rest)) := by
  subst hp; exact k.go fun t q => XS.lload X.here hx rfl (hb hby hd) hl q
theorem own_lloadN (X : Stand p l e R s m args below meth c T locs cells slots) (hx : p.tables.exec = Jvm.exec) (hby : c.code = B) {i : Fin 4} {v : Int64} (hl : L[i.val]? = some (.val (.long v))) (hd : decode B pc = .ok (.lload_n i, 1)) (hp : pc + 1 = pc') (k : Gt p.tables e below F (T.setTop (mkF m pc' L (.long v :: rest)))) : Gt p.tables e below F (T.setTop (mkF m pc L rest)) := by
  subst hp; exact k.go fun t q => XS.lloadN X.here hx rfl (hb hby hd) hl q
theorem own_dload (X : Stand p l e R s m args below meth c T locs cells slots) (hx : p.tables.exec = Jvm.exec) (hby : c.code = B) {i : Nat} {v : UInt64} (hl : L[i]? = some (.val (.double v))) (hd : decode B pc = .ok (.dload i, 2)) (hp : pc + 2 = pc') (k : Gt p.tables e below F (T.setTop (mkF m pc' L (.double v :: rest)))) : Gt p.tables e below F (T.setTop (mkF m pc L rest)) := by
  subst hp; exact k.go fun t q => XS.dload X.here hx rfl (hb hby hd) hl q
theorem own_dloadN (X : Stand p l e R s m args below meth c T locs cells slots) (hx : p.tables.exec = Jvm.exec) (hby : c.code = B) {i : Fin 4} {v : UInt64} (hl : L[i.val]? = some (.val (.double v))) (hd : decode B pc = .ok (.dload_n i, 1)) (hp : pc + 1 = pc') (k : Gt p.tables e below F (T.setTop (mkF m pc' L (.double v :: rest)))) : Gt p.tables e below F (T.setTop (mkF m pc L rest)) := by
  subst hp; exact k.go fun t q => XS.dloadN X.here hx rfl (hb hby hd) hl q
theorem own_aload (X : Stand p l e R s m args below meth c T locs cells slots) (hx : p.tables.exec = Jvm.exec) (hby : c.code = B) {i : Nat} {v : Value} (hl : L[i]? = some (.val v)) (hr : v.isRef = true) (hd : decode B pc = .ok (.aload i, 2)) (hp : pc + 2 = pc') (k : Gt p.tables e below F (T.setTop (mkF m pc' L (v :: rest)))) : Gt p.tables e below F (T.setTop (mkF m pc L rest)) := by
  subst hp; exact k.go fun t q => XS.aload X.here hx rfl (hb hby hd) hl hr q
theorem own_aloadN (X : Stand p l e R s m args below meth c T locs cells slots) (hx : p.tables.exec = Jvm.exec) (hby : c.code = B) {i : Fin 4} {v : Value} (hl : L[i.val]? = some (.val v)) (hr : v.isRef = true) (hd : decode B pc = .ok (.aload_n i, 1)) (hp : pc + 1 = pc') (k : Gt p.tables e below F (T.setTop (mkF m pc' L (v :: rest)))) : Gt p.tables e below F (T.setTop (mkF m pc L rest)) := by
  subst hp; exact k.go fun t q => XS.aloadN X.here hx rfl (hb hby hd) hl hr q
theorem own_istore (X : Stand p l e R s m args below meth c T locs cells slots) (hx : p.tables.exec = Jvm.exec) (hby : c.code = B) {i : Nat} {v : Int32} (hl : storeLocals L i (.int v) = some L') (hd : decode B pc = .ok (.istore i, 2)) (hp : pc + 2 = pc') (k : Gt p.tables e below F (T.setTop (mkF m pc' L' rest))) : Gt p.tables e below F (T.setTop (mkF m pc L (.int v :: rest))) := by
  subst hp; exact k.go fun t q => XS.istore X.here hx rfl (hb hby hd) rfl hl q
theorem own_istoreN (X : Stand p l e R s m args below meth c T locs cells slots) (hx : p.tables.exec = Jvm.exec) (hby : c.code = B) {i : Fin 4} {v : Int32} (hl : storeLocals L i.val (.int v) = some L') (hd : decode B pc = .ok (.istore_n i, 1)) (hp : pc + 1 = pc') (k : Gt p.tables e below F (T.setTop (mkF m pc' L' rest))) : Gt p.tables e below F (T.setTop (mkF m pc L (.int v :: rest))) := by
  subst hp; exact k.go fun t q => XS.istoreN X.here hx rfl (hb hby hd) rfl hl q
theorem own_lstore (X : Stand p l e R s m args below meth c T locs cells slots) (hx : p.tables.exec = Jvm.exec) (hby : c.code = B) {i : Nat} {v : Int64} (hl : storeLocals L i (.long v) = some L') (hd : decode B pc = .ok (.lstore i, 2)) (hp : pc + 2 = pc') (k : Gt p.tables e below F (T.setTop (mkF m pc' L' rest))) : Gt p.tables e below F (T.setTop (mkF m pc L (.long v :: rest))) := by
  subst hp; exact k.go fun t q => XS.lstore X.here hx rfl (hb hby hd) rfl hl q
theorem own_lstoreN (X : Stand p l e R s m args below meth c T locs cells slots) (hx : p.tables.exec = Jvm.exec) (hby : c.code = B) {i : Fin 4} {v : Int64} (hl : storeLocals L i.val (.long v) = some L') (hd : decode B pc = .ok (.lstore_n i, 1)) (hp : pc + 1 = pc') (k : Gt p.tables e below F (T.setTop (mkF m pc' L' rest))) : Gt p.tables e below F (T.setTop (mkF m pc L (.long v :: rest))) := by
  subst hp; exact k.go fun t q => XS.lstoreN X.here hx rfl (hb hby hd) rfl hl q
theorem own_dstore (X : Stand p l e R s m args below meth c T locs cells slots) (hx : p.tables.exec = Jvm.exec) (hby : c.code = B) {i : Nat} {v : UInt64} (hl : storeLocals L i (.double v) = some L') (hd : decode B pc = .ok (.dstore i, 2)) (hp : pc + 2 = pc') (k : Gt p.tables e below F (T.setTop (mkF m pc' L' rest))) : Gt p.tables e below F (T.setTop (mkF m pc L (.double v :: rest))) := by
  subst hp; exact k.go fun t q => XS.dstore X.here hx rfl (hb hby hd) rfl hl q
theorem own_dstoreN (X : Stand p l e R s m args below meth c T locs cells slots) (hx : p.tables.exec = Jvm.exec) (hby : c.code = B) {i : Fin 4} {v : UInt64} (hl : storeLocals L i.val (.double v) = some L') (hd : decode B pc = .ok (.dstore_n i, 1)) (hp : pc + 1 = pc') (k : Gt p.tables e below F (T.setTop (mkF m pc' L' rest))) : Gt p.tables e below F (T.setTop (mkF m pc L (.double v :: rest))) := by
  subst hp; exact k.go fun t q => XS.dstoreN X.here hx rfl (hb hby hd) rfl hl q
theorem own_astore (X : Stand p l e R s m args below meth c T locs cells slots) (hx : p.tables.exec = Jvm.exec) (hby : c.code = B) {i : Nat} {v : Value} (hr : v.isRef = true) (hl : storeLocals L i v = some L') (hd : decode B pc = .ok (.astore i, 2)) (hp : pc + 2 = pc') (k : Gt p.tables e below F (T.setTop (mkF m pc' L' rest))) : Gt p.tables e below F (T.setTop (mkF m pc L (v :: rest))) := by
  subst hp; exact k.go fun t q => XS.astore X.here hx rfl (hb hby hd) rfl hr hl q
theorem own_astoreN (X : Stand p l e R s m args below meth c T locs cells slots) (hx : p.tables.exec = Jvm.exec) (hby : c.code = B) {i : Fin 4} {v : Value} (hr : v.isRef = true) (hl : storeLocals L i.val v = some L') (hd : decode B pc = .ok (.astore_n i, 1)) (hp : pc + 1 = pc') (k : Gt p.tables e below F (T.setTop (mkF m pc' L' rest))) : Gt p.tables e below F (T.setTop (mkF m pc L (v :: rest))) := by
  subst hp; exact k.go fun t q => XS.astoreN X.here hx rfl (hb hby hd) rfl hr hl q
theorem own_iinc (X : Stand p l e R s m args below meth c T locs cells slots) (hx : p.tables.exec = Jvm.exec) (hby : c.code = B) {i : Nat} {cst : Int} {x : Int32} (hl : L[i]? = some (.val (.int x))) (hl' : storeLocals L i (.int (x + Int32.ofInt cst)) = some L') (hd : decode B pc = .ok (.iinc i cst, 3)) (hp : pc + 3 = pc') (k : Gt p.tables e below F (T.setTop (mkF m pc' L' rest))) : Gt p.tables e below F (T.setTop (mkF m pc L rest)) := by
  subst hp; exact k.go fun t q => XS.iinc X.here hx rfl (hb hby hd) hl hl' q
theorem own_iconst (X : Stand p l e R s m args below meth c T locs cells slots) (hx : p.tables.exec = Jvm.exec) (hby : c.code = B) {i : Int} {v : Int32} (hv : Int32.ofInt i = v) (hd : decode B pc = .ok (.iconst i, 1)) (hp : pc + 1 = pc') (k : Gt p.tables e below F (T.setTop (mkF m pc' L (.int v :: rest)))) : Gt p.tables e below F (T.setTop (mkF m pc L rest)) := by
  subst hp; exact (by subst hv; exact k.go fun t q => XS.iconst X.here hx rfl (hb hby hd) q)
theorem own_bipush (X : Stand p l e R s m args below meth c T locs cells slots) (hx : p.tables.exec = Jvm.exec) (hby : c.code = B) {i : Int} {v : Int32} (hv : (Int8.ofInt i).toInt32 = v) (hd : decode B pc = .ok (.bipush i, 2)) (hp : pc + 2 = pc') (k : Gt p.tables e below F (T.setTop (mkF m pc' L (.int v :: rest)))) : Gt p.tables e below F (T.setTop (mkF m pc L rest)) := by
  subst hp; exact (by subst hv; exact k.go fun t q => XS.bipush X.here hx rfl (hb hby hd) q)
theorem own_sipush (X : Stand p l e R s m args below meth c T locs cells slots) (hx : p.tables.exec = Jvm.exec) (hby : c.code = B) {i : Int} {v : Int32} (hv : (Int16.ofInt i).toInt32 = v) (hd : decode B pc = .ok (.sipush i, 3)) (hp : pc + 3 = pc') (k : Gt p.tables e below F (T.setTop (mkF m pc' L (.int v :: rest)))) : Gt p.tables e below F (T.setTop (mkF m pc L rest)) := by
  subst hp; exact (by subst hv; exact k.go fun t q => XS.sipush X.here hx rfl (hb hby hd) q)
theorem own_lconst (X : Stand p l e R s m args below meth c T locs cells slots) (hx : p.tables.exec = Jvm.exec) (hby : c.code = B) {i : Fin 2} {v : Int64} (hv : Int64.ofNat i = v) (hd : decode B pc = .ok (.lconst i, 1)) (hp : pc + 1 = pc') (k : Gt p.tables e below F (T.setTop (mkF m pc' L (.long v :: rest)))) : Gt p.tables e below F (T.setTop (mkF m pc L rest)) := by
  subst hp; exact (by subst hv; exact k.go fun t q => XS.lconst X.here hx rfl (hb hby hd) q)
theorem own_aconst (X : Stand p l e R s m args below meth c T locs cells slots) (hx : p.tables.exec = Jvm.exec) (hby : c.code = B)  (hd : decode B pc = .ok (.aconst_null, 1)) (hp : pc + 1 = pc') (k : Gt p.tables e below F (T.setTop (mkF m pc' L (.null :: rest)))) : Gt p.tables e below F (T.setTop (mkF m pc L rest)) := by
  subst hp; exact k.go fun t q => XS.aconstNull X.here hx rfl (hb hby hd) q
theorem own_dconst0 (X : Stand p l e R s m args below meth c T locs cells slots) (hx : p.tables.exec = Jvm.exec) (hby : c.code = B) {v : UInt64} (hv : FP.dconst0 = v) (hd : decode B pc = .ok (.dconst 0, 1)) (hp : pc + 1 = pc') (k : Gt p.tables e below F (T.setTop (mkF m pc' L (.double v :: rest)))) : Gt p.tables e below F (T.setTop (mkF m pc L rest)) := by
  subst hp; exact k.go fun t q => XS.dconst0 X.here hx rfl (hb hby hd) hv q
theorem own_dconst1 (X : Stand p l e R s m args below meth c T locs cells slots) (hx : p.tables.exec = Jvm.exec) (hby : c.code = B) {v : UInt64} (hv : FP.dconst1 = v) (hd : decode B pc = .ok (.dconst 1, 1)) (hp : pc + 1 = pc') (k : Gt p.tables e below F (T.setTop (mkF m pc' L (.double v :: rest)))) : Gt p.tables e below F (T.setTop (mkF m pc L rest)) := by
  subst hp; exact k.go fun t q => XS.dconst1 X.here hx rfl (hb hby hd) hv q
theorem own_dadd (X : Stand p l e R s m args below meth c T locs cells slots) (hx : p.tables.exec = Jvm.exec) (hby : c.code = B) {x y v : UInt64} (hn : NoNaN64 (FP.dadd x y)) (hv : FP.dadd x y = v) (hd : decode B pc = .ok (.dadd, 1)) (hp : pc + 1 = pc') (k : Gt p.tables e below F (T.setTop (mkF m pc' L (.double v :: rest)))) : Gt p.tables e below F (T.setTop (mkF m pc L (.double y :: .double x :: rest))) := by
  subst hp; exact k.go fun t q => XS.daddS X.here hx rfl (hb hby hd) rfl hn hv q
theorem own_dsub (X : Stand p l e R s m args below meth c T locs cells slots) (hx : p.tables.exec = Jvm.exec) (hby : c.code = B) {x y v : UInt64} (hn : NoNaN64 (FP.dsub x y)) (hv : FP.dsub x y = v) (hd : decode B pc = .ok (.dsub, 1)) (hp : pc + 1 = pc') (k : Gt p.tables e below F (T.setTop (mkF m pc' L (.double v :: rest)))) : Gt p.tables e below F (T.setTop (mkF m pc L (.double y :: .double x :: rest))) := by
  subst hp; exact k.go fun t q => XS.dsubS X.here hx rfl (hb hby hd) rfl hn hv q
theorem own_dmul (X : Stand p l e R s m args below meth c T locs cells slots) (hx : p.tables.exec = Jvm.exec) (hby : c.code = B) {x y v : UInt64} (hn : NoNaN64 (FP.dmul x y)) (hv : FP.dmul x y = v) (hd : decode B pc = .ok (.dmul, 1)) (hp : pc + 1 = pc') (k : Gt p.tables e below F (T.setTop (mkF m pc' L (.double v :: rest)))) : Gt p.tables e below F (T.setTop (mkF m pc L (.double y :: .double x :: rest))) := by
  subst hp; exact k.go fun t q => XS.dmulS X.here hx rfl (hb hby hd) rfl hn hv q
theorem own_ddiv (X : Stand p l e R s m args below meth c T locs cells slots) (hx : p.tables.exec = Jvm.exec) (hby : c.code = B) {x y v : UInt64} (hn : NoNaN64 (FP.ddiv x y)) (hv : FP.ddiv x y = v) (hd : decode B pc = .ok (.ddiv, 1)) (hp : pc + 1 = pc') (k : Gt p.tables e below F (T.setTop (mkF m pc' L (.double v :: rest)))) : Gt p.tables e below F (T.setTop (mkF m pc L (.double y :: .double x :: rest))) := by
  subst hp; exact k.go fun t q => XS.ddivS X.here hx rfl (hb hby hd) rfl hn hv q
theorem own_dneg (X : Stand p l e R s m args below meth c T locs cells slots) (hx : p.tables.exec = Jvm.exec) (hby : c.code = B) {x v : UInt64} (hv : FP.dneg x = v) (hd : decode B pc = .ok (.dneg, 1)) (hp : pc + 1 = pc') (k : Gt p.tables e below F (T.setTop (mkF m pc' L (.double v :: rest)))) : Gt p.tables e below F (T.setTop (mkF m pc L (.double x :: rest))) := by
  subst hp; exact k.go fun t q => XS.dnegS X.here hx rfl (hb hby hd) rfl hv q
theorem own_dcmp (X : Stand p l e R s m args below meth c T locs cells slots) (hx : p.tables.exec = Jvm.exec) (hby : c.code = B) {o : CmpOp} {x y : UInt64} {v : Int32} (hv : cmpValue (FP.dcmp x y) o = v) (hd : decode B pc = .ok (.dcmp o, 1)) (hp : pc + 1 = pc') (k : Gt p.tables e below F (T.setTop (mkF m pc' L (.int v :: rest)))) : Gt p.tables e below F (T.setTop (mkF m pc L (.double y :: .double x :: rest))) := by
  subst hp; exact k.go fun t q => XS.dcmpS X.here hx rfl (hb hby hd) rfl hv q
theorem own_i2d (X : Stand p l e R s m args below meth c T locs cells slots) (hx : p.tables.exec = Jvm.exec) (hby : c.code = B) {x : Int32} {v : UInt64} (hv : FP.i2d x = v) (hd : decode B pc = .ok (.i2d, 1)) (hp : pc + 1 = pc') (k : Gt p.tables e below F (T.setTop (mkF m pc' L (.double v :: rest)))) : Gt p.tables e below F (T.setTop (mkF m pc L (.int x :: rest))) := by
  subst hp; exact k.go fun t q => XS.i2dS X.here hx rfl (hb hby hd) rfl hv q
theorem own_l2d (X : Stand p l e R s m args below meth c T locs cells slots) (hx : p.tables.exec = Jvm.exec) (hby : c.code = B) {x : Int64} {v : UInt64} (hv : FP.l2d x = v) (hd : decode B pc = .ok (.l2d, 1)) (hp : pc + 1 = pc') (k : Gt p.tables e below F (T.setTop (mkF m pc' L (.double v :: rest)))) : Gt p.tables e below F (T.setTop (mkF m pc L (.long x :: rest))) := by
  subst hp; exact k.go fun t q => XS.l2dS X.here hx rfl (hb hby hd) rfl hv q
theorem own_dup (X : Stand p l e R s m args below meth c T locs cells slots) (hx : p.tables.exec = Jvm.exec) (hby : c.code = B) {x : Value} (hc : x.category = 1) (hd : decode B pc = .ok (.dup, 1)) (hp : pc + 1 = pc') (k : Gt p.tables e below F (T.setTop (mkF m pc' L (x :: x :: rest)))) : Gt p.tables e below F (T.setTop (mkF m pc L (x :: rest))) := by
  subst hp; exact k.go fun t q => XS.dup X.here hx rfl (hb hby hd) rfl hc q
theorem own_pop (X : Stand p l e R s m args below meth c T locs cells slots) (hx : p.tables.exec = Jvm.exec) (hby : c.code = B) {x : Value} (hc : x.category = 1) (hd : decode B pc = .ok (.pop, 1)) (hp : pc + 1 = pc') (k : Gt p.tables e below F (T.setTop (mkF m pc' L rest))) : Gt p.tables e below F (T.setTop (mkF m pc L (x :: rest))) := by
  subst hp; exact k.go fun t q => XS.pop X.here hx rfl (hb hby hd) rfl hc q
theorem own_dupX1 (X : Stand p l e R s m args below meth c T locs cells slots) (hx : p.tables.exec = Jvm.exec) (hby : c.code = B) {x y : Value} (hc : x.category = 1) (hc' : y.category = 1) (hd : decode B pc = .ok (.dup_x1, 1)) (hp : pc + 1 = pc') (k : Gt p.tables e below F (T.setTop (mkF m pc' L (x :: y :: x :: rest)))) : Gt p.tables e below F (T.setTop (mkF m pc L (x :: y :: rest))) := by
  subst hp; exact k.go fun t q => XS.dupX1 X.here hx rfl (hb hby hd) rfl hc hc' q
theorem own_dup2 (X : Stand p l e R s m args below meth c T locs cells slots) (hx : p.tables.exec = Jvm.exec) (hby : c.code = B) {x y : Value} (hc : x.category = 1) (hc' : y.category = 1) (hd : decode B pc = .ok (.dup2, 1)) (hp : pc + 1 = pc') (k : Gt p.tables e below F (T.setTop (mkF m pc' L (x :: y :: x :: y :: rest)))) : Gt p.tables e below F (T.setTop (mkF m pc L (x :: y :: rest))) := by
  subst hp; exact k.go fun t q => Jvm.Free.XT.dup2 X.here hx rfl (hb hby hd) rfl hc hc' q
theorem own_goto (X : Stand p l e R s m args below meth c T locs cells slots) (hx : p.tables.exec = Jvm.exec) (hby : c.code = B) {o : Int} (hd : decode B pc = .ok (.goto o, 3)) (ho : 0 ≤ (pc : Int) + o) (hp : ((pc : Int) + o).toNat = pc') (k : Gt p.tables e below F (T.setTop (mkF m pc' L rest))) : Gt p.tables e below F (T.setTop (mkF m pc L rest)) :=
  k.go fun t q => XS.goto X.here hx rfl rfl (hb hby hd) ho hp q
theorem own_ifT (X : Stand p l e R s m args below meth c T locs cells slots) (hx : p.tables.exec = Jvm.exec) (hby : c.code = B) {cd : ClassFile.Cond} {x : Int32} {o : Int} (hd : decode B pc = .ok (.ifCond cd o, 3)) (hc : ifCond.holds cd x = true) (ho : 0 ≤ (pc : Int) + o) (hp : ((pc : Int) + o).toNat = pc') (k : Gt p.tables e below F (T.setTop (mkF m pc' L rest))) : Gt p.tables e below F (T.setTop (mkF m pc L (.int x :: rest))) :=
  k.go fun t q => XS.ifYes X.here hx rfl rfl (hb hby hd) rfl hc ho hp q
theorem own_ifF (X : Stand p l e R s m args below meth c T locs cells slots) (hx : p.tables.exec = Jvm.exec) (hby : c.code = B) {cd : ClassFile.Cond} {x : Int32} {o : Int} (hd : decode B pc = .ok (.ifCond cd o, 3)) (hc : ifCond.holds cd x = false) (hp : pc + 3 = pc') (k : Gt p.tables e below F (T.setTop (mkF m pc' L rest))) : Gt p.tables e below F (T.setTop (mkF m pc L (.int x :: rest))) := by
  subst hp; exact k.go fun t q => XS.ifNo X.here hx rfl (hb hby hd) rfl hc q
theorem own_icT (X : Stand p l e R s m args below meth c T locs cells slots) (hx : p.tables.exec = Jvm.exec) (hby : c.code = B) {cd : ClassFile.Cond} {x y : Int32} {o : Int} (hd : decode B pc = .ok (.if_icmp cd o, 3)) (hc : if_icmp.holds cd x y = true) (ho : 0 ≤ (pc : Int) + o) (hp : ((pc : Int) + o).toNat = pc') (k : Gt p.tables e below F (T.setTop (mkF m pc' L rest))) : Gt p.tables e below F (T.setTop (mkF m pc L (.int y :: .int x :: rest))) :=
  k.go fun t q => XS.icmpYes X.here hx rfl rfl (hb hby hd) rfl hc ho hp q
theorem own_icF (X : Stand p l e R s m args below meth c T locs cells slots) (hx : p.tables.exec = Jvm.exec) (hby : c.code = B) {cd : ClassFile.Cond} {x y : Int32} {o : Int} (hd : decode B pc = .ok (.if_icmp cd o, 3)) (hc : if_icmp.holds cd x y = false) (hp : pc + 3 = pc') (k : Gt p.tables e below F (T.setTop (mkF m pc' L rest))) : Gt p.tables e below F (T.setTop (mkF m pc L (.int y :: .int x :: rest))) := by
  subst hp; exact k.go fun t q => XS.icmpNo X.here hx rfl (hb hby hd) rfl hc q
theorem own_ifnullT (X : Stand p l e R s m args below meth c T locs cells slots) (hx : p.tables.exec = Jvm.exec) (hby : c.code = B) {o : Int} (hd : decode B pc = .ok (.ifnull o, 3)) (ho : 0 ≤ (pc : Int) + o) (hp : ((pc : Int) + o).toNat = pc') (k : Gt p.tables e below F (T.setTop (mkF m pc' L rest))) : Gt p.tables e below F (T.setTop (mkF m pc L (.null :: rest))) :=
  k.go fun t q => XS.ifnullYes X.here hx rfl rfl (hb hby hd) rfl ho hp q
theorem own_ifnullF (X : Stand p l e R s m args below meth c T locs cells slots) (hx : p.tables.exec = Jvm.exec) (hby : c.code = B) {o : Int} {b : Addr} (hd : decode B pc = .ok (.ifnull o, 3)) (hp : pc + 3 = pc') (k : Gt p.tables e below F (T.setTop (mkF m pc' L rest))) : Gt p.tables e below F (T.setTop (mkF m pc L (.ref b :: rest))) := by
  subst hp; exact k.go fun t q => XS.ifnullNo X.here hx rfl (hb hby hd) rfl q
theorem own_ifnonnullT (X : Stand p l e R s m args below meth c T locs cells slots) (hx : p.tables.exec = Jvm.exec) (hby : c.code = B) {o : Int} {b : Addr} (hd : decode B pc = .ok (.ifnonnull o, 3)) (ho : 0 ≤ (pc : Int) + o) (hp : ((pc : Int) + o).toNat = pc') (k : Gt p.tables e below F (T.setTop (mkF m pc' L rest))) : Gt p.tables e below F (T.setTop (mkF m pc L (.ref b :: rest))) :=
  k.go fun t q => XS.ifnonnullYes X.here hx rfl rfl (hb hby hd) rfl ho hp q
theorem own_ifnonnullF (X : Stand p l e R s m args below meth c T locs cells slots) (hx : p.tables.exec = Jvm.exec) (hby : c.code = B) {o : Int} (hd : decode B pc = .ok (.ifnonnull o, 3)) (hp : pc + 3 = pc') (k : Gt p.tables e below F (T.setTop (mkF m pc' L rest))) : Gt p.tables e below F (T.setTop (mkF m pc L (.null :: rest))) := by
  subst hp; exact k.go fun t q => XS.ifnonnullNo X.here hx rfl (hb hby hd) rfl q
theorem own_acmp (X : Stand p l e R s m args below meth c T locs cells slots) (hx : p.tables.exec = Jvm.exec) (hby : c.code = B) {cd : ACond} {x y : Value} (h1 : x.isRef = true) (h2 : y.isRef = true) {o : Int} {same : Bool} (hd : decode B pc = .ok (.if_acmp cd o, 3)) (hq : decide (x = y) = same) (ho : 0 ≤ (pc : Int) + o) (hp : pc' = if acV cd same = true then ((pc : Int) + o).toNat else pc + 3) (k : Gt p.tables e below F (T.setTop (mkF m pc' L rest))) : Gt p.tables e below F (T.setTop (mkF m pc L (y :: x :: rest))) :=
  k.go fun t q => Jvm.RoadKit.acmp X hx rfl h1 h2 rfl (hb hby hd) rfl hq ho hp q
theorem own_ldcI (X : Stand p l e R s m args below meth c T locs cells slots) (hx : p.tables.exec = Jvm.exec) (hby : c.code = B) (hZ : Z.Warmed39 s.vm) {own : String} {i : Nat} {v : Int32} (hown : s.vm.findClass own = some m.cls) (w : (Jvm.Cond.constant own i v).before a0 Z = true) (hd : decode B pc = .ok (.ldc i, 2)) (hp : pc + 2 = pc') (k : Gt p.tables e below F (T.setTop (mkF m pc' L (.int v :: rest)))) : Gt p.tables e below F (T.setTop (mkF m pc L rest)) := by
  subst hp; exact k.go (X.ldcInt hx hown (mvT hZ w) (g := mkF m pc L rest) rfl (hb hby hd))
theorem own_ldc2L (X : Stand p l e R s m args below meth c T locs cells slots) (hx : p.tables.exec = Jvm.exec) (hby : c.code = B) (hZ : Z.Warmed39 s.vm) {own : String} {i : Nat} {v : Int64} (hown : s.vm.findClass own = some m.cls) (w : (Jvm.Cond.constantLong own i v).before a0 Z = true) (hd : decode B pc = .ok (.ldc2_w i, 3)) (hp : pc + 3 = pc') (k : Gt p.tables e below F (T.setTop (mkF m pc' L (.long v :: rest)))) : Gt p.tables e below F (T.setTop (mkF m pc L rest)) := by
  subst hp; exact k.go (X.ldc2Long hx hown (mvT hZ w) (g := mkF m pc L rest) rfl (hb hby hd))
theorem own_ldc2D (X : Stand p l e R s m args below meth c T locs cells slots) (hx : p.tables.exec = Jvm.exec) (hby : c.code = B) (hZ : Z.Warmed39 s.vm) {own : String} {i : Nat} {v : UInt64} (hown : s.vm.findClass own = some m.cls) (w : (Jvm.Cond.constantDouble own i v).before a0 Z = true) (hd : decode B pc = .ok (.ldc2_w i, 3)) (hp : pc + 3 = pc') (k : Gt p.tables e below F (T.setTop (mkF m pc' L (.double v :: rest)))) : Gt p.tables e below F (T.setTop (mkF m pc L rest)) := by
  subst hp; exact k.go (X.ldc2DoubleC hx hown (mvT hZ w) (g := mkF m pc L rest) rfl (hb hby hd))
theorem own_getF (X : Stand p l e R s m args below meth c T locs cells slots) (hx : p.tables.exec = Jvm.exec) (hby : c.code = B) (hZ : Z.Warmed39 s.vm) {own R0 O n d host : String} {index : Nat} (hown : s.vm.findClass own = some m.cls) (w : (Jvm.Cond.fieldLink own index R0 n d).before a0 Z = true ∨ (Jvm.Cond.fieldLinkNest own index R0 n d host).before a0 Z = true) (via : Via Z R0 O n d) (eT : T.heap = h) {a : Addr} {v : Value} (Ff : Fld Z h a O n d v) (hd : decode B pc = .ok (.getfield index, 3)) (hp : pc + 3 = pc') (k : ∀ T', Stand p l e R s m args below meth c T' locs cells slots → T'.heap = h → Gt p.tables e below F (T'.setTop (mkF m pc' L (v :: rest)))) : Gt p.tables e below F (T.setTop (mkF m pc L (.ref a :: rest))) := by
  subst hp; obtain ⟨T', X', e', st⟩ := getF X hx hZ hown w via eT Ff (g := mkF m pc L (.ref a :: rest)) rfl rfl (hb hby hd); exact (k T' X' e').go st
theorem own_getS (X : Stand p l e R s m args below meth c T locs cells slots) (hx : p.tables.exec = Jvm.exec) (hby : c.code = B) (hZ : Z.Warmed39 s.vm) {own R0 O n d host : String} {index : Nat} (hown : s.vm.findClass own = some m.cls) (w : (Jvm.Cond.fieldLink own index R0 n d).before a0 Z = true ∨ (Jvm.Cond.fieldLinkNest own index R0 n d host).before a0 Z = true) (via : Via Z R0 O n d) (eT : T.heap = h) {v : Value} (Ff : Sta Z h O n d v) (hd : decode B pc = .ok (.getstatic index, 3)) (hp : pc + 3 = pc') (k : ∀ T', Stand p l e R s m args below meth c T' locs cells slots → T'.heap = h → Gt p.tables e below F (T'.setTop (mkF m pc' L (v :: rest)))) : Gt p.tables e below F (T.setTop (mkF m pc L rest)) := by
  subst hp; obtain ⟨T', X', e', st⟩ := getS2 X hx hZ hown w via eT Ff (g := mkF m pc L rest) rfl (hb hby hd); exact (k T' X' e').go st
theorem own_putF (X : Stand p l e R s m args below meth c T locs cells slots) (hx : p.tables.exec = Jvm.exec) (hby : c.code = B) (hZ : Z.Warmed39 s.vm) {own R0 O n d host C : String} {index kk : Nat} {ty : FieldType} (hown : s.vm.findClass own = some m.cls) (w : (Jvm.Cond.fieldLink own index R0 n d).before a0 Z = true ∨ (Jvm.Cond.fieldLinkNest own index R0 n d host).before a0 Z = true) (via : Via Z R0 O n d) (eT : T.heap = h) {a : Addr} {v old : Value} (Ff : Fld Z h a O n d old) (E : Exa Z h a C) (La : (Jvm.Cond.lays C O n d).before a0 Z = true ∨ ((Jvm.Cond.laysFinal C O n d).before a0 Z = true ∧ own = O ∧ meth.name = "<init>")) (wi : (Jvm.Cond.instantiable C kk).before a0 Z = true) (hty : parseFieldDescriptor d = some ty) (hn : narrow ty v = v) (hf : fits ty v = true) (hd : decode B pc = .ok (.putfield index, 3)) (hp : pc + 3 = pc') (k : ∀ T' h', Stand p l e R s m args below meth c T' (locs ++ [⟨a, Jvm.RoadKit.slotOf Z O n d⟩]) cells slots → T'.heap = h' → Wr h h' a (Jvm.RoadKit.slotOf Z O n d) v → Gt p.tables e below F (T'.setTop (mkF m pc' L rest))) : Gt p.tables e below F (T.setTop (mkF m pc L (v :: .ref a :: rest))) := by
  subst hp; obtain ⟨T', h', X', e', W, st⟩ := putF X hx hZ hown w via eT Ff E La wi hty hn hf (g := mkF m pc L (v :: .ref a :: rest)) rfl rfl (hb hby hd); exact (k T' h' X' e' W).go st
theorem own_newO (X : Stand p l e R s m args below meth c T locs cells slots) (hx : p.tables.exec = Jvm.exec) (hby : c.code = B) (hZ : Z.Warmed39 s.vm) {own C : String} {index n : Nat} (hown : s.vm.findClass own = some m.cls) (w : (Jvm.Cond.classLink own index C).before a0 Z = true) (wi : (Jvm.Cond.instantiable C n).before a0 Z = true) (wz : (Jvm.Cond.initialized C).before a0 Z = true) (eT : T.heap = h) (hd : decode B pc = .ok (.new index, 3)) (hp : pc + 3 = pc') (hc : cells + 1 ≤ R.cells) (hl : slots + n ≤ R.slots) (k : ∀ T' h' a, Stand p l e R s m args below meth c T' locs (cells + 1) (slots + n) → T'.heap = h' → Ext h h' → h.size = a → Exa Z h' a C → (∀ {O nm d : String} {ty : FieldType}, Laid Z a0 C O nm d → parseFieldDescriptor d = some ty → Fld Z h' a O nm d (defaultValue ty)) → Gt p.tables e below F (T'.setTop (mkF m pc' L (.ref a :: rest)))) : Gt p.tables e below F (T.setTop (mkF m pc L rest)) := by
  subst hp; obtain ⟨T', h', X', e', E', A', D', -, st⟩ := newO X hx hZ hown w wi wz eT (g := mkF m pc L rest) rfl (hb hby hd) hc hl; exact (k T' h' _ X' e' E' rfl A' D').go st
theorem own_initO (X : Stand p l e R s m args below meth c T locs cells slots) (hx : p.tables.exec = Jvm.exec) (hby : c.code = B) (hZ : Z.Warmed39 s.vm) {own : String} {idx : Nat} (hown : s.vm.findClass own = some m.cls) (w1 : (Jvm.Cond.methodLink own idx Lib.objectInit).before a0 Z = true) (w2 : (Jvm.Cond.instanceMethod Lib.objectInit).before a0 Z = true) (w3 : (Jvm.Cond.code Lib.objectInit ⟨#[0xb1]⟩ 1 none).before a0 Z = true) (eT : T.heap = h) (hsize : L.size = c.maxLocals) {a : Addr} (hd : decode B pc = .ok (.invokespecial idx, 3)) (hp : pc + 3 = pc') (hf : 1 ≤ R.frames) {W : Nat} (hW : (rest.map fun v => v.category).sum ≤ W) (hl : W + 12 ≤ R.locals) (k : ∀ T', Stand p l e R s m args below meth c T' locs cells slots → T'.heap = h → Gt p.tables e below F (T'.setTop (mkF m pc' L rest))) : Gt p.tables e below F (T.setTop (mkF m pc L (.ref a :: rest))) := by
  subst hp; obtain ⟨T', X', e', st⟩ := initO X hx hZ hown w1 w2 w3 eT (g := mkF m pc L (.ref a :: rest)) rfl hsize rfl (hb hby hd) hf (W := W) (by show 2 * 0 + _ ≤ _; rw [Nat.mul_zero, Nat.zero_add]; exact hW) hl; exact (k T' X' e').go st
theorem own_special (X : Stand p l e R s m args below meth c T locs cells slots) (hx : p.tables.exec = Jvm.exec) (hby : c.code = B) (hZ : Z.Warmed39 s.vm) {own : String} {index : Nat} {y : MethodName} {bytes : ByteArray} {maxL : Nat} {ret : Option FieldType} {rm : Room} {as' : Array Value} {Q : Option Value → Heap → List Loc → Prop} (hy1 : y.name = "<init>") (hown : s.vm.findClass own = some m.cls) (w1 : (Jvm.Cond.methodLink own index y).before a0 Z = true) (w2 : (Jvm.Cond.instanceMethod y).before a0 Z = true) (hret : ret = none) (w3 : (Jvm.Cond.code y bytes maxL ret).before a0 Z = true) (w4 : (Jvm.Cond.initialized y.cls).before a0 Z = true) (hy : y.cls ≠ "java/lang/invoke/MethodHandle" ∧ y.cls ≠ "java/lang/invoke/VarHandle") (hM : MetFree l y (head1 [Jvm.Cond.code y bytes maxL ret] rm) (fun a U => a = as' ∧ Z.Warmed39 U.vm ∧ U.heap = h) (fun _ _ _ _ _ => True) (fun _ U o U' => ∃ v L, o = .returned v ∧ Q v U'.heap L ∧ FrameEnd U o U' L rm.cells rm.slots)) (eT : T.heap = h) (hsize : L.size = c.maxLocals) {a : Addr} {argsL : List Value} (has : as' = (.ref a :: argsL).toArray) (hlen : ∀ sig, parseMethodDescriptor y.desc = some sig → argsL.length = sig.parameters.length) {st : List Value} (hst : st = argsL.reverse ++ .ref a :: rest) (hd : decode B pc = .ok (.invokespecial index, 3)) (hp : pc + 3 = pc') (hf : rm.frames + 1 ≤ R.frames) {W : Nat} (hW : (rest.map fun v => v.category).sum ≤ W) (hl : W + (maxL + 11) + rm.locals ≤ R.locals) (hc : cells + rm.cells ≤ R.cells) (hs : slots + rm.slots ≤ R.slots) (k : ∀ T' h' L' v, Stand p l e R s m args below meth c T' (locs ++ L') (cells + rm.cells) (slots + rm.slots) → T'.heap = h' → Q v h' L' → Gt p.tables e below F (T'.setTop (mkF m pc' L (v.toList ++ rest)))) : Gt p.tables e below F (T.setTop (mkF m pc L st)) := by
  subst hp hret has hst
  obtain ⟨v, vm1, ⟨T', L1, k1, n1⟩, -, X', ⟨Lc, hQ, l1, l2, l3⟩, st⟩ := X.specialBack hx (y := y) hy1 hown (mvT hZ w1) (mvT hZ w2) (mvT hZ w3) hy (backOf (W := W) hM hZ w3 w4 hf hl) (g := mkF m pc L (argsL.reverse ++ .ref a :: rest)) rfl hsize (Steps.refl _) (a := a) (argsL := argsL) (rest := rest) hlen rfl (by show 2 * 0 + _ ≤ _; rw [Nat.mul_zero, Nat.zero_add]; exact hW) (hb hby hd) (fun _ _ => ⟨rfl, eT, hc, hs⟩)
  dsimp only [Pt.U, Pt.locs, Pt.cells, Pt.slots] at X' l1 l2 l3 st hQ
  subst l1 l2 l3
  exact (k T' _ Lc v X' rfl hQ).go fun t q => st.trans q
theorem own_virtual (X : Stand p l e R s m args below meth c T locs cells slots) (hx : p.tables.exec = Jvm.exec) (hby : c.code = B) (hZ : Z.Warmed39 s.vm) {own : String} {index : Nat} {y : MethodName} {bytes : ByteArray} {maxL : Nat} {ret : Option FieldType} {rm : Room} {as' : Array Value} {Q : Option Value → Heap → List Loc → Prop} {C : String} {y' : MethodName} (hown : s.vm.findClass own = some m.cls) (w1 : (Jvm.Cond.methodLink own index y').before a0 Z = true) (w2 : (Jvm.Cond.declares y').before a0 Z = true) (hnf : NotFace s y') (w5 : (Jvm.Cond.selects C y' y).before a0 Z = true) (w6 : (Jvm.Cond.instanceMethod y).before a0 Z = true) (w3 : (Jvm.Cond.code y bytes maxL ret).before a0 Z = true) (w4 : (Jvm.Cond.initialized y.cls).before a0 Z = true) (hy : y'.cls ≠ "java/lang/invoke/MethodHandle" ∧ y'.cls ≠ "java/lang/invoke/VarHandle") (hM : MetFree l y (head1 [Jvm.Cond.code y bytes maxL ret] rm) (fun a U => a = as' ∧ Z.Warmed39 U.vm ∧ U.heap = h) (fun _ _ _ _ _ => True) (fun _ U o U' => ∃ v L, o = .returned v ∧ Q v U'.heap L ∧ FrameEnd U o U' L rm.cells rm.slots)) (eT : T.heap = h) (hsize : L.size = c.maxLocals) {a : Addr} (E : Exa Z h a C) {argsL : List Value} (has : as' = (.ref a :: argsL).toArray) (hlen : ∀ sig, parseMethodDescriptor y'.desc = some sig → argsL.length = sig.parameters.length) {st : List Value} (hst : st = argsL.reverse ++ .ref a :: rest) (hd : decode B pc = .ok (.invokevirtual index, 3)) (hp : pc + 3 = pc') (hf : rm.frames + 1 ≤ R.frames) {W : Nat} (hW : (rest.map fun v => v.category).sum ≤ W) (hl : W + (maxL + 11) + rm.locals ≤ R.locals) (hc : cells + rm.cells ≤ R.cells) (hs : slots + rm.slots ≤ R.slots) (k : ∀ T' h' L' v, Stand p l e R s m args below meth c T' (locs ++ L') (cells + rm.cells) (slots + rm.slots) → T'.heap = h' → Q v h' L' → Gt p.tables e below F (T'.setTop (mkF m pc' L (v.toList ++ rest)))) : Gt p.tables e below F (T.setTop (mkF m pc L st)) := by
  subst hp has hst
  obtain ⟨cq, kq, qa, qb, qc⟩ := isOf hZ eT E
  obtain ⟨v, vm1, ⟨T', L1, k1, n1⟩, -, X', ⟨Lc, hQ, l1, l2, l3⟩, st⟩ := X.virtualBack hx (y := y') (z := y) hown (mvT hZ w1) (mvT hZ w2) hnf (mvT hZ w5) (mvT hZ w6) hy (backOf (W := W) hM hZ w3 w4 hf hl) qa qc (g := mkF m pc L (argsL.reverse ++ .ref a :: rest)) rfl hsize (Steps.refl _) (argsL := argsL) (rest := rest) hlen rfl (by show 2 * 0 + _ ≤ _; rw [Nat.mul_zero, Nat.zero_add]; exact hW) (hb hby hd) (fun _ _ => ⟨rfl, eT, hc, hs⟩)
  dsimp only [Pt.U, Pt.locs, Pt.cells, Pt.slots] at X' l1 l2 l3 st hQ
  subst l1 l2 l3
  exact (k T' _ Lc v X' rfl hQ).go fun t q => st.trans q
theorem own_static (X : Stand p l e R s m args below meth c T locs cells slots) (hx : p.tables.exec = Jvm.exec) (hby : c.code = B) (hZ : Z.Warmed39 s.vm) {own : String} {index : Nat} {y : MethodName} {bytes : ByteArray} {maxL : Nat} {ret : Option FieldType} {rm : Room} {as' : Array Value} {Q : Option Value → Heap → List Loc → Prop} (hown : s.vm.findClass own = some m.cls) (w1 : (Jvm.Cond.methodLink own index y).before a0 Z = true) (w2 : (Jvm.Cond.static y).before a0 Z = true) (w3 : (Jvm.Cond.code y bytes maxL ret).before a0 Z = true) (w4 : (Jvm.Cond.initialized y.cls).before a0 Z = true) (hy : y.cls ≠ "java/lang/invoke/MethodHandle" ∧ y.cls ≠ "java/lang/invoke/VarHandle") (hM : MetFree l y (head1 [Jvm.Cond.code y bytes maxL ret] rm) (fun a U => a = as' ∧ Z.Warmed39 U.vm ∧ U.heap = h) (fun _ _ _ _ _ => True) (fun _ U o U' => ∃ v L, o = .returned v ∧ Q v U'.heap L ∧ FrameEnd U o U' L rm.cells rm.slots)) (eT : T.heap = h) (hsize : L.size = c.maxLocals) {argsL : List Value} (has : as' = argsL.toArray) (hlen : ∀ sig, parseMethodDescriptor y.desc = some sig → argsL.length = sig.parameters.length) {st : List Value} (hst : st = argsL.reverse ++ rest) (hd : decode B pc = .ok (.invokestatic index, 3)) (hp : pc + 3 = pc') (hf : rm.frames + 1 ≤ R.frames) {W : Nat} (hW : (rest.map fun v => v.category).sum ≤ W) (hl : W + (maxL + 11) + rm.locals ≤ R.locals) (hc : cells + rm.cells ≤ R.cells) (hs : slots + rm.slots ≤ R.slots) (k : ∀ T' h' L' v, Stand p l e R s m args below meth c T' (locs ++ L') (cells + rm.cells) (slots + rm.slots) → T'.heap = h' → Q v h' L' → Gt p.tables e below F (T'.setTop (mkF m pc' L (v.toList ++ rest)))) : Gt p.tables e below F (T.setTop (mkF m pc L st)) := by
  subst hp has hst
  obtain ⟨v, vm1, ⟨T', L1, k1, n1⟩, -, X', ⟨Lc, hQ, l1, l2, l3⟩, st⟩ := Jvm.LawKit.callS X hx (y := y) hown (mvT hZ w1) (mvT hZ w2) (mvT hZ w4) (mvT hZ w3) hy (backOf (W := W) hM hZ w3 w4 hf hl) (g := mkF m pc L (argsL.reverse ++ rest)) rfl hsize (argsL := argsL) (rest := rest) hlen rfl (by show 2 * 0 + _ ≤ _; rw [Nat.mul_zero, Nat.zero_add]; exact hW) (hb hby hd) (fun _ _ => ⟨rfl, eT, hc, hs⟩)
  dsimp only [Pt.U, Pt.locs, Pt.cells, Pt.slots] at X' l1 l2 l3 st hQ
  subst l1 l2 l3
  exact (k T' _ Lc v X' rfl hQ).go fun t q => st _ q
theorem own_private (X : Stand p l e R s m args below meth c T locs cells slots) (hx : p.tables.exec = Jvm.exec) (hby : c.code = B) (hZ : Z.Warmed39 s.vm) {own : String} {index : Nat} {y : MethodName} {bytes : ByteArray} {maxL : Nat} {ret : Option FieldType} {rm : Room} {as' : Array Value} {Q : Option Value → Heap → List Loc → Prop} (hown : s.vm.findClass own = some m.cls) (w1 : (Jvm.Cond.methodLink own index y).before a0 Z = true) (w2 : (Jvm.Cond.instanceMethod y).before a0 Z = true) {ni : Nat} (w5 : (Jvm.Cond.instantiable y.cls ni).before a0 Z = true) (w6 : (Jvm.Cond.privateMethod y).before a0 Z = true) (w3 : (Jvm.Cond.code y bytes maxL ret).before a0 Z = true) (w4 : (Jvm.Cond.initialized y.cls).before a0 Z = true) (hy : y.cls ≠ "java/lang/invoke/MethodHandle" ∧ y.cls ≠ "java/lang/invoke/VarHandle") (hM : MetFree l y (head1 [Jvm.Cond.code y bytes maxL ret] rm) (fun a U => a = as' ∧ Z.Warmed39 U.vm ∧ U.heap = h) (fun _ _ _ _ _ => True) (fun _ U o U' => ∃ v L, o = .returned v ∧ Q v U'.heap L ∧ FrameEnd U o U' L rm.cells rm.slots)) (eT : T.heap = h) (hsize : L.size = c.maxLocals) {a : Addr} (E : Exa Z h a y.cls) {argsL : List Value} (has : as' = (.ref a :: argsL).toArray) (hlen : ∀ sig, parseMethodDescriptor y.desc = some sig → argsL.length = sig.parameters.length) {st : List Value} (hst : st = argsL.reverse ++ .ref a :: rest) (hd : decode B pc = .ok (.invokevirtual index, 3)) (hp : pc + 3 = pc') (hf : rm.frames + 1 ≤ R.frames) {W : Nat} (hW : (rest.map fun v => v.category).sum ≤ W) (hl : W + (maxL + 11) + rm.locals ≤ R.locals) (hc : cells + rm.cells ≤ R.cells) (hs : slots + rm.slots ≤ R.slots) (k : ∀ T' h' L' v, Stand p l e R s m args below meth c T' (locs ++ L') (cells + rm.cells) (slots + rm.slots) → T'.heap = h' → Q v h' L' → Gt p.tables e below F (T'.setTop (mkF m pc' L (v.toList ++ rest)))) : Gt p.tables e below F (T.setTop (mkF m pc L st)) := by
  subst hp has hst
  obtain ⟨cq, q1, q2⟩ := E.cell
  obtain ⟨cI, kI, i1, i2, -, i3, -⟩ := Cond.instantiable_spec (mv (s := s) (args := args) hZ w5)
  have hpr := Cond.privateMethod_at (mvP (s := s) hZ w6 (args := #[]))
  have hsel := Jvm.Stand.selects_self_of_private i1 i2 (Bool.or_eq_false_iff.mp i3).1 hpr (mvT (s := s) (args := args) hZ w2) hy
  obtain ⟨v, vm1, ⟨T', L1, k1, n1⟩, -, X', ⟨Lc, hQ, l1, l2, l3⟩, st⟩ := X.privateBack hx (y := y) hown (mvT hZ w1) (mvT hZ w2) hsel hpr (mvT hZ w3) hy (backOf (W := W) hM hZ w3 w4 hf hl) (g := mkF m pc L (argsL.reverse ++ .ref a :: rest)) rfl hsize (Steps.refl _) (a := a) (by rw [eT]; exact q1) q2 (argsL := argsL) (rest := rest) hlen rfl (by show 2 * 0 + _ ≤ _; rw [Nat.mul_zero, Nat.zero_add]; exact hW) (hb hby hd) (fun _ _ => ⟨rfl, eT, hc, hs⟩)
  dsimp only [Pt.U, Pt.locs, Pt.cells, Pt.slots] at X' l1 l2 l3 st hQ
  subst l1 l2 l3
  exact (k T' _ Lc v X' rfl hQ).go fun t q => st.trans q
theorem own_retV (X : Stand p l e R s m args below meth c T locs cells slots) (hx : p.tables.exec = Jvm.exec) (hby : c.code = B) (hlocks : meth.locks = false) {Q : Option Value → Heap → List Loc → Prop} {kc ks : Nat} (hret : meth.sig.returnType = none) (hd : decode B pc = .ok (.return_, 1)) (hc : cells ≤ kc) (hs : slots ≤ ks) (eT : T.heap = h) (hq : Q none h locs) : Gt p.tables e below (fun o U' => ∃ v Lc, o = .returned v ∧ Q v U'.heap Lc ∧ FrameEnd s o U' Lc kc ks) (T.setTop (mkF m pc L [])) := by
  subst eT
  obtain ⟨fs, hr, hrun, hended, hW, hsame⟩ := X.leave (v := none) (fun _ => rfl) hlocks
  exact ⟨_, _, X.returnOut hx hret (hb hby hd) hr, hrun, hended, _, _, rfl, hq, ⟨_, rfl⟩, hW, hsame.mono hc hs⟩
theorem own_retI (X : Stand p l e R s m args below meth c T locs cells slots) (hx : p.tables.exec = Jvm.exec) (hby : c.code = B) (hlocks : meth.locks = false) {Q : Option Value → Heap → List Loc → Prop} {kc ks : Nat} (hret : meth.sig.returnType = some .int) {z : Int32} (hd : decode B pc = .ok (.ireturn, 1)) (hc : cells ≤ kc) (hs : slots ≤ ks) (eT : T.heap = h) (hq : Q (some (.int z)) h locs) : Gt p.tables e below (fun o U' => ∃ v Lc, o = .returned v ∧ Q v U'.heap Lc ∧ FrameEnd s o U' Lc kc ks) (T.setTop (mkF m pc L (.int z :: rest))) := by
  subst eT
  obtain ⟨fs, hr, hrun, hended, hW, hsame⟩ := X.leave (v := (some (.int z))) (fun h => by rw [hret] at h; cases h) hlocks
  exact ⟨_, _, retOut X hx hret rfl (Or.inl ⟨rfl, Or.inl rfl, z, rfl⟩) (hb hby hd) hr, hrun, hended, _, _, rfl, hq, ⟨_, rfl⟩, hW, hsame.mono hc hs⟩
theorem own_retL (X : Stand p l e R s m args below meth c T locs cells slots) (hx : p.tables.exec = Jvm.exec) (hby : c.code = B) (hlocks : meth.locks = false) {Q : Option Value → Heap → List Loc → Prop} {kc ks : Nat} (hret : meth.sig.returnType = some .long) {z : Int64} (hd : decode B pc = .ok (.lreturn, 1)) (hc : cells ≤ kc) (hs : slots ≤ ks) (eT : T.heap = h) (hq : Q (some (.long z)) h locs) : Gt p.tables e below (fun o U' => ∃ v Lc, o = .returned v ∧ Q v U'.heap Lc ∧ FrameEnd s o U' Lc kc ks) (T.setTop (mkF m pc L (.long z :: rest))) := by
  subst eT
  obtain ⟨fs, hr, hrun, hended, hW, hsame⟩ := X.leave (v := (some (.long z))) (fun h => by rw [hret] at h; cases h) hlocks
  exact ⟨_, _, retOut X hx hret rfl (Or.inr (Or.inl ⟨rfl, rfl, z, rfl⟩)) (hb hby hd) hr, hrun, hended, _, _, rfl, hq, ⟨_, rfl⟩, hW, hsame.mono hc hs⟩
theorem own_retD (X : Stand p l e R s m args below meth c T locs cells slots) (hx : p.tables.exec = Jvm.exec) (hby : c.code = B) (hlocks : meth.locks = false) {Q : Option Value → Heap → List Loc → Prop} {kc ks : Nat} (hret : meth.sig.returnType = some .double) {z : UInt64} (hd : decode B pc = .ok (.dreturn, 1)) (hc : cells ≤ kc) (hs : slots ≤ ks) (eT : T.heap = h) (hq : Q (some (.double z)) h locs) : Gt p.tables e below (fun o U' => ∃ v Lc, o = .returned v ∧ Q v U'.heap Lc ∧ FrameEnd s o U' Lc kc ks) (T.setTop (mkF m pc L (.double z :: rest))) := by
  subst eT
  obtain ⟨fs, hr, hrun, hended, hW, hsame⟩ := X.leave (v := (some (.double z))) (fun h => by rw [hret] at h; cases h) hlocks
  exact ⟨_, _, retOut X hx hret rfl (Or.inr (Or.inr (Or.inl ⟨rfl, rfl, z, rfl⟩))) (hb hby hd) hr, hrun, hended, _, _, rfl, hq, ⟨_, rfl⟩, hW, hsame.mono hc hs⟩
theorem own_retZ (X : Stand p l e R s m args below meth c T locs cells slots) (hx : p.tables.exec = Jvm.exec) (hby : c.code = B) (hlocks : meth.locks = false) {Q : Option Value → Heap → List Loc → Prop} {kc ks : Nat} (hret : meth.sig.returnType = some .boolean) {z : Int32} (hz : z = 0 ∨ z = 1) (hd : decode B pc = .ok (.ireturn, 1)) (hc : cells ≤ kc) (hs : slots ≤ ks) (eT : T.heap = h) (hq : Q (some (.int z)) h locs) : Gt p.tables e below (fun o U' => ∃ v Lc, o = .returned v ∧ Q v U'.heap Lc ∧ FrameEnd s o U' Lc kc ks) (T.setTop (mkF m pc L (.int z :: rest))) := by
  subst eT
  obtain ⟨fs, hr, hrun, hended, hW, hsame⟩ := X.leave (v := (some (.int z))) (fun h => by rw [hret] at h; cases h) hlocks
  exact ⟨_, _, retOut X hx hret (by rcases hz with rfl | rfl <;> rfl) (Or.inl ⟨rfl, Or.inr (Or.inl rfl), z, rfl⟩) (hb hby hd) hr, hrun, hended, _, _, rfl, hq, ⟨_, rfl⟩, hW, hsame.mono hc hs⟩
theorem own_retA (X : Stand p l e R s m args below meth c T locs cells slots) (hx : p.tables.exec = Jvm.exec) (hby : c.code = B) (hlocks : meth.locks = false) {Q : Option Value → Heap → List Loc → Prop} {kc ks : Nat} {t : FieldType} (hret : meth.sig.returnType = some t) (ht : t.isReference = true) {z : Value} (hz : z.isRef = true) (hd : decode B pc = .ok (.areturn, 1)) (hc : cells ≤ kc) (hs : slots ≤ ks) (eT : T.heap = h) (hq : Q (some z) h locs) : Gt p.tables e below (fun o U' => ∃ v Lc, o = .returned v ∧ Q v U'.heap Lc ∧ FrameEnd s o U' Lc kc ks) (T.setTop (mkF m pc L (z :: rest))) := by
  subst eT
  obtain ⟨fs, hr, hrun, hended, hW, hsame⟩ := X.leave (v := (some z)) (fun h => by rw [hret] at h; cases h) hlocks
  exact ⟨_, _, retOut X hx hret (by rcases ref_cases hz with rfl | ⟨a, rfl⟩ <;> cases t <;> simp_all [narrow, FieldType.isReference]) (Or.inr (Or.inr (Or.inr (Or.inr ⟨rfl, ht, hz⟩)))) (hb hby hd) hr, hrun, hended, _, _, rfl, hq, ⟨_, rfl⟩, hW, hsame.mono hc hs⟩
end OwnG
section OwnA
variable {p : Program} {l : Launch} {e : Env} {R : Room} {s : State} {m : MethodId} {args : Array Value} {below : List Frame} {meth : Method} {c : Code} {T : State} {locs : List Loc} {cells slots : Nat} {Z : State} {a0 : Array Value} {h h' : Heap} {B : ByteArray} {pc pc' : Nat} {L L' : Array Slot} {rest : List Value} {F : Outcome → State → Prop} {a b : Addr} {ty : FieldType} {vs : List Value} {P : ClassId → Prop} {sl : Nat} {v : Value} {ws : List Addr}
def tr (_ : ClassId) : Prop := True
/-- an array at a of kind ty whose components are the list vs, of a class with P -/
def Ary (P : ClassId → Prop) (Z : State) (h : Heap) (a : Addr) (ty : FieldType) (vs : List Value) : Prop := ∃ c : Cell, Arr Z h a c ty ∧ P c.cls ∧ c.slots.toList = vs ∧ vs.length < 2 ^ 31
theorem Ary.lt (V : Ary P Z h a ty vs) : a < h.size := by obtain ⟨c, A, -⟩ := V; exact A.lt
theorem Ary.ext (V : Ary P Z h a ty vs) (E : Ext h h') : Ary P Z h' a ty vs := by obtain ⟨c, A, r⟩ := V; exact ⟨c, A.ext E, r⟩
theorem Ary.other (V : Ary P Z h b ty vs) (W : Wr h h' a sl v) (q : b ≠ a) : Ary P Z h' b ty vs := by obtain ⟨c, A, r⟩ := V; exact ⟨c, A.other W q, r⟩
theorem Ary.keep (V : Ary P Z h a ty vs) (K : Keep h h' ws) (q : a ∉ ws) : Ary P Z h' a ty vs := by obtain ⟨c, A, r⟩ := V; exact ⟨c, ⟨K.2.1 a c A.1 q, A.2⟩, r⟩
theorem Ary.set (V : Ary P Z h a ty vs) (W : Wr h h' a sl v) : Ary P Z h' a ty (vs.set sl v) := by
  obtain ⟨c, A, q, r, t⟩ := V
  refine ⟨_, A.same W, q, ?_, by rw [List.length_set]; exact t⟩
  show (c.slots.setIfInBounds sl v).toList = _
  rw [Array.toList_setIfInBounds, r]
theorem Ary.size {cl : Cell} (r : cl.slots.toList = vs) : cl.slots.size = vs.length := by rw [← r]; simp
theorem Ary.inb {cl : Cell} {i : Int32} (r : cl.slots.toList = vs) (hi : ¬ i < 0) (hl : i.toNatClampNeg < vs.length) : ¬ (i < 0 ∨ cl.slots.size ≤ i.toNatClampNeg) := by
  rw [Ary.size r]; intro q; rcases q with q | q
  · exact hi q
  · omega
theorem Ary.at {cl : Cell} {i : Nat} (r : cl.slots.toList = vs) (hg : vs[i]? = some v) : cl.slots[i]? = some v := by
  rw [← hg, ← r]; simp
theorem own_alen (X : Stand p l e R s m args below meth c T locs cells slots) (hx : p.tables.exec = Jvm.exec) (hby : c.code = B) (hZ : Z.Warmed39 s.vm) (eT : T.heap = h) (V : Ary P Z h a ty vs) {z : Int32} (hz : vs.length.toInt32 = z) (hd : decode B pc = .ok (.arraylength, 1)) (hp : pc + 1 = pc') (k : Gt p.tables e below F (T.setTop (mkF m pc' L (.int z :: rest)))) : Gt p.tables e below F (T.setTop (mkF m pc L (.ref a :: rest))) := by
  subst hp hz
  obtain ⟨cl, A, -, r, t⟩ := V
  refine k.go fun t q => X.arraylength hx (by rw [eT]; exact A.1) (State.isArrayOf_alike hZ.alike A.2.1) (g := mkF m pc L (.ref a :: rest)) rfl rfl (hb hby hd) _ ?_
  rw [Ary.size r]; exact q
theorem own_iaload (X : Stand p l e R s m args below meth c T locs cells slots) (hx : p.tables.exec = Jvm.exec) (hby : c.code = B) (hZ : Z.Warmed39 s.vm) (eT : T.heap = h) (V : Ary P Z h a .int vs) {i : Int32} (hi : ¬ i < 0) (hg : vs[i.toNatClampNeg]? = some v) (hd : decode B pc = .ok (.iaload, 1)) (hp : pc + 1 = pc') (k : Gt p.tables e below F (T.setTop (mkF m pc' L (v :: rest)))) : Gt p.tables e below F (T.setTop (mkF m pc L (.int i :: .ref a :: rest))) := by
  subst hp
  obtain ⟨cl, A, -, r, t⟩ := V
  exact k.go fun t q => X.iaload hx (by rw [eT]; exact A.1) (State.isArrayOf_alike hZ.alike A.2.1) A.2.2 (Ary.inb r hi (List.getElem?_eq_some_iff.mp hg).1) (Ary.at r hg) (g := mkF m pc L (.int i :: .ref a :: rest)) rfl rfl (hb hby hd) _ q
theorem own_laload (X : Stand p l e R s m args below meth c T locs cells slots) (hx : p.tables.exec = Jvm.exec) (hby : c.code = B) (hZ : Z.Warmed39 s.vm) (eT : T.heap = h) (V : Ary P Z h a .long vs) {i : Int32} (hi : ¬ i < 0) (hg : vs[i.toNatClampNeg]? = some v) (hd : decode B pc = .ok (.laload, 1)) (hp : pc + 1 = pc') (k : Gt p.tables e below F (T.setTop (mkF m pc' L (v :: rest)))) : Gt p.tables e below F (T.setTop (mkF m pc L (.int i :: .ref a :: rest))) := by
  subst hp
  obtain ⟨cl, A, -, r, t⟩ := V
  exact k.go fun t q => X.laload hx (by rw [eT]; exact A.1) (State.isArrayOf_alike hZ.alike A.2.1) A.2.2 (Ary.inb r hi (List.getElem?_eq_some_iff.mp hg).1) (Ary.at r hg) (g := mkF m pc L (.int i :: .ref a :: rest)) rfl rfl (hb hby hd) _ q
theorem own_daload (X : Stand p l e R s m args below meth c T locs cells slots) (hx : p.tables.exec = Jvm.exec) (hby : c.code = B) (hZ : Z.Warmed39 s.vm) (eT : T.heap = h) (V : Ary P Z h a .double vs) {i : Int32} (hi : ¬ i < 0) (hg : vs[i.toNatClampNeg]? = some v) (hd : decode B pc = .ok (.daload, 1)) (hp : pc + 1 = pc') (k : Gt p.tables e below F (T.setTop (mkF m pc' L (v :: rest)))) : Gt p.tables e below F (T.setTop (mkF m pc L (.int i :: .ref a :: rest))) := by
  subst hp
  obtain ⟨cl, A, -, r, t⟩ := V
  exact k.go fun t q => X.daload hx (by rw [eT]; exact A.1) (State.isArrayOf_alike hZ.alike A.2.1) A.2.2 (Ary.inb r hi (List.getElem?_eq_some_iff.mp hg).1) (Ary.at r hg) (g := mkF m pc L (.int i :: .ref a :: rest)) rfl rfl (hb hby hd) _ q
theorem own_aaload (X : Stand p l e R s m args below meth c T locs cells slots) (hx : p.tables.exec = Jvm.exec) (hby : c.code = B) (hZ : Z.Warmed39 s.vm) (eT : T.heap = h) (V : Ary P Z h a ty vs) (hty : ty.isReference = true) {i : Int32} (hi : ¬ i < 0) (hg : vs[i.toNatClampNeg]? = some v) (hd : decode B pc = .ok (.aaload, 1)) (hp : pc + 1 = pc') (k : Gt p.tables e below F (T.setTop (mkF m pc' L (v :: rest)))) : Gt p.tables e below F (T.setTop (mkF m pc L (.int i :: .ref a :: rest))) := by
  subst hp
  obtain ⟨cl, A, -, r, t⟩ := V
  exact k.go fun t q => X.aaload hx (by rw [eT]; exact A.1) (State.isArrayOf_alike hZ.alike A.2.1) hty A.2.2 (Ary.inb r hi (List.getElem?_eq_some_iff.mp hg).1) (Ary.at r hg) (g := mkF m pc L (.int i :: .ref a :: rest)) rfl rfl (hb hby hd) _ q
theorem own_iastore (X : Stand p l e R s m args below meth c T locs cells slots) (hx : p.tables.exec = Jvm.exec) (hby : c.code = B) (hZ : Z.Warmed39 s.vm) (eT : T.heap = h) (V : Ary P Z h a .int vs) {i x : Int32} {n : Nat} (hi : ¬ i < 0) (hn : i.toNatClampNeg = n) (hl : n < vs.length) (hd : decode B pc = .ok (.iastore, 1)) (hp : pc + 1 = pc') (k : ∀ T' h', Stand p l e R s m args below meth c T' (locs ++ [⟨a, n⟩]) cells slots → T'.heap = h' → Wr h h' a n (.int x) → Gt p.tables e below F (T'.setTop (mkF m pc' L rest))) : Gt p.tables e below F (T.setTop (mkF m pc L (.int x :: .int i :: .ref a :: rest))) := by
  subst hp hn
  obtain ⟨cl, A, -, r, t⟩ := V
  obtain ⟨T', h', X', e', W, st⟩ := stI X hx hZ eT A (Ary.inb r hi hl) (g := mkF m pc L (.int x :: .int i :: .ref a :: rest)) rfl rfl (hb hby hd)
  exact (k T' h' X' e' W).go st
theorem own_lastore (X : Stand p l e R s m args below meth c T locs cells slots) (hx : p.tables.exec = Jvm.exec) (hby : c.code = B) (hZ : Z.Warmed39 s.vm) (eT : T.heap = h) (V : Ary P Z h a .long vs) {i : Int32} {x : Int64} {n : Nat} (hi : ¬ i < 0) (hn : i.toNatClampNeg = n) (hl : n < vs.length) (hd : decode B pc = .ok (.lastore, 1)) (hp : pc + 1 = pc') (k : ∀ T' h', Stand p l e R s m args below meth c T' (locs ++ [⟨a, n⟩]) cells slots → T'.heap = h' → Wr h h' a n (.long x) → Gt p.tables e below F (T'.setTop (mkF m pc' L rest))) : Gt p.tables e below F (T.setTop (mkF m pc L (.long x :: .int i :: .ref a :: rest))) := by
  subst hp hn
  obtain ⟨cl, A, -, r, t⟩ := V
  obtain ⟨T', h', X', e', W, st⟩ := stJ X hx hZ eT A (Ary.inb r hi hl) (g := mkF m pc L (.long x :: .int i :: .ref a :: rest)) rfl rfl (hb hby hd)
  exact (k T' h' X' e' W).go st
theorem own_dastore (X : Stand p l e R s m args below meth c T locs cells slots) (hx : p.tables.exec = Jvm.exec) (hby : c.code = B) (hZ : Z.Warmed39 s.vm) (eT : T.heap = h) (V : Ary P Z h a .double vs) {i : Int32} {x : UInt64} {n : Nat} (hi : ¬ i < 0) (hn : i.toNatClampNeg = n) (hl : n < vs.length) (hd : decode B pc = .ok (.dastore, 1)) (hp : pc + 1 = pc') (k : ∀ T' h', Stand p l e R s m args below meth c T' (locs ++ [⟨a, n⟩]) cells slots → T'.heap = h' → Wr h h' a n (.double x) → Gt p.tables e below F (T'.setTop (mkF m pc' L rest))) : Gt p.tables e below F (T.setTop (mkF m pc L (.double x :: .int i :: .ref a :: rest))) := by
  subst hp hn
  obtain ⟨cl, A, -, r, t⟩ := V
  obtain ⟨T', h', X', e', W, st⟩ := stD X hx hZ eT A (Ary.inb r hi hl) (g := mkF m pc L (.double x :: .int i :: .ref a :: rest)) rfl rfl (hb hby hd)
  exact (k T' h' X' e' W).go st
/-- what lies in it: an array class over C -/
def ovA (Z : State) (ty : FieldType) (C : String) (k : ClassId) : Prop := OvrA Z k ty C
def ovO (Z : State) (C : String) (k : ClassId) : Prop := Ovr Z k C
theorem own_aastoreA (X : Stand p l e R s m args below meth c T locs cells slots) (hx : p.tables.exec = Jvm.exec) (hby : c.code = B) (hZ : Z.Warmed39 s.vm) (eT : T.heap = h) {C : String} (V : Ary (ovA Z ty C) Z h a (.array ty) vs) {i : Int32} {x : Addr} {n : Nat} (E : Exa Z h x C) (hi : ¬ i < 0) (hn : i.toNatClampNeg = n) (hl : n < vs.length) (hd : decode B pc = .ok (.aastore, 1)) (hp : pc + 1 = pc') (k : ∀ T' h', Stand p l e R s m args below meth c T' (locs ++ [⟨a, n⟩]) cells slots → T'.heap = h' → Wr h h' a n (.ref x) → Gt p.tables e below F (T'.setTop (mkF m pc' L rest))) : Gt p.tables e below F (T.setTop (mkF m pc L (.ref x :: .int i :: .ref a :: rest))) := by
  subst hp hn
  obtain ⟨cl, A, O, r, t⟩ := V
  obtain ⟨T', h', X', e', W, st⟩ := stR X hx hZ eT A (Ary.inb r hi hl) rfl (Sto.ofVA A rfl O (Ins.self E)) (g := mkF m pc L (.ref x :: .int i :: .ref a :: rest)) rfl rfl (hb hby hd)
  exact (k T' h' X' e' W).go st
theorem own_aastoreO (X : Stand p l e R s m args below meth c T locs cells slots) (hx : p.tables.exec = Jvm.exec) (hby : c.code = B) (hZ : Z.Warmed39 s.vm) (eT : T.heap = h) {C : String} (V : Ary (ovO Z C) Z h a (.object C) vs) {i : Int32} {x : Addr} {n : Nat} (E : Exa Z h x C) (hi : ¬ i < 0) (hn : i.toNatClampNeg = n) (hl : n < vs.length) (hd : decode B pc = .ok (.aastore, 1)) (hp : pc + 1 = pc') (k : ∀ T' h', Stand p l e R s m args below meth c T' (locs ++ [⟨a, n⟩]) cells slots → T'.heap = h' → Wr h h' a n (.ref x) → Gt p.tables e below F (T'.setTop (mkF m pc' L rest))) : Gt p.tables e below F (T.setTop (mkF m pc L (.ref x :: .int i :: .ref a :: rest))) := by
  subst hp hn
  obtain ⟨cl, A, O, r, t⟩ := V
  obtain ⟨T', h', X', e', W, st⟩ := stR X hx hZ eT A (Ary.inb r hi hl) rfl (Sto.of A O (Ins.self E)) (g := mkF m pc L (.ref x :: .int i :: .ref a :: rest)) rfl rfl (hb hby hd)
  exact (k T' h' X' e' W).go st
theorem own_newP (X : Stand p l e R s m args below meth c T locs cells slots) (hx : p.tables.exec = Jvm.exec) (hby : c.code = B) (hZ : Z.Warmed39 s.vm) {aty : ArrayType} (w : (Jvm.Cond.arrayClass (newarray.typeOf aty)).before a0 Z = true) (eT : T.heap = h) (hd : decode B pc = .ok (.newarray aty, 2)) (hp : pc + 2 = pc') {n : Int32} (hn : ¬ n < 0) {N : Nat} (hN : n.toNatClampNeg = N) {cap : Nat} (hcap : N ≤ cap) (hbb : cap * 8 ≤ 536870912) (hc : cells + 1 ≤ R.cells) (hl : slots + cap ≤ R.slots) {ad : String} (had : "[" ++ (newarray.typeOf aty).toString = ad)
    (k : ∀ T' h' a, Stand p l e R s m args below meth c T' locs (cells + 1) (slots + cap) → T'.heap = h' → Ext h h' → h.size = a → Exa Z h' a ad → Ary tr Z h' a (newarray.typeOf aty) (List.replicate N (defaultValue (newarray.typeOf aty))) → Gt p.tables e below F (T'.setTop (mkF m pc' L (.ref a :: rest)))) : Gt p.tables e below F (T.setTop (mkF m pc L (.int n :: rest))) := by
  subst hp hN
  obtain ⟨T', h', cA, X', e', E', A', Ex, st⟩ := newPE X hx hZ w eT (g := mkF m pc L (.int n :: rest)) rfl (hb hby hd) rfl hn hcap hbb hc hl had
  exact (k T' h' _ X' e' E' rfl Ex ⟨_, A', trivial, by simp [newA], by rw [List.length_replicate]; exact (back32 hn).2⟩).go st
theorem own_newRA (X : Stand p l e R s m args below meth c T locs cells slots) (hx : p.tables.exec = Jvm.exec) (hby : c.code = B) (hZ : Z.Warmed39 s.vm) {own C : String} {index : Nat} (hown : s.vm.findClass own = some m.cls) (hC : (FieldType.array ty).toString = C) (w1 : (Jvm.Cond.classLink own index C).before a0 Z = true) (w2 : (Jvm.Cond.arrayOver (.array ty)).before a0 Z = true) (eT : T.heap = h) (hd : decode B pc = .ok (.anewarray index, 3)) (hp : pc + 3 = pc') {n : Int32} (hn : ¬ n < 0) {N : Nat} (hN : n.toNatClampNeg = N) {cap : Nat} (hcap : N ≤ cap) (hbb : cap * 8 ≤ 536870912) (hc : cells + 1 ≤ R.cells) (hl : slots + cap ≤ R.slots) {ad : String} (had : "[" ++ C = ad)
    (k : ∀ T' h' a, Stand p l e R s m args below meth c T' locs (cells + 1) (slots + cap) → T'.heap = h' → Ext h h' → h.size = a → Exa Z h' a ad → Ary (ovA Z ty C) Z h' a (.array ty) (List.replicate N .null) → Gt p.tables e below F (T'.setTop (mkF m pc' L (.ref a :: rest)))) : Gt p.tables e below F (T.setTop (mkF m pc L (.int n :: rest))) := by
  subst hp hN
  obtain ⟨T', h', cA, X', e', E', A', Ex, O, st⟩ := newRA X hx hZ hown hC w1 w2 eT (g := mkF m pc L (.int n :: rest)) rfl (hb hby hd) rfl hn hcap hbb hc hl had
  exact (k T' h' _ X' e' E' rfl Ex ⟨_, A', O, by simp [newA, defaultValue], by rw [List.length_replicate]; exact (back32 hn).2⟩).go st
theorem own_newRO (X : Stand p l e R s m args below meth c T locs cells slots) (hx : p.tables.exec = Jvm.exec) (hby : c.code = B) (hZ : Z.Warmed39 s.vm) {own C : String} {index : Nat} (hown : s.vm.findClass own = some m.cls) (w1 : (Jvm.Cond.classLink own index C).before a0 Z = true) (w2 : (Jvm.Cond.arrayOver (.object C)).before a0 Z = true) (eT : T.heap = h) (hd : decode B pc = .ok (.anewarray index, 3)) (hp : pc + 3 = pc') {n : Int32} (hn : ¬ n < 0) {N : Nat} (hN : n.toNatClampNeg = N) {cap : Nat} (hcap : N ≤ cap) (hbb : cap * 8 ≤ 536870912) (hc : cells + 1 ≤ R.cells) (hl : slots + cap ≤ R.slots) {ad : String} (had : "[" ++ (FieldType.object C).toString = ad)
    (k : ∀ T' h' a, Stand p l e R s m args below meth c T' locs (cells + 1) (slots + cap) → T'.heap = h' → Ext h h' → h.size = a → Exa Z h' a ad → Ary (ovO Z C) Z h' a (.object C) (List.replicate N .null) → Gt p.tables e below F (T'.setTop (mkF m pc' L (.ref a :: rest)))) : Gt p.tables e below F (T.setTop (mkF m pc L (.int n :: rest))) := by
  subst hp hN
  obtain ⟨T', h', cA, X', e', E', A', Ex, O, st⟩ := newRE X hx hZ hown w1 w2 eT (g := mkF m pc L (.int n :: rest)) rfl (hb hby hd) rfl hn hcap hbb hc hl had
  exact (k T' h' _ X' e' E' rfl Ex ⟨_, A', O, by simp [newA, defaultValue], by rw [List.length_replicate]; exact (back32 hn).2⟩).go st
/-- new T[3][3] of a primitive kind -/
theorem own_grid3 (X : Stand p l e R s m args below meth c T locs cells slots) (hx : p.tables.exec = Jvm.exec) (hby : c.code = B) (hZ : Z.Warmed39 s.vm) {own C ad : String} {index : Nat} (hown : s.vm.findClass own = some m.cls) (hC : (FieldType.array ty).toString = C) (had : "[" ++ C = ad)
    (w1 : (Jvm.Cond.classLink own index ad).before a0 Z = true) (w2 : (Jvm.Cond.arrayOver (.array ty)).before a0 Z = true) (w3 : (Jvm.Cond.arrayClass ty).before a0 Z = true) (eT : T.heap = h) (hd : decode B pc = .ok (.multianewarray index 2, 4)) (hp : pc + 4 = pc') (hdf : fits ty (defaultValue ty) = true) (hdd : (defaultValue ty).isDefault = true) (hc : cells + 4 ≤ R.cells) (hl : slots + 12 ≤ R.slots)
    (k : ∀ T' h' a b1 b2 b3, Stand p l e R s m args below meth c T' locs (cells + 4) (slots + 12) → T'.heap = h' → Ext h h' → h.size = a → a < b1 → b1 < b2 → b2 < b3 → Exa Z h' a ad → Ary (ovA Z ty C) Z h' a (.array ty) [.ref b1, .ref b2, .ref b3] → Exa Z h' b1 C → Exa Z h' b2 C → Exa Z h' b3 C → Ary tr Z h' b1 ty [defaultValue ty, defaultValue ty, defaultValue ty] → Ary tr Z h' b2 ty [defaultValue ty, defaultValue ty, defaultValue ty] → Ary tr Z h' b3 ty [defaultValue ty, defaultValue ty, defaultValue ty] → Gt p.tables e below F (T'.setTop (mkF m pc' L (.ref a :: rest)))) : Gt p.tables e below F (T.setTop (mkF m pc L (.int 3 :: .int 3 :: rest))) := by
  subst hp
  obtain ⟨T', h', cA, comp, X', e', E', ⟨cl, A1, A2, A3, A4, A5, A6⟩, O, Ex, I, st⟩ := gridM X hx hZ hown hC had w1 w2 w3 eT (g := mkF m pc L (.int 3 :: .int 3 :: rest)) rfl (hb hby hd) (n := 3) (k := 3) rfl (by decide) (by decide) (N := 3) (by decide) (xs := [h.size + 1, h.size + 2, h.size + 3]) rfl (cap := 3) (by decide) (by decide) (by decide) hdf hdd hc hl
  have i1 := I 0 _ rfl; have i2 := I 1 _ rfl; have i3 := I 2 _ rfl
  have f : ∀ x, Arr Z h' x (newA comp ty 3) ty → Ary tr Z h' x ty [defaultValue ty, defaultValue ty, defaultValue ty] := fun x q => ⟨_, q, trivial, by simp [newA], by show 3 < 2 ^ 31; decide⟩
  refine (k T' h' _ _ _ _ X' e' E' rfl (Nat.lt_succ_self _) (Nat.lt_succ_self _) (Nat.lt_succ_self _) Ex ⟨cl, A1, A2 ▸ O, ?_, by show 3 < 2 ^ 31; decide⟩ i1.2 i2.2 i3.2 (f _ i1.1) (f _ i2.1) (f _ i3.1)).go st
  have sz : cl.slots.size = 3 := A3
  refine List.ext_getElem? fun i => ?_
  by_cases hi : i < 3
  · have q := A5 i (by omega)
    rw [Array.getElem?_toList, q]
    match i, hi with
    | 0, _ => rfl
    | 1, _ => rfl
    | 2, _ => rfl
  · rw [List.getElem?_eq_none (by simp; omega), List.getElem?_eq_none (by simp; omega)]
end OwnA
section OwnL
theorem own_lget {α : Type} {L : List α} {d : α} {i : Nat} {f : α → Value} (h : i < L.length) : (L.map f)[i]? = some (f (L.getD i d)) := by
  rw [List.getElem?_map, List.getD_eq_getElem?_getD, List.getElem?_eq_getElem h]; rfl
theorem own_rg0 {i : Int32} {m : Int} (h : 0 ≤ i.toInt ∧ i.toInt < m) : ¬ i < 0 := by
  rw [Int32.lt_iff_toInt_lt]; have : (0 : Int32).toInt = 0 := by decide
  omega
theorem own_rgl {α : Type} {L : List α} {i : Int32} {m : Int} {n : Nat} (h : 0 ≤ i.toInt ∧ i.toInt < m) (hl : L.length = n) (e : m.toNat = n := by rfl) : i.toNatClampNeg < L.length := by
  show i.toInt.toNat < _; omega
end OwnL
section OwnC
variable {x y : UInt64} {i j : Int64} {a b : Int32}
abbrev dlt (x y : UInt64) : Prop := FP.dcmp x y = some .lt
abbrev dgt (x y : UInt64) : Prop := FP.dcmp x y = some .gt
abbrev deq (x y : UInt64) : Prop := FP.dcmp x y = some .eq
abbrev dle (x y : UInt64) : Prop := FP.dcmp x y = some .lt ∨ FP.dcmp x y = some .eq
abbrev dge (x y : UInt64) : Prop := FP.dcmp x y = some .gt ∨ FP.dcmp x y = some .eq
theorem own_dl_lt_p (h : dge x y) : ifCond.holds .lt (cmpValue (FP.dcmp x y) .l) = false := by
  unfold dge at h; revert h; generalize FP.dcmp x y = o; rcases o with _ | (_ | _ | _) <;> decide
theorem own_dl_lt_n (h : ¬ dge x y) : ifCond.holds .lt (cmpValue (FP.dcmp x y) .l) = true := by
  unfold dge at h; revert h; generalize FP.dcmp x y = o; rcases o with _ | (_ | _ | _) <;> decide
theorem own_dl_ge_p (h : dge x y) : ifCond.holds .ge (cmpValue (FP.dcmp x y) .l) = true := by
  unfold dge at h; revert h; generalize FP.dcmp x y = o; rcases o with _ | (_ | _ | _) <;> decide
theorem own_dl_ge_n (h : ¬ dge x y) : ifCond.holds .ge (cmpValue (FP.dcmp x y) .l) = false := by
  unfold dge at h; revert h; generalize FP.dcmp x y = o; rcases o with _ | (_ | _ | _) <;> decide
theorem own_dl_gt_p (h : dgt x y) : ifCond.holds .gt (cmpValue (FP.dcmp x y) .l) = true := by
  unfold dgt at h; revert h; generalize FP.dcmp x y = o; rcases o with _ | (_ | _ | _) <;> decide
theorem own_dl_gt_n (h : ¬ dgt x y) : ifCond.holds .gt (cmpValue (FP.dcmp x y) .l) = false := by
  unfold dgt at h; revert h; generalize FP.dcmp x y = o; rcases o with _ | (_ | _ | _) <;> decide
theorem own_dl_le_p (h : dgt x y) : ifCond.holds .le (cmpValue (FP.dcmp x y) .l) = false := by
  unfold dgt at h; revert h; generalize FP.dcmp x y = o; rcases o with _ | (_ | _ | _) <;> decide
theorem own_dl_le_n (h : ¬ dgt x y) : ifCond.holds .le (cmpValue (FP.dcmp x y) .l) = true := by
  unfold dgt at h; revert h; generalize FP.dcmp x y = o; rcases o with _ | (_ | _ | _) <;> decide
theorem own_dl_eq_p (h : deq x y) : ifCond.holds .eq (cmpValue (FP.dcmp x y) .l) = true := by
  unfold deq at h; revert h; generalize FP.dcmp x y = o; rcases o with _ | (_ | _ | _) <;> decide
theorem own_dl_eq_n (h : ¬ deq x y) : ifCond.holds .eq (cmpValue (FP.dcmp x y) .l) = false := by
  unfold deq at h; revert h; generalize FP.dcmp x y = o; rcases o with _ | (_ | _ | _) <;> decide
theorem own_dl_ne_p (h : deq x y) : ifCond.holds .ne (cmpValue (FP.dcmp x y) .l) = false := by
  unfold deq at h; revert h; generalize FP.dcmp x y = o; rcases o with _ | (_ | _ | _) <;> decide
theorem own_dl_ne_n (h : ¬ deq x y) : ifCond.holds .ne (cmpValue (FP.dcmp x y) .l) = true := by
  unfold deq at h; revert h; generalize FP.dcmp x y = o; rcases o with _ | (_ | _ | _) <;> decide
theorem own_dg_lt_p (h : dlt x y) : ifCond.holds .lt (cmpValue (FP.dcmp x y) .g) = true := by
  unfold dlt at h; revert h; generalize FP.dcmp x y = o; rcases o with _ | (_ | _ | _) <;> decide
theorem own_dg_lt_n (h : ¬ dlt x y) : ifCond.holds .lt (cmpValue (FP.dcmp x y) .g) = false := by
  unfold dlt at h; revert h; generalize FP.dcmp x y = o; rcases o with _ | (_ | _ | _) <;> decide
theorem own_dg_ge_p (h : dlt x y) : ifCond.holds .ge (cmpValue (FP.dcmp x y) .g) = false := by
  unfold dlt at h; revert h; generalize FP.dcmp x y = o; rcases o with _ | (_ | _ | _) <;> decide
theorem own_dg_ge_n (h : ¬ dlt x y) : ifCond.holds .ge (cmpValue (FP.dcmp x y) .g) = true := by
  unfold dlt at h; revert h; generalize FP.dcmp x y = o; rcases o with _ | (_ | _ | _) <;> decide
theorem own_dg_gt_p (h : dle x y) : ifCond.holds .gt (cmpValue (FP.dcmp x y) .g) = false := by
  unfold dle at h; revert h; generalize FP.dcmp x y = o; rcases o with _ | (_ | _ | _) <;> decide
theorem own_dg_gt_n (h : ¬ dle x y) : ifCond.holds .gt (cmpValue (FP.dcmp x y) .g) = true := by
  unfold dle at h; revert h; generalize FP.dcmp x y = o; rcases o with _ | (_ | _ | _) <;> decide
theorem own_dg_le_p (h : dle x y) : ifCond.holds .le (cmpValue (FP.dcmp x y) .g) = true := by
  unfold dle at h; revert h; generalize FP.dcmp x y = o; rcases o with _ | (_ | _ | _) <;> decide
theorem own_dg_le_n (h : ¬ dle x y) : ifCond.holds .le (cmpValue (FP.dcmp x y) .g) = false := by
  unfold dle at h; revert h; generalize FP.dcmp x y = o; rcases o with _ | (_ | _ | _) <;> decide
theorem own_dg_eq_p (h : deq x y) : ifCond.holds .eq (cmpValue (FP.dcmp x y) .g) = true := by
  unfold deq at h; revert h; generalize FP.dcmp x y = o; rcases o with _ | (_ | _ | _) <;> decide
theorem own_dg_eq_n (h : ¬ deq x y) : ifCond.holds .eq (cmpValue (FP.dcmp x y) .g) = false := by
  unfold deq at h; revert h; generalize FP.dcmp x y = o; rcases o with _ | (_ | _ | _) <;> decide
theorem own_dg_ne_p (h : deq x y) : ifCond.holds .ne (cmpValue (FP.dcmp x y) .g) = false := by
  unfold deq at h; revert h; generalize FP.dcmp x y = o; rcases o with _ | (_ | _ | _) <;> decide
theorem own_dg_ne_n (h : ¬ deq x y) : ifCond.holds .ne (cmpValue (FP.dcmp x y) .g) = true := by
  unfold deq at h; revert h; generalize FP.dcmp x y = o; rcases o with _ | (_ | _ | _) <;> decide
theorem own_lc_lt_p (h : i < j) : ifCond.holds .lt (if i > j then 1 else if i = j then 0 else -1 : Int32) = true := by
  simp only [gt_iff_lt, Int64.lt_iff_toInt_lt, ← Int64.toInt_inj] at h ⊢
  rcases Int.lt_trichotomy i.toInt j.toInt with q | q | q
  · rw [if_neg (by omega), if_neg (by omega)]; first | rfl | (exfalso; omega)
  · rw [if_neg (by omega), if_pos q]; first | rfl | (exfalso; omega)
  · rw [if_pos q]; first | rfl | (exfalso; omega)
theorem own_lc_lt_n (h : ¬ i < j) : ifCond.holds .lt (if i > j then 1 else if i = j then 0 else -1 : Int32) = false := by
  simp only [gt_iff_lt, Int64.lt_iff_toInt_lt, ← Int64.toInt_inj] at h ⊢
  rcases Int.lt_trichotomy i.toInt j.toInt with q | q | q
  · rw [if_neg (by omega), if_neg (by omega)]; first | rfl | (exfalso; omega)
  · rw [if_neg (by omega), if_pos q]; first | rfl | (exfalso; omega)
  · rw [if_pos q]; first | rfl | (exfalso; omega)
theorem own_lc_ge_p (h : i < j) : ifCond.holds .ge (if i > j then 1 else if i = j then 0 else -1 : Int32) = false := by
  simp only [gt_iff_lt, Int64.lt_iff_toInt_lt, ← Int64.toInt_inj] at h ⊢
  rcases Int.lt_trichotomy i.toInt j.toInt with q | q | q
  · rw [if_neg (by omega), if_neg (by omega)]; first | rfl | (exfalso; omega)
  · rw [if_neg (by omega), if_pos q]; first | rfl | (exfalso; omega)
  · rw [if_pos q]; first | rfl | (exfalso; omega)
theorem own_lc_ge_n (h : ¬ i < j) : ifCond.holds .ge (if i > j then 1 else if i = j then 0 else -1 : Int32) = true := by
  simp only [gt_iff_lt, Int64.lt_iff_toInt_lt, ← Int64.toInt_inj] at h ⊢
  rcases Int.lt_trichotomy i.toInt j.toInt with q | q | q
  · rw [if_neg (by omega), if_neg (by omega)]; first | rfl | (exfalso; omega)
  · rw [if_neg (by omega), if_pos q]; first | rfl | (exfalso; omega)
  · rw [if_pos q]; first | rfl | (exfalso; omega)
theorem own_lc_gt_p (h : j < i) : ifCond.holds .gt (if i > j then 1 else if i = j then 0 else -1 : Int32) = true := by
  simp only [gt_iff_lt, Int64.lt_iff_toInt_lt, ← Int64.toInt_inj] at h ⊢
  rcases Int.lt_trichotomy i.toInt j.toInt with q | q | q
  · rw [if_neg (by omega), if_neg (by omega)]; first | rfl | (exfalso; omega)
  · rw [if_neg (by omega), if_pos q]; first | rfl | (exfalso; omega)
  · rw [if_pos q]; first | rfl | (exfalso; omega)
theorem own_lc_gt_n (h : ¬ j < i) : ifCond.holds .gt (if i > j then 1 else if i = j then 0 else -1 : Int32) = false := by
  simp only [gt_iff_lt, Int64.lt_iff_toInt_lt, ← Int64.toInt_inj] at h ⊢
  rcases Int.lt_trichotomy i.toInt j.toInt with q | q | q
  · rw [if_neg (by omega), if_neg (by omega)]; first | rfl | (exfalso; omega)
  · rw [if_neg (by omega), if_pos q]; first | rfl | (exfalso; omega)
  · rw [if_pos q]; first | rfl | (exfalso; omega)
theorem own_lc_le_p (h : j < i) : ifCond.holds .le (if i > j then 1 else if i = j then 0 else -1 : Int32) = false := by
  simp only [gt_iff_lt, Int64.lt_iff_toInt_lt, ← Int64.toInt_inj] at h ⊢
  rcases Int.lt_trichotomy i.toInt j.toInt with q | q | q
  · rw [if_neg (by omega), if_neg (by omega)]; first | rfl | (exfalso; omega)
  · rw [if_neg (by omega), if_pos q]; first | rfl | (exfalso; omega)
  · rw [if_pos q]; first | rfl | (exfalso; omega)
theorem own_lc_le_n (h : ¬ j < i) : ifCond.holds .le (if i > j then 1 else if i = j then 0 else -1 : Int32) = true := by
  simp only [gt_iff_lt, Int64.lt_iff_toInt_lt, ← Int64.toInt_inj] at h ⊢
  rcases Int.lt_trichotomy i.toInt j.toInt with q | q | q
  · rw [if_neg (by omega), if_neg (by omega)]; first | rfl | (exfalso; omega)
  · rw [if_neg (by omega), if_pos q]; first | rfl | (exfalso; omega)
  · rw [if_pos q]; first | rfl | (exfalso; omega)
theorem own_lc_eq_p (h : i = j) : ifCond.holds .eq (if i > j then 1 else if i = j then 0 else -1 : Int32) = true := by
  simp only [gt_iff_lt, Int64.lt_iff_toInt_lt, ← Int64.toInt_inj] at h ⊢
  rcases Int.lt_trichotomy i.toInt j.toInt with q | q | q
  · rw [if_neg (by omega), if_neg (by omega)]; first | rfl | (exfalso; omega)
  · rw [if_neg (by omega), if_pos q]; first | rfl | (exfalso; omega)
  · rw [if_pos q]; first | rfl | (exfalso; omega)
theorem own_lc_eq_n (h : ¬ i = j) : ifCond.holds .eq (if i > j then 1 else if i = j then 0 else -1 : Int32) = false := by
  simp only [gt_iff_lt, Int64.lt_iff_toInt_lt, ← Int64.toInt_inj] at h ⊢
  rcases Int.lt_trichotomy i.toInt j.toInt with q | q | q
  · rw [if_neg (by omega), if_neg (by omega)]; first | rfl | (exfalso; omega)
  · rw [if_neg (by omega), if_pos q]; first | rfl | (exfalso; omega)
  · rw [if_pos q]; first | rfl | (exfalso; omega)
theorem own_lc_ne_p (h : i = j) : ifCond.holds .ne (if i > j then 1 else if i = j then 0 else -1 : Int32) = false := by
  simp only [gt_iff_lt, Int64.lt_iff_toInt_lt, ← Int64.toInt_inj] at h ⊢
  rcases Int.lt_trichotomy i.toInt j.toInt with q | q | q
  · rw [if_neg (by omega), if_neg (by omega)]; first | rfl | (exfalso; omega)
  · rw [if_neg (by omega), if_pos q]; first | rfl | (exfalso; omega)
  · rw [if_pos q]; first | rfl | (exfalso; omega)
theorem own_lc_ne_n (h : ¬ i = j) : ifCond.holds .ne (if i > j then 1 else if i = j then 0 else -1 : Int32) = true := by
  simp only [gt_iff_lt, Int64.lt_iff_toInt_lt, ← Int64.toInt_inj] at h ⊢
  rcases Int.lt_trichotomy i.toInt j.toInt with q | q | q
  · rw [if_neg (by omega), if_neg (by omega)]; first | rfl | (exfalso; omega)
  · rw [if_neg (by omega), if_pos q]; first | rfl | (exfalso; omega)
  · rw [if_pos q]; first | rfl | (exfalso; omega)
theorem own_i0_lt_p (h : a < 0) : ifCond.holds .lt a = true := (if0 _ _).trans (tlt h).1
theorem own_i0_lt_n (h : ¬ a < 0) : ifCond.holds .lt a = false := (if0 _ _).trans (flt h).1
theorem own_i0_ge_p (h : a < 0) : ifCond.holds .ge a = false := (if0 _ _).trans (tlt h).2.1
theorem own_i0_ge_n (h : ¬ a < 0) : ifCond.holds .ge a = true := (if0 _ _).trans (flt h).2.1
theorem own_i0_gt_p (h : 0 < a) : ifCond.holds .gt a = true := (if0 _ _).trans (tlt h).2.2.1
theorem own_i0_gt_n (h : ¬ 0 < a) : ifCond.holds .gt a = false := (if0 _ _).trans (flt h).2.2.1
theorem own_i0_le_p (h : 0 < a) : ifCond.holds .le a = false := (if0 _ _).trans (tlt h).2.2.2
theorem own_i0_le_n (h : ¬ 0 < a) : ifCond.holds .le a = true := (if0 _ _).trans (flt h).2.2.2
theorem own_i0_eq_p (h : a = 0) : ifCond.holds .eq a = true := (if0 _ _).trans (teq h).1
theorem own_i0_eq_n (h : ¬ a = 0) : ifCond.holds .eq a = false := (if0 _ _).trans (feq h).1
theorem own_i0_ne_p (h : a = 0) : ifCond.holds .ne a = false := (if0 _ _).trans (teq h).2
theorem own_i0_ne_n (h : ¬ a = 0) : ifCond.holds .ne a = true := (if0 _ _).trans (feq h).2
theorem own_ic_lt_p (h : a < b) : if_icmp.holds .lt a b = true := (tlt h).1
theorem own_ic_lt_n (h : ¬ a < b) : if_icmp.holds .lt a b = false := (flt h).1
theorem own_ic_ge_p (h : a < b) : if_icmp.holds .ge a b = false := (tlt h).2.1
theorem own_ic_ge_n (h : ¬ a < b) : if_icmp.holds .ge a b = true := (flt h).2.1
theorem own_ic_gt_p (h : b < a) : if_icmp.holds .gt a b = true := (tlt h).2.2.1
theorem own_ic_gt_n (h : ¬ b < a) : if_icmp.holds .gt a b = false := (flt h).2.2.1
theorem own_ic_le_p (h : b < a) : if_icmp.holds .le a b = false := (tlt h).2.2.2
theorem own_ic_le_n (h : ¬ b < a) : if_icmp.holds .le a b = true := (flt h).2.2.2
theorem own_ic_eq_p (h : a = b) : if_icmp.holds .eq a b = true := (teq h).1
theorem own_ic_eq_n (h : ¬ a = b) : if_icmp.holds .eq a b = false := (feq h).1
theorem own_ic_ne_p (h : a = b) : if_icmp.holds .ne a b = false := (teq h).2
theorem own_ic_ne_n (h : ¬ a = b) : if_icmp.holds .ne a b = true := (feq h).2
end OwnC
section OwnM
variable {p : Program} {l : Launch} {e : Env} {R : Room} {s : State} {m : MethodId} {args : Array Value} {below : List Frame} {meth : Method} {c : Code} {T : State} {locs : List Loc} {cells slots : Nat} {Z : State} {a0 : Array Value} {h h' : Heap} {B : ByteArray} {pc pc' : Nat} {L L' : Array Slot} {rest : List Value} {F : Outcome → State → Prop} {a b : Addr} {ty : FieldType} {vs : List Value} {P : ClassId → Prop} {sl : Nat} {v : Value} {ws : List Addr}
theorem own_caload (X : Stand p l e R s m args below meth c T locs cells slots) (hx : p.tables.exec = Jvm.exec) (hby : c.code = B) (hZ : Z.Warmed39 s.vm) (eT : T.heap = h) (V : Ary P Z h a .char vs) {i : Int32} (hi : ¬ i < 0) (hg : vs[i.toNatClampNeg]? = some v) (hd : decode B pc = .ok (.caload, 1)) (hp : pc + 1 = pc') (k : Gt p.tables e below F (T.setTop (mkF m pc' L (v :: rest)))) : Gt p.tables e below F (T.setTop (mkF m pc L (.int i :: .ref a :: rest))) := by
  subst hp
  obtain ⟨cl, A, -, r, t⟩ := V
  exact k.go fun t q => X.caload hx (by rw [eT]; exact A.1) (State.isArrayOf_alike hZ.alike A.2.1) A.2.2 (Ary.inb r hi (List.getElem?_eq_some_iff.mp hg).1) (Ary.at r hg) (g := mkF m pc L (.int i :: .ref a :: rest)) rfl rfl (hb hby hd) _ q
theorem own_castore (X : Stand p l e R s m args below meth c T locs cells slots) (hx : p.tables.exec = Jvm.exec) (hby : c.code = B) (hZ : Z.Warmed39 s.vm) (eT : T.heap = h) (V : Ary P Z h a .char vs) {i x : Int32} {n : Nat} (hi : ¬ i < 0) (hn : i.toNatClampNeg = n) (hl : n < vs.length) (hd : decode B pc = .ok (.castore, 1)) (hp : pc + 1 = pc') (k : ∀ T' h', Stand p l e R s m args below meth c T' (locs ++ [⟨a, n⟩]) cells slots → T'.heap = h' → Wr h h' a n (.int (nar .char x)) → Gt p.tables e below F (T'.setTop (mkF m pc' L rest))) : Gt p.tables e below F (T.setTop (mkF m pc L (.int x :: .int i :: .ref a :: rest))) := by
  subst hp hn
  obtain ⟨cl, A, -, r, t⟩ := V
  obtain ⟨T', h', X', e', W, st⟩ := stC X hx hZ eT A (Ary.inb r hi hl) (g := mkF m pc L (.int x :: .int i :: .ref a :: rest)) rfl rfl (hb hby hd)
  exact (k T' h' X' e' W).go st
theorem own_bastore (X : Stand p l e R s m args below meth c T locs cells slots) (hx : p.tables.exec = Jvm.exec) (hby : c.code = B) (hZ : Z.Warmed39 s.vm) (eT : T.heap = h) (V : Ary P Z h a .byte vs) {i x : Int32} {n : Nat} (hi : ¬ i < 0) (hn : i.toNatClampNeg = n) (hl : n < vs.length) (hd : decode B pc = .ok (.bastore, 1)) (hp : pc + 1 = pc') (k : ∀ T' h', Stand p l e R s m args below meth c T' (locs ++ [⟨a, n⟩]) cells slots → T'.heap = h' → Wr h h' a n (.int (nar .byte x)) → Gt p.tables e below F (T'.setTop (mkF m pc' L rest))) : Gt p.tables e below F (T.setTop (mkF m pc L (.int x :: .int i :: .ref a :: rest))) := by
  subst hp hn
  obtain ⟨cl, A, -, r, t⟩ := V
  obtain ⟨T', h', X', e', W, st⟩ := stB X hx hZ eT A (Ary.inb r hi hl) (g := mkF m pc L (.int x :: .int i :: .ref a :: rest)) rfl rfl (hb hby hd)
  exact (k T' h' X' e' W).go st
theorem own_baload (X : Stand p l e R s m args below meth c T locs cells slots) (hx : p.tables.exec = Jvm.exec) (hby : c.code = B) (hZ : Z.Warmed39 s.vm) (eT : T.heap = h) (V : Ary P Z h a .byte vs) {i : Int32} (hi : ¬ i < 0) (hg : vs[i.toNatClampNeg]? = some v) (hd : decode B pc = .ok (.baload, 1)) (hp : pc + 1 = pc') (k : Gt p.tables e below F (T.setTop (mkF m pc' L (v :: rest)))) : Gt p.tables e below F (T.setTop (mkF m pc L (.int i :: .ref a :: rest))) := by
  subst hp
  obtain ⟨cl, A, -, r, t⟩ := V
  exact k.go fun t q => X.baloadBytes hx (by rw [eT]; exact A.1) (State.isArrayOf_alike hZ.alike A.2.1) A.2.2 (Ary.inb r hi (List.getElem?_eq_some_iff.mp hg).1) (Ary.at r hg) (g := mkF m pc L (.int i :: .ref a :: rest)) rfl rfl (hb hby hd) _ q
theorem own_ldcF (X : Stand p l e R s m args below meth c T locs cells slots) (hx : p.tables.exec = Jvm.exec) (hby : c.code = B) (hZ : Z.Warmed39 s.vm) {own : String} {i : Nat} {w : UInt32} (hown : s.vm.findClass own = some m.cls) (wd : (Jvm.Cond.constantFloat own i w).before a0 Z = true) (hd : decode B pc = .ok (.ldc i, 2)) (hp : pc + 2 = pc') (k : Gt p.tables e below F (T.setTop (mkF m pc' L (.float w :: rest)))) : Gt p.tables e below F (T.setTop (mkF m pc L rest)) := by
  subst hp; exact k.go (X.ldcFloatC hx hown (mvT hZ wd) (g := mkF m pc L rest) rfl (hb hby hd))
theorem own_lsw (X : Stand p l e R s m args below meth c T locs cells slots) (hx : p.tables.exec = Jvm.exec) (hby : c.code = B) {df : Int} {prs : Array (Int × Int)} {len : Nat} {x : Int32} {i off : Int} (hd : decode B pc = .ok (.lookupswitch df prs, len)) (h1 : (prs.toList.zip (prs.toList.drop 1)).all (fun (a, next) => a.1 < next.1) = true) (h2 : prs.find? (·.1 == x.toInt) = some (i, off)) (h3 : 0 ≤ (pc : Int) + off) (hp : ((pc : Int) + off).toNat = pc') (k : Gt p.tables e below F (T.setTop (mkF m pc' L rest))) : Gt p.tables e below F (T.setTop (mkF m pc L (.int x :: rest))) := by
  subst hp; exact k.go fun t q => X.lookupswitchHit hx (g := mkF m pc L (.int x :: rest)) rfl rfl (hb hby hd) h1 h2 h3 t q
theorem own_instY (X : Stand p l e R s m args below meth c T locs cells slots) (hx : p.tables.exec = Jvm.exec) (hby : c.code = B) (hZ : Z.Warmed39 s.vm) {own C : String} {index : Nat} (hown : s.vm.findClass own = some m.cls) (w : (Jvm.Cond.classLink own index C).before a0 Z = true) (eT : T.heap = h) (Ff : Ins Z h a C true) (hd : decode B pc = .ok (.instanceof index, 3)) (hp : pc + 3 = pc') (k : ∀ T', Stand p l e R s m args below meth c T' locs cells slots → T'.heap = h → Gt p.tables e below F (T'.setTop (mkF m pc' L (.int 1 :: rest)))) : Gt p.tables e below F (T.setTop (mkF m pc L (.ref a :: rest))) := by
  subst hp; obtain ⟨T', X', e', st⟩ := instY X hx hZ hown w eT Ff (g := mkF m pc L (.ref a :: rest)) rfl rfl (hb hby hd); exact (k T' X' e').go st
theorem own_castY (X : Stand p l e R s m args below meth c T locs cells slots) (hx : p.tables.exec = Jvm.exec) (hby : c.code = B) (hZ : Z.Warmed39 s.vm) {own C : String} {index : Nat} (hown : s.vm.findClass own = some m.cls) (w : (Jvm.Cond.classLink own index C).before a0 Z = true) (eT : T.heap = h) (Ff : Ins Z h a C true) (hd : decode B pc = .ok (.checkcast index, 3)) (hp : pc + 3 = pc') (k : ∀ T', Stand p l e R s m args below meth c T' locs cells slots → T'.heap = h → Gt p.tables e below F (T'.setTop (mkF m pc' L (.ref a :: rest)))) : Gt p.tables e below F (T.setTop (mkF m pc L (.ref a :: rest))) := by
  subst hp; obtain ⟨T', X', e', st⟩ := castY X hx hZ hown w eT Ff (g := mkF m pc L (.ref a :: rest)) rfl rfl (hb hby hd); exact (k T' X' e').go st
theorem own_face {r n d : String} (hy : r ≠ "java/lang/invoke/MethodHandle" ∧ r ≠ "java/lang/invoke/VarHandle") : ((Jvm.Cond.interfaceMethod r r n d).onTables && (Jvm.Cond.interfaceMethod r r n d).keepsFace) = true := by
  show (true && (false || ((r == r && r != "java/lang/invoke/MethodHandle") && r != "java/lang/invoke/VarHandle"))) = true
  simp [hy.1, hy.2]
theorem own_iface (X : Stand p l e R s m args below meth c T locs cells slots) (hx : p.tables.exec = Jvm.exec) (hby : c.code = B) (hZ : Z.Warmed39 s.vm) {own : String} {index : Nat} {y : MethodName} {bytes : ByteArray} {maxL : Nat} {ret : Option FieldType} {rm : Room} {as' : Array Value} {Q : Option Value → Heap → List Loc → Prop} {C : String} {y' : MethodName} (hown : s.vm.findClass own = some m.cls) (w1 : (Jvm.Cond.methodLink own index y').before a0 Z = true) (w2 : (Jvm.Cond.declares y').before a0 Z = true) (w7 : (Jvm.Cond.interfaceMethod y'.cls y'.cls y'.name y'.desc).before a0 Z = true) (w5 : (Jvm.Cond.selects C y' y).before a0 Z = true) (w6 : (Jvm.Cond.instanceMethod y).before a0 Z = true) (w8 : (Jvm.Cond.publicMethod y).before a0 Z = true) (w9 : (Jvm.Cond.unhidden C y'.name y'.desc).before a0 Z = true) (wc : (Jvm.Cond.castable C y'.cls).before a0 Z = true) (w3 : (Jvm.Cond.code y bytes maxL ret).before a0 Z = true) (w4 : (Jvm.Cond.initialized y.cls).before a0 Z = true) (hy : y'.cls ≠ "java/lang/invoke/MethodHandle" ∧ y'.cls ≠ "java/lang/invoke/VarHandle") (hM : MetFree l y (head1 [Jvm.Cond.code y bytes maxL ret] rm) (fun a U => a = as' ∧ Z.Warmed39 U.vm ∧ U.heap = h) (fun _ _ _ _ _ => True) (fun _ U o U' => ∃ v L, o = .returned v ∧ Q v U'.heap L ∧ FrameEnd U o U' L rm.cells rm.slots)) (eT : T.heap = h) (hsize : L.size = c.maxLocals) {a : Addr} (E : Exa Z h a C) {argsL : List Value} (has : as' = (.ref a :: argsL).toArray) (hlen : ∀ sig, parseMethodDescriptor y'.desc = some sig → argsL.length = sig.parameters.length) {ct : Nat} {st : List Value} (hst : st = argsL.reverse ++ .ref a :: rest) (hd : decode B pc = .ok (.invokeinterface index ct, 5)) (hp : pc + 5 = pc') (hf : rm.frames + 1 ≤ R.frames) {W : Nat} (hW : (rest.map fun v => v.category).sum ≤ W) (hl : W + (maxL + 11) + rm.locals ≤ R.locals) (hc : cells + rm.cells ≤ R.cells) (hs : slots + rm.slots ≤ R.slots) (k : ∀ T' h' L' v, Stand p l e R s m args below meth c T' (locs ++ L') (cells + rm.cells) (slots + rm.slots) → T'.heap = h' → Q v h' L' → Gt p.tables e below F (T'.setTop (mkF m pc' L (v.toList ++ rest)))) : Gt p.tables e below F (T.setTop (mkF m pc L st)) := by
  subst hp has hst
  obtain ⟨cq, kq, qa, qb, qc⟩ := isOf hZ eT E
  obtain ⟨v, vm1, ⟨T', L1, k1, n1⟩, -, X', ⟨Lc, hQ, l1, l2, l3⟩, st⟩ := X.interfaceBack hx (xi := y') (y := y) hown (mvT hZ w1) (mvT hZ w2) (mvT hZ w7 (own_face hy)) (mvT hZ w5) (mvT hZ w6) (mvT hZ w8) (mvT hZ w9) (mvT hZ wc) hy (backOf (W := W) hM hZ w3 w4 hf hl) qa qb qc (g := mkF m pc L (argsL.reverse ++ .ref a :: rest)) rfl hsize (Steps.refl _) (argsL := argsL) (rest := rest) hlen rfl (by show 2 * 0 + _ ≤ _; rw [Nat.mul_zero, Nat.zero_add]; exact hW) (hb hby hd) (fun _ _ => ⟨rfl, eT, hc, hs⟩)
  dsimp only [Pt.U, Pt.locs, Pt.cells, Pt.slots] at X' l1 l2 l3 st hQ
  subst l1 l2 l3
  exact (k T' _ Lc v X' rfl hQ).go fun t q => st.trans q
theorem own_retB (X : Stand p l e R s m args below meth c T locs cells slots) (hx : p.tables.exec = Jvm.exec) (hby : c.code = B) (hlocks : meth.locks = false) {Q : Option Value → Heap → List Loc → Prop} {kc ks : Nat} (hret : meth.sig.returnType = some .byte) {z : Int32} (hz : narrow .byte (.int z) = .int z) (hd : decode B pc = .ok (.ireturn, 1)) (hc : cells ≤ kc) (hs : slots ≤ ks) (eT : T.heap = h) (hq : Q (some (.int z)) h locs) : Gt p.tables e below (fun o U' => ∃ v Lc, o = .returned v ∧ Q v U'.heap Lc ∧ FrameEnd s o U' Lc kc ks) (T.setTop (mkF m pc L (.int z :: rest))) := by
  subst eT
  obtain ⟨fs, hr, hrun, hended, hW, hsame⟩ := X.leave (v := (some (.int z))) (fun h => by rw [hret] at h; cases h) hlocks
  exact ⟨_, _, retOut X hx hret hz (Or.inl ⟨rfl, Or.inr (Or.inr (Or.inl rfl)), z, rfl⟩) (hb hby hd) hr, hrun, hended, _, _, rfl, hq, ⟨_, rfl⟩, hW, hsame.mono hc hs⟩
theorem own_skn {C n d : String} {w : Value} {ws : List Addr} (Ff : Sta Z h C n d w) (K : Keep h h' ws) (q : ∀ x ∈ ws, ∃ D, Exa Z h x D) : Sta Z h' C n d w := by
  obtain ⟨cf, i, k, f, st, cell, h1, h2, h3, h4, h5, h6, h7⟩ := Ff
  refine ⟨cf, i, k, f, st, cell, h1, h2, h3, h4, K.2.1 st cell h5 (fun hm => ?_), h6, h7⟩
  obtain ⟨D, cell', k', e1, -, -, e4, -⟩ := q st hm
  cases h5.symm.trans e1
  rw [h6] at e4; cases e4
theorem own_sk0 : ∀ x ∈ ([] : List Addr), ∃ D, Exa Z h x D := fun _ q => nomatch q
theorem own_skS {x : Addr} {C : String} {ws : List Addr} (E : Exa Z h x C) (r : ∀ y ∈ ws, ∃ D, Exa Z h y D) : ∀ y ∈ x :: ws, ∃ D, Exa Z h y D := fun y q => by
  rcases List.mem_cons.mp q with rfl | q
  · exact ⟨C, E⟩
  · exact r y q
theorem own_ldcS (X : Stand p l e R s m args below meth c T locs cells slots) (hx : p.tables.exec = Jvm.exec) (hby : c.code = B) (hZ : Z.Warmed39 s.vm) {own text : String} {index : Nat} (hown : s.vm.findClass own = some m.cls) (w : (Jvm.Cond.stringLink own index text).before a0 Z = true) (wS : ∀ d ∈ Bundle.stringAtoms, d.before a0 Z = true) (eT : T.heap = h) (hd : decode B pc = .ok (.ldc index, 2)) (hp : pc + 2 = pc') {n : Nat} (hn : 4 * text.toList.length ≤ n) (hbig : n ≤ 536870912) (hc : cells + 2 ≤ R.cells) (hl : slots + (n + 4) ≤ R.slots)
    (k : ∀ (a : Addr) (T' : State) (h' : Heap) (k1 : Nat), Stand p l e R (s.setVm T'.vm) m args below meth c T' locs (cells + 2) (slots + (n + 4)) → T'.heap = h' → Ext h h' → s.Since T'.vm k1 → k1 ≤ h'.size → Z.Warmed39 (s.setVm T'.vm).vm → (s.setVm T'.vm).vm.findClass own = some m.cls → Gt p.tables e below F (T'.setTop (mkF m pc' L (.ref a :: rest)))) : Gt p.tables e below F (T.setTop (mkF m pc L rest)) := by
  subst hp
  have X0 : Stand p l e R (s.setVm s.vm) m args below meth c T locs cells slots := X
  obtain ⟨a, T', h', k1, X', e', E', S', q', Z', o', st⟩ := ldcS X0 hx hZ hown w wS eT ((State.WarmedH.refl s).since 0) (Nat.zero_le _) (g := mkF m pc L rest) rfl (hb hby hd) hn hbig hc hl
  exact (k a T' h' k1 X' e' E' S' q' Z' o').go st
theorem own_retZW {vm1 : Vm} {k1 : Nat} (X : Stand p l e R (s.setVm vm1) m args below meth c T locs cells slots) (hx : p.tables.exec = Jvm.exec) (hby : c.code = B) (hlocks : meth.locks = false) {Q : Option Value → Heap → List Loc → Prop} {kc ks : Nat} (hret : meth.sig.returnType = some .boolean) {z : Int32} (hz : z = 0 ∨ z = 1) (hd : decode B pc = .ok (.ireturn, 1)) (hc : cells ≤ kc) (hs : slots ≤ ks) (eT : T.heap = h) (hS : s.Since vm1 k1) (hk : k1 ≤ h.size) (hq : Q (some (.int z)) h locs) : Gt p.tables e below (fun o U' => ∃ v Lc, o = .returned v ∧ Q v U'.heap Lc ∧ ReturnedEndW s o U' Lc kc ks) (T.setTop (mkF m pc L (.int z :: rest))) := by
  subst eT
  obtain ⟨fs, hr, hrun, hended, hE⟩ := X.leaveW hS hk (v := (some (.int z))) (fun h => by rw [hret] at h; cases h) hlocks
  exact ⟨_, _, retOut X hx hret (by rcases hz with rfl | rfl <;> rfl) (Or.inl ⟨rfl, Or.inr (Or.inl rfl), z, rfl⟩) (hb hby hd) hr, hrun, hended, _, _, rfl, hq, hE.1, hE.2.1, hE.2.2.1, hE.2.2.2.mono hc hs⟩
theorem own_cloneI (X : Stand p l e R s m args below meth c T locs cells slots) (hx : p.tables.exec = Jvm.exec) (hby : c.code = B) (hZ : Z.Warmed39 s.vm) {own ad : String} {index : Nat} (hown : s.vm.findClass own = some m.cls)
    (w1 : (Jvm.Cond.methodLink own index ⟨ad, "clone", "()Ljava/lang/Object;"⟩).before a0 Z = true) (w2 : (Jvm.Cond.sameMethod ad "java/lang/Object" "clone" "()Ljava/lang/Object;").before a0 Z = true) (w3 : (Jvm.Cond.native ⟨"java/lang/Object", "clone", "()Ljava/lang/Object;"⟩).before a0 Z = true)
    (w4 : (Jvm.Cond.instanceMethod ⟨"java/lang/Object", "clone", "()Ljava/lang/Object;"⟩).before a0 Z = true) (w5 : (Jvm.Cond.selects ad ⟨ad, "clone", "()Ljava/lang/Object;"⟩ ⟨"java/lang/Object", "clone", "()Ljava/lang/Object;"⟩).before a0 Z = true) (w6 : (Jvm.Cond.castable ad "java/lang/Cloneable").before a0 Z = true)
    (eT : T.heap = h) (V : Ary tr Z h a .int vs) (E : Exa Z h a ad) {z : Int32} (hz : z.toNatClampNeg = vs.length) (hz0 : ¬ z < 0) (hfit : ∀ i, i < vs.length → fits .int (vs.getD i (.int 0)) = true) (hsize : L.size = c.maxLocals) (hd : decode B pc = .ok (.invokevirtual index, 3)) (hp : pc + 3 = pc')
    (hf : 1 ≤ R.frames) {W cap : Nat} (hW : (rest.map fun v => v.category).sum ≤ W) (hl : W + 14 ≤ R.locals) (hcap : vs.length ≤ cap) (hc : cells + 1 ≤ R.cells) (hsl : slots + cap ≤ R.slots)
    (k : ∀ T' h' b, Stand p l e R s m args below meth c T' locs (cells + 1) (slots + cap) → T'.heap = h' → Ext h h' → h.size = b → Exa Z h' b ad → Ary tr Z h' b .int vs → Gt p.tables e below F (T'.setTop (mkF m pc' L (.ref b :: rest)))) : Gt p.tables e below F (T.setTop (mkF m pc L (.ref a :: rest))) := by
  subst hp
  obtain ⟨cl, A, -, r, t⟩ := V
  have sz := Ary.size r
  have F0 : Arh Z h a cl.cls .int z [] vs (.int 0) := by
    refine ⟨cl, A, rfl, by rw [sz, hz], hz0, fun i hi => ?_, fun i hi => hfit i (sz ▸ hi)⟩
    refine Ary.at r ?_
    show vs[i]? = some (vs.getD i (.int 0))
    rw [List.getD_eq_getElem?_getD, List.getElem?_eq_getElem (sz ▸ hi)]; rfl
  obtain ⟨T', h', X', e', E', F1, Ex, st⟩ := cloneH X hx hZ hown w1 w2 w3 w4 w5 w6 eT F0 E (g := mkF m pc L (.ref a :: rest)) rfl hsize rfl (hb hby hd) hf (W := W) (cap := cap) (by show 2 * 0 + _ ≤ _; rw [Nat.mul_zero, Nat.zero_add]; exact hW) hl (by rw [hz]; exact hcap) hc hsl
  refine (k T' h' _ X' e' E' rfl Ex ?_).go st
  obtain ⟨c2, A2, -, s2, -, g2, -⟩ := F1
  rw [hz] at s2
  refine ⟨c2, A2, trivial, List.ext_getElem? fun i => ?_, t⟩
  by_cases hi : i < vs.length
  · rw [Array.getElem?_toList, g2 i (by rw [s2]; exact hi), List.getElem?_eq_getElem hi]
    show some (vs.getD i (.int 0)) = _
    rw [List.getD_eq_getElem?_getD, List.getElem?_eq_getElem hi]; rfl
  · rw [List.getElem?_eq_none (by rw [Array.length_toList, s2]; omega), List.getElem?_eq_none (by omega)]
theorem own_el0 {C : String} : ∀ v ∈ ([] : List Value), ∃ x, v = .ref x ∧ Exa Z h x C := fun _ q => nomatch q
theorem own_elS {x : Addr} {C : String} {us : List Value} (E : Exa Z h x C) (r : ∀ v ∈ us, ∃ x, v = .ref x ∧ Exa Z h x C) : ∀ v ∈ (.ref x :: us), ∃ x, v = .ref x ∧ Exa Z h x C := fun v q => by
  rcases List.mem_cons.mp q with rfl | q
  · exact ⟨x, rfl, E⟩
  · exact r v q
theorem own_stol {cl : Cell} {C : String} (A : Arr Z h b cl (.object C)) (O : Ovr Z cl.cls C) : ∀ us : List Value, (∀ v ∈ us, ∃ x, v = .ref x ∧ Exa Z h x C) → StoL Z h b us
  | [], _ => trivial
  | v :: r, q => by
    obtain ⟨x, e, E⟩ := q v (List.mem_cons_self ..)
    exact ⟨e ▸ Sto.of A O (Ins.self E), own_stol A O r fun w k => q w (List.mem_cons_of_mem _ k)⟩
theorem own_cpR (X : Stand p l e R s m args below meth c T locs cells slots) (hx : p.tables.exec = Jvm.exec) (hby : c.code = B) (hZ : Z.Warmed39 s.vm) {own : String} {index : Nat} (hown : s.vm.findClass own = some m.cls) (w1 : (Jvm.Cond.methodLink own index Jvm.Stand.acN).before a0 Z = true) (w2 : (Jvm.Cond.native Jvm.Stand.acN).before a0 Z = true) (w3 : (Jvm.Cond.static Jvm.Stand.acN).before a0 Z = true) (w4 : (Jvm.Cond.initialized "java/lang/System").before a0 Z = true) (eT : T.heap = h)
    {C : String} (V : Ary (ovO Z C) Z h b (.object C) vs) {z sp dp nn : Int32} {S D N : Nat} (hz : z.toNatClampNeg = vs.length) (hz0 : ¬ z < 0) (h1 : ¬ sp < 0) (h2 : ¬ dp < 0) (h3 : ¬ nn < 0) (hS : sp.toNatClampNeg = S) (hD : dp.toNatClampNeg = D) (hN : nn.toNatClampNeg = N) (h4 : S + N ≤ vs.length) (h5 : D + N ≤ vs.length)
    {us us' : List Value} (hus : us = (List.range N).map fun i => vs.getD (S + i) .null) (hfit : ∀ i, i < vs.length → fits (.object C) (vs.getD i .null) = true) (hel : ∀ v ∈ us, ∃ x, v = .ref x ∧ Exa Z h x C) (hr : vs.take D ++ us ++ vs.drop (D + N) = us') (hlen : us'.length = vs.length) {n0 : Nat} (Nf : Fr n0 locs) (ge : n0 ≤ b)
    (hsize : L.size = c.maxLocals) (hd : decode B pc = .ok (.invokestatic index, 3)) (hp : pc + 3 = pc') (hf : 1 ≤ R.frames) {W : Nat} (hW : (rest.map fun v => v.category).sum ≤ W) (hlo : W + (nativeFrameWords "java/lang/System" "arraycopy" 5 + 11) ≤ R.locals)
    (k : ∀ T' h' L', Stand p l e R s m args below meth c T' L' cells slots → T'.heap = h' → Fr n0 L' → Keep h h' [b] → Ary (ovO Z C) Z h' b (.object C) us' → Gt p.tables e below F (T'.setTop (mkF m pc' L rest))) : Gt p.tables e below F (T.setTop (mkF m pc L (.int nn :: .int dp :: .ref b :: .int sp :: .ref b :: rest))) := by
  subst hp hS hD hN
  obtain ⟨cl, A, O, r, t⟩ := V
  have sz := Ary.size r
  have F0 : Arv Z h b cl.cls (.object C) z vs .null := by
    refine ⟨cl, A, rfl, by rw [sz, hz], hz0, fun i hi => ?_, fun i hi => hfit i (sz ▸ hi)⟩
    refine Ary.at r ?_
    rw [List.getD_eq_getElem?_getD, List.getElem?_eq_getElem (sz ▸ hi)]; rfl
  obtain ⟨T', h', L', X', e', N', K', F1, st⟩ := cpA X hx hZ hown w1 w2 w3 w4 eT F0 F0 (Or.inr ⟨rfl, rfl, own_stol A O us hel⟩) h1 h2 h3 (by rw [hz]; exact h4) (by rw [hz]; exact h5) hus h5 Nf ge (g := mkF m pc L (.int nn :: .int dp :: .ref b :: .int sp :: .ref b :: rest)) rfl hsize (rest := rest) rfl (hb hby hd) hf (W := W) (by show 2 * 0 + _ ≤ _; rw [Nat.mul_zero, Nat.zero_add]; exact hW) hlo
  refine (k T' h' L' X' e' N' K' ?_).go st
  rw [hr] at F1
  obtain ⟨c2, A2, q2, s2, -, g2, -⟩ := F1
  rw [hz] at s2
  refine ⟨c2, A2, by rw [q2]; exact O, List.ext_getElem? fun i => ?_, by rw [hlen]; exact t⟩
  by_cases hi : i < vs.length
  · rw [Array.getElem?_toList, g2 i (by rw [s2]; exact hi), List.getD_eq_getElem?_getD, List.getElem?_eq_getElem (by rw [hlen]; exact hi)]; rfl
  · rw [List.getElem?_eq_none (by rw [Array.length_toList, s2]; omega), List.getElem?_eq_none (by omega)]
theorem own_weaken {tb : Tables} {g : JFrame} {x y : State} (h : Steps tb e (.java g :: below) x y) : Steps tb e below x y := by
  obtain ⟨n, hn, w⟩ := h
  refine ⟨n, hn, fun k hk => ?_⟩
  obtain ⟨ab, q1, q2, q3⟩ := w k hk
  refine ⟨ab ++ [.java g], by rw [q1, List.append_assoc]; rfl, by simp, fun z q => ?_⟩
  cases ab with
  | nil => exact q2 rfl
  | cons u r => simp at q
/-- what a body does, said of every place where it stands entered: no word on its class's state is asked -/
def Raw (l : Launch) (y : MethodName) (bytes : ByteArray) (maxL : Nat) (ret : Option FieldType) (rm : Room) (as' : Array Value) (Z : State) (h : Heap) (Q : Option Value → Heap → List Loc → Prop) : Prop :=
  ∀ (p : Program) (e : Env) (s : State) (m : MethodId) (below : List Frame) (meth : Method) (c : Code) (s₁ : State), p.tables.exec = Jvm.exec → Stand p l e rm s m as' below meth c s₁ [] 0 0 → c.code = bytes → c.maxLocals = maxL → s.vm.findClass y.cls = some m.cls → meth.locks = false → meth.sig.returnType = ret → Z.Warmed39 s.vm → s₁.heap = h →
    Gt p.tables e below (fun o U' => ∃ v L, o = .returned v ∧ Q v U'.heap L ∧ FrameEnd s o U' L rm.cells rm.slots) (s₁.setTop (entryFrame m as' maxL))
theorem own_backRaw {y : MethodName} {bytes : ByteArray} {maxL : Nat} {ret : Option FieldType} {rm : Room} {len W : Nat} {as' : Array Value} {Q : Option Value → Heap → List Loc → Prop} (hR : Raw l y bytes maxL ret rm as' Z h Q) (hx : p.tables.exec = Jvm.exec) (hpl : plainFor y = true)
    (hZ : Z.Warmed39 s.vm) (wc : (Jvm.Cond.code y bytes maxL ret).before a0 Z = true) (hf : rm.frames + 1 ≤ R.frames) (hl : W + (maxL + 11) + rm.locals ≤ R.locals) :
    Back l R p e below s args y len W (fun A a => a = as' ∧ A.U.heap = h ∧ A.cells + rm.cells ≤ R.cells ∧ A.slots + rm.slots ≤ R.slots) (fun A _ v B => ∃ L, Q v B.U.heap L ∧ B.locs = A.locs ++ L ∧ B.cells = A.cells + rm.cells ∧ B.slots = A.slots + rm.slots) := by
  intro m meth c A g ig mk a X hg hsize hdg hW hn hp
  obtain ⟨rfl, eH, hc, hs⟩ := hp
  have hU : Z.Warmed39 A.U.vm := wtrans hZ X.warmed
  obtain ⟨methY, cY, hmY, hcY, hbY, hlY, hrY, hkY, -⟩ := Cond.code_spec hn (mv (args := #[]) hU wc)
  obtain ⟨Y, hin⟩ := X.into hg hsize hdg a (R' := rm) hmY hcY hkY (State.plainMethod.of_named (s := A.U) hpl hn hmY) hf (by rw [hlY]; omega) hc hs
  obtain ⟨s₂, o, hst, hrun, hend, v, L, rfl, hq, hFE⟩ := hR p e (A.U.calling g mk a) mk (.java g :: below) methY cY _ hx Y hbY hlY (findClass_of_methodNamed hn) hkY hrY hU eH
  obtain ⟨-, hWe, hsame⟩ := hFE
  obtain ⟨T', X', hW', -, ht⟩ := X.outOf hg hdg hend hWe hsame
  refine ⟨v, ⟨T', A.locs ++ L, A.cells + rm.cells, A.slots + rm.slots⟩, X', ⟨L, ?_, rfl, rfl, rfl⟩, ?_⟩
  · have e1 : s₂.heap = T'.heap := by rw [ht]; rfl
    rw [e1] at hq; exact hq
  · rw [hin []]
    show Steps p.tables e below _ (T'.setTop { g with pc := g.pc + len, stack := v.toList ++ g.stack })
    rw [← ht]
    rw [← hlY] at hst
    exact own_weaken hst
theorem own_virtD (X : Stand p l e R s m args below meth c T locs cells slots) (hx : p.tables.exec = Jvm.exec) (hby : c.code = B) (hZ : Z.Warmed39 s.vm) {own : String} {index : Nat} {y : MethodName} {bytes : ByteArray} {maxL : Nat} {ret : Option FieldType} {rm : Room} {as' : Array Value} {Q : Option Value → Heap → List Loc → Prop} {C : String} {y' : MethodName} (hown : s.vm.findClass own = some m.cls) (w1 : (Jvm.Cond.methodLink own index y').before a0 Z = true) (w2 : (Jvm.Cond.sameMethod y'.cls y.cls y'.name y'.desc).before a0 Z = true) (w7 : (Jvm.Cond.declares ⟨y.cls, y'.name, y'.desc⟩).before a0 Z = true) (w5 : (Jvm.Cond.landsInDefault C y' y).before a0 Z = true) (w6 : (Jvm.Cond.instanceMethod y).before a0 Z = true) (w3 : (Jvm.Cond.code y bytes maxL ret).before a0 Z = true) (hpl : plainFor y = true) (hy : y.cls ≠ "java/lang/invoke/MethodHandle" ∧ y.cls ≠ "java/lang/invoke/VarHandle") (hM : Raw l y bytes maxL ret rm as' Z h Q) (eT : T.heap = h) (hsize : L.size = c.maxLocals) {a : Addr} (E : Exa Z h a C) {argsL : List Value} (has : as' = (.ref a :: argsL).toArray) (hlen : ∀ sig, parseMethodDescriptor y'.desc = some sig → argsL.length = sig.parameters.length) {st : List Value} (hst : st = argsL.reverse ++ .ref a :: rest) (hd : decode B pc = .ok (.invokevirtual index, 3)) (hp : pc + 3 = pc') (hf : rm.frames + 1 ≤ R.frames) {W : Nat} (hW : (rest.map fun v => v.category).sum ≤ W) (hl : W + (maxL + 11) + rm.locals ≤ R.locals) (hc : cells + rm.cells ≤ R.cells) (hs : slots + rm.slots ≤ R.slots) (k : ∀ T' h' L' v, Stand p l e R s m args below meth c T' (locs ++ L') (cells + rm.cells) (slots + rm.slots) → T'.heap = h' → Q v h' L' → Gt p.tables e below F (T'.setTop (mkF m pc' L (v.toList ++ rest)))) : Gt p.tables e below F (T.setTop (mkF m pc L st)) := by
  subst hp has hst
  obtain ⟨cq, kq, qa, qb, qc⟩ := isOf hZ eT E
  obtain ⟨v, vm1, ⟨T', L1, k1, n1⟩, -, X', ⟨Lc, hQ, l1, l2, l3⟩, st⟩ := X.virtualBackUpD hx (x := y') (y := y) (owner := y.cls) hown (mvT hZ w1) (mvT hZ w2) (mvT hZ w7) hy (mvD hZ w5) (mvT hZ w6) (own_backRaw (W := W) hM hx hpl hZ w3 hf hl) qa qc (g := mkF m pc L (argsL.reverse ++ .ref a :: rest)) rfl hsize (Steps.refl _) (argsL := argsL) (rest := rest) hlen rfl (by show 2 * 0 + _ ≤ _; rw [Nat.mul_zero, Nat.zero_add]; exact hW) (hb hby hd) (fun _ _ => ⟨rfl, eT, hc, hs⟩)
  dsimp only [Pt.U, Pt.locs, Pt.cells, Pt.slots] at X' l1 l2 l3 st hQ
  subst l1 l2 l3
  exact (k T' _ Lc v X' rfl hQ).go fun t q => st.trans q
end OwnM
section OwnF
open Jvm.FP.Core (val64 zval zmag b64 one64 DFin DZero good_b64 val64_fits inUnits signed sgn)
/-- the value in units of 2^-1074 -/
abbrev zv (x : UInt64) : Int := zval b64 (val64 x)
def uu : Int := ((one64 : Nat) : Int)
theorem uu_pos : 0 < uu := by have := FP.Core.one64_pos; show (0 : Int) < ((one64 : Nat) : Int); omega
theorem own_add_le {x y V : UInt64} (hx : DFin x) (hy : DFin y) (hV : val64 V ≠ .nan) (h : zv x + zv y ≤ zv V) : zv (FP.dadd x y) ≤ zv V := by
  show zval b64 (val64 (FP.Core.dadd x y)) ≤ _
  rw [FP.Core.val64_dadd]; exact FP.Core.sum_le good_b64 hx hy (val64_fits x) (val64_fits y) (val64_fits V) hV h
theorem own_add_ge {x y V : UInt64} (hx : DFin x) (hy : DFin y) (hV : val64 V ≠ .nan) (h : zv V ≤ zv x + zv y) : zv V ≤ zv (FP.dadd x y) := by
  show _ ≤ zval b64 (val64 (FP.Core.dadd x y))
  rw [FP.Core.val64_dadd]; exact FP.Core.sum_ge good_b64 hx hy (val64_fits x) (val64_fits y) (val64_fits V) hV h
theorem own_neg_fin {y : UInt64} (hy : DFin y) : ∃ s c q, FP.Core.negate (val64 y) = .fin s c q := by
  obtain ⟨s, c, q, h⟩ := hy; exact ⟨!s, c, q, by rw [h]; rfl⟩
theorem own_sub_le {x y V : UInt64} (hx : DFin x) (hy : DFin y) (hV : val64 V ≠ .nan) (h : zv x - zv y ≤ zv V) : zv (FP.dsub x y) ≤ zv V := by
  show zval b64 (val64 (FP.Core.dsub x y)) ≤ _
  rw [FP.Core.val64_dsub]; exact FP.Core.sum_le good_b64 hx (own_neg_fin hy) (val64_fits x) (FP.Core.negate_fits (val64_fits y)) (val64_fits V) hV (by rw [FP.Core.zval_negate]; unfold zv at h; omega)
theorem own_sub_ge {x y V : UInt64} (hx : DFin x) (hy : DFin y) (hV : val64 V ≠ .nan) (h : zv V ≤ zv x - zv y) : zv V ≤ zv (FP.dsub x y) := by
  show _ ≤ zval b64 (val64 (FP.Core.dsub x y))
  rw [FP.Core.val64_dsub]; exact FP.Core.sum_ge good_b64 hx (own_neg_fin hy) (val64_fits x) (FP.Core.negate_fits (val64_fits y)) (val64_fits V) hV (by rw [FP.Core.zval_negate]; unfold zv at h; omega)
theorem own_signed_mul (s t : Bool) (m n : Nat) : signed (s != t) (m * n) = signed s m * signed t n := by
  cases s <;> cases t <;> simp [signed, Int.neg_mul, Int.mul_neg]
theorem own_qm : b64.qmin = -1074 := by decide
theorem own_pow_e0 : ((2 ^ (b64.qmin - 2 * b64.qmin).toNat : Nat) : Int) = uu := by
  show _ = ((one64 : Nat) : Int); rw [← FP.Core.pow_qmin64]; congr 3
theorem own_mul_le {x y V : UInt64} (hx : DFin x) (hy : DFin y) (hV : val64 V ≠ .nan) (h : zv x * zv y ≤ zv V * uu) : zv (FP.dmul x y) ≤ zv V := by
  show zval b64 (val64 (FP.Core.dmul x y)) ≤ _
  obtain ⟨s, c, q, ex⟩ := hx
  obtain ⟨t, d, r, ey⟩ := hy
  have fx := val64_fits x; have fy := val64_fits y
  rw [ex] at fx; rw [ey] at fy
  unfold zv at h
  rw [ex, ey] at h
  rw [FP.Core.val64_dmul, ex, ey]
  obtain ⟨e1, e2, e3⟩ := FP.Core.product_units fx fy
  rw [e1]
  refine FP.Core.zval_round_le good_b64 (val64_fits V) hV (e0 := 2 * b64.qmin) (by rw [own_qm]; decide) e2 ?_
  rw [e3, own_pow_e0, own_signed_mul]; exact h
theorem own_mul_ge {x y V : UInt64} (hx : DFin x) (hy : DFin y) (hV : val64 V ≠ .nan) (h : zv V * uu ≤ zv x * zv y) : zv V ≤ zv (FP.dmul x y) := by
  show _ ≤ zval b64 (val64 (FP.Core.dmul x y))
  obtain ⟨s, c, q, ex⟩ := hx
  obtain ⟨t, d, r, ey⟩ := hy
  have fx := val64_fits x; have fy := val64_fits y
  rw [ex] at fx; rw [ey] at fy
  unfold zv at h
  rw [ex, ey] at h
  rw [FP.Core.val64_dmul, ex, ey]
  obtain ⟨e1, e2, e3⟩ := FP.Core.product_units fx fy
  rw [e1]
  refine FP.Core.zval_round_ge good_b64 (val64_fits V) hV (e0 := 2 * b64.qmin) (by rw [own_qm]; decide) e2 ?_
  rw [e3, own_pow_e0, own_signed_mul]; exact h
/-- a quotient's two sides in whole units -/
theorem own_div_units {c d : Nat} {q r : Int} (hq : -1074 ≤ q) (hr : -1074 ≤ r) (hr2 : r ≤ 971) (v : Nat) :
    ∃ k : Nat, 0 < k ∧ inUnits c (q - r) (-2148) * k = inUnits c q (-1074) * one64 * 2 ^ 1074 ∧ (v * 2 ^ (1074 : Nat) * d) * k = v * inUnits d r (-1074) * 2 ^ 1074 := by
  refine ⟨2 ^ (r + 1074).toNat, Nat.two_pow_pos _, ?_, ?_⟩
  · unfold inUnits one64
    rw [Nat.mul_assoc, ← Nat.pow_add, Nat.mul_assoc, Nat.mul_assoc, ← Nat.pow_add, ← Nat.pow_add, show (q - r - -2148).toNat + (r + 1074).toNat = (q - -1074).toNat + (1074 + 1074) by omega]
  · unfold inUnits
    rw [show (r - -1074).toNat = (r + 1074).toNat by omega]
    generalize 2 ^ (1074 : Nat) = w
    generalize 2 ^ (r + 1074).toNat = u
    simp only [Nat.mul_comm, Nat.mul_left_comm, Nat.mul_assoc]
theorem own_div_mag_le {x y V : UInt64} (hx : DFin x) (hy : DFin y) (hz : ¬ DZero y) (hV : val64 V ≠ .nan) (h : zmag b64 (val64 x) * one64 ≤ zmag b64 (val64 V) * zmag b64 (val64 y)) : zmag b64 (val64 (FP.ddiv x y)) ≤ zmag b64 (val64 V) := by
  show zmag b64 (val64 (FP.Core.ddiv x y)) ≤ _
  obtain ⟨s, c, q, ex⟩ := hx
  obtain ⟨t, d, r, ey⟩ := hy
  have fx := val64_fits x; have fy := val64_fits y
  rw [ex] at fx; rw [ey] at fy
  have hd : d ≠ 0 := fun e => hz ⟨t, r, by rw [ey, e]⟩
  rw [FP.Core.val64_ddiv, ex, ey]
  rw [ex, ey] at h
  show zmag b64 (if d = 0 then _ else FP.Core.roundRatio b64 (s != t) c d (q - r)) ≤ _
  rw [if_neg hd]
  have b1 : -1074 ≤ q := own_qm ▸ fx.2.1
  have b2 : -1074 ≤ r := own_qm ▸ fy.2.1
  have b3 : r ≤ 971 := fy.2.2.1
  refine FP.Core.zmag_roundRatio_le good_b64 (Nat.pos_of_ne_zero hd) (val64_fits V) hV (e0 := -2148) (by rw [own_qm]; decide) (by omega) ?_
  obtain ⟨k, hk, k1, k2⟩ := own_div_units (c := c) (d := d) b1 b2 b3 (zmag b64 (val64 V))
  rw [show (b64.qmin - -2148).toNat = 1074 by rw [own_qm]; decide]
  refine Nat.le_of_mul_le_mul_right ?_ hk
  rw [k1, k2]
  exact Nat.mul_le_mul_right _ (by have := h; simp only [zmag, own_qm] at this; exact this)
theorem own_div_mag_ge {x y V : UInt64} (hx : DFin x) (hy : DFin y) (hz : ¬ DZero y) (h : zmag b64 (val64 V) * zmag b64 (val64 y) ≤ zmag b64 (val64 x) * one64) : zmag b64 (val64 V) ≤ zmag b64 (val64 (FP.ddiv x y)) := by
  show _ ≤ zmag b64 (val64 (FP.Core.ddiv x y))
  obtain ⟨s, c, q, ex⟩ := hx
  obtain ⟨t, d, r, ey⟩ := hy
  have fx := val64_fits x; have fy := val64_fits y
  rw [ex] at fx; rw [ey] at fy
  have hd : d ≠ 0 := fun e => hz ⟨t, r, by rw [ey, e]⟩
  rw [FP.Core.val64_ddiv, ex, ey]
  rw [ex, ey] at h
  show _ ≤ zmag b64 (if d = 0 then _ else FP.Core.roundRatio b64 (s != t) c d (q - r))
  rw [if_neg hd]
  have b1 : -1074 ≤ q := own_qm ▸ fx.2.1
  have b2 : -1074 ≤ r := own_qm ▸ fy.2.1
  have b3 : r ≤ 971 := fy.2.2.1
  refine FP.Core.zmag_roundRatio_ge good_b64 (Nat.pos_of_ne_zero hd) (val64_fits V) (e0 := -2148) (by rw [own_qm]; decide) (by omega) ?_
  obtain ⟨k, hk, k1, k2⟩ := own_div_units (c := c) (d := d) b1 b2 b3 (zmag b64 (val64 V))
  rw [show (b64.qmin - -2148).toNat = 1074 by rw [own_qm]; decide]
  refine Nat.le_of_mul_le_mul_right ?_ hk
  rw [k1, k2]
  exact Nat.mul_le_mul_right _ (by have := h; simp only [zmag, own_qm] at this; exact this)
theorem own_sgn_div {x y : UInt64} (hx : DFin x) (hy : DFin y) (hz : ¬ DZero y) : sgn (val64 (FP.ddiv x y)) = (sgn (val64 x) != sgn (val64 y)) := by
  show sgn (val64 (FP.Core.ddiv x y)) = _
  obtain ⟨s, c, q, ex⟩ := hx
  obtain ⟨t, d, r, ey⟩ := hy
  have hd : d ≠ 0 := fun e => hz ⟨t, r, by rw [ey, e]⟩
  rw [FP.Core.val64_ddiv, ex, ey]
  show sgn (if d = 0 then _ else FP.Core.roundRatio b64 (s != t) c d (q - r)) = _
  rw [if_neg hd, FP.Core.sgn_roundRatio]; rfl
theorem own_notz {y : UInt64} (hy : DFin y) (h : 0 < zv y) : ¬ DZero y := fun q => by have := q.zval; unfold zv at h; omega
theorem own_possg {y : UInt64} (h : 0 < zv y) : sgn (val64 y) = false ∧ ((zmag b64 (val64 y) : Nat) : Int) = zv y := by
  unfold zv zval at *
  cases e : sgn (val64 y) <;> rw [e] at h <;> simp only [signed, if_true, Bool.false_eq_true, if_false] at h ⊢
  · exact ⟨trivial, trivial⟩
  · omega
theorem own_div_le {x y V : UInt64} (hx : DFin x) (hy : DFin y) (h0 : 0 < zv y) (hV : val64 V ≠ .nan) (h : zv x * uu ≤ zv V * zv y) : zv (FP.ddiv x y) ≤ zv V := by
  have hz := own_notz hy h0
  obtain ⟨s1, s2⟩ := own_possg h0
  have sd := own_sgn_div hx hy hz
  have L := own_div_mag_le (V := V) hx hy hz hV
  have G := own_div_mag_ge (V := V) hx hy hz
  rw [← s2] at h
  have hy0 : 0 < zmag b64 (val64 y) := by omega
  unfold zv zval at h ⊢
  rw [sd, s1]
  have u0 := FP.Core.one64_pos
  have e : uu = ((one64 : Nat) : Int) := rfl
  rw [e] at h
  generalize zmag b64 (val64 y) = my at *
  generalize zmag b64 (val64 x) = mx at *
  generalize zmag b64 (val64 V) = mv at *
  generalize zmag b64 (val64 (FP.ddiv x y)) = md at *
  generalize one64 = u at *
  have p1 : ((mx : Nat) : Int) * ((u : Nat) : Int) = ((mx * u : Nat) : Int) := (Int.natCast_mul ..).symm
  have p2 : ((mv : Nat) : Int) * ((my : Nat) : Int) = ((mv * my : Nat) : Int) := (Int.natCast_mul ..).symm
  have z1 : mv * my = 0 → mv = 0 := fun q => by rcases Nat.mul_eq_zero.mp q with q | q <;> omega
  generalize sgn (val64 x) = sx at h ⊢
  generalize sgn (val64 V) = sV at h ⊢
  cases sx <;> cases sV <;> simp only [signed, if_true, Bool.false_eq_true, if_false, Int.neg_mul, p1, p2, bne_self_eq_false, Bool.bne_false] at h ⊢
  · have := L (by omega); omega
  · have := L (by omega); have := z1 (by omega); omega
  · omega
  · have := G (by omega); omega
theorem own_div_ge {x y V : UInt64} (hx : DFin x) (hy : DFin y) (h0 : 0 < zv y) (hV : val64 V ≠ .nan) (h : zv V * zv y ≤ zv x * uu) : zv V ≤ zv (FP.ddiv x y) := by
  have hz := own_notz hy h0
  obtain ⟨s1, s2⟩ := own_possg h0
  have sd := own_sgn_div hx hy hz
  have L := own_div_mag_le (V := V) hx hy hz hV
  have G := own_div_mag_ge (V := V) hx hy hz
  rw [← s2] at h
  have hy0 : 0 < zmag b64 (val64 y) := by omega
  unfold zv zval at h ⊢
  rw [sd, s1]
  have u0 := FP.Core.one64_pos
  have e : uu = ((one64 : Nat) : Int) := rfl
  rw [e] at h
  generalize zmag b64 (val64 y) = my at *
  generalize zmag b64 (val64 x) = mx at *
  generalize zmag b64 (val64 V) = mv at *
  generalize zmag b64 (val64 (FP.ddiv x y)) = md at *
  generalize one64 = u at *
  have p1 : ((mx : Nat) : Int) * ((u : Nat) : Int) = ((mx * u : Nat) : Int) := (Int.natCast_mul ..).symm
  have p2 : ((mv : Nat) : Int) * ((my : Nat) : Int) = ((mv * my : Nat) : Int) := (Int.natCast_mul ..).symm
  have z1 : mv * my = 0 → mv = 0 := fun q => by rcases Nat.mul_eq_zero.mp q with q | q <;> omega
  generalize sgn (val64 x) = sx at h ⊢
  generalize sgn (val64 V) = sV at h ⊢
  cases sx <;> cases sV <;> simp only [signed, if_true, Bool.false_eq_true, if_false, Int.neg_mul, p1, p2, bne_self_eq_false, Bool.bne_false] at h ⊢
  · have := G (by omega); omega
  · omega
  · have := L (by omega); have := z1 (by omega); omega
  · have := L (by omega); omega
theorem own_bits_of_zv {x : UInt64} (hn : val64 x ≠ .nan) {V : UInt64} (hV : DFin V) (h : zv x = zv V) : DFin x := by
  have q := hV.zval_lt
  cases e : val64 x with
  | nan => exact absurd e hn
  | fin s c r => exact ⟨s, c, r, e⟩
  | inf s =>
    exfalso
    have a1 : (zv x).natAbs = zmag b64 (val64 x) := by unfold zv zval; cases sgn (val64 x) <;> simp [signed]
    have a2 : (zv V).natAbs = zmag b64 (val64 V) := by unfold zv zval; cases sgn (val64 V) <;> simp [signed]
    rw [h, a2, e] at a1
    rw [a1] at q
    exact Nat.lt_irrefl _ q
/-- every n / 2^k of at most 53 digits is a double -/
theorem own_rep (n : Int) (k : Nat) (h1 : n.natAbs < 9007199254740992) (hk : k ≤ 1074) : ∃ V : UInt64, DFin V ∧ zv V * ((2 ^ k : Nat) : Int) = n * uu := by
  obtain ⟨c', q', e1, e2⟩ := FP.Core.round_exact good_b64 (decide (n < 0)) (c := n.natAbs) (q := -(k : Int)) (by exact h1) (by rw [own_qm]; omega) (by have h971 : b64.qmax = 971 := (by decide); omega)
  have f := FP.Core.round_fits good_b64 (.fin (decide (n < 0)) n.natAbs (-(k : Int)))
  refine ⟨FP.Core.of64 (FP.Core.round b64 (.fin (decide (n < 0)) n.natAbs (-(k : Int)))), ⟨decide (n < 0), c', q', by rw [FP.Core.val64_of64 f, e1]⟩, ?_⟩
  unfold zv
  rw [FP.Core.val64_of64 f, e1]
  show signed (decide (n < 0)) (inUnits c' q' b64.qmin) * _ = _
  rw [e2]
  unfold inUnits
  rw [FP.Core.signed_mul, Int.mul_assoc, ← Int.natCast_mul, ← Nat.pow_add, show (-(k : Int) - b64.qmin).toNat + k = 1074 by rw [own_qm]; omega]
  have s0 : signed (decide (n < 0)) n.natAbs = n := by
    unfold signed
    by_cases q : n < 0 <;> simp [q] <;> omega
  rw [s0]; rfl
/-- x is the number n / 2^k -/
def Dy (x : UInt64) (n : Int) (k : Nat) : Prop := DFin x ∧ zv x * ((2 ^ k : Nat) : Int) = n * uu
theorem Dy.fin {x : UInt64} {n : Int} {k : Nat} (D : Dy x n k) : DFin x := D.1
theorem Dy.nn {x : UInt64} {n : Int} {k : Nat} (D : Dy x n k) : NoNaN64 x := Fl.val64_no.mpr D.1.ne_nan
theorem own_pk (k : Nat) : 0 < ((2 ^ k : Nat) : Int) := by have := Nat.two_pow_pos k; omega
theorem own_mid {a b c d : Int} {k : Nat} (h1 : a * ((2 ^ k : Nat) : Int) = c) (h2 : b * ((2 ^ k : Nat) : Int) = d) : (a ≤ b ↔ c ≤ d) ∧ (a < b ↔ c < d) ∧ (a = b ↔ c = d) := by
  have p := own_pk k
  subst h1 h2
  generalize ((2 ^ k : Nat) : Int) = w at *
  exact ⟨(Int.mul_le_mul_right p).symm, (Int.mul_lt_mul_right p).symm, ⟨fun q => by rw [q], fun q => Int.eq_of_mul_eq_mul_right (by omega) q⟩⟩
theorem Dy.cmp {x y : UInt64} {n m : Int} {k : Nat} (A : Dy x n k) (B : Dy y m k) : FP.dcmp x y = some (compare n m) := by
  show FP.Core.dcmp x y = _
  rw [FP.Core.dcmp_zval A.1.ne_nan B.1.ne_nan]
  congr 1
  obtain ⟨-, q2, q3⟩ := own_mid A.2 B.2
  have u := uu_pos
  refine FP.Core.compare_congr (q2.trans ⟨fun q => ?_, fun q => Int.mul_lt_mul_of_pos_right q u⟩) (q3.trans ⟨fun q => Int.eq_of_mul_eq_mul_right (by omega) q, fun q => by rw [q]⟩)
  exact Int.lt_of_mul_lt_mul_right q (Int.le_of_lt u)
theorem Dy.lt {x y : UInt64} {n m : Int} {k : Nat} (A : Dy x n k) (B : Dy y m k) : FP.dcmp x y = some .lt ↔ n < m := by
  rw [A.cmp B, Option.some.injEq, FP.Core.compare_lt_iff]
theorem Dy.gt {x y : UInt64} {n m : Int} {k : Nat} (A : Dy x n k) (B : Dy y m k) : FP.dcmp x y = some .gt ↔ m < n := by
  rw [A.cmp B, Option.some.injEq, FP.Core.compare_gt_iff]
theorem Dy.eq {x y : UInt64} {n m : Int} {k : Nat} (A : Dy x n k) (B : Dy y m k) : FP.dcmp x y = some .eq ↔ n = m := by
  rw [A.cmp B, Option.some.injEq, FP.Core.compare_eq_iff]
theorem Dy.of_zv {x V : UInt64} {n : Int} {k : Nat} (hn : val64 x ≠ .nan) (hV : DFin V) (e : zv V * ((2 ^ k : Nat) : Int) = n * uu) (h1 : zv x ≤ zv V) (h2 : zv V ≤ zv x) : Dy x n k := by
  have q : zv x = zv V := by omega
  exact ⟨own_bits_of_zv hn hV q, by rw [q]; exact e⟩
theorem own_nn_add {x y : UInt64} (hx : DFin x) (hy : DFin y) : val64 (FP.dadd x y) ≠ .nan := Fl.val64_no.mp (Fl.noNaN64_no.mpr (FP.Core.dadd_out hx.notNaN hy))
theorem own_nn_sub {x y : UInt64} (hx : DFin x) (hy : DFin y) : val64 (FP.dsub x y) ≠ .nan := Fl.val64_no.mp (Fl.noNaN64_no.mpr (FP.Core.dsub_out hx.notNaN hy))
theorem own_nn_mul {x y : UInt64} (hx : DFin x) (hy : DFin y) : val64 (FP.dmul x y) ≠ .nan := Fl.val64_no.mp (Fl.noNaN64_no.mpr (FP.Core.dmul_out hx hy))
theorem own_nn_div {x y : UInt64} (hx : DFin x) (hy : DFin y) (hz : ¬ DZero y) : val64 (FP.ddiv x y) ≠ .nan := Fl.val64_no.mp (Fl.noNaN64_no.mpr (FP.Core.ddiv_out hx.notNaN hy hz))
theorem Dy.add {x y : UInt64} {n m : Int} {k : Nat} (A : Dy x n k) (B : Dy y m k) (hb : (n + m).natAbs < 9007199254740992) (hk : k ≤ 1074) : Dy (FP.dadd x y) (n + m) k := by
  obtain ⟨V, fV, eV⟩ := own_rep (n + m) k hb hk
  have e : (zv x + zv y) * ((2 ^ k : Nat) : Int) = (n + m) * uu := by rw [Int.add_mul, A.2, B.2, Int.add_mul]
  obtain ⟨-, -, q⟩ := own_mid e eV
  have q := q.mpr rfl
  exact Dy.of_zv (own_nn_add A.1 B.1) fV eV (own_add_le A.1 B.1 fV.ne_nan (by omega)) (own_add_ge A.1 B.1 fV.ne_nan (by omega))
theorem Dy.sub {x y : UInt64} {n m : Int} {k : Nat} (A : Dy x n k) (B : Dy y m k) (hb : (n - m).natAbs < 9007199254740992) (hk : k ≤ 1074) : Dy (FP.dsub x y) (n - m) k := by
  obtain ⟨V, fV, eV⟩ := own_rep (n - m) k hb hk
  have e : (zv x - zv y) * ((2 ^ k : Nat) : Int) = (n - m) * uu := by rw [Int.sub_mul, A.2, B.2, Int.sub_mul]
  obtain ⟨-, -, q⟩ := own_mid e eV
  have q := q.mpr rfl
  exact Dy.of_zv (own_nn_sub A.1 B.1) fV eV (own_sub_le A.1 B.1 fV.ne_nan (by omega)) (own_sub_ge A.1 B.1 fV.ne_nan (by omega))
theorem own_alg1 {X Y K J n m u : Int} (a : X * K = n * u) (b : Y * J = m * u) : X * Y * (K * J) = n * m * u * u := by
  calc X * Y * (K * J) = (X * K) * (Y * J) := by ac_rfl
    _ = (n * u) * (m * u) := by rw [a, b]
    _ = n * m * u * u := by ac_rfl
theorem own_alg2 {V K N u : Int} (e : V * K = N * u) : V * u * K = N * u * u := by
  calc V * u * K = V * K * u := by ac_rfl
    _ = N * u * u := by rw [e]
theorem own_alg3 {X Y V K J I n m r u : Int} (a : X * K = n * u) (b : Y * J = m * u) (e : V * I = r * u) : X * u * (K * (J * I)) = n * (J * I) * (u * u) ∧ V * Y * (K * (J * I)) = r * m * K * (u * u) := by
  constructor
  · calc X * u * (K * (J * I)) = (X * K) * u * (J * I) := by ac_rfl
      _ = n * u * u * (J * I) := by rw [a]
      _ = n * (J * I) * (u * u) := by ac_rfl
  · calc V * Y * (K * (J * I)) = (V * I) * (Y * J) * K := by ac_rfl
      _ = (r * u) * (m * u) * K := by rw [e, b]
      _ = r * m * K * (u * u) := by ac_rfl
theorem Dy.mul {x y : UInt64} {n m : Int} {k j : Nat} (A : Dy x n k) (B : Dy y m j) (hb : (n * m).natAbs < 9007199254740992) (hk : k + j ≤ 1074) : Dy (FP.dmul x y) (n * m) (k + j) := by
  obtain ⟨V, fV, eV⟩ := own_rep (n * m) (k + j) hb hk
  have e : (zv x * zv y) * ((2 ^ (k + j) : Nat) : Int) = (n * m) * uu * uu := by
    rw [Nat.pow_add, Int.natCast_mul]; exact own_alg1 A.2 B.2
  have e' : (zv V * uu) * ((2 ^ (k + j) : Nat) : Int) = (n * m) * uu * uu := own_alg2 eV
  obtain ⟨-, -, q⟩ := own_mid e e'
  have q := q.mpr rfl
  exact Dy.of_zv (own_nn_mul A.1 B.1) fV eV (own_mul_le A.1 B.1 fV.ne_nan (by omega)) (own_mul_ge A.1 B.1 fV.ne_nan (by omega))
theorem Dy.pos {y : UInt64} {m : Int} {j : Nat} (B : Dy y m j) (hm : 0 < m) : 0 < zv y := by
  have p := own_pk j
  have b := B.2
  have : 0 < m * uu := Int.mul_pos hm uu_pos
  rw [← b] at this
  exact Int.lt_of_mul_lt_mul_right (by rw [Int.zero_mul]; exact this) (Int.le_of_lt p)
/-- an exact quotient -/
theorem Dy.div {x y : UInt64} {n m r : Int} {k j i : Nat} (A : Dy x n k) (B : Dy y m j) (hm : 0 < m) (hq : n * ((2 ^ (j + i) : Nat) : Int) = r * m * ((2 ^ k : Nat) : Int)) (hb : r.natAbs < 9007199254740992) (hi : i ≤ 1074) : Dy (FP.ddiv x y) r i := by
  obtain ⟨V, fV, eV⟩ := own_rep r i hb hi
  have h0 := B.pos hm
  have e : zv x * uu = zv V * zv y := by
    have pk := own_pk k; have pj := own_pk j; have pi := own_pk i
    rw [Nat.pow_add, Int.natCast_mul] at hq
    obtain ⟨a1, a2⟩ := own_alg3 A.2 B.2 eV
    refine Int.eq_of_mul_eq_mul_right (a := ((2 ^ k : Nat) : Int) * (((2 ^ j : Nat) : Int) * ((2 ^ i : Nat) : Int))) (Int.ne_of_gt (Int.mul_pos pk (Int.mul_pos pj pi))) ?_
    rw [a1, a2, hq]
  exact Dy.of_zv (own_nn_div A.1 B.1 (own_notz B.1 h0)) fV eV (own_div_le A.1 B.1 h0 fV.ne_nan (by omega)) (own_div_ge A.1 B.1 h0 fV.ne_nan (by omega))
theorem Dy.up {x : UInt64} {n : Int} {k : Nat} (A : Dy x n k) (j : Nat) : Dy x (n * ((2 ^ j : Nat) : Int)) (k + j) := by
  refine ⟨A.1, ?_⟩
  rw [Nat.pow_add, Int.natCast_mul, ← Int.mul_assoc, A.2]; exact Int.mul_right_comm _ _ _
theorem Dy.to {x : UInt64} {n n' : Int} {k : Nat} (A : Dy x n k) (e : n = n') : Dy x n' k := e ▸ A
theorem own_dy_int {x : UInt64} {i : Int} (h : FP.Core.DInt i x) : Dy x i 0 := by
  have z := FP.Core.DInt_zval h
  have n := FP.Core.DInt_ne_nan h
  refine ⟨?_, by rw [show ((2 ^ 0 : Nat) : Int) = 1 from rfl, Int.mul_one]; exact z⟩
  unfold FP.Core.DInt at h
  cases e : val64 x with
  | nan => exact absurd e n
  | inf s => rw [e] at h; exact h.elim
  | fin s c q => exact ⟨s, c, q, e⟩
theorem dy_i2d (a : Int32) : Dy (FP.i2d a) a.toInt 0 := own_dy_int (FP.Core.i2d_int a)
theorem dy_l2d {a : Int64} (h1 : -9007199254740992 < a.toInt) (h2 : a.toInt < 9007199254740992) : Dy (FP.l2d a) a.toInt 0 := own_dy_int (FP.Core.l2d_whole ⟨h1, h2⟩)
/-- 0.0 + x is x, bit for bit, for a finite x that isn't -0.0 -/
theorem own_zero_add {x : UInt64} {s : Bool} {c : Nat} {q : Int} (hx : val64 x = .fin s c q) (h0 : c = 0 → s = false) : FP.dadd 0 x = x := by
  show FP.Core.dadd 0 x = x
  have fx := val64_fits x
  rw [hx] at fx
  have hq := fx.2.1
  have key : val64 (FP.Core.dadd 0 x) = .fin s c q := by
    rw [FP.Core.val64_dadd, FP.Core.val64_zero, hx]
    have m : min b64.qmin q = b64.qmin := by omega
    have u : FP.Core.sumUnits false 0 b64.qmin s c q b64.qmin = signed s (inUnits c q b64.qmin) := by
      unfold FP.Core.sumUnits; simp [signed, inUnits]
    show FP.Core.roundRatio b64 (FP.Core.sumSign false s (FP.Core.sumUnits false 0 b64.qmin s c q (min b64.qmin q))) (FP.Core.sumUnits false 0 b64.qmin s c q (min b64.qmin q)).natAbs 1 (min b64.qmin q) = _
    rw [m, u]
    have na : (signed s (inUnits c q b64.qmin)).natAbs = inUnits c q b64.qmin := by unfold signed; cases s <;> simp
    have sg : FP.Core.sumSign false s (signed s (inUnits c q b64.qmin)) = s := by
      have pp := Nat.two_pow_pos (q - b64.qmin).toNat
      unfold FP.Core.sumSign
      by_cases c0 : c = 0
      · subst c0; simp [signed, inUnits, h0 rfl]
      · have : 0 < inUnits c q b64.qmin := Nat.mul_pos (Nat.pos_of_ne_zero c0) pp
        cases s <;> simp [signed] <;> omega
    rw [na, sg]
    refine FP.Core.roundRatio_exact good_b64 (by decide) fx ?_
    rw [show (b64.qmin - q).toNat = 0 by omega, Nat.pow_zero, Nat.mul_one, Nat.mul_one]; rfl
  exact FP.Core.val64_inj (by rw [key]; exact FP.Core.Datum.noConfusion) (key.trans hx.symm)
theorem own_scale3 {X Y n m r : Int} {k j i : Nat} {V : Int} (a : X * ((2 ^ k : Nat) : Int) = n * uu) (b : Y * ((2 ^ j : Nat) : Int) = m * uu) (e : V * ((2 ^ i : Nat) : Int) = r * uu) :
    X * uu * (((2 ^ k : Nat) : Int) * (((2 ^ j : Nat) : Int) * ((2 ^ i : Nat) : Int))) = n * ((2 ^ (j + i) : Nat) : Int) * (uu * uu) ∧ V * Y * (((2 ^ k : Nat) : Int) * (((2 ^ j : Nat) : Int) * ((2 ^ i : Nat) : Int))) = r * m * ((2 ^ k : Nat) : Int) * (uu * uu) := by
  rw [Nat.pow_add, Int.natCast_mul]; exact own_alg3 a b e
theorem Dy.div_le {x y V : UInt64} {n m r : Int} {k j i : Nat} (A : Dy x n k) (B : Dy y m j) (hm : 0 < m) (C : Dy V r i) (h : n * ((2 ^ (j + i) : Nat) : Int) ≤ r * m * ((2 ^ k : Nat) : Int)) : zv (FP.ddiv x y) ≤ zv V := by
  refine own_div_le A.1 B.1 (B.pos hm) C.1.ne_nan ?_
  obtain ⟨e1, e2⟩ := own_scale3 A.2 B.2 C.2
  have p : 0 < ((2 ^ k : Nat) : Int) * (((2 ^ j : Nat) : Int) * ((2 ^ i : Nat) : Int)) := Int.mul_pos (own_pk k) (Int.mul_pos (own_pk j) (own_pk i))
  refine Int.le_of_mul_le_mul_right ?_ p
  rw [e1, e2]
  exact Int.mul_le_mul_of_nonneg_right h (Int.le_of_lt (Int.mul_pos uu_pos uu_pos))
theorem Dy.div_ge {x y V : UInt64} {n m r : Int} {k j i : Nat} (A : Dy x n k) (B : Dy y m j) (hm : 0 < m) (C : Dy V r i) (h : r * m * ((2 ^ k : Nat) : Int) ≤ n * ((2 ^ (j + i) : Nat) : Int)) : zv V ≤ zv (FP.ddiv x y) := by
  refine own_div_ge A.1 B.1 (B.pos hm) C.1.ne_nan ?_
  obtain ⟨e1, e2⟩ := own_scale3 A.2 B.2 C.2
  have p : 0 < ((2 ^ k : Nat) : Int) * (((2 ^ j : Nat) : Int) * ((2 ^ i : Nat) : Int)) := Int.mul_pos (own_pk k) (Int.mul_pos (own_pk j) (own_pk i))
  refine Int.le_of_mul_le_mul_right ?_ p
  rw [e1, e2]
  exact Int.mul_le_mul_of_nonneg_right h (Int.le_of_lt (Int.mul_pos uu_pos uu_pos))
/-- the order of two numbers written over one power of two -/
theorem Dy.zle {x y : UInt64} {n m : Int} {k : Nat} (A : Dy x n k) (B : Dy y m k) : (zv x ≤ zv y ↔ n ≤ m) ∧ (zv x < zv y ↔ n < m) := by
  obtain ⟨q1, q2, -⟩ := own_mid A.2 B.2
  have u := uu_pos
  exact ⟨q1.trans ⟨fun q => Int.le_of_mul_le_mul_right q u, fun q => Int.mul_le_mul_of_nonneg_right q (Int.le_of_lt u)⟩, q2.trans ⟨fun q => Int.lt_of_mul_lt_mul_right q (Int.le_of_lt u), fun q => Int.mul_lt_mul_of_pos_right q u⟩⟩
end OwnF
theorem pn_com_example_dido_dido_HangingRegionRectanglesPinLaw : plainName "com/example/dido/dido/HangingRegionRectanglesPinLaw" = true := by first | (simp [plainName, overriddenIn]; done) | decide +kernel
theorem pn_com_example_dido_dido_HangingRegion : plainName "com/example/dido/dido/HangingRegion" = true := by first | (simp [plainName, overriddenIn]; done) | decide +kernel
theorem pn_java_lang_Record : plainName "java/lang/Record" = true := by first | (simp [plainName, overriddenIn]; done) | decide +kernel
theorem pn_com_example_dido_dido_Region : plainName "com/example/dido/dido/Region" = true := by first | (simp [plainName, overriddenIn]; done) | decide +kernel
theorem d1_0 : decode prog_4_method_1_code 0 = .ok (.aload_n 0, 1) := by decide +kernel
theorem d1_1 : decode prog_4_method_1_code 1 = .ok (.invokespecial 1, 3) := by decide +kernel
theorem d1_4 : decode prog_4_method_1_code 4 = .ok (.aload_n 0, 1) := by decide +kernel
theorem d1_5 : decode prog_4_method_1_code 5 = .ok (.dload_n 1, 1) := by decide +kernel
theorem d1_6 : decode prog_4_method_1_code 6 = .ok (.putfield 7, 3) := by decide +kernel
theorem d1_9 : decode prog_4_method_1_code 9 = .ok (.aload_n 0, 1) := by decide +kernel
theorem d1_10 : decode prog_4_method_1_code 10 = .ok (.dload_n 3, 1) := by decide +kernel
theorem d1_11 : decode prog_4_method_1_code 11 = .ok (.putfield 13, 3) := by decide +kernel
theorem d1_14 : decode prog_4_method_1_code 14 = .ok (.aload_n 0, 1) := by decide +kernel
theorem d1_15 : decode prog_4_method_1_code 15 = .ok (.dload 5, 2) := by decide +kernel
theorem d1_17 : decode prog_4_method_1_code 17 = .ok (.putfield 16, 3) := by decide +kernel
theorem d1_20 : decode prog_4_method_1_code 20 = .ok (.aload_n 0, 1) := by decide +kernel
theorem d1_21 : decode prog_4_method_1_code 21 = .ok (.dload 7, 2) := by decide +kernel
theorem d1_23 : decode prog_4_method_1_code 23 = .ok (.putfield 19, 3) := by decide +kernel
theorem d1_26 : decode prog_4_method_1_code 26 = .ok (.aload_n 0, 1) := by decide +kernel
theorem d1_27 : decode prog_4_method_1_code 27 = .ok (.dload 9, 2) := by decide +kernel
theorem d1_29 : decode prog_4_method_1_code 29 = .ok (.putfield 22, 3) := by decide +kernel
theorem d1_32 : decode prog_4_method_1_code 32 = .ok (.aload_n 0, 1) := by decide +kernel
theorem d1_33 : decode prog_4_method_1_code 33 = .ok (.dload 11, 2) := by decide +kernel
theorem d1_35 : decode prog_4_method_1_code 35 = .ok (.putfield 25, 3) := by decide +kernel
theorem d1_38 : decode prog_4_method_1_code 38 = .ok (.aload_n 0, 1) := by decide +kernel
theorem d1_39 : decode prog_4_method_1_code 39 = .ok (.dload 13, 2) := by decide +kernel
theorem d1_41 : decode prog_4_method_1_code 41 = .ok (.putfield 28, 3) := by decide +kernel
theorem d1_44 : decode prog_4_method_1_code 44 = .ok (.aload_n 0, 1) := by decide +kernel
theorem d1_45 : decode prog_4_method_1_code 45 = .ok (.dload 15, 2) := by decide +kernel
theorem d1_47 : decode prog_4_method_1_code 47 = .ok (.putfield 31, 3) := by decide +kernel
theorem d1_50 : decode prog_4_method_1_code 50 = .ok (.return_, 1) := by decide +kernel
theorem d2_0 : decode jdk_30_method_1_code 0 = .ok (.aload_n 0, 1) := by decide +kernel
theorem d2_1 : decode jdk_30_method_1_code 1 = .ok (.invokespecial 1, 3) := by decide +kernel
theorem d2_4 : decode jdk_30_method_1_code 4 = .ok (.return_, 1) := by decide +kernel
theorem d4_0 : decode prog_4_method_3_code 0 = .ok (.iconst 3, 1) := by decide +kernel
theorem d4_1 : decode prog_4_method_3_code 1 = .ok (.anewarray 40, 3) := by decide +kernel
theorem d4_4 : decode prog_4_method_3_code 4 = .ok (.dup, 1) := by decide +kernel
theorem d4_5 : decode prog_4_method_3_code 5 = .ok (.iconst 0, 1) := by decide +kernel
theorem d4_6 : decode prog_4_method_3_code 6 = .ok (.iconst 4, 1) := by decide +kernel
theorem d4_7 : decode prog_4_method_3_code 7 = .ok (.newarray .double, 2) := by decide +kernel
theorem d4_9 : decode prog_4_method_3_code 9 = .ok (.dup, 1) := by decide +kernel
theorem d4_10 : decode prog_4_method_3_code 10 = .ok (.iconst 0, 1) := by decide +kernel
theorem d4_11 : decode prog_4_method_3_code 11 = .ok (.aload_n 0, 1) := by decide +kernel
theorem d4_12 : decode prog_4_method_3_code 12 = .ok (.getfield 7, 3) := by decide +kernel
theorem d4_15 : decode prog_4_method_3_code 15 = .ok (.dastore, 1) := by decide +kernel
theorem d4_16 : decode prog_4_method_3_code 16 = .ok (.dup, 1) := by decide +kernel
theorem d4_17 : decode prog_4_method_3_code 17 = .ok (.iconst 1, 1) := by decide +kernel
theorem d4_18 : decode prog_4_method_3_code 18 = .ok (.aload_n 0, 1) := by decide +kernel
theorem d4_19 : decode prog_4_method_3_code 19 = .ok (.getfield 28, 3) := by decide +kernel
theorem d4_22 : decode prog_4_method_3_code 22 = .ok (.dastore, 1) := by decide +kernel
theorem d4_23 : decode prog_4_method_3_code 23 = .ok (.dup, 1) := by decide +kernel
theorem d4_24 : decode prog_4_method_3_code 24 = .ok (.iconst 2, 1) := by decide +kernel
theorem d4_25 : decode prog_4_method_3_code 25 = .ok (.aload_n 0, 1) := by decide +kernel
theorem d4_26 : decode prog_4_method_3_code 26 = .ok (.getfield 19, 3) := by decide +kernel
theorem d4_29 : decode prog_4_method_3_code 29 = .ok (.dastore, 1) := by decide +kernel
theorem d4_30 : decode prog_4_method_3_code 30 = .ok (.dup, 1) := by decide +kernel
theorem d4_31 : decode prog_4_method_3_code 31 = .ok (.iconst 3, 1) := by decide +kernel
theorem d4_32 : decode prog_4_method_3_code 32 = .ok (.aload_n 0, 1) := by decide +kernel
theorem d4_33 : decode prog_4_method_3_code 33 = .ok (.getfield 31, 3) := by decide +kernel
theorem d4_36 : decode prog_4_method_3_code 36 = .ok (.dastore, 1) := by decide +kernel
theorem d4_37 : decode prog_4_method_3_code 37 = .ok (.aastore, 1) := by decide +kernel
theorem d4_38 : decode prog_4_method_3_code 38 = .ok (.dup, 1) := by decide +kernel
theorem d4_39 : decode prog_4_method_3_code 39 = .ok (.iconst 1, 1) := by decide +kernel
theorem d4_40 : decode prog_4_method_3_code 40 = .ok (.iconst 4, 1) := by decide +kernel
theorem d4_41 : decode prog_4_method_3_code 41 = .ok (.newarray .double, 2) := by decide +kernel
theorem d4_43 : decode prog_4_method_3_code 43 = .ok (.dup, 1) := by decide +kernel
theorem d4_44 : decode prog_4_method_3_code 44 = .ok (.iconst 0, 1) := by decide +kernel
theorem d4_45 : decode prog_4_method_3_code 45 = .ok (.aload_n 0, 1) := by decide +kernel
theorem d4_46 : decode prog_4_method_3_code 46 = .ok (.getfield 7, 3) := by decide +kernel
theorem d4_49 : decode prog_4_method_3_code 49 = .ok (.dastore, 1) := by decide +kernel
theorem d4_50 : decode prog_4_method_3_code 50 = .ok (.dup, 1) := by decide +kernel
theorem d4_51 : decode prog_4_method_3_code 51 = .ok (.iconst 1, 1) := by decide +kernel
theorem d4_52 : decode prog_4_method_3_code 52 = .ok (.aload_n 0, 1) := by decide +kernel
theorem d4_53 : decode prog_4_method_3_code 53 = .ok (.getfield 22, 3) := by decide +kernel
theorem d4_56 : decode prog_4_method_3_code 56 = .ok (.dastore, 1) := by decide +kernel
theorem d4_57 : decode prog_4_method_3_code 57 = .ok (.dup, 1) := by decide +kernel
theorem d4_58 : decode prog_4_method_3_code 58 = .ok (.iconst 2, 1) := by decide +kernel
theorem d4_59 : decode prog_4_method_3_code 59 = .ok (.aload_n 0, 1) := by decide +kernel
theorem d4_60 : decode prog_4_method_3_code 60 = .ok (.getfield 13, 3) := by decide +kernel
theorem d4_63 : decode prog_4_method_3_code 63 = .ok (.dastore, 1) := by decide +kernel
theorem d4_64 : decode prog_4_method_3_code 64 = .ok (.dup, 1) := by decide +kernel
theorem d4_65 : decode prog_4_method_3_code 65 = .ok (.iconst 3, 1) := by decide +kernel
theorem d4_66 : decode prog_4_method_3_code 66 = .ok (.aload_n 0, 1) := by decide +kernel
theorem d4_67 : decode prog_4_method_3_code 67 = .ok (.getfield 28, 3) := by decide +kernel
theorem d4_70 : decode prog_4_method_3_code 70 = .ok (.dastore, 1) := by decide +kernel
theorem d4_71 : decode prog_4_method_3_code 71 = .ok (.aastore, 1) := by decide +kernel
theorem d4_72 : decode prog_4_method_3_code 72 = .ok (.dup, 1) := by decide +kernel
theorem d4_73 : decode prog_4_method_3_code 73 = .ok (.iconst 2, 1) := by decide +kernel
theorem d4_74 : decode prog_4_method_3_code 74 = .ok (.iconst 4, 1) := by decide +kernel
theorem d4_75 : decode prog_4_method_3_code 75 = .ok (.newarray .double, 2) := by decide +kernel
theorem d4_77 : decode prog_4_method_3_code 77 = .ok (.dup, 1) := by decide +kernel
theorem d4_78 : decode prog_4_method_3_code 78 = .ok (.iconst 0, 1) := by decide +kernel
theorem d4_79 : decode prog_4_method_3_code 79 = .ok (.aload_n 0, 1) := by decide +kernel
theorem d4_80 : decode prog_4_method_3_code 80 = .ok (.getfield 16, 3) := by decide +kernel
theorem d4_83 : decode prog_4_method_3_code 83 = .ok (.dastore, 1) := by decide +kernel
theorem d4_84 : decode prog_4_method_3_code 84 = .ok (.dup, 1) := by decide +kernel
theorem d4_85 : decode prog_4_method_3_code 85 = .ok (.iconst 1, 1) := by decide +kernel
theorem d4_86 : decode prog_4_method_3_code 86 = .ok (.aload_n 0, 1) := by decide +kernel
theorem d4_87 : decode prog_4_method_3_code 87 = .ok (.getfield 25, 3) := by decide +kernel
theorem d4_90 : decode prog_4_method_3_code 90 = .ok (.dastore, 1) := by decide +kernel
theorem d4_91 : decode prog_4_method_3_code 91 = .ok (.dup, 1) := by decide +kernel
theorem d4_92 : decode prog_4_method_3_code 92 = .ok (.iconst 2, 1) := by decide +kernel
theorem d4_93 : decode prog_4_method_3_code 93 = .ok (.aload_n 0, 1) := by decide +kernel
theorem d4_94 : decode prog_4_method_3_code 94 = .ok (.getfield 19, 3) := by decide +kernel
theorem d4_97 : decode prog_4_method_3_code 97 = .ok (.dastore, 1) := by decide +kernel
theorem d4_98 : decode prog_4_method_3_code 98 = .ok (.dup, 1) := by decide +kernel
theorem d4_99 : decode prog_4_method_3_code 99 = .ok (.iconst 3, 1) := by decide +kernel
theorem d4_100 : decode prog_4_method_3_code 100 = .ok (.aload_n 0, 1) := by decide +kernel
theorem d4_101 : decode prog_4_method_3_code 101 = .ok (.getfield 28, 3) := by decide +kernel
theorem d4_104 : decode prog_4_method_3_code 104 = .ok (.dastore, 1) := by decide +kernel
theorem d4_105 : decode prog_4_method_3_code 105 = .ok (.aastore, 1) := by decide +kernel
theorem d4_106 : decode prog_4_method_3_code 106 = .ok (.areturn, 1) := by decide +kernel
theorem d5_0 : decode method_3_code 0 = .ok (.aload_n 0, 1) := by decide +kernel
theorem d5_1 : decode method_3_code 1 = .ok (.iconst 0, 1) := by decide +kernel
theorem d5_2 : decode method_3_code 2 = .ok (.daload, 1) := by decide +kernel
theorem d5_3 : decode method_3_code 3 = .ok (.lload_n 1, 1) := by decide +kernel
theorem d5_4 : decode method_3_code 4 = .ok (.l2d, 1) := by decide +kernel
theorem d5_5 : decode method_3_code 5 = .ok (.dcmp .l, 1) := by decide +kernel
theorem d5_6 : decode method_3_code 6 = .ok (.ifCond .ne 36, 3) := by decide +kernel
theorem d5_9 : decode method_3_code 9 = .ok (.aload_n 0, 1) := by decide +kernel
theorem d5_10 : decode method_3_code 10 = .ok (.iconst 1, 1) := by decide +kernel
theorem d5_11 : decode method_3_code 11 = .ok (.daload, 1) := by decide +kernel
theorem d5_12 : decode method_3_code 12 = .ok (.lload_n 3, 1) := by decide +kernel
theorem d5_13 : decode method_3_code 13 = .ok (.l2d, 1) := by decide +kernel
theorem d5_14 : decode method_3_code 14 = .ok (.dcmp .l, 1) := by decide +kernel
theorem d5_15 : decode method_3_code 15 = .ok (.ifCond .ne 27, 3) := by decide +kernel
theorem d5_18 : decode method_3_code 18 = .ok (.aload_n 0, 1) := by decide +kernel
theorem d5_19 : decode method_3_code 19 = .ok (.iconst 2, 1) := by decide +kernel
theorem d5_20 : decode method_3_code 20 = .ok (.daload, 1) := by decide +kernel
theorem d5_21 : decode method_3_code 21 = .ok (.lload 5, 2) := by decide +kernel
theorem d5_23 : decode method_3_code 23 = .ok (.l2d, 1) := by decide +kernel
theorem d5_24 : decode method_3_code 24 = .ok (.dcmp .l, 1) := by decide +kernel
theorem d5_25 : decode method_3_code 25 = .ok (.ifCond .ne 17, 3) := by decide +kernel
theorem d5_28 : decode method_3_code 28 = .ok (.aload_n 0, 1) := by decide +kernel
theorem d5_29 : decode method_3_code 29 = .ok (.iconst 3, 1) := by decide +kernel
theorem d5_30 : decode method_3_code 30 = .ok (.daload, 1) := by decide +kernel
theorem d5_31 : decode method_3_code 31 = .ok (.lload 7, 2) := by decide +kernel
theorem d5_33 : decode method_3_code 33 = .ok (.l2d, 1) := by decide +kernel
theorem d5_34 : decode method_3_code 34 = .ok (.dcmp .l, 1) := by decide +kernel
theorem d5_35 : decode method_3_code 35 = .ok (.ifCond .ne 7, 3) := by decide +kernel
theorem d5_38 : decode method_3_code 38 = .ok (.iconst 1, 1) := by decide +kernel
theorem d5_39 : decode method_3_code 39 = .ok (.goto 4, 3) := by decide +kernel
theorem d5_43 : decode method_3_code 43 = .ok (.ireturn, 1) := by decide +kernel
theorem d6_0 : decode prog_17_method_3_code 0 = .ok (.dconst 0, 1) := by decide +kernel
theorem d6_1 : decode prog_17_method_3_code 1 = .ok (.dstore_n 1, 1) := by decide +kernel
theorem d6_2 : decode prog_17_method_3_code 2 = .ok (.aload_n 0, 1) := by decide +kernel
theorem d6_3 : decode prog_17_method_3_code 3 = .ok (.invokeinterface 1 1, 5) := by decide +kernel
theorem d6_8 : decode prog_17_method_3_code 8 = .ok (.astore_n 3, 1) := by decide +kernel
theorem d6_9 : decode prog_17_method_3_code 9 = .ok (.aload_n 3, 1) := by decide +kernel
theorem d6_10 : decode prog_17_method_3_code 10 = .ok (.arraylength, 1) := by decide +kernel
theorem d6_11 : decode prog_17_method_3_code 11 = .ok (.istore 4, 2) := by decide +kernel
theorem d6_13 : decode prog_17_method_3_code 13 = .ok (.iconst 0, 1) := by decide +kernel
theorem d6_14 : decode prog_17_method_3_code 14 = .ok (.istore 5, 2) := by decide +kernel
theorem d6_16 : decode prog_17_method_3_code 16 = .ok (.iload 5, 2) := by decide +kernel
theorem d6_18 : decode prog_17_method_3_code 18 = .ok (.iload 4, 2) := by decide +kernel
theorem d6_20 : decode prog_17_method_3_code 20 = .ok (.if_icmp .ge 61, 3) := by decide +kernel
theorem d6_23 : decode prog_17_method_3_code 23 = .ok (.aload_n 3, 1) := by decide +kernel
theorem d6_24 : decode prog_17_method_3_code 24 = .ok (.iload 5, 2) := by decide +kernel
theorem d6_26 : decode prog_17_method_3_code 26 = .ok (.aaload, 1) := by decide +kernel
theorem d6_27 : decode prog_17_method_3_code 27 = .ok (.astore 6, 2) := by decide +kernel
theorem d6_29 : decode prog_17_method_3_code 29 = .ok (.aload 6, 2) := by decide +kernel
theorem d6_31 : decode prog_17_method_3_code 31 = .ok (.iconst 2, 1) := by decide +kernel
theorem d6_32 : decode prog_17_method_3_code 32 = .ok (.daload, 1) := by decide +kernel
theorem d6_33 : decode prog_17_method_3_code 33 = .ok (.aload 6, 2) := by decide +kernel
theorem d6_35 : decode prog_17_method_3_code 35 = .ok (.iconst 0, 1) := by decide +kernel
theorem d6_36 : decode prog_17_method_3_code 36 = .ok (.daload, 1) := by decide +kernel
theorem d6_37 : decode prog_17_method_3_code 37 = .ok (.dcmp .l, 1) := by decide +kernel
theorem d6_38 : decode prog_17_method_3_code 38 = .ok (.ifCond .le 37, 3) := by decide +kernel
theorem d6_41 : decode prog_17_method_3_code 41 = .ok (.aload 6, 2) := by decide +kernel
theorem d6_43 : decode prog_17_method_3_code 43 = .ok (.iconst 3, 1) := by decide +kernel
theorem d6_44 : decode prog_17_method_3_code 44 = .ok (.daload, 1) := by decide +kernel
theorem d6_45 : decode prog_17_method_3_code 45 = .ok (.aload 6, 2) := by decide +kernel
theorem d6_47 : decode prog_17_method_3_code 47 = .ok (.iconst 1, 1) := by decide +kernel
theorem d6_48 : decode prog_17_method_3_code 48 = .ok (.daload, 1) := by decide +kernel
theorem d6_49 : decode prog_17_method_3_code 49 = .ok (.dcmp .l, 1) := by decide +kernel
theorem d6_50 : decode prog_17_method_3_code 50 = .ok (.ifCond .le 25, 3) := by decide +kernel
theorem d6_53 : decode prog_17_method_3_code 53 = .ok (.dload_n 1, 1) := by decide +kernel
theorem d6_54 : decode prog_17_method_3_code 54 = .ok (.aload 6, 2) := by decide +kernel
theorem d6_56 : decode prog_17_method_3_code 56 = .ok (.iconst 2, 1) := by decide +kernel
theorem d6_57 : decode prog_17_method_3_code 57 = .ok (.daload, 1) := by decide +kernel
theorem d6_58 : decode prog_17_method_3_code 58 = .ok (.aload 6, 2) := by decide +kernel
theorem d6_60 : decode prog_17_method_3_code 60 = .ok (.iconst 0, 1) := by decide +kernel
theorem d6_61 : decode prog_17_method_3_code 61 = .ok (.daload, 1) := by decide +kernel
theorem d6_62 : decode prog_17_method_3_code 62 = .ok (.dsub, 1) := by decide +kernel
theorem d6_63 : decode prog_17_method_3_code 63 = .ok (.aload 6, 2) := by decide +kernel
theorem d6_65 : decode prog_17_method_3_code 65 = .ok (.iconst 3, 1) := by decide +kernel
theorem d6_66 : decode prog_17_method_3_code 66 = .ok (.daload, 1) := by decide +kernel
theorem d6_67 : decode prog_17_method_3_code 67 = .ok (.aload 6, 2) := by decide +kernel
theorem d6_69 : decode prog_17_method_3_code 69 = .ok (.iconst 1, 1) := by decide +kernel
theorem d6_70 : decode prog_17_method_3_code 70 = .ok (.daload, 1) := by decide +kernel
theorem d6_71 : decode prog_17_method_3_code 71 = .ok (.dsub, 1) := by decide +kernel
theorem d6_72 : decode prog_17_method_3_code 72 = .ok (.dmul, 1) := by decide +kernel
theorem d6_73 : decode prog_17_method_3_code 73 = .ok (.dadd, 1) := by decide +kernel
theorem d6_74 : decode prog_17_method_3_code 74 = .ok (.dstore_n 1, 1) := by decide +kernel
theorem d6_75 : decode prog_17_method_3_code 75 = .ok (.iinc 5 1, 3) := by decide +kernel
theorem d6_78 : decode prog_17_method_3_code 78 = .ok (.goto (-62), 3) := by decide +kernel
theorem d6_81 : decode prog_17_method_3_code 81 = .ok (.dload_n 1, 1) := by decide +kernel
theorem d6_82 : decode prog_17_method_3_code 82 = .ok (.dreturn, 1) := by decide +kernel
theorem pd_0 : parseMethodDescriptor "()V" = some ⟨[], none⟩ := by decide +kernel
theorem pd_1 : parseMethodDescriptor "()[[D" = some ⟨[], some (.array (.array .double))⟩ := by decide +kernel
theorem pd_2 : parseMethodDescriptor "(DDDDDDDD)V" = some ⟨[.double, .double, .double, .double, .double, .double, .double, .double], none⟩ := by decide +kernel
theorem pd_3 : parseMethodDescriptor "([DJJJJ)Z" = some ⟨[(.array .double), .long, .long, .long, .long], some .boolean⟩ := by decide +kernel
theorem pd_4 : parseMethodDescriptor "()D" = some ⟨[], some .double⟩ := by decide +kernel


theorem ow_ladd {x y : Int64} (h : (x.toInt + y.toInt).natAbs < 9223372036854775808) : (x + y).toInt = x.toInt + y.toInt := FP.Core.int64_add (by omega) (by omega)
theorem ow_lsub {x y : Int64} (h : (x.toInt - y.toInt).natAbs < 9223372036854775808) : (x - y).toInt = x.toInt - y.toInt := FP.Core.int64_sub (by omega) (by omega)
theorem ow_lmul {x y : Int64} (h : (x.toInt * y.toInt).natAbs < 9223372036854775808) : (x * y).toInt = x.toInt * y.toInt := FP.Core.int64_mul (by omega) (by omega)

theorem own_d0 : Dy (0 : UInt64) 0 0 := ⟨⟨false, 0, -1074, by decide +kernel⟩, by decide +kernel⟩
theorem own_mb {a b : Int} {A B : Nat} (ha : a.natAbs ≤ A) (hb : b.natAbs ≤ B) : (a * b).natAbs ≤ A * B := by rw [Int.natAbs_mul]; exact Nat.mul_le_mul ha hb

theorem own_deq {x : UInt64} {n : Int} (D : Dy x n 0) : deq x x := (D.eq D).mpr rfl
/-- one rectangle's share -/
theorem own_rect {tot x0 x1 x2 x3 : UInt64} {T a0 a1 a2 a3 W H : Int} (Dt : Dy tot T 0) (X0 : Dy x0 a0 0) (X1 : Dy x1 a1 0) (X2 : Dy x2 a2 0) (X3 : Dy x3 a3 0) (hT : 0 ≤ T ∧ T ≤ 20000000000000) (hW : a2 - a0 = W) (hH : a3 - a1 = H) (bW : 1 ≤ W ∧ W ≤ 2304) (bH : H.natAbs ≤ 2147483648) :
    ((dgt x2 x0 → dgt x3 x1 → NoNaN64 (FP.dsub x2 x0)) ∧ (dgt x2 x0 → dgt x3 x1 → NoNaN64 (FP.dsub x3 x1)) ∧ (dgt x2 x0 → dgt x3 x1 → NoNaN64 (FP.dmul (FP.dsub x2 x0) (FP.dsub x3 x1))) ∧ (dgt x2 x0 → dgt x3 x1 → NoNaN64 (FP.dadd tot (FP.dmul (FP.dsub x2 x0) (FP.dsub x3 x1))))) ∧
    Dy (if dgt x2 x0 then (if dgt x3 x1 then (FP.dadd tot (FP.dmul (FP.dsub x2 x0) (FP.dsub x3 x1))) else tot) else tot) (T + (if 0 < H then W * H else 0)) 0 ∧ (0 ≤ T + (if 0 < H then W * H else 0) ∧ T + (if 0 < H then W * H else 0) ≤ T + 4947802324992) := by
  have S1 := (X2.sub X0 (by omega) (by decide)).to hW
  have S2 := (X3.sub X1 (by omega) (by decide)).to hH
  have mb := own_mb (a := W) (b := H) (A := 2304) (B := 2147483648) (by omega) bH
  have M : Dy (FP.dmul (FP.dsub x2 x0) (FP.dsub x3 x1)) (W * H) 0 := S1.mul S2 (by omega) (by decide)
  have A := Dt.add M (by omega) (by decide)
  have g1 : dgt x2 x0 := (X2.gt X0).mpr (by omega)
  refine ⟨⟨fun _ _ => S1.nn, fun _ _ => S2.nn, fun _ _ => M.nn, fun _ _ => A.nn⟩, ?_⟩
  rw [if_pos g1]
  by_cases h : 0 < H
  · have p : 0 ≤ W * H := Int.mul_nonneg (by omega) (by omega)
    rw [if_pos ((X3.gt X1).mpr (by omega)), if_pos h]
    exact ⟨A, by omega, by omega⟩
  · rw [if_neg (fun q => h (by have := (X3.gt X1).mp q; omega)), if_neg h, Int.add_zero]
    exact ⟨Dt, by omega, by omega⟩
theorem own_m10 (x : Int32) : 1 ≤ ((1 : Int32) + (x &&& (1023 : Int32))).toInt ∧ ((1 : Int32) + (x &&& (1023 : Int32))).toInt ≤ 1024 := by
  have m := c_mask x 1023 10 (by decide) (by decide)
  have e : ((2 ^ 10 : Nat) : Int) = 1024 := by decide
  rw [e] at m
  have a := c_iadd 1 (x &&& 1023)
  have e1 : (1 : Int32).toInt = 1 := by decide
  have r := rng32 (1 + (x &&& 1023))
  rw [e1] at a
  omega
theorem own_m8 (x : Int32) : 0 ≤ (x &&& (255 : Int32)).toInt ∧ (x &&& (255 : Int32)).toInt ≤ 255 := by
  have m := c_mask x 255 8 (by decide) (by decide)
  have e : ((2 ^ 8 : Nat) : Int) = 256 := by decide
  rw [e] at m
  omega
theorem own_lnd (x : Int64) : 0 ≤ (x &&& (2147483647 : Int64)).toInt ∧ (x &&& (2147483647 : Int64)).toInt ≤ 2147483647 := by
  have h : (x &&& (2147483647 : Int64)).toBitVec.toNat ≤ 2147483647 := by
    show (x.toBitVec &&& (2147483647 : Int64).toBitVec).toNat ≤ _
    rw [BitVec.toNat_and]
    exact Nat.le_trans Nat.and_le_right (by decide)
  have e : (x &&& (2147483647 : Int64)).toInt = ((x &&& (2147483647 : Int64)).toBitVec).toInt := rfl
  rw [e, BitVec.toInt_eq_toNat_cond, if_pos (by omega)]
  omega
theorem own_add {x y z : Int64} {a b : Int} (q : x + y = z) (ex : x.toInt = a) (ey : y.toInt = b) (h : (a + b).natAbs < 9223372036854775808) : z.toInt = a + b := by
  rw [← q, ow_ladd (by rw [ex, ey]; exact h), ex, ey]
theorem own_sub {x y z : Int64} {a b : Int} (q : x - y = z) (ex : x.toInt = a) (ey : y.toInt = b) (h : (a - b).natAbs < 9223372036854775808) : z.toInt = a - b := by
  rw [← q, ow_lsub (by rw [ex, ey]; exact h), ex, ey]
theorem own_mul {x y z : Int64} {a b : Int} (q : x * y = z) (ex : x.toInt = a) (ey : y.toInt = b) (h : (a * b).natAbs < 9223372036854775808) : z.toInt = a * b := by
  rw [← q, ow_lmul (by rw [ex, ey]; exact h), ex, ey]
theorem own_1 : (1 : Int64).toInt = 1 := by decide

theorem own_geo {p0 p1 p2 p3 p4 p5 : Int32} {lw rv w l r llr rll b t lf rf : Int64} (qlw : (((1 : Int32) + (p1 &&& (1023 : Int32))).toInt64) = lw) (qrv : (((1 : Int32) + (((p1.toUInt32 >>> ((10 : Int32) &&& 31).toUInt32).toInt32) &&& (1023 : Int32))).toInt64) = rv) (qw : (((lw + rv) + (1 : Int64)) + ((((p1.toUInt32 >>> ((20 : Int32) &&& 31).toUInt32).toInt32) &&& (255 : Int32)).toInt64)) = w) (ql : (p0.toInt64) = l) (qr : (l + w) = r) (qllr : (l + lw) = llr) (qrll : (r - rv) = rll) (qb : (p2.toInt64) = b) (qt : ((b + (1 : Int64)) + ((p3.toInt64) &&& (2147483647 : Int64))) = t) (qlf : (b + (p4.toInt64)) = lf) (qrf : (b + (p5.toInt64)) = rf) :
    lw.toInt = lw.toInt ∧ rv.toInt = rv.toInt ∧ w.toInt = w.toInt ∧ l.toInt = p0.toInt ∧ r.toInt = p0.toInt + w.toInt ∧ llr.toInt = p0.toInt + lw.toInt ∧ rll.toInt = p0.toInt + w.toInt - rv.toInt ∧ b.toInt = p2.toInt ∧ t.toInt = p2.toInt + 1 + (t.toInt - p2.toInt - 1) ∧ lf.toInt = p2.toInt + p4.toInt ∧ rf.toInt = p2.toInt + p5.toInt ∧
    ((1 ≤ lw.toInt ∧ lw.toInt ≤ 1024) ∧ (1 ≤ rv.toInt ∧ rv.toInt ≤ 1024)) ∧ (lw.toInt + rv.toInt + 1 ≤ w.toInt ∧ w.toInt ≤ 2304) ∧ (0 ≤ t.toInt - p2.toInt - 1 ∧ t.toInt - p2.toInt - 1 ≤ 2147483647) := by
  have r0 := rng32 p0; have r2 := rng32 p2; have r4 := rng32 p4; have r5 := rng32 p5
  have e1 : 1 ≤ lw.toInt ∧ lw.toInt ≤ 1024 := by rw [← qlw, Int32.toInt_toInt64]; exact own_m10 _
  have e2 : 1 ≤ rv.toInt ∧ rv.toInt ≤ 1024 := by rw [← qrv, Int32.toInt_toInt64]; exact own_m10 _
  have a1 := own_add (x := lw) (y := rv) rfl rfl rfl (by omega)
  have a2 := own_add (x := lw + rv) (y := 1) rfl a1 own_1 (by omega)
  have m8 := own_m8 ((p1.toUInt32 >>> ((20 : Int32) &&& 31).toUInt32).toInt32)
  have e3 := own_add qw a2 (Int32.toInt_toInt64 _) (by omega)
  have e4 : l.toInt = p0.toInt := by rw [← ql, Int32.toInt_toInt64]
  have e5 := own_add qr e4 rfl (by omega)
  have e6 := own_add qllr e4 rfl (by omega)
  have e7 := own_sub qrll e5 rfl (by omega)
  have e8 : b.toInt = p2.toInt := by rw [← qb, Int32.toInt_toInt64]
  have a3 := own_add (x := b) (y := 1) rfl e8 own_1 (by omega)
  have ml := own_lnd (p3.toInt64)
  have e9 := own_add qt a3 rfl (by omega)
  have e10 := own_add qlf e8 (Int32.toInt_toInt64 p4) (by omega)
  have e11 := own_add qrf e8 (Int32.toInt_toInt64 p5) (by omega)
  refine ⟨rfl, rfl, rfl, e4, e5, e6, e7, e8, by omega, e10, e11, ⟨e1, e2⟩, ⟨by omega, by omega⟩, by omega, by omega⟩
theorem own_bd_lw {p2 : Int32} {lw rv w t : Int64} (h1 : (1 ≤ lw.toInt ∧ lw.toInt ≤ 1024) ∧ (1 ≤ rv.toInt ∧ rv.toInt ≤ 1024)) (h2 : lw.toInt + rv.toInt + 1 ≤ w.toInt ∧ w.toInt ≤ 2304) (h3 : 0 ≤ t.toInt - p2.toInt - 1 ∧ t.toInt - p2.toInt - 1 ≤ 2147483647) : -9007199254740992 < lw.toInt ∧ lw.toInt < 9007199254740992 := by
  have rp2 := rng32 p2
  omega
theorem own_bd_rv {p2 : Int32} {lw rv w t : Int64} (h1 : (1 ≤ lw.toInt ∧ lw.toInt ≤ 1024) ∧ (1 ≤ rv.toInt ∧ rv.toInt ≤ 1024)) (h2 : lw.toInt + rv.toInt + 1 ≤ w.toInt ∧ w.toInt ≤ 2304) (h3 : 0 ≤ t.toInt - p2.toInt - 1 ∧ t.toInt - p2.toInt - 1 ≤ 2147483647) : -9007199254740992 < rv.toInt ∧ rv.toInt < 9007199254740992 := by
  have rp2 := rng32 p2
  omega
theorem own_bd_w {p2 : Int32} {lw rv w t : Int64} (h1 : (1 ≤ lw.toInt ∧ lw.toInt ≤ 1024) ∧ (1 ≤ rv.toInt ∧ rv.toInt ≤ 1024)) (h2 : lw.toInt + rv.toInt + 1 ≤ w.toInt ∧ w.toInt ≤ 2304) (h3 : 0 ≤ t.toInt - p2.toInt - 1 ∧ t.toInt - p2.toInt - 1 ≤ 2147483647) : -9007199254740992 < w.toInt ∧ w.toInt < 9007199254740992 := by
  have rp2 := rng32 p2
  omega
theorem own_bd_l {p0 p2 : Int32} {lw rv w t : Int64} (h1 : (1 ≤ lw.toInt ∧ lw.toInt ≤ 1024) ∧ (1 ≤ rv.toInt ∧ rv.toInt ≤ 1024)) (h2 : lw.toInt + rv.toInt + 1 ≤ w.toInt ∧ w.toInt ≤ 2304) (h3 : 0 ≤ t.toInt - p2.toInt - 1 ∧ t.toInt - p2.toInt - 1 ≤ 2147483647) : -9007199254740992 < p0.toInt ∧ p0.toInt < 9007199254740992 := by
  have rp0 := rng32 p0; have rp2 := rng32 p2
  omega
theorem own_bd_r {p0 p2 : Int32} {lw rv w t : Int64} (h1 : (1 ≤ lw.toInt ∧ lw.toInt ≤ 1024) ∧ (1 ≤ rv.toInt ∧ rv.toInt ≤ 1024)) (h2 : lw.toInt + rv.toInt + 1 ≤ w.toInt ∧ w.toInt ≤ 2304) (h3 : 0 ≤ t.toInt - p2.toInt - 1 ∧ t.toInt - p2.toInt - 1 ≤ 2147483647) : -9007199254740992 < p0.toInt + w.toInt ∧ p0.toInt + w.toInt < 9007199254740992 := by
  have rp0 := rng32 p0; have rp2 := rng32 p2
  omega
theorem own_bd_llr {p0 p2 : Int32} {lw rv w t : Int64} (h1 : (1 ≤ lw.toInt ∧ lw.toInt ≤ 1024) ∧ (1 ≤ rv.toInt ∧ rv.toInt ≤ 1024)) (h2 : lw.toInt + rv.toInt + 1 ≤ w.toInt ∧ w.toInt ≤ 2304) (h3 : 0 ≤ t.toInt - p2.toInt - 1 ∧ t.toInt - p2.toInt - 1 ≤ 2147483647) : -9007199254740992 < p0.toInt + lw.toInt ∧ p0.toInt + lw.toInt < 9007199254740992 := by
  have rp0 := rng32 p0; have rp2 := rng32 p2
  omega
theorem own_bd_rll {p0 p2 : Int32} {lw rv w t : Int64} (h1 : (1 ≤ lw.toInt ∧ lw.toInt ≤ 1024) ∧ (1 ≤ rv.toInt ∧ rv.toInt ≤ 1024)) (h2 : lw.toInt + rv.toInt + 1 ≤ w.toInt ∧ w.toInt ≤ 2304) (h3 : 0 ≤ t.toInt - p2.toInt - 1 ∧ t.toInt - p2.toInt - 1 ≤ 2147483647) : -9007199254740992 < p0.toInt + w.toInt - rv.toInt ∧ p0.toInt + w.toInt - rv.toInt < 9007199254740992 := by
  have rp0 := rng32 p0; have rp2 := rng32 p2
  omega
theorem own_bd_b {p2 : Int32} {lw rv w t : Int64} (h1 : (1 ≤ lw.toInt ∧ lw.toInt ≤ 1024) ∧ (1 ≤ rv.toInt ∧ rv.toInt ≤ 1024)) (h2 : lw.toInt + rv.toInt + 1 ≤ w.toInt ∧ w.toInt ≤ 2304) (h3 : 0 ≤ t.toInt - p2.toInt - 1 ∧ t.toInt - p2.toInt - 1 ≤ 2147483647) : -9007199254740992 < p2.toInt ∧ p2.toInt < 9007199254740992 := by
  have rp2 := rng32 p2
  omega
theorem own_bd_t {p2 : Int32} {lw rv w t : Int64} (h1 : (1 ≤ lw.toInt ∧ lw.toInt ≤ 1024) ∧ (1 ≤ rv.toInt ∧ rv.toInt ≤ 1024)) (h2 : lw.toInt + rv.toInt + 1 ≤ w.toInt ∧ w.toInt ≤ 2304) (h3 : 0 ≤ t.toInt - p2.toInt - 1 ∧ t.toInt - p2.toInt - 1 ≤ 2147483647) : -9007199254740992 < p2.toInt + 1 + (t.toInt - p2.toInt - 1) ∧ p2.toInt + 1 + (t.toInt - p2.toInt - 1) < 9007199254740992 := by
  have rp2 := rng32 p2
  omega
theorem own_bd_lf {p2 p4 : Int32} {lw rv w t : Int64} (h1 : (1 ≤ lw.toInt ∧ lw.toInt ≤ 1024) ∧ (1 ≤ rv.toInt ∧ rv.toInt ≤ 1024)) (h2 : lw.toInt + rv.toInt + 1 ≤ w.toInt ∧ w.toInt ≤ 2304) (h3 : 0 ≤ t.toInt - p2.toInt - 1 ∧ t.toInt - p2.toInt - 1 ≤ 2147483647) : -9007199254740992 < p2.toInt + p4.toInt ∧ p2.toInt + p4.toInt < 9007199254740992 := by
  have rp2 := rng32 p2; have rp4 := rng32 p4
  omega
theorem own_bd_rf {p2 p5 : Int32} {lw rv w t : Int64} (h1 : (1 ≤ lw.toInt ∧ lw.toInt ≤ 1024) ∧ (1 ≤ rv.toInt ∧ rv.toInt ≤ 1024)) (h2 : lw.toInt + rv.toInt + 1 ≤ w.toInt ∧ w.toInt ≤ 2304) (h3 : 0 ≤ t.toInt - p2.toInt - 1 ∧ t.toInt - p2.toInt - 1 ≤ 2147483647) : -9007199254740992 < p2.toInt + p5.toInt ∧ p2.toInt + p5.toInt < 9007199254740992 := by
  have rp2 := rng32 p2; have rp5 := rng32 p5
  omega

theorem own_z : (0 : Int) ≤ 0 ∧ (0 : Int) ≤ 20000000000000 := by omega
theorem own_dW1 {r l w : Int64} {p : Int} (e1 : r.toInt = p + w.toInt) (e2 : l.toInt = p) : r.toInt - l.toInt = w.toInt := by omega
theorem own_dH2 {b f : Int64} {p q : Int} (e1 : b.toInt = p) (e2 : f.toInt = p + q) : b.toInt - f.toInt = -q := by omega
theorem own_dW3 {r l w x : Int64} {p : Int} (e1 : r.toInt = p + w.toInt) (e2 : l.toInt = p + w.toInt - x.toInt) : r.toInt - l.toInt = x.toInt := by omega
theorem own_bw {lw rv w : Int64} (h1 : (1 ≤ lw.toInt ∧ lw.toInt ≤ 1024) ∧ (1 ≤ rv.toInt ∧ rv.toInt ≤ 1024)) (h2 : lw.toInt + rv.toInt + 1 ≤ w.toInt ∧ w.toInt ≤ 2304) : 1 ≤ w.toInt ∧ w.toInt ≤ 2304 := by omega
theorem own_bl {x : Int64} (h : 1 ≤ x.toInt ∧ x.toInt ≤ 1024) : 1 ≤ x.toInt ∧ x.toInt ≤ 2304 := by omega
theorem own_bp (p : Int32) : (-p.toInt).natAbs ≤ 2147483648 := by have := rng32 p; omega
theorem own_bh {t b : Int64} {p : Int} (e : b.toInt = p) (h3 : 0 ≤ t.toInt - p - 1 ∧ t.toInt - p - 1 ≤ 2147483647) : (t.toInt - b.toInt).natAbs ≤ 2147483648 := by omega
theorem own_hh {t b : Int64} {p : Int} (e : b.toInt = p) (h3 : 0 ≤ t.toInt - p - 1 ∧ t.toInt - p - 1 ≤ 2147483647) : 1 ≤ t.toInt - b.toInt ∧ t.toInt - b.toInt ≤ 2147483648 := by omega
theorem own_T1 {T : Int} (h : 0 ≤ T ∧ T ≤ 0 + 4947802324992) : 0 ≤ T ∧ T ≤ 20000000000000 := by omega
theorem own_T2 {T T' : Int} (h : 0 ≤ T ∧ T ≤ 0 + 4947802324992) (g : 0 ≤ T' ∧ T' ≤ T + 4947802324992) : 0 ≤ T' ∧ T' ≤ 20000000000000 := by omega
theorem own_wl {p : Int32} {k x : Int64} (q : (if p < 0 then (k * (-(p.toInt64))) else (0 : Int64)) = x) (h : 1 ≤ k.toInt ∧ k.toInt ≤ 1024) : x.toInt = (if 0 < -p.toInt then k.toInt * -p.toInt else 0) ∧ 0 ≤ x.toInt ∧ x.toInt ≤ 2199023255552 := by
  have r := rng32 p
  have z : (0 : Int32).toInt = 0 := by decide
  have zl : (0 : Int64).toInt = 0 := by decide
  by_cases g : p < 0
  · rw [if_pos g] at q
    rw [Int32.lt_iff_toInt_lt, z] at g
    have n : (-(p.toInt64)).toInt = -p.toInt := by
      have a := c_lneg p.toInt64
      have e := c_i2l p
      have l := (-(p.toInt64)).le_toInt; have u := (-(p.toInt64)).toInt_lt
      omega
    have mb := own_mb (a := k.toInt) (b := -p.toInt) (A := 1024) (B := 2147483648) (by omega) (by omega)
    have e := own_mul q rfl n (by omega)
    have ps : 0 ≤ k.toInt * -p.toInt := Int.mul_nonneg (by omega) (by omega)
    rw [if_pos (by omega)]
    exact ⟨e, by omega, by omega⟩
  · rw [if_neg g] at q
    rw [Int32.lt_iff_toInt_lt, z] at g
    rw [if_neg (by omega), ← q, zl]
    exact ⟨rfl, by omega, by omega⟩
theorem own_areaL {w t b x y a : Int64} {X Y : Int} (q : (((w * (t - b)) + x) + y) = a) (hx : x.toInt = X ∧ 0 ≤ x.toInt ∧ x.toInt ≤ 2199023255552) (hy : y.toInt = Y ∧ 0 ≤ y.toInt ∧ y.toInt ≤ 2199023255552) (hw : 1 ≤ w.toInt ∧ w.toInt ≤ 2304) (hh : 1 ≤ t.toInt - b.toInt ∧ t.toInt - b.toInt ≤ 2147483648) :
    -9007199254740992 < a.toInt ∧ a.toInt < 9007199254740992 ∧ a.toInt = 0 + (if 0 < t.toInt - b.toInt then w.toInt * (t.toInt - b.toInt) else 0) + X + Y := by
  have mb := own_mb (a := w.toInt) (b := t.toInt - b.toInt) (A := 2304) (B := 2147483648) (by omega) (by omega)
  have s := own_sub (x := t) (y := b) rfl rfl rfl (by omega)
  have m := own_mul (x := w) (y := t - b) rfl rfl s (by omega)
  have a1 := own_add (x := w * (t - b)) (y := x) rfl m rfl (by omega)
  have a2 := own_add q a1 rfl (by omega)
  have ps : 0 ≤ w.toInt * (t.toInt - b.toInt) := Int.mul_nonneg (by omega) (by omega)
  rw [if_pos (by omega)]
  exact ⟨by omega, by omega, by omega⟩

theorem ef2 (m : MethodId) (x0 : Addr) : entryFrame m #[(.ref x0)] 1 = mkF m 0 #[.val (.ref x0)] [] := by first | (simp [entryFrame, mkF, argsToLocals, Value.category]; done) | rfl
def Q2 (Z : State) (o0 : Addr) (h0 : Heap) (n0 : Nat) (v : Option Value) (h : Heap) (L : List Loc) : Prop := v = none ∧ Fr n0 L ∧ h0 = h
set_option maxRecDepth 65536 in
set_option maxHeartbeats 40000000 in
theorem rm2 (l : Launch) (Z : State) (a0 : Array Value) (hw : ∀ d ∈ tables_1, d.before a0 Z = true) (ws : List Jvm.Cond) (o0 : Addr) (h0 : Heap) (n0 : Nat) (Z0 : n0 ≤ h0.size) :
    MetFree l (⟨"java/lang/Record", "<init>", "()V"⟩ : MethodName) (head1 (Jvm.Cond.code (⟨"java/lang/Record", "<init>", "()V"⟩ : MethodName) jdk_30_method_1_code 1 none :: ws) ({ frames := 1, cells := 0, slots := 0, locals := 12 } : Room)) (fun a U => a = #[(.ref o0)] ∧ Z.Warmed39 U.vm ∧ U.heap = h0) (fun _ _ _ _ _ => True) (fun _ U o U' => ∃ v L, o = .returned v ∧ Q2 Z o0 h0 n0 v U'.heap L ∧ FrameEnd U o U' L ({ frames := 1, cells := 0, slots := 0, locals := 12 } : Room).cells ({ frames := 1, cells := 0, slots := 0, locals := 12 } : Room).slots) := by
  refine MetFree.of_bodySF (plainFor_of_name pn_java_lang_Record) hisR ?_
  intro p e s m args below meth c s₁ Bd hml0 hP hK
  obtain ⟨rfl, hZ, hh⟩ := hP
  have hx := Bd.exec
  have hby := Bd.bytes
  have hml : c.maxLocals = 1 := hml0
  have hown : s.vm.findClass "java/lang/Record" = some m.cls := findClass_of_methodNamed Bd.named
  have hnm := (name_of_methodNamed Bd.named Bd.method).1
  have X0 : Stand p l e ({ frames := 1, cells := 0, slots := 0, locals := 12 } : Room) s m #[(.ref o0)] below meth c s₁ [] 0 0 := Stand.of_body Bd
  have eH0 : s₁.heap = h0 := by rw [← hh, Bd.state]; rfl
  have N0 := Fr.nil n0
  show Gt p.tables e below (fun o U' => ∃ v L, o = .returned v ∧ Q2 Z o0 h0 n0 v U'.heap L ∧ FrameEnd s o U' L ({ frames := 1, cells := 0, slots := 0, locals := 12 } : Room).cells ({ frames := 1, cells := 0, slots := 0, locals := 12 } : Room).slots) _
  refine own_cast (ef2 m o0) ?_
  refine own_aloadN X0 hx hby rfl rfl d2_0 (pc' := 1) rfl ?_
  refine own_initO X0 hx hby hZ hown (hw _ (List.mem_of_getElem? (i := 12) rfl)) (hw _ (List.mem_of_getElem? (i := 13) rfl)) (hw _ (List.mem_of_getElem? (i := 14) rfl)) eH0 (by rw [hml]; rfl) d2_1 (pc' := 4) rfl (by decide) (W := 0) (Nat.le_of_eq rfl) (by decide) (fun T1 X1 eH1 => ?_)
  exact own_retV X1 hx hby Bd.notSynchronized Bd.returns d2_4 (by decide) (by decide) eH1 ⟨rfl, N0, rfl⟩
theorem ef1 (m : MethodId) (x0 : Addr) (x1 : UInt64) (x2 : UInt64) (x3 : UInt64) (x4 : UInt64) (x5 : UInt64) (x6 : UInt64) (x7 : UInt64) (x8 : UInt64) : entryFrame m #[(.ref x0), (.double x1), (.double x2), (.double x3), (.double x4), (.double x5), (.double x6), (.double x7), (.double x8)] 17 = mkF m 0 #[.val (.ref x0), .val (.double x1), .second, .val (.double x2), .second, .val (.double x3), .second, .val (.double x4), .second, .val (.double x5), .second, .val (.double x6), .second, .val (.double x7), .second, .val (.double x8), .second] [] := by first | (simp [entryFrame, mkF, argsToLocals, Value.category]; done) | rfl
def Q1 (Z : State) (o0 : Addr) (f1 : UInt64) (f2 : UInt64) (f3 : UInt64) (f4 : UInt64) (f5 : UInt64) (f6 : UInt64) (f7 : UInt64) (f8 : UInt64) (left_o0 : UInt64) (leftLegRight_o0 : UInt64) (rightLegLeft_o0 : UInt64) (right_o0 : UInt64) (leftFoot_o0 : UInt64) (rightFoot_o0 : UInt64) (bottom_o0 : UInt64) (top_o0 : UInt64) (h0 : Heap) (n0 : Nat) (v : Option Value) (h : Heap) (L : List Loc) : Prop := v = none ∧ Fr n0 L ∧ Keep h0 h [o0] ∧ Exa Z h o0 "com/example/dido/dido/HangingRegion" ∧ Fld Z h o0 "com/example/dido/dido/HangingRegion" "left" "D" (.double f1) ∧ Fld Z h o0 "com/example/dido/dido/HangingRegion" "leftLegRight" "D" (.double f2) ∧ Fld Z h o0 "com/example/dido/dido/HangingRegion" "rightLegLeft" "D" (.double f3) ∧ Fld Z h o0 "com/example/dido/dido/HangingRegion" "right" "D" (.double f4) ∧ Fld Z h o0 "com/example/dido/dido/HangingRegion" "leftFoot" "D" (.double f5) ∧ Fld Z h o0 "com/example/dido/dido/HangingRegion" "rightFoot" "D" (.double f6) ∧ Fld Z h o0 "com/example/dido/dido/HangingRegion" "bottom" "D" (.double f7) ∧ Fld Z h o0 "com/example/dido/dido/HangingRegion" "top" "D" (.double f8)
set_option maxRecDepth 65536 in
set_option maxHeartbeats 40000000 in
theorem rm1 (l : Launch) (Z : State) (a0 : Array Value) (hw : ∀ d ∈ tables_1, d.before a0 Z = true) (ws : List Jvm.Cond) (o0 : Addr) (f1 : UInt64) (f2 : UInt64) (f3 : UInt64) (f4 : UInt64) (f5 : UInt64) (f6 : UInt64) (f7 : UInt64) (f8 : UInt64) (left_o0 : UInt64) (leftLegRight_o0 : UInt64) (rightLegLeft_o0 : UInt64) (right_o0 : UInt64) (leftFoot_o0 : UInt64) (rightFoot_o0 : UInt64) (bottom_o0 : UInt64) (top_o0 : UInt64) (h0 : Heap) (n0 : Nat) (Z0 : n0 ≤ h0.size) (F_o0_left : Fld Z h0 o0 "com/example/dido/dido/HangingRegion" "left" "D" (.double left_o0)) (F_o0_leftLegRight : Fld Z h0 o0 "com/example/dido/dido/HangingRegion" "leftLegRight" "D" (.double leftLegRight_o0)) (F_o0_rightLegLeft : Fld Z h0 o0 "com/example/dido/dido/HangingRegion" "rightLegLeft" "D" (.double rightLegLeft_o0)) (F_o0_right : Fld Z h0 o0 "com/example/dido/dido/HangingRegion" "right" "D" (.double right_o0)) (F_o0_leftFoot : Fld Z h0 o0 "com/example/dido/dido/HangingRegion" "leftFoot" "D" (.double leftFoot_o0)) (F_o0_rightFoot : Fld Z h0 o0 "com/example/dido/dido/HangingRegion" "rightFoot" "D" (.double rightFoot_o0)) (F_o0_bottom : Fld Z h0 o0 "com/example/dido/dido/HangingRegion" "bottom" "D" (.double bottom_o0)) (F_o0_top : Fld Z h0 o0 "com/example/dido/dido/HangingRegion" "top" "D" (.double top_o0)) (E_o0 : Exa Z h0 o0 "com/example/dido/dido/HangingRegion") (g_o0 : n0 ≤ o0) :
    MetFree l (⟨"com/example/dido/dido/HangingRegion", "<init>", "(DDDDDDDD)V"⟩ : MethodName) (head1 (Jvm.Cond.code (⟨"com/example/dido/dido/HangingRegion", "<init>", "(DDDDDDDD)V"⟩ : MethodName) prog_4_method_1_code 17 none :: ws) ({ frames := 2, cells := 0, slots := 0, locals := 24 } : Room)) (fun a U => a = #[(.ref o0), (.double f1), (.double f2), (.double f3), (.double f4), (.double f5), (.double f6), (.double f7), (.double f8)] ∧ Z.Warmed39 U.vm ∧ U.heap = h0) (fun _ _ _ _ _ => True) (fun _ U o U' => ∃ v L, o = .returned v ∧ Q1 Z o0 f1 f2 f3 f4 f5 f6 f7 f8 left_o0 leftLegRight_o0 rightLegLeft_o0 right_o0 leftFoot_o0 rightFoot_o0 bottom_o0 top_o0 h0 n0 v U'.heap L ∧ FrameEnd U o U' L ({ frames := 2, cells := 0, slots := 0, locals := 24 } : Room).cells ({ frames := 2, cells := 0, slots := 0, locals := 24 } : Room).slots) := by
  refine MetFree.of_bodySF (plainFor_of_name pn_com_example_dido_dido_HangingRegion) hisR ?_
  intro p e s m args below meth c s₁ Bd hml0 hP hK
  obtain ⟨rfl, hZ, hh⟩ := hP
  have hx := Bd.exec
  have hby := Bd.bytes
  have hml : c.maxLocals = 17 := hml0
  have hown : s.vm.findClass "com/example/dido/dido/HangingRegion" = some m.cls := findClass_of_methodNamed Bd.named
  have hnm := (name_of_methodNamed Bd.named Bd.method).1
  have X0 : Stand p l e ({ frames := 2, cells := 0, slots := 0, locals := 24 } : Room) s m #[(.ref o0), (.double f1), (.double f2), (.double f3), (.double f4), (.double f5), (.double f6), (.double f7), (.double f8)] below meth c s₁ [] 0 0 := Stand.of_body Bd
  have eH0 : s₁.heap = h0 := by rw [← hh, Bd.state]; rfl
  have N0 := Fr.nil n0
  have K0 := Keep.refl h0 [o0]
  show Gt p.tables e below (fun o U' => ∃ v L, o = .returned v ∧ Q1 Z o0 f1 f2 f3 f4 f5 f6 f7 f8 left_o0 leftLegRight_o0 rightLegLeft_o0 right_o0 leftFoot_o0 rightFoot_o0 bottom_o0 top_o0 h0 n0 v U'.heap L ∧ FrameEnd s o U' L ({ frames := 2, cells := 0, slots := 0, locals := 24 } : Room).cells ({ frames := 2, cells := 0, slots := 0, locals := 24 } : Room).slots) _
  refine own_cast (ef1 m o0 f1 f2 f3 f4 f5 f6 f7 f8) ?_
  refine own_aloadN X0 hx hby rfl rfl d1_0 (pc' := 1) rfl ?_
  refine own_special X0 hx hby hZ (y := (⟨"java/lang/Record", "<init>", "()V"⟩ : MethodName)) (rest := []) rfl hown (hw _ (List.mem_of_getElem? (i := 7) rfl)) (hw _ (List.mem_of_getElem? (i := 8) rfl)) rfl (hw _ (List.mem_of_getElem? (i := 11) rfl)) (hw _ (List.mem_of_getElem? (i := 10) rfl)) (by decide) (rm2 l Z a0 hw [] o0 h0 n0 Z0) eH0 (by rw [hml]; rfl) (a := o0) (argsL := []) rfl (lenOf pd_0 rfl) rfl d1_1 (pc' := 4) rfl (by decide) (W := 0) (Nat.le_of_eq rfl) (by decide) (by decide) (by decide) (fun T1 h1 Lc1 v1r X1 eH1 hQ1 => ?_)
  obtain ⟨rfl, Nq1, rfl⟩ := hQ1
  have N1 := Fr.app N0 Nq1
  refine own_aloadN X1 hx hby rfl rfl d1_4 (pc' := 5) rfl ?_
  refine own_dloadN X1 hx hby rfl d1_5 (pc' := 6) rfl ?_
  refine own_putF X1 hx hby hZ hown (host := "") (Or.inl (hw _ (List.mem_of_getElem? (i := 15) rfl))) Via.refl eH1 F_o0_left E_o0 (Or.inr ⟨(hw _ (List.mem_of_getElem? (i := 16) rfl)), rfl, hnm⟩) (hw _ (List.mem_of_getElem? (i := 2) rfl)) (ty := .double) (by decide) rfl rfl d1_6 (pc' := 9) rfl (fun T2 h2 X2 eH2 W2 => ?_)
  replace E_o0 := E_o0.wr W2
  replace F_o0_left := F_o0_left.same W2
  replace F_o0_leftLegRight := F_o0_leftLegRight.other W2 (Or.inr (slot_ne (Or.inr (hw _ (List.mem_of_getElem? (i := 18) rfl))) (Or.inr (hw _ (List.mem_of_getElem? (i := 16) rfl))) (by decide) (t := .double) (t' := .double) (by decide) (by decide)))
  replace F_o0_rightLegLeft := F_o0_rightLegLeft.other W2 (Or.inr (slot_ne (Or.inr (hw _ (List.mem_of_getElem? (i := 20) rfl))) (Or.inr (hw _ (List.mem_of_getElem? (i := 16) rfl))) (by decide) (t := .double) (t' := .double) (by decide) (by decide)))
  replace F_o0_right := F_o0_right.other W2 (Or.inr (slot_ne (Or.inr (hw _ (List.mem_of_getElem? (i := 22) rfl))) (Or.inr (hw _ (List.mem_of_getElem? (i := 16) rfl))) (by decide) (t := .double) (t' := .double) (by decide) (by decide)))
  replace F_o0_leftFoot := F_o0_leftFoot.other W2 (Or.inr (slot_ne (Or.inr (hw _ (List.mem_of_getElem? (i := 24) rfl))) (Or.inr (hw _ (List.mem_of_getElem? (i := 16) rfl))) (by decide) (t := .double) (t' := .double) (by decide) (by decide)))
  replace F_o0_rightFoot := F_o0_rightFoot.other W2 (Or.inr (slot_ne (Or.inr (hw _ (List.mem_of_getElem? (i := 26) rfl))) (Or.inr (hw _ (List.mem_of_getElem? (i := 16) rfl))) (by decide) (t := .double) (t' := .double) (by decide) (by decide)))
  replace F_o0_bottom := F_o0_bottom.other W2 (Or.inr (slot_ne (Or.inr (hw _ (List.mem_of_getElem? (i := 28) rfl))) (Or.inr (hw _ (List.mem_of_getElem? (i := 16) rfl))) (by decide) (t := .double) (t' := .double) (by decide) (by decide)))
  replace F_o0_top := F_o0_top.other W2 (Or.inr (slot_ne (Or.inr (hw _ (List.mem_of_getElem? (i := 30) rfl))) (Or.inr (hw _ (List.mem_of_getElem? (i := 16) rfl))) (by decide) (t := .double) (t' := .double) (by decide) (by decide)))
  have N2 := Fr.snoc X2 N1 g_o0
  replace K0 := K0.wr W2 (Or.inl (by simp))
  replace Z0 := Nat.le_trans Z0 (Nat.le_of_eq W2.size.symm)
  refine own_aloadN X2 hx hby rfl rfl d1_9 (pc' := 10) rfl ?_
  refine own_dloadN X2 hx hby rfl d1_10 (pc' := 11) rfl ?_
  refine own_putF X2 hx hby hZ hown (host := "") (Or.inl (hw _ (List.mem_of_getElem? (i := 17) rfl))) Via.refl eH2 F_o0_leftLegRight E_o0 (Or.inr ⟨(hw _ (List.mem_of_getElem? (i := 18) rfl)), rfl, hnm⟩) (hw _ (List.mem_of_getElem? (i := 2) rfl)) (ty := .double) (by decide) rfl rfl d1_11 (pc' := 14) rfl (fun T3 h3 X3 eH3 W3 => ?_)
  replace E_o0 := E_o0.wr W3
  replace F_o0_left := F_o0_left.other W3 (Or.inr (slot_ne (Or.inr (hw _ (List.mem_of_getElem? (i := 16) rfl))) (Or.inr (hw _ (List.mem_of_getElem? (i := 18) rfl))) (by decide) (t := .double) (t' := .double) (by decide) (by decide)))
  replace F_o0_leftLegRight := F_o0_leftLegRight.same W3
  replace F_o0_rightLegLeft := F_o0_rightLegLeft.other W3 (Or.inr (slot_ne (Or.inr (hw _ (List.mem_of_getElem? (i := 20) rfl))) (Or.inr (hw _ (List.mem_of_getElem? (i := 18) rfl))) (by decide) (t := .double) (t' := .double) (by decide) (by decide)))
  replace F_o0_right := F_o0_right.other W3 (Or.inr (slot_ne (Or.inr (hw _ (List.mem_of_getElem? (i := 22) rfl))) (Or.inr (hw _ (List.mem_of_getElem? (i := 18) rfl))) (by decide) (t := .double) (t' := .double) (by decide) (by decide)))
  replace F_o0_leftFoot := F_o0_leftFoot.other W3 (Or.inr (slot_ne (Or.inr (hw _ (List.mem_of_getElem? (i := 24) rfl))) (Or.inr (hw _ (List.mem_of_getElem? (i := 18) rfl))) (by decide) (t := .double) (t' := .double) (by decide) (by decide)))
  replace F_o0_rightFoot := F_o0_rightFoot.other W3 (Or.inr (slot_ne (Or.inr (hw _ (List.mem_of_getElem? (i := 26) rfl))) (Or.inr (hw _ (List.mem_of_getElem? (i := 18) rfl))) (by decide) (t := .double) (t' := .double) (by decide) (by decide)))
  replace F_o0_bottom := F_o0_bottom.other W3 (Or.inr (slot_ne (Or.inr (hw _ (List.mem_of_getElem? (i := 28) rfl))) (Or.inr (hw _ (List.mem_of_getElem? (i := 18) rfl))) (by decide) (t := .double) (t' := .double) (by decide) (by decide)))
  replace F_o0_top := F_o0_top.other W3 (Or.inr (slot_ne (Or.inr (hw _ (List.mem_of_getElem? (i := 30) rfl))) (Or.inr (hw _ (List.mem_of_getElem? (i := 18) rfl))) (by decide) (t := .double) (t' := .double) (by decide) (by decide)))
  have N3 := Fr.snoc X3 N2 g_o0
  replace K0 := K0.wr W3 (Or.inl (by simp))
  replace Z0 := Nat.le_trans Z0 (Nat.le_of_eq W3.size.symm)
  refine own_aloadN X3 hx hby rfl rfl d1_14 (pc' := 15) rfl ?_
  refine own_dload X3 hx hby rfl d1_15 (pc' := 17) rfl ?_
  refine own_putF X3 hx hby hZ hown (host := "") (Or.inl (hw _ (List.mem_of_getElem? (i := 19) rfl))) Via.refl eH3 F_o0_rightLegLeft E_o0 (Or.inr ⟨(hw _ (List.mem_of_getElem? (i := 20) rfl)), rfl, hnm⟩) (hw _ (List.mem_of_getElem? (i := 2) rfl)) (ty := .double) (by decide) rfl rfl d1_17 (pc' := 20) rfl (fun T4 h4 X4 eH4 W4 => ?_)
  replace E_o0 := E_o0.wr W4
  replace F_o0_left := F_o0_left.other W4 (Or.inr (slot_ne (Or.inr (hw _ (List.mem_of_getElem? (i := 16) rfl))) (Or.inr (hw _ (List.mem_of_getElem? (i := 20) rfl))) (by decide) (t := .double) (t' := .double) (by decide) (by decide)))
  replace F_o0_leftLegRight := F_o0_leftLegRight.other W4 (Or.inr (slot_ne (Or.inr (hw _ (List.mem_of_getElem? (i := 18) rfl))) (Or.inr (hw _ (List.mem_of_getElem? (i := 20) rfl))) (by decide) (t := .double) (t' := .double) (by decide) (by decide)))
  replace F_o0_rightLegLeft := F_o0_rightLegLeft.same W4
  replace F_o0_right := F_o0_right.other W4 (Or.inr (slot_ne (Or.inr (hw _ (List.mem_of_getElem? (i := 22) rfl))) (Or.inr (hw _ (List.mem_of_getElem? (i := 20) rfl))) (by decide) (t := .double) (t' := .double) (by decide) (by decide)))
  replace F_o0_leftFoot := F_o0_leftFoot.other W4 (Or.inr (slot_ne (Or.inr (hw _ (List.mem_of_getElem? (i := 24) rfl))) (Or.inr (hw _ (List.mem_of_getElem? (i := 20) rfl))) (by decide) (t := .double) (t' := .double) (by decide) (by decide)))
  replace F_o0_rightFoot := F_o0_rightFoot.other W4 (Or.inr (slot_ne (Or.inr (hw _ (List.mem_of_getElem? (i := 26) rfl))) (Or.inr (hw _ (List.mem_of_getElem? (i := 20) rfl))) (by decide) (t := .double) (t' := .double) (by decide) (by decide)))
  replace F_o0_bottom := F_o0_bottom.other W4 (Or.inr (slot_ne (Or.inr (hw _ (List.mem_of_getElem? (i := 28) rfl))) (Or.inr (hw _ (List.mem_of_getElem? (i := 20) rfl))) (by decide) (t := .double) (t' := .double) (by decide) (by decide)))
  replace F_o0_top := F_o0_top.other W4 (Or.inr (slot_ne (Or.inr (hw _ (List.mem_of_getElem? (i := 30) rfl))) (Or.inr (hw _ (List.mem_of_getElem? (i := 20) rfl))) (by decide) (t := .double) (t' := .double) (by decide) (by decide)))
  have N4 := Fr.snoc X4 N3 g_o0
  replace K0 := K0.wr W4 (Or.inl (by simp))
  replace Z0 := Nat.le_trans Z0 (Nat.le_of_eq W4.size.symm)
  refine own_aloadN X4 hx hby rfl rfl d1_20 (pc' := 21) rfl ?_
  refine own_dload X4 hx hby rfl d1_21 (pc' := 23) rfl ?_
  refine own_putF X4 hx hby hZ hown (host := "") (Or.inl (hw _ (List.mem_of_getElem? (i := 21) rfl))) Via.refl eH4 F_o0_right E_o0 (Or.inr ⟨(hw _ (List.mem_of_getElem? (i := 22) rfl)), rfl, hnm⟩) (hw _ (List.mem_of_getElem? (i := 2) rfl)) (ty := .double) (by decide) rfl rfl d1_23 (pc' := 26) rfl (fun T5 h5 X5 eH5 W5 => ?_)
  replace E_o0 := E_o0.wr W5
  replace F_o0_left := F_o0_left.other W5 (Or.inr (slot_ne (Or.inr (hw _ (List.mem_of_getElem? (i := 16) rfl))) (Or.inr (hw _ (List.mem_of_getElem? (i := 22) rfl))) (by decide) (t := .double) (t' := .double) (by decide) (by decide)))
  replace F_o0_leftLegRight := F_o0_leftLegRight.other W5 (Or.inr (slot_ne (Or.inr (hw _ (List.mem_of_getElem? (i := 18) rfl))) (Or.inr (hw _ (List.mem_of_getElem? (i := 22) rfl))) (by decide) (t := .double) (t' := .double) (by decide) (by decide)))
  replace F_o0_rightLegLeft := F_o0_rightLegLeft.other W5 (Or.inr (slot_ne (Or.inr (hw _ (List.mem_of_getElem? (i := 20) rfl))) (Or.inr (hw _ (List.mem_of_getElem? (i := 22) rfl))) (by decide) (t := .double) (t' := .double) (by decide) (by decide)))
  replace F_o0_right := F_o0_right.same W5
  replace F_o0_leftFoot := F_o0_leftFoot.other W5 (Or.inr (slot_ne (Or.inr (hw _ (List.mem_of_getElem? (i := 24) rfl))) (Or.inr (hw _ (List.mem_of_getElem? (i := 22) rfl))) (by decide) (t := .double) (t' := .double) (by decide) (by decide)))
  replace F_o0_rightFoot := F_o0_rightFoot.other W5 (Or.inr (slot_ne (Or.inr (hw _ (List.mem_of_getElem? (i := 26) rfl))) (Or.inr (hw _ (List.mem_of_getElem? (i := 22) rfl))) (by decide) (t := .double) (t' := .double) (by decide) (by decide)))
  replace F_o0_bottom := F_o0_bottom.other W5 (Or.inr (slot_ne (Or.inr (hw _ (List.mem_of_getElem? (i := 28) rfl))) (Or.inr (hw _ (List.mem_of_getElem? (i := 22) rfl))) (by decide) (t := .double) (t' := .double) (by decide) (by decide)))
  replace F_o0_top := F_o0_top.other W5 (Or.inr (slot_ne (Or.inr (hw _ (List.mem_of_getElem? (i := 30) rfl))) (Or.inr (hw _ (List.mem_of_getElem? (i := 22) rfl))) (by decide) (t := .double) (t' := .double) (by decide) (by decide)))
  have N5 := Fr.snoc X5 N4 g_o0
  replace K0 := K0.wr W5 (Or.inl (by simp))
  replace Z0 := Nat.le_trans Z0 (Nat.le_of_eq W5.size.symm)
  refine own_aloadN X5 hx hby rfl rfl d1_26 (pc' := 27) rfl ?_
  refine own_dload X5 hx hby rfl d1_27 (pc' := 29) rfl ?_
  refine own_putF X5 hx hby hZ hown (host := "") (Or.inl (hw _ (List.mem_of_getElem? (i := 23) rfl))) Via.refl eH5 F_o0_leftFoot E_o0 (Or.inr ⟨(hw _ (List.mem_of_getElem? (i := 24) rfl)), rfl, hnm⟩) (hw _ (List.mem_of_getElem? (i := 2) rfl)) (ty := .double) (by decide) rfl rfl d1_29 (pc' := 32) rfl (fun T6 h6 X6 eH6 W6 => ?_)
  replace E_o0 := E_o0.wr W6
  replace F_o0_left := F_o0_left.other W6 (Or.inr (slot_ne (Or.inr (hw _ (List.mem_of_getElem? (i := 16) rfl))) (Or.inr (hw _ (List.mem_of_getElem? (i := 24) rfl))) (by decide) (t := .double) (t' := .double) (by decide) (by decide)))
  replace F_o0_leftLegRight := F_o0_leftLegRight.other W6 (Or.inr (slot_ne (Or.inr (hw _ (List.mem_of_getElem? (i := 18) rfl))) (Or.inr (hw _ (List.mem_of_getElem? (i := 24) rfl))) (by decide) (t := .double) (t' := .double) (by decide) (by decide)))
  replace F_o0_rightLegLeft := F_o0_rightLegLeft.other W6 (Or.inr (slot_ne (Or.inr (hw _ (List.mem_of_getElem? (i := 20) rfl))) (Or.inr (hw _ (List.mem_of_getElem? (i := 24) rfl))) (by decide) (t := .double) (t' := .double) (by decide) (by decide)))
  replace F_o0_right := F_o0_right.other W6 (Or.inr (slot_ne (Or.inr (hw _ (List.mem_of_getElem? (i := 22) rfl))) (Or.inr (hw _ (List.mem_of_getElem? (i := 24) rfl))) (by decide) (t := .double) (t' := .double) (by decide) (by decide)))
  replace F_o0_leftFoot := F_o0_leftFoot.same W6
  replace F_o0_rightFoot := F_o0_rightFoot.other W6 (Or.inr (slot_ne (Or.inr (hw _ (List.mem_of_getElem? (i := 26) rfl))) (Or.inr (hw _ (List.mem_of_getElem? (i := 24) rfl))) (by decide) (t := .double) (t' := .double) (by decide) (by decide)))
  replace F_o0_bottom := F_o0_bottom.other W6 (Or.inr (slot_ne (Or.inr (hw _ (List.mem_of_getElem? (i := 28) rfl))) (Or.inr (hw _ (List.mem_of_getElem? (i := 24) rfl))) (by decide) (t := .double) (t' := .double) (by decide) (by decide)))
  replace F_o0_top := F_o0_top.other W6 (Or.inr (slot_ne (Or.inr (hw _ (List.mem_of_getElem? (i := 30) rfl))) (Or.inr (hw _ (List.mem_of_getElem? (i := 24) rfl))) (by decide) (t := .double) (t' := .double) (by decide) (by decide)))
  have N6 := Fr.snoc X6 N5 g_o0
  replace K0 := K0.wr W6 (Or.inl (by simp))
  replace Z0 := Nat.le_trans Z0 (Nat.le_of_eq W6.size.symm)
  refine own_aloadN X6 hx hby rfl rfl d1_32 (pc' := 33) rfl ?_
  refine own_dload X6 hx hby rfl d1_33 (pc' := 35) rfl ?_
  refine own_putF X6 hx hby hZ hown (host := "") (Or.inl (hw _ (List.mem_of_getElem? (i := 25) rfl))) Via.refl eH6 F_o0_rightFoot E_o0 (Or.inr ⟨(hw _ (List.mem_of_getElem? (i := 26) rfl)), rfl, hnm⟩) (hw _ (List.mem_of_getElem? (i := 2) rfl)) (ty := .double) (by decide) rfl rfl d1_35 (pc' := 38) rfl (fun T7 h7 X7 eH7 W7 => ?_)
  replace E_o0 := E_o0.wr W7
  replace F_o0_left := F_o0_left.other W7 (Or.inr (slot_ne (Or.inr (hw _ (List.mem_of_getElem? (i := 16) rfl))) (Or.inr (hw _ (List.mem_of_getElem? (i := 26) rfl))) (by decide) (t := .double) (t' := .double) (by decide) (by decide)))
  replace F_o0_leftLegRight := F_o0_leftLegRight.other W7 (Or.inr (slot_ne (Or.inr (hw _ (List.mem_of_getElem? (i := 18) rfl))) (Or.inr (hw _ (List.mem_of_getElem? (i := 26) rfl))) (by decide) (t := .double) (t' := .double) (by decide) (by decide)))
  replace F_o0_rightLegLeft := F_o0_rightLegLeft.other W7 (Or.inr (slot_ne (Or.inr (hw _ (List.mem_of_getElem? (i := 20) rfl))) (Or.inr (hw _ (List.mem_of_getElem? (i := 26) rfl))) (by decide) (t := .double) (t' := .double) (by decide) (by decide)))
  replace F_o0_right := F_o0_right.other W7 (Or.inr (slot_ne (Or.inr (hw _ (List.mem_of_getElem? (i := 22) rfl))) (Or.inr (hw _ (List.mem_of_getElem? (i := 26) rfl))) (by decide) (t := .double) (t' := .double) (by decide) (by decide)))
  replace F_o0_leftFoot := F_o0_leftFoot.other W7 (Or.inr (slot_ne (Or.inr (hw _ (List.mem_of_getElem? (i := 24) rfl))) (Or.inr (hw _ (List.mem_of_getElem? (i := 26) rfl))) (by decide) (t := .double) (t' := .double) (by decide) (by decide)))
  replace F_o0_rightFoot := F_o0_rightFoot.same W7
  replace F_o0_bottom := F_o0_bottom.other W7 (Or.inr (slot_ne (Or.inr (hw _ (List.mem_of_getElem? (i := 28) rfl))) (Or.inr (hw _ (List.mem_of_getElem? (i := 26) rfl))) (by decide) (t := .double) (t' := .double) (by decide) (by decide)))
  replace F_o0_top := F_o0_top.other W7 (Or.inr (slot_ne (Or.inr (hw _ (List.mem_of_getElem? (i := 30) rfl))) (Or.inr (hw _ (List.mem_of_getElem? (i := 26) rfl))) (by decide) (t := .double) (t' := .double) (by decide) (by decide)))
  have N7 := Fr.snoc X7 N6 g_o0
  replace K0 := K0.wr W7 (Or.inl (by simp))
  replace Z0 := Nat.le_trans Z0 (Nat.le_of_eq W7.size.symm)
  refine own_aloadN X7 hx hby rfl rfl d1_38 (pc' := 39) rfl ?_
  refine own_dload X7 hx hby rfl d1_39 (pc' := 41) rfl ?_
  refine own_putF X7 hx hby hZ hown (host := "") (Or.inl (hw _ (List.mem_of_getElem? (i := 27) rfl))) Via.refl eH7 F_o0_bottom E_o0 (Or.inr ⟨(hw _ (List.mem_of_getElem? (i := 28) rfl)), rfl, hnm⟩) (hw _ (List.mem_of_getElem? (i := 2) rfl)) (ty := .double) (by decide) rfl rfl d1_41 (pc' := 44) rfl (fun T8 h8 X8 eH8 W8 => ?_)
  replace E_o0 := E_o0.wr W8
  replace F_o0_left := F_o0_left.other W8 (Or.inr (slot_ne (Or.inr (hw _ (List.mem_of_getElem? (i := 16) rfl))) (Or.inr (hw _ (List.mem_of_getElem? (i := 28) rfl))) (by decide) (t := .double) (t' := .double) (by decide) (by decide)))
  replace F_o0_leftLegRight := F_o0_leftLegRight.other W8 (Or.inr (slot_ne (Or.inr (hw _ (List.mem_of_getElem? (i := 18) rfl))) (Or.inr (hw _ (List.mem_of_getElem? (i := 28) rfl))) (by decide) (t := .double) (t' := .double) (by decide) (by decide)))
  replace F_o0_rightLegLeft := F_o0_rightLegLeft.other W8 (Or.inr (slot_ne (Or.inr (hw _ (List.mem_of_getElem? (i := 20) rfl))) (Or.inr (hw _ (List.mem_of_getElem? (i := 28) rfl))) (by decide) (t := .double) (t' := .double) (by decide) (by decide)))
  replace F_o0_right := F_o0_right.other W8 (Or.inr (slot_ne (Or.inr (hw _ (List.mem_of_getElem? (i := 22) rfl))) (Or.inr (hw _ (List.mem_of_getElem? (i := 28) rfl))) (by decide) (t := .double) (t' := .double) (by decide) (by decide)))
  replace F_o0_leftFoot := F_o0_leftFoot.other W8 (Or.inr (slot_ne (Or.inr (hw _ (List.mem_of_getElem? (i := 24) rfl))) (Or.inr (hw _ (List.mem_of_getElem? (i := 28) rfl))) (by decide) (t := .double) (t' := .double) (by decide) (by decide)))
  replace F_o0_rightFoot := F_o0_rightFoot.other W8 (Or.inr (slot_ne (Or.inr (hw _ (List.mem_of_getElem? (i := 26) rfl))) (Or.inr (hw _ (List.mem_of_getElem? (i := 28) rfl))) (by decide) (t := .double) (t' := .double) (by decide) (by decide)))
  replace F_o0_bottom := F_o0_bottom.same W8
  replace F_o0_top := F_o0_top.other W8 (Or.inr (slot_ne (Or.inr (hw _ (List.mem_of_getElem? (i := 30) rfl))) (Or.inr (hw _ (List.mem_of_getElem? (i := 28) rfl))) (by decide) (t := .double) (t' := .double) (by decide) (by decide)))
  have N8 := Fr.snoc X8 N7 g_o0
  replace K0 := K0.wr W8 (Or.inl (by simp))
  replace Z0 := Nat.le_trans Z0 (Nat.le_of_eq W8.size.symm)
  refine own_aloadN X8 hx hby rfl rfl d1_44 (pc' := 45) rfl ?_
  refine own_dload X8 hx hby rfl d1_45 (pc' := 47) rfl ?_
  refine own_putF X8 hx hby hZ hown (host := "") (Or.inl (hw _ (List.mem_of_getElem? (i := 29) rfl))) Via.refl eH8 F_o0_top E_o0 (Or.inr ⟨(hw _ (List.mem_of_getElem? (i := 30) rfl)), rfl, hnm⟩) (hw _ (List.mem_of_getElem? (i := 2) rfl)) (ty := .double) (by decide) rfl rfl d1_47 (pc' := 50) rfl (fun T9 h9 X9 eH9 W9 => ?_)
  replace E_o0 := E_o0.wr W9
  replace F_o0_left := F_o0_left.other W9 (Or.inr (slot_ne (Or.inr (hw _ (List.mem_of_getElem? (i := 16) rfl))) (Or.inr (hw _ (List.mem_of_getElem? (i := 30) rfl))) (by decide) (t := .double) (t' := .double) (by decide) (by decide)))
  replace F_o0_leftLegRight := F_o0_leftLegRight.other W9 (Or.inr (slot_ne (Or.inr (hw _ (List.mem_of_getElem? (i := 18) rfl))) (Or.inr (hw _ (List.mem_of_getElem? (i := 30) rfl))) (by decide) (t := .double) (t' := .double) (by decide) (by decide)))
  replace F_o0_rightLegLeft := F_o0_rightLegLeft.other W9 (Or.inr (slot_ne (Or.inr (hw _ (List.mem_of_getElem? (i := 20) rfl))) (Or.inr (hw _ (List.mem_of_getElem? (i := 30) rfl))) (by decide) (t := .double) (t' := .double) (by decide) (by decide)))
  replace F_o0_right := F_o0_right.other W9 (Or.inr (slot_ne (Or.inr (hw _ (List.mem_of_getElem? (i := 22) rfl))) (Or.inr (hw _ (List.mem_of_getElem? (i := 30) rfl))) (by decide) (t := .double) (t' := .double) (by decide) (by decide)))
  replace F_o0_leftFoot := F_o0_leftFoot.other W9 (Or.inr (slot_ne (Or.inr (hw _ (List.mem_of_getElem? (i := 24) rfl))) (Or.inr (hw _ (List.mem_of_getElem? (i := 30) rfl))) (by decide) (t := .double) (t' := .double) (by decide) (by decide)))
  replace F_o0_rightFoot := F_o0_rightFoot.other W9 (Or.inr (slot_ne (Or.inr (hw _ (List.mem_of_getElem? (i := 26) rfl))) (Or.inr (hw _ (List.mem_of_getElem? (i := 30) rfl))) (by decide) (t := .double) (t' := .double) (by decide) (by decide)))
  replace F_o0_bottom := F_o0_bottom.other W9 (Or.inr (slot_ne (Or.inr (hw _ (List.mem_of_getElem? (i := 28) rfl))) (Or.inr (hw _ (List.mem_of_getElem? (i := 30) rfl))) (by decide) (t := .double) (t' := .double) (by decide) (by decide)))
  replace F_o0_top := F_o0_top.same W9
  have N9 := Fr.snoc X9 N8 g_o0
  replace K0 := K0.wr W9 (Or.inl (by simp))
  replace Z0 := Nat.le_trans Z0 (Nat.le_of_eq W9.size.symm)
  exact own_retV X9 hx hby Bd.notSynchronized Bd.returns d1_50 (by decide) (by decide) eH9 ⟨rfl, N9, K0, E_o0, F_o0_left, F_o0_leftLegRight, F_o0_rightLegLeft, F_o0_right, F_o0_leftFoot, F_o0_rightFoot, F_o0_bottom, F_o0_top⟩
theorem ef4 (m : MethodId) (x0 : Addr) : entryFrame m #[(.ref x0)] 1 = mkF m 0 #[.val (.ref x0)] [] := by first | (simp [entryFrame, mkF, argsToLocals, Value.category]; done) | rfl
def Q4 (Z : State) (o0 : Addr) (left_o0 : UInt64) (bottom_o0 : UInt64) (right_o0 : UInt64) (top_o0 : UInt64) (leftFoot_o0 : UInt64) (leftLegRight_o0 : UInt64) (rightLegLeft_o0 : UInt64) (rightFoot_o0 : UInt64) (h0 : Heap) (n0 : Nat) (v : Option Value) (h : Heap) (L : List Loc) : Prop := ∃ b1 b2 b12 b22 : Addr, v = some (.ref b1) ∧ Fr n0 L ∧ Keep h0 h [] ∧ h0.size ≤ b1 ∧ h0.size ≤ b2 ∧ h0.size ≤ b12 ∧ h0.size ≤ b22 ∧ b1 ≠ b2 ∧ b1 ≠ b12 ∧ b1 ≠ b22 ∧ b2 ≠ b12 ∧ b2 ≠ b22 ∧ b12 ≠ b22 ∧ Exa Z h b1 "[[D" ∧ Ary (ovA Z .double "[D") Z h b1 (.array .double) [(.ref b2), (.ref b12), (.ref b22)] ∧ Exa Z h b2 "[D" ∧ Ary tr Z h b2 .double [(.double left_o0), (.double bottom_o0), (.double right_o0), (.double top_o0)] ∧ Exa Z h b12 "[D" ∧ Ary tr Z h b12 .double [(.double left_o0), (.double leftFoot_o0), (.double leftLegRight_o0), (.double bottom_o0)] ∧ Exa Z h b22 "[D" ∧ Ary tr Z h b22 .double [(.double rightLegLeft_o0), (.double rightFoot_o0), (.double right_o0), (.double bottom_o0)]
set_option maxRecDepth 65536 in
set_option maxHeartbeats 40000000 in
theorem rm4 (l : Launch) (Z : State) (a0 : Array Value) (hw : ∀ d ∈ tables_1, d.before a0 Z = true) (ws : List Jvm.Cond) (o0 : Addr) (left_o0 : UInt64) (bottom_o0 : UInt64) (right_o0 : UInt64) (top_o0 : UInt64) (leftFoot_o0 : UInt64) (leftLegRight_o0 : UInt64) (rightLegLeft_o0 : UInt64) (rightFoot_o0 : UInt64) (h0 : Heap) (n0 : Nat) (Z0 : n0 ≤ h0.size) (F_o0_left : Fld Z h0 o0 "com/example/dido/dido/HangingRegion" "left" "D" (.double left_o0)) (F_o0_bottom : Fld Z h0 o0 "com/example/dido/dido/HangingRegion" "bottom" "D" (.double bottom_o0)) (F_o0_right : Fld Z h0 o0 "com/example/dido/dido/HangingRegion" "right" "D" (.double right_o0)) (F_o0_top : Fld Z h0 o0 "com/example/dido/dido/HangingRegion" "top" "D" (.double top_o0)) (F_o0_leftFoot : Fld Z h0 o0 "com/example/dido/dido/HangingRegion" "leftFoot" "D" (.double leftFoot_o0)) (F_o0_leftLegRight : Fld Z h0 o0 "com/example/dido/dido/HangingRegion" "leftLegRight" "D" (.double leftLegRight_o0)) (F_o0_rightLegLeft : Fld Z h0 o0 "com/example/dido/dido/HangingRegion" "rightLegLeft" "D" (.double rightLegLeft_o0)) (F_o0_rightFoot : Fld Z h0 o0 "com/example/dido/dido/HangingRegion" "rightFoot" "D" (.double rightFoot_o0)) :
    MetFree l (⟨"com/example/dido/dido/HangingRegion", "rectangles", "()[[D"⟩ : MethodName) (head1 (Jvm.Cond.code (⟨"com/example/dido/dido/HangingRegion", "rectangles", "()[[D"⟩ : MethodName) prog_4_method_3_code 1 (some (.array (.array .double))) :: ws) ({ frames := 0, cells := 4, slots := 15, locals := 0 } : Room)) (fun a U => a = #[(.ref o0)] ∧ Z.Warmed39 U.vm ∧ U.heap = h0) (fun _ _ _ _ _ => True) (fun _ U o U' => ∃ v L, o = .returned v ∧ Q4 Z o0 left_o0 bottom_o0 right_o0 top_o0 leftFoot_o0 leftLegRight_o0 rightLegLeft_o0 rightFoot_o0 h0 n0 v U'.heap L ∧ FrameEnd U o U' L ({ frames := 0, cells := 4, slots := 15, locals := 0 } : Room).cells ({ frames := 0, cells := 4, slots := 15, locals := 0 } : Room).slots) := by
  refine MetFree.of_bodySF (plainFor_of_name pn_com_example_dido_dido_HangingRegion) hisR ?_
  intro p e s m args below meth c s₁ Bd hml0 hP hK
  obtain ⟨rfl, hZ, hh⟩ := hP
  have hx := Bd.exec
  have hby := Bd.bytes
  have hml : c.maxLocals = 1 := hml0
  have hown : s.vm.findClass "com/example/dido/dido/HangingRegion" = some m.cls := findClass_of_methodNamed Bd.named
  have hnm := (name_of_methodNamed Bd.named Bd.method).1
  have X0 : Stand p l e ({ frames := 0, cells := 4, slots := 15, locals := 0 } : Room) s m #[(.ref o0)] below meth c s₁ [] 0 0 := Stand.of_body Bd
  have eH0 : s₁.heap = h0 := by rw [← hh, Bd.state]; rfl
  have N0 := Fr.nil n0
  have K0 := Keep.refl h0 []
  show Gt p.tables e below (fun o U' => ∃ v L, o = .returned v ∧ Q4 Z o0 left_o0 bottom_o0 right_o0 top_o0 leftFoot_o0 leftLegRight_o0 rightLegLeft_o0 rightFoot_o0 h0 n0 v U'.heap L ∧ FrameEnd s o U' L ({ frames := 0, cells := 4, slots := 15, locals := 0 } : Room).cells ({ frames := 0, cells := 4, slots := 15, locals := 0 } : Room).slots) _
  refine own_cast (ef4 m o0) ?_
  refine own_iconst X0 hx hby (v := (3 : Int32)) (by decide) d4_0 (pc' := 1) rfl ?_
  refine own_newRA X0 hx hby hZ hown (ty := .double) (C := "[D") (by decide) (hw _ (List.mem_of_getElem? (i := 36) rfl)) (hw _ (List.mem_of_getElem? (i := 37) rfl)) eH0 d4_1 (pc' := 4) rfl (by decide) (N := 3) (by decide) (cap := 3) (by decide) (by decide) (by decide) (by decide) (ad := "[[D") (by decide) (fun T1 h1 b1 X1 eH1 E1 g1 E_b1 V_b1 => ?_)
  have g_b1 : n0 ≤ b1 := g1 ▸ Z0
  have sz_b1 : h0.size ≤ b1 := g1 ▸ K0.1
  have ne_o0_b1 : o0 ≠ b1 := Nat.ne_of_lt (g1 ▸ F_o0_left.lt)
  replace F_o0_left := F_o0_left.ext E1
  replace F_o0_bottom := F_o0_bottom.ext E1
  replace F_o0_right := F_o0_right.ext E1
  replace F_o0_top := F_o0_top.ext E1
  replace F_o0_leftFoot := F_o0_leftFoot.ext E1
  replace F_o0_leftLegRight := F_o0_leftLegRight.ext E1
  replace F_o0_rightLegLeft := F_o0_rightLegLeft.ext E1
  replace F_o0_rightFoot := F_o0_rightFoot.ext E1
  replace K0 := K0.ext E1
  replace Z0 := Nat.le_trans Z0 E1.1
  have V_b1 : Ary (ovA Z .double "[D") Z h1 b1 (.array .double) [.null, .null, .null] := V_b1
  refine own_dup X1 hx hby rfl d4_4 (pc' := 5) rfl ?_
  refine own_iconst X1 hx hby (v := (0 : Int32)) (by decide) d4_5 (pc' := 6) rfl ?_
  refine own_iconst X1 hx hby (v := (4 : Int32)) (by decide) d4_6 (pc' := 7) rfl ?_
  refine own_newP X1 hx hby hZ (hw _ (List.mem_of_getElem? (i := 38) rfl)) eH1 d4_7 (pc' := 9) rfl (by decide) (N := 4) (by decide) (cap := 4) (by decide) (by decide) (by decide) (by decide) (ad := "[D") (by decide) (fun T2 h2 b2 X2 eH2 E2 g2 E_b2 V_b2 => ?_)
  have g_b2 : n0 ≤ b2 := g2 ▸ Z0
  have sz_b2 : h0.size ≤ b2 := g2 ▸ K0.1
  have ne_o0_b2 : o0 ≠ b2 := Nat.ne_of_lt (g2 ▸ F_o0_left.lt)
  have ne_b1_b2 : b1 ≠ b2 := Nat.ne_of_lt (g2 ▸ E_b1.lt)
  replace F_o0_left := F_o0_left.ext E2
  replace F_o0_bottom := F_o0_bottom.ext E2
  replace F_o0_right := F_o0_right.ext E2
  replace F_o0_top := F_o0_top.ext E2
  replace F_o0_leftFoot := F_o0_leftFoot.ext E2
  replace F_o0_leftLegRight := F_o0_leftLegRight.ext E2
  replace F_o0_rightLegLeft := F_o0_rightLegLeft.ext E2
  replace F_o0_rightFoot := F_o0_rightFoot.ext E2
  replace E_b1 := E_b1.ext E2
  replace V_b1 := V_b1.ext E2
  replace K0 := K0.ext E2
  replace Z0 := Nat.le_trans Z0 E2.1
  have V_b2 : Ary tr Z h2 b2 .double [(.double (0 : UInt64)), (.double (0 : UInt64)), (.double (0 : UInt64)), (.double (0 : UInt64))] := V_b2
  refine own_dup X2 hx hby rfl d4_9 (pc' := 10) rfl ?_
  refine own_iconst X2 hx hby (v := (0 : Int32)) (by decide) d4_10 (pc' := 11) rfl ?_
  refine own_aloadN X2 hx hby rfl rfl d4_11 (pc' := 12) rfl ?_
  refine own_getF X2 hx hby hZ hown (host := "") (Or.inl (hw _ (List.mem_of_getElem? (i := 15) rfl))) Via.refl eH2 F_o0_left d4_12 (pc' := 15) rfl (fun T3 X3 eH3 => ?_)
  refine own_dastore X3 hx hby hZ eH3 V_b2 (by decide) (n := 0) (by decide) (of_decide_eq_true rfl) d4_15 (pc' := 16) rfl (fun T4 h4 X4 eH4 W4 => ?_)
  replace F_o0_left := F_o0_left.other W4 (Or.inl ne_o0_b2)
  replace F_o0_bottom := F_o0_bottom.other W4 (Or.inl ne_o0_b2)
  replace F_o0_right := F_o0_right.other W4 (Or.inl ne_o0_b2)
  replace F_o0_top := F_o0_top.other W4 (Or.inl ne_o0_b2)
  replace F_o0_leftFoot := F_o0_leftFoot.other W4 (Or.inl ne_o0_b2)
  replace F_o0_leftLegRight := F_o0_leftLegRight.other W4 (Or.inl ne_o0_b2)
  replace F_o0_rightLegLeft := F_o0_rightLegLeft.other W4 (Or.inl ne_o0_b2)
  replace F_o0_rightFoot := F_o0_rightFoot.other W4 (Or.inl ne_o0_b2)
  replace E_b1 := E_b1.wr W4
  replace V_b1 := V_b1.other W4 ne_b1_b2
  replace E_b2 := E_b2.wr W4
  have N4 := Fr.snoc X4 N0 g_b2
  replace K0 := K0.wr W4 (Or.inr sz_b2)
  replace Z0 := Nat.le_trans Z0 (Nat.le_of_eq W4.size.symm)
  replace V_b2 : Ary tr Z h4 b2 .double [(.double left_o0), (.double (0 : UInt64)), (.double (0 : UInt64)), (.double (0 : UInt64))] := V_b2.set W4
  refine own_dup X4 hx hby rfl d4_16 (pc' := 17) rfl ?_
  refine own_iconst X4 hx hby (v := (1 : Int32)) (by decide) d4_17 (pc' := 18) rfl ?_
  refine own_aloadN X4 hx hby rfl rfl d4_18 (pc' := 19) rfl ?_
  refine own_getF X4 hx hby hZ hown (host := "") (Or.inl (hw _ (List.mem_of_getElem? (i := 27) rfl))) Via.refl eH4 F_o0_bottom d4_19 (pc' := 22) rfl (fun T5 X5 eH5 => ?_)
  refine own_dastore X5 hx hby hZ eH5 V_b2 (by decide) (n := 1) (by decide) (of_decide_eq_true rfl) d4_22 (pc' := 23) rfl (fun T6 h6 X6 eH6 W6 => ?_)
  replace F_o0_left := F_o0_left.other W6 (Or.inl ne_o0_b2)
  replace F_o0_bottom := F_o0_bottom.other W6 (Or.inl ne_o0_b2)
  replace F_o0_right := F_o0_right.other W6 (Or.inl ne_o0_b2)
  replace F_o0_top := F_o0_top.other W6 (Or.inl ne_o0_b2)
  replace F_o0_leftFoot := F_o0_leftFoot.other W6 (Or.inl ne_o0_b2)
  replace F_o0_leftLegRight := F_o0_leftLegRight.other W6 (Or.inl ne_o0_b2)
  replace F_o0_rightLegLeft := F_o0_rightLegLeft.other W6 (Or.inl ne_o0_b2)
  replace F_o0_rightFoot := F_o0_rightFoot.other W6 (Or.inl ne_o0_b2)
  replace E_b1 := E_b1.wr W6
  replace V_b1 := V_b1.other W6 ne_b1_b2
  replace E_b2 := E_b2.wr W6
  have N6 := Fr.snoc X6 N4 g_b2
  replace K0 := K0.wr W6 (Or.inr sz_b2)
  replace Z0 := Nat.le_trans Z0 (Nat.le_of_eq W6.size.symm)
  replace V_b2 : Ary tr Z h6 b2 .double [(.double left_o0), (.double bottom_o0), (.double (0 : UInt64)), (.double (0 : UInt64))] := V_b2.set W6
  refine own_dup X6 hx hby rfl d4_23 (pc' := 24) rfl ?_
  refine own_iconst X6 hx hby (v := (2 : Int32)) (by decide) d4_24 (pc' := 25) rfl ?_
  refine own_aloadN X6 hx hby rfl rfl d4_25 (pc' := 26) rfl ?_
  refine own_getF X6 hx hby hZ hown (host := "") (Or.inl (hw _ (List.mem_of_getElem? (i := 21) rfl))) Via.refl eH6 F_o0_right d4_26 (pc' := 29) rfl (fun T7 X7 eH7 => ?_)
  refine own_dastore X7 hx hby hZ eH7 V_b2 (by decide) (n := 2) (by decide) (of_decide_eq_true rfl) d4_29 (pc' := 30) rfl (fun T8 h8 X8 eH8 W8 => ?_)
  replace F_o0_left := F_o0_left.other W8 (Or.inl ne_o0_b2)
  replace F_o0_bottom := F_o0_bottom.other W8 (Or.inl ne_o0_b2)
  replace F_o0_right := F_o0_right.other W8 (Or.inl ne_o0_b2)
  replace F_o0_top := F_o0_top.other W8 (Or.inl ne_o0_b2)
  replace F_o0_leftFoot := F_o0_leftFoot.other W8 (Or.inl ne_o0_b2)
  replace F_o0_leftLegRight := F_o0_leftLegRight.other W8 (Or.inl ne_o0_b2)
  replace F_o0_rightLegLeft := F_o0_rightLegLeft.other W8 (Or.inl ne_o0_b2)
  replace F_o0_rightFoot := F_o0_rightFoot.other W8 (Or.inl ne_o0_b2)
  replace E_b1 := E_b1.wr W8
  replace V_b1 := V_b1.other W8 ne_b1_b2
  replace E_b2 := E_b2.wr W8
  have N8 := Fr.snoc X8 N6 g_b2
  replace K0 := K0.wr W8 (Or.inr sz_b2)
  replace Z0 := Nat.le_trans Z0 (Nat.le_of_eq W8.size.symm)
  replace V_b2 : Ary tr Z h8 b2 .double [(.double left_o0), (.double bottom_o0), (.double right_o0), (.double (0 : UInt64))] := V_b2.set W8
  refine own_dup X8 hx hby rfl d4_30 (pc' := 31) rfl ?_
  refine own_iconst X8 hx hby (v := (3 : Int32)) (by decide) d4_31 (pc' := 32) rfl ?_
  refine own_aloadN X8 hx hby rfl rfl d4_32 (pc' := 33) rfl ?_
  refine own_getF X8 hx hby hZ hown (host := "") (Or.inl (hw _ (List.mem_of_getElem? (i := 29) rfl))) Via.refl eH8 F_o0_top d4_33 (pc' := 36) rfl (fun T9 X9 eH9 => ?_)
  refine own_dastore X9 hx hby hZ eH9 V_b2 (by decide) (n := 3) (by decide) (of_decide_eq_true rfl) d4_36 (pc' := 37) rfl (fun T10 h10 X10 eH10 W10 => ?_)
  replace F_o0_left := F_o0_left.other W10 (Or.inl ne_o0_b2)
  replace F_o0_bottom := F_o0_bottom.other W10 (Or.inl ne_o0_b2)
  replace F_o0_right := F_o0_right.other W10 (Or.inl ne_o0_b2)
  replace F_o0_top := F_o0_top.other W10 (Or.inl ne_o0_b2)
  replace F_o0_leftFoot := F_o0_leftFoot.other W10 (Or.inl ne_o0_b2)
  replace F_o0_leftLegRight := F_o0_leftLegRight.other W10 (Or.inl ne_o0_b2)
  replace F_o0_rightLegLeft := F_o0_rightLegLeft.other W10 (Or.inl ne_o0_b2)
  replace F_o0_rightFoot := F_o0_rightFoot.other W10 (Or.inl ne_o0_b2)
  replace E_b1 := E_b1.wr W10
  replace V_b1 := V_b1.other W10 ne_b1_b2
  replace E_b2 := E_b2.wr W10
  have N10 := Fr.snoc X10 N8 g_b2
  replace K0 := K0.wr W10 (Or.inr sz_b2)
  replace Z0 := Nat.le_trans Z0 (Nat.le_of_eq W10.size.symm)
  replace V_b2 : Ary tr Z h10 b2 .double [(.double left_o0), (.double bottom_o0), (.double right_o0), (.double top_o0)] := V_b2.set W10
  refine own_aastoreA X10 hx hby hZ eH10 V_b1 E_b2 (by decide) (n := 0) (by decide) (of_decide_eq_true rfl) d4_37 (pc' := 38) rfl (fun T11 h11 X11 eH11 W11 => ?_)
  replace F_o0_left := F_o0_left.other W11 (Or.inl ne_o0_b1)
  replace F_o0_bottom := F_o0_bottom.other W11 (Or.inl ne_o0_b1)
  replace F_o0_right := F_o0_right.other W11 (Or.inl ne_o0_b1)
  replace F_o0_top := F_o0_top.other W11 (Or.inl ne_o0_b1)
  replace F_o0_leftFoot := F_o0_leftFoot.other W11 (Or.inl ne_o0_b1)
  replace F_o0_leftLegRight := F_o0_leftLegRight.other W11 (Or.inl ne_o0_b1)
  replace F_o0_rightLegLeft := F_o0_rightLegLeft.other W11 (Or.inl ne_o0_b1)
  replace F_o0_rightFoot := F_o0_rightFoot.other W11 (Or.inl ne_o0_b1)
  replace E_b1 := E_b1.wr W11
  replace E_b2 := E_b2.wr W11
  replace V_b2 := V_b2.other W11 (Ne.symm ne_b1_b2)
  have N11 := Fr.snoc X11 N10 g_b1
  replace K0 := K0.wr W11 (Or.inr sz_b1)
  replace Z0 := Nat.le_trans Z0 (Nat.le_of_eq W11.size.symm)
  replace V_b1 : Ary (ovA Z .double "[D") Z h11 b1 (.array .double) [(.ref b2), .null, .null] := V_b1.set W11
  refine own_dup X11 hx hby rfl d4_38 (pc' := 39) rfl ?_
  refine own_iconst X11 hx hby (v := (1 : Int32)) (by decide) d4_39 (pc' := 40) rfl ?_
  refine own_iconst X11 hx hby (v := (4 : Int32)) (by decide) d4_40 (pc' := 41) rfl ?_
  refine own_newP X11 hx hby hZ (hw _ (List.mem_of_getElem? (i := 38) rfl)) eH11 d4_41 (pc' := 43) rfl (by decide) (N := 4) (by decide) (cap := 4) (by decide) (by decide) (by decide) (by decide) (ad := "[D") (by decide) (fun T12 h12 b12 X12 eH12 E12 g12 E_b12 V_b12 => ?_)
  have g_b12 : n0 ≤ b12 := g12 ▸ Z0
  have sz_b12 : h0.size ≤ b12 := g12 ▸ K0.1
  have ne_o0_b12 : o0 ≠ b12 := Nat.ne_of_lt (g12 ▸ F_o0_left.lt)
  have ne_b1_b12 : b1 ≠ b12 := Nat.ne_of_lt (g12 ▸ E_b1.lt)
  have ne_b2_b12 : b2 ≠ b12 := Nat.ne_of_lt (g12 ▸ E_b2.lt)
  replace F_o0_left := F_o0_left.ext E12
  replace F_o0_bottom := F_o0_bottom.ext E12
  replace F_o0_right := F_o0_right.ext E12
  replace F_o0_top := F_o0_top.ext E12
  replace F_o0_leftFoot := F_o0_leftFoot.ext E12
  replace F_o0_leftLegRight := F_o0_leftLegRight.ext E12
  replace F_o0_rightLegLeft := F_o0_rightLegLeft.ext E12
  replace F_o0_rightFoot := F_o0_rightFoot.ext E12
  replace E_b1 := E_b1.ext E12
  replace V_b1 := V_b1.ext E12
  replace E_b2 := E_b2.ext E12
  replace V_b2 := V_b2.ext E12
  replace K0 := K0.ext E12
  replace Z0 := Nat.le_trans Z0 E12.1
  have V_b12 : Ary tr Z h12 b12 .double [(.double (0 : UInt64)), (.double (0 : UInt64)), (.double (0 : UInt64)), (.double (0 : UInt64))] := V_b12
  refine own_dup X12 hx hby rfl d4_43 (pc' := 44) rfl ?_
  refine own_iconst X12 hx hby (v := (0 : Int32)) (by decide) d4_44 (pc' := 45) rfl ?_
  refine own_aloadN X12 hx hby rfl rfl d4_45 (pc' := 46) rfl ?_
  refine own_getF X12 hx hby hZ hown (host := "") (Or.inl (hw _ (List.mem_of_getElem? (i := 15) rfl))) Via.refl eH12 F_o0_left d4_46 (pc' := 49) rfl (fun T13 X13 eH13 => ?_)
  refine own_dastore X13 hx hby hZ eH13 V_b12 (by decide) (n := 0) (by decide) (of_decide_eq_true rfl) d4_49 (pc' := 50) rfl (fun T14 h14 X14 eH14 W14 => ?_)
  replace F_o0_left := F_o0_left.other W14 (Or.inl ne_o0_b12)
  replace F_o0_bottom := F_o0_bottom.other W14 (Or.inl ne_o0_b12)
  replace F_o0_right := F_o0_right.other W14 (Or.inl ne_o0_b12)
  replace F_o0_top := F_o0_top.other W14 (Or.inl ne_o0_b12)
  replace F_o0_leftFoot := F_o0_leftFoot.other W14 (Or.inl ne_o0_b12)
  replace F_o0_leftLegRight := F_o0_leftLegRight.other W14 (Or.inl ne_o0_b12)
  replace F_o0_rightLegLeft := F_o0_rightLegLeft.other W14 (Or.inl ne_o0_b12)
  replace F_o0_rightFoot := F_o0_rightFoot.other W14 (Or.inl ne_o0_b12)
  replace E_b1 := E_b1.wr W14
  replace V_b1 := V_b1.other W14 ne_b1_b12
  replace E_b2 := E_b2.wr W14
  replace V_b2 := V_b2.other W14 ne_b2_b12
  replace E_b12 := E_b12.wr W14
  have N14 := Fr.snoc X14 N11 g_b12
  replace K0 := K0.wr W14 (Or.inr sz_b12)
  replace Z0 := Nat.le_trans Z0 (Nat.le_of_eq W14.size.symm)
  replace V_b12 : Ary tr Z h14 b12 .double [(.double left_o0), (.double (0 : UInt64)), (.double (0 : UInt64)), (.double (0 : UInt64))] := V_b12.set W14
  refine own_dup X14 hx hby rfl d4_50 (pc' := 51) rfl ?_
  refine own_iconst X14 hx hby (v := (1 : Int32)) (by decide) d4_51 (pc' := 52) rfl ?_
  refine own_aloadN X14 hx hby rfl rfl d4_52 (pc' := 53) rfl ?_
  refine own_getF X14 hx hby hZ hown (host := "") (Or.inl (hw _ (List.mem_of_getElem? (i := 23) rfl))) Via.refl eH14 F_o0_leftFoot d4_53 (pc' := 56) rfl (fun T15 X15 eH15 => ?_)
  refine own_dastore X15 hx hby hZ eH15 V_b12 (by decide) (n := 1) (by decide) (of_decide_eq_true rfl) d4_56 (pc' := 57) rfl (fun T16 h16 X16 eH16 W16 => ?_)
  replace F_o0_left := F_o0_left.other W16 (Or.inl ne_o0_b12)
  replace F_o0_bottom := F_o0_bottom.other W16 (Or.inl ne_o0_b12)
  replace F_o0_right := F_o0_right.other W16 (Or.inl ne_o0_b12)
  replace F_o0_top := F_o0_top.other W16 (Or.inl ne_o0_b12)
  replace F_o0_leftFoot := F_o0_leftFoot.other W16 (Or.inl ne_o0_b12)
  replace F_o0_leftLegRight := F_o0_leftLegRight.other W16 (Or.inl ne_o0_b12)
  replace F_o0_rightLegLeft := F_o0_rightLegLeft.other W16 (Or.inl ne_o0_b12)
  replace F_o0_rightFoot := F_o0_rightFoot.other W16 (Or.inl ne_o0_b12)
  replace E_b1 := E_b1.wr W16
  replace V_b1 := V_b1.other W16 ne_b1_b12
  replace E_b2 := E_b2.wr W16
  replace V_b2 := V_b2.other W16 ne_b2_b12
  replace E_b12 := E_b12.wr W16
  have N16 := Fr.snoc X16 N14 g_b12
  replace K0 := K0.wr W16 (Or.inr sz_b12)
  replace Z0 := Nat.le_trans Z0 (Nat.le_of_eq W16.size.symm)
  replace V_b12 : Ary tr Z h16 b12 .double [(.double left_o0), (.double leftFoot_o0), (.double (0 : UInt64)), (.double (0 : UInt64))] := V_b12.set W16
  refine own_dup X16 hx hby rfl d4_57 (pc' := 58) rfl ?_
  refine own_iconst X16 hx hby (v := (2 : Int32)) (by decide) d4_58 (pc' := 59) rfl ?_
  refine own_aloadN X16 hx hby rfl rfl d4_59 (pc' := 60) rfl ?_
  refine own_getF X16 hx hby hZ hown (host := "") (Or.inl (hw _ (List.mem_of_getElem? (i := 17) rfl))) Via.refl eH16 F_o0_leftLegRight d4_60 (pc' := 63) rfl (fun T17 X17 eH17 => ?_)
  refine own_dastore X17 hx hby hZ eH17 V_b12 (by decide) (n := 2) (by decide) (of_decide_eq_true rfl) d4_63 (pc' := 64) rfl (fun T18 h18 X18 eH18 W18 => ?_)
  replace F_o0_left := F_o0_left.other W18 (Or.inl ne_o0_b12)
  replace F_o0_bottom := F_o0_bottom.other W18 (Or.inl ne_o0_b12)
  replace F_o0_right := F_o0_right.other W18 (Or.inl ne_o0_b12)
  replace F_o0_top := F_o0_top.other W18 (Or.inl ne_o0_b12)
  replace F_o0_leftFoot := F_o0_leftFoot.other W18 (Or.inl ne_o0_b12)
  replace F_o0_leftLegRight := F_o0_leftLegRight.other W18 (Or.inl ne_o0_b12)
  replace F_o0_rightLegLeft := F_o0_rightLegLeft.other W18 (Or.inl ne_o0_b12)
  replace F_o0_rightFoot := F_o0_rightFoot.other W18 (Or.inl ne_o0_b12)
  replace E_b1 := E_b1.wr W18
  replace V_b1 := V_b1.other W18 ne_b1_b12
  replace E_b2 := E_b2.wr W18
  replace V_b2 := V_b2.other W18 ne_b2_b12
  replace E_b12 := E_b12.wr W18
  have N18 := Fr.snoc X18 N16 g_b12
  replace K0 := K0.wr W18 (Or.inr sz_b12)
  replace Z0 := Nat.le_trans Z0 (Nat.le_of_eq W18.size.symm)
  replace V_b12 : Ary tr Z h18 b12 .double [(.double left_o0), (.double leftFoot_o0), (.double leftLegRight_o0), (.double (0 : UInt64))] := V_b12.set W18
  refine own_dup X18 hx hby rfl d4_64 (pc' := 65) rfl ?_
  refine own_iconst X18 hx hby (v := (3 : Int32)) (by decide) d4_65 (pc' := 66) rfl ?_
  refine own_aloadN X18 hx hby rfl rfl d4_66 (pc' := 67) rfl ?_
  refine own_getF X18 hx hby hZ hown (host := "") (Or.inl (hw _ (List.mem_of_getElem? (i := 27) rfl))) Via.refl eH18 F_o0_bottom d4_67 (pc' := 70) rfl (fun T19 X19 eH19 => ?_)
  refine own_dastore X19 hx hby hZ eH19 V_b12 (by decide) (n := 3) (by decide) (of_decide_eq_true rfl) d4_70 (pc' := 71) rfl (fun T20 h20 X20 eH20 W20 => ?_)
  replace F_o0_left := F_o0_left.other W20 (Or.inl ne_o0_b12)
  replace F_o0_bottom := F_o0_bottom.other W20 (Or.inl ne_o0_b12)
  replace F_o0_right := F_o0_right.other W20 (Or.inl ne_o0_b12)
  replace F_o0_top := F_o0_top.other W20 (Or.inl ne_o0_b12)
  replace F_o0_leftFoot := F_o0_leftFoot.other W20 (Or.inl ne_o0_b12)
  replace F_o0_leftLegRight := F_o0_leftLegRight.other W20 (Or.inl ne_o0_b12)
  replace F_o0_rightLegLeft := F_o0_rightLegLeft.other W20 (Or.inl ne_o0_b12)
  replace F_o0_rightFoot := F_o0_rightFoot.other W20 (Or.inl ne_o0_b12)
  replace E_b1 := E_b1.wr W20
  replace V_b1 := V_b1.other W20 ne_b1_b12
  replace E_b2 := E_b2.wr W20
  replace V_b2 := V_b2.other W20 ne_b2_b12
  replace E_b12 := E_b12.wr W20
  have N20 := Fr.snoc X20 N18 g_b12
  replace K0 := K0.wr W20 (Or.inr sz_b12)
  replace Z0 := Nat.le_trans Z0 (Nat.le_of_eq W20.size.symm)
  replace V_b12 : Ary tr Z h20 b12 .double [(.double left_o0), (.double leftFoot_o0), (.double leftLegRight_o0), (.double bottom_o0)] := V_b12.set W20
  refine own_aastoreA X20 hx hby hZ eH20 V_b1 E_b12 (by decide) (n := 1) (by decide) (of_decide_eq_true rfl) d4_71 (pc' := 72) rfl (fun T21 h21 X21 eH21 W21 => ?_)
  replace F_o0_left := F_o0_left.other W21 (Or.inl ne_o0_b1)
  replace F_o0_bottom := F_o0_bottom.other W21 (Or.inl ne_o0_b1)
  replace F_o0_right := F_o0_right.other W21 (Or.inl ne_o0_b1)
  replace F_o0_top := F_o0_top.other W21 (Or.inl ne_o0_b1)
  replace F_o0_leftFoot := F_o0_leftFoot.other W21 (Or.inl ne_o0_b1)
  replace F_o0_leftLegRight := F_o0_leftLegRight.other W21 (Or.inl ne_o0_b1)
  replace F_o0_rightLegLeft := F_o0_rightLegLeft.other W21 (Or.inl ne_o0_b1)
  replace F_o0_rightFoot := F_o0_rightFoot.other W21 (Or.inl ne_o0_b1)
  replace E_b1 := E_b1.wr W21
  replace E_b2 := E_b2.wr W21
  replace V_b2 := V_b2.other W21 (Ne.symm ne_b1_b2)
  replace E_b12 := E_b12.wr W21
  replace V_b12 := V_b12.other W21 (Ne.symm ne_b1_b12)
  have N21 := Fr.snoc X21 N20 g_b1
  replace K0 := K0.wr W21 (Or.inr sz_b1)
  replace Z0 := Nat.le_trans Z0 (Nat.le_of_eq W21.size.symm)
  replace V_b1 : Ary (ovA Z .double "[D") Z h21 b1 (.array .double) [(.ref b2), (.ref b12), .null] := V_b1.set W21
  refine own_dup X21 hx hby rfl d4_72 (pc' := 73) rfl ?_
  refine own_iconst X21 hx hby (v := (2 : Int32)) (by decide) d4_73 (pc' := 74) rfl ?_
  refine own_iconst X21 hx hby (v := (4 : Int32)) (by decide) d4_74 (pc' := 75) rfl ?_
  refine own_newP X21 hx hby hZ (hw _ (List.mem_of_getElem? (i := 38) rfl)) eH21 d4_75 (pc' := 77) rfl (by decide) (N := 4) (by decide) (cap := 4) (by decide) (by decide) (by decide) (by decide) (ad := "[D") (by decide) (fun T22 h22 b22 X22 eH22 E22 g22 E_b22 V_b22 => ?_)
  have g_b22 : n0 ≤ b22 := g22 ▸ Z0
  have sz_b22 : h0.size ≤ b22 := g22 ▸ K0.1
  have ne_o0_b22 : o0 ≠ b22 := Nat.ne_of_lt (g22 ▸ F_o0_left.lt)
  have ne_b1_b22 : b1 ≠ b22 := Nat.ne_of_lt (g22 ▸ E_b1.lt)
  have ne_b2_b22 : b2 ≠ b22 := Nat.ne_of_lt (g22 ▸ E_b2.lt)
  have ne_b12_b22 : b12 ≠ b22 := Nat.ne_of_lt (g22 ▸ E_b12.lt)
  replace F_o0_left := F_o0_left.ext E22
  replace F_o0_bottom := F_o0_bottom.ext E22
  replace F_o0_right := F_o0_right.ext E22
  replace F_o0_top := F_o0_top.ext E22
  replace F_o0_leftFoot := F_o0_leftFoot.ext E22
  replace F_o0_leftLegRight := F_o0_leftLegRight.ext E22
  replace F_o0_rightLegLeft := F_o0_rightLegLeft.ext E22
  replace F_o0_rightFoot := F_o0_rightFoot.ext E22
  replace E_b1 := E_b1.ext E22
  replace V_b1 := V_b1.ext E22
  replace E_b2 := E_b2.ext E22
  replace V_b2 := V_b2.ext E22
  replace E_b12 := E_b12.ext E22
  replace V_b12 := V_b12.ext E22
  replace K0 := K0.ext E22
  replace Z0 := Nat.le_trans Z0 E22.1
  have V_b22 : Ary tr Z h22 b22 .double [(.double (0 : UInt64)), (.double (0 : UInt64)), (.double (0 : UInt64)), (.double (0 : UInt64))] := V_b22
  refine own_dup X22 hx hby rfl d4_77 (pc' := 78) rfl ?_
  refine own_iconst X22 hx hby (v := (0 : Int32)) (by decide) d4_78 (pc' := 79) rfl ?_
  refine own_aloadN X22 hx hby rfl rfl d4_79 (pc' := 80) rfl ?_
  refine own_getF X22 hx hby hZ hown (host := "") (Or.inl (hw _ (List.mem_of_getElem? (i := 19) rfl))) Via.refl eH22 F_o0_rightLegLeft d4_80 (pc' := 83) rfl (fun T23 X23 eH23 => ?_)
  refine own_dastore X23 hx hby hZ eH23 V_b22 (by decide) (n := 0) (by decide) (of_decide_eq_true rfl) d4_83 (pc' := 84) rfl (fun T24 h24 X24 eH24 W24 => ?_)
  replace F_o0_left := F_o0_left.other W24 (Or.inl ne_o0_b22)
  replace F_o0_bottom := F_o0_bottom.other W24 (Or.inl ne_o0_b22)
  replace F_o0_right := F_o0_right.other W24 (Or.inl ne_o0_b22)
  replace F_o0_top := F_o0_top.other W24 (Or.inl ne_o0_b22)
  replace F_o0_leftFoot := F_o0_leftFoot.other W24 (Or.inl ne_o0_b22)
  replace F_o0_leftLegRight := F_o0_leftLegRight.other W24 (Or.inl ne_o0_b22)
  replace F_o0_rightLegLeft := F_o0_rightLegLeft.other W24 (Or.inl ne_o0_b22)
  replace F_o0_rightFoot := F_o0_rightFoot.other W24 (Or.inl ne_o0_b22)
  replace E_b1 := E_b1.wr W24
  replace V_b1 := V_b1.other W24 ne_b1_b22
  replace E_b2 := E_b2.wr W24
  replace V_b2 := V_b2.other W24 ne_b2_b22
  replace E_b12 := E_b12.wr W24
  replace V_b12 := V_b12.other W24 ne_b12_b22
  replace E_b22 := E_b22.wr W24
  have N24 := Fr.snoc X24 N21 g_b22
  replace K0 := K0.wr W24 (Or.inr sz_b22)
  replace Z0 := Nat.le_trans Z0 (Nat.le_of_eq W24.size.symm)
  replace V_b22 : Ary tr Z h24 b22 .double [(.double rightLegLeft_o0), (.double (0 : UInt64)), (.double (0 : UInt64)), (.double (0 : UInt64))] := V_b22.set W24
  refine own_dup X24 hx hby rfl d4_84 (pc' := 85) rfl ?_
  refine own_iconst X24 hx hby (v := (1 : Int32)) (by decide) d4_85 (pc' := 86) rfl ?_
  refine own_aloadN X24 hx hby rfl rfl d4_86 (pc' := 87) rfl ?_
  refine own_getF X24 hx hby hZ hown (host := "") (Or.inl (hw _ (List.mem_of_getElem? (i := 25) rfl))) Via.refl eH24 F_o0_rightFoot d4_87 (pc' := 90) rfl (fun T25 X25 eH25 => ?_)
  refine own_dastore X25 hx hby hZ eH25 V_b22 (by decide) (n := 1) (by decide) (of_decide_eq_true rfl) d4_90 (pc' := 91) rfl (fun T26 h26 X26 eH26 W26 => ?_)
  replace F_o0_left := F_o0_left.other W26 (Or.inl ne_o0_b22)
  replace F_o0_bottom := F_o0_bottom.other W26 (Or.inl ne_o0_b22)
  replace F_o0_right := F_o0_right.other W26 (Or.inl ne_o0_b22)
  replace F_o0_top := F_o0_top.other W26 (Or.inl ne_o0_b22)
  replace F_o0_leftFoot := F_o0_leftFoot.other W26 (Or.inl ne_o0_b22)
  replace F_o0_leftLegRight := F_o0_leftLegRight.other W26 (Or.inl ne_o0_b22)
  replace F_o0_rightLegLeft := F_o0_rightLegLeft.other W26 (Or.inl ne_o0_b22)
  replace F_o0_rightFoot := F_o0_rightFoot.other W26 (Or.inl ne_o0_b22)
  replace E_b1 := E_b1.wr W26
  replace V_b1 := V_b1.other W26 ne_b1_b22
  replace E_b2 := E_b2.wr W26
  replace V_b2 := V_b2.other W26 ne_b2_b22
  replace E_b12 := E_b12.wr W26
  replace V_b12 := V_b12.other W26 ne_b12_b22
  replace E_b22 := E_b22.wr W26
  have N26 := Fr.snoc X26 N24 g_b22
  replace K0 := K0.wr W26 (Or.inr sz_b22)
  replace Z0 := Nat.le_trans Z0 (Nat.le_of_eq W26.size.symm)
  replace V_b22 : Ary tr Z h26 b22 .double [(.double rightLegLeft_o0), (.double rightFoot_o0), (.double (0 : UInt64)), (.double (0 : UInt64))] := V_b22.set W26
  refine own_dup X26 hx hby rfl d4_91 (pc' := 92) rfl ?_
  refine own_iconst X26 hx hby (v := (2 : Int32)) (by decide) d4_92 (pc' := 93) rfl ?_
  refine own_aloadN X26 hx hby rfl rfl d4_93 (pc' := 94) rfl ?_
  refine own_getF X26 hx hby hZ hown (host := "") (Or.inl (hw _ (List.mem_of_getElem? (i := 21) rfl))) Via.refl eH26 F_o0_right d4_94 (pc' := 97) rfl (fun T27 X27 eH27 => ?_)
  refine own_dastore X27 hx hby hZ eH27 V_b22 (by decide) (n := 2) (by decide) (of_decide_eq_true rfl) d4_97 (pc' := 98) rfl (fun T28 h28 X28 eH28 W28 => ?_)
  replace F_o0_left := F_o0_left.other W28 (Or.inl ne_o0_b22)
  replace F_o0_bottom := F_o0_bottom.other W28 (Or.inl ne_o0_b22)
  replace F_o0_right := F_o0_right.other W28 (Or.inl ne_o0_b22)
  replace F_o0_top := F_o0_top.other W28 (Or.inl ne_o0_b22)
  replace F_o0_leftFoot := F_o0_leftFoot.other W28 (Or.inl ne_o0_b22)
  replace F_o0_leftLegRight := F_o0_leftLegRight.other W28 (Or.inl ne_o0_b22)
  replace F_o0_rightLegLeft := F_o0_rightLegLeft.other W28 (Or.inl ne_o0_b22)
  replace F_o0_rightFoot := F_o0_rightFoot.other W28 (Or.inl ne_o0_b22)
  replace E_b1 := E_b1.wr W28
  replace V_b1 := V_b1.other W28 ne_b1_b22
  replace E_b2 := E_b2.wr W28
  replace V_b2 := V_b2.other W28 ne_b2_b22
  replace E_b12 := E_b12.wr W28
  replace V_b12 := V_b12.other W28 ne_b12_b22
  replace E_b22 := E_b22.wr W28
  have N28 := Fr.snoc X28 N26 g_b22
  replace K0 := K0.wr W28 (Or.inr sz_b22)
  replace Z0 := Nat.le_trans Z0 (Nat.le_of_eq W28.size.symm)
  replace V_b22 : Ary tr Z h28 b22 .double [(.double rightLegLeft_o0), (.double rightFoot_o0), (.double right_o0), (.double (0 : UInt64))] := V_b22.set W28
  refine own_dup X28 hx hby rfl d4_98 (pc' := 99) rfl ?_
  refine own_iconst X28 hx hby (v := (3 : Int32)) (by decide) d4_99 (pc' := 100) rfl ?_
  refine own_aloadN X28 hx hby rfl rfl d4_100 (pc' := 101) rfl ?_
  refine own_getF X28 hx hby hZ hown (host := "") (Or.inl (hw _ (List.mem_of_getElem? (i := 27) rfl))) Via.refl eH28 F_o0_bottom d4_101 (pc' := 104) rfl (fun T29 X29 eH29 => ?_)
  refine own_dastore X29 hx hby hZ eH29 V_b22 (by decide) (n := 3) (by decide) (of_decide_eq_true rfl) d4_104 (pc' := 105) rfl (fun T30 h30 X30 eH30 W30 => ?_)
  replace F_o0_left := F_o0_left.other W30 (Or.inl ne_o0_b22)
  replace F_o0_bottom := F_o0_bottom.other W30 (Or.inl ne_o0_b22)
  replace F_o0_right := F_o0_right.other W30 (Or.inl ne_o0_b22)
  replace F_o0_top := F_o0_top.other W30 (Or.inl ne_o0_b22)
  replace F_o0_leftFoot := F_o0_leftFoot.other W30 (Or.inl ne_o0_b22)
  replace F_o0_leftLegRight := F_o0_leftLegRight.other W30 (Or.inl ne_o0_b22)
  replace F_o0_rightLegLeft := F_o0_rightLegLeft.other W30 (Or.inl ne_o0_b22)
  replace F_o0_rightFoot := F_o0_rightFoot.other W30 (Or.inl ne_o0_b22)
  replace E_b1 := E_b1.wr W30
  replace V_b1 := V_b1.other W30 ne_b1_b22
  replace E_b2 := E_b2.wr W30
  replace V_b2 := V_b2.other W30 ne_b2_b22
  replace E_b12 := E_b12.wr W30
  replace V_b12 := V_b12.other W30 ne_b12_b22
  replace E_b22 := E_b22.wr W30
  have N30 := Fr.snoc X30 N28 g_b22
  replace K0 := K0.wr W30 (Or.inr sz_b22)
  replace Z0 := Nat.le_trans Z0 (Nat.le_of_eq W30.size.symm)
  replace V_b22 : Ary tr Z h30 b22 .double [(.double rightLegLeft_o0), (.double rightFoot_o0), (.double right_o0), (.double bottom_o0)] := V_b22.set W30
  refine own_aastoreA X30 hx hby hZ eH30 V_b1 E_b22 (by decide) (n := 2) (by decide) (of_decide_eq_true rfl) d4_105 (pc' := 106) rfl (fun T31 h31 X31 eH31 W31 => ?_)
  replace F_o0_left := F_o0_left.other W31 (Or.inl ne_o0_b1)
  replace F_o0_bottom := F_o0_bottom.other W31 (Or.inl ne_o0_b1)
  replace F_o0_right := F_o0_right.other W31 (Or.inl ne_o0_b1)
  replace F_o0_top := F_o0_top.other W31 (Or.inl ne_o0_b1)
  replace F_o0_leftFoot := F_o0_leftFoot.other W31 (Or.inl ne_o0_b1)
  replace F_o0_leftLegRight := F_o0_leftLegRight.other W31 (Or.inl ne_o0_b1)
  replace F_o0_rightLegLeft := F_o0_rightLegLeft.other W31 (Or.inl ne_o0_b1)
  replace F_o0_rightFoot := F_o0_rightFoot.other W31 (Or.inl ne_o0_b1)
  replace E_b1 := E_b1.wr W31
  replace E_b2 := E_b2.wr W31
  replace V_b2 := V_b2.other W31 (Ne.symm ne_b1_b2)
  replace E_b12 := E_b12.wr W31
  replace V_b12 := V_b12.other W31 (Ne.symm ne_b1_b12)
  replace E_b22 := E_b22.wr W31
  replace V_b22 := V_b22.other W31 (Ne.symm ne_b1_b22)
  have N31 := Fr.snoc X31 N30 g_b1
  replace K0 := K0.wr W31 (Or.inr sz_b1)
  replace Z0 := Nat.le_trans Z0 (Nat.le_of_eq W31.size.symm)
  replace V_b1 : Ary (ovA Z .double "[D") Z h31 b1 (.array .double) [(.ref b2), (.ref b12), (.ref b22)] := V_b1.set W31
  exact own_retA X31 hx hby Bd.notSynchronized Bd.returns rfl rfl d4_106 (by decide) (by decide) eH31 ⟨b1, b2, b12, b22, rfl, N31, K0, sz_b1, sz_b2, sz_b12, sz_b22, ne_b1_b2, ne_b1_b12, ne_b1_b22, ne_b2_b12, ne_b2_b22, ne_b12_b22, E_b1, V_b1, E_b2, V_b2, E_b12, V_b12, E_b22, V_b22⟩
theorem ef5 (m : MethodId) (x0 : Addr) (x1 : Int64) (x2 : Int64) (x3 : Int64) (x4 : Int64) : entryFrame m #[(.ref x0), (.long x1), (.long x2), (.long x3), (.long x4)] 9 = mkF m 0 #[.val (.ref x0), .val (.long x1), .second, .val (.long x2), .second, .val (.long x3), .second, .val (.long x4), .second] [] := by first | (simp [entryFrame, mkF, argsToLocals, Value.category]; done) | rfl
def Q5 (Z : State) (o0 : Addr) (p1 : Int64) (p2 : Int64) (p3 : Int64) (p4 : Int64) (e0 : UInt64) (e1 : UInt64) (e2 : UInt64) (e3 : UInt64) (h0 : Heap) (n0 : Nat) (v : Option Value) (h : Heap) (L : List Loc) : Prop := v = some (.int (1 : Int32)) ∧ Fr n0 L ∧ h0 = h
set_option maxRecDepth 65536 in
set_option maxHeartbeats 40000000 in
theorem rm5 (l : Launch) (Z : State) (a0 : Array Value) (hw : ∀ d ∈ tables_1, d.before a0 Z = true) (ws : List Jvm.Cond) (o0 : Addr) (p1 : Int64) (p2 : Int64) (p3 : Int64) (p4 : Int64) (e0 : UInt64) (e1 : UInt64) (e2 : UInt64) (e3 : UInt64) (h0 : Heap) (n0 : Nat) (Z0 : n0 ≤ h0.size) (V_o0 : Ary tr Z h0 o0 .double [(.double e0), (.double e1), (.double e2), (.double e3)]) (hc6 : (deq e0 (FP.l2d p1))) (hc15 : (deq e1 (FP.l2d p2))) (hc25 : (deq e2 (FP.l2d p3))) (hc35 : (deq e3 (FP.l2d p4))) :
    MetFree l (⟨"com/example/dido/dido/HangingRegionRectanglesPinLaw", "same", "([DJJJJ)Z"⟩ : MethodName) (head1 (Jvm.Cond.code (⟨"com/example/dido/dido/HangingRegionRectanglesPinLaw", "same", "([DJJJJ)Z"⟩ : MethodName) method_3_code 9 (some .boolean) :: ws) ({ frames := 0, cells := 0, slots := 0, locals := 0 } : Room)) (fun a U => a = #[(.ref o0), (.long p1), (.long p2), (.long p3), (.long p4)] ∧ Z.Warmed39 U.vm ∧ U.heap = h0) (fun _ _ _ _ _ => True) (fun _ U o U' => ∃ v L, o = .returned v ∧ Q5 Z o0 p1 p2 p3 p4 e0 e1 e2 e3 h0 n0 v U'.heap L ∧ FrameEnd U o U' L ({ frames := 0, cells := 0, slots := 0, locals := 0 } : Room).cells ({ frames := 0, cells := 0, slots := 0, locals := 0 } : Room).slots) := by
  refine MetFree.of_bodySF (plainFor_of_name pn_com_example_dido_dido_HangingRegionRectanglesPinLaw) hisR ?_
  intro p e s m args below meth c s₁ Bd hml0 hP hK
  obtain ⟨rfl, hZ, hh⟩ := hP
  have hx := Bd.exec
  have hby := Bd.bytes
  have hml : c.maxLocals = 9 := hml0
  have hown : s.vm.findClass "com/example/dido/dido/HangingRegionRectanglesPinLaw" = some m.cls := findClass_of_methodNamed Bd.named
  have hnm := (name_of_methodNamed Bd.named Bd.method).1
  have X0 : Stand p l e ({ frames := 0, cells := 0, slots := 0, locals := 0 } : Room) s m #[(.ref o0), (.long p1), (.long p2), (.long p3), (.long p4)] below meth c s₁ [] 0 0 := Stand.of_body Bd
  have eH0 : s₁.heap = h0 := by rw [← hh, Bd.state]; rfl
  have N0 := Fr.nil n0
  show Gt p.tables e below (fun o U' => ∃ v L, o = .returned v ∧ Q5 Z o0 p1 p2 p3 p4 e0 e1 e2 e3 h0 n0 v U'.heap L ∧ FrameEnd s o U' L ({ frames := 0, cells := 0, slots := 0, locals := 0 } : Room).cells ({ frames := 0, cells := 0, slots := 0, locals := 0 } : Room).slots) _
  refine own_cast (ef5 m o0 p1 p2 p3 p4) ?_
  refine own_aloadN X0 hx hby rfl rfl d5_0 (pc' := 1) rfl ?_
  refine own_iconst X0 hx hby (v := (0 : Int32)) (by decide) d5_1 (pc' := 2) rfl ?_
  refine own_daload X0 hx hby hZ eH0 V_o0 (by decide) (v := (.double e0)) rfl d5_2 (pc' := 3) rfl ?_
  refine own_lloadN X0 hx hby rfl d5_3 (pc' := 4) rfl ?_
  refine own_l2d X0 hx hby rfl d5_4 (pc' := 5) rfl ?_
  refine own_dcmp X0 hx hby rfl d5_5 (pc' := 6) rfl ?_
  refine own_ifF X0 hx hby d5_6 (own_dl_ne_p hc6) (pc' := 9) rfl ?_
  refine own_aloadN X0 hx hby rfl rfl d5_9 (pc' := 10) rfl ?_
  refine own_iconst X0 hx hby (v := (1 : Int32)) (by decide) d5_10 (pc' := 11) rfl ?_
  refine own_daload X0 hx hby hZ eH0 V_o0 (by decide) (v := (.double e1)) rfl d5_11 (pc' := 12) rfl ?_
  refine own_lloadN X0 hx hby rfl d5_12 (pc' := 13) rfl ?_
  refine own_l2d X0 hx hby rfl d5_13 (pc' := 14) rfl ?_
  refine own_dcmp X0 hx hby rfl d5_14 (pc' := 15) rfl ?_
  refine own_ifF X0 hx hby d5_15 (own_dl_ne_p hc15) (pc' := 18) rfl ?_
  refine own_aloadN X0 hx hby rfl rfl d5_18 (pc' := 19) rfl ?_
  refine own_iconst X0 hx hby (v := (2 : Int32)) (by decide) d5_19 (pc' := 20) rfl ?_
  refine own_daload X0 hx hby hZ eH0 V_o0 (by decide) (v := (.double e2)) rfl d5_20 (pc' := 21) rfl ?_
  refine own_lload X0 hx hby rfl d5_21 (pc' := 23) rfl ?_
  refine own_l2d X0 hx hby rfl d5_23 (pc' := 24) rfl ?_
  refine own_dcmp X0 hx hby rfl d5_24 (pc' := 25) rfl ?_
  refine own_ifF X0 hx hby d5_25 (own_dl_ne_p hc25) (pc' := 28) rfl ?_
  refine own_aloadN X0 hx hby rfl rfl d5_28 (pc' := 29) rfl ?_
  refine own_iconst X0 hx hby (v := (3 : Int32)) (by decide) d5_29 (pc' := 30) rfl ?_
  refine own_daload X0 hx hby hZ eH0 V_o0 (by decide) (v := (.double e3)) rfl d5_30 (pc' := 31) rfl ?_
  refine own_lload X0 hx hby rfl d5_31 (pc' := 33) rfl ?_
  refine own_l2d X0 hx hby rfl d5_33 (pc' := 34) rfl ?_
  refine own_dcmp X0 hx hby rfl d5_34 (pc' := 35) rfl ?_
  refine own_ifF X0 hx hby d5_35 (own_dl_ne_p hc35) (pc' := 38) rfl ?_
  refine own_iconst X0 hx hby (v := (1 : Int32)) (by decide) d5_38 (pc' := 39) rfl ?_
  refine own_goto X0 hx hby d5_39 (by decide) (pc' := 43) (by decide) ?_
  exact own_retZ X0 hx hby Bd.notSynchronized Bd.returns (Or.inr rfl) d5_43 (by decide) (by decide) eH0 ⟨rfl, N0, rfl⟩
theorem ef6 (m : MethodId) (x0 : Addr) : entryFrame m #[(.ref x0)] 7 = mkF m 0 #[.val (.ref x0), .unset, .unset, .unset, .unset, .unset, .unset] [] := by first | (simp [entryFrame, mkF, argsToLocals, Value.category]; done) | rfl
def Q6 (Z : State) (o0 : Addr) (left_o0 : UInt64) (bottom_o0 : UInt64) (right_o0 : UInt64) (top_o0 : UInt64) (leftFoot_o0 : UInt64) (leftLegRight_o0 : UInt64) (rightLegLeft_o0 : UInt64) (rightFoot_o0 : UInt64) (h0 : Heap) (n0 : Nat) (v : Option Value) (h : Heap) (L : List Loc) : Prop := v = some (.double (if dgt right_o0 rightLegLeft_o0 then (if dgt bottom_o0 rightFoot_o0 then (FP.dadd (if dgt leftLegRight_o0 left_o0 then (if dgt bottom_o0 leftFoot_o0 then (FP.dadd (if dgt right_o0 left_o0 then (if dgt top_o0 bottom_o0 then (FP.dadd (0 : UInt64) (FP.dmul (FP.dsub right_o0 left_o0) (FP.dsub top_o0 bottom_o0))) else (0 : UInt64)) else (0 : UInt64)) (FP.dmul (FP.dsub leftLegRight_o0 left_o0) (FP.dsub bottom_o0 leftFoot_o0))) else (if dgt right_o0 left_o0 then (if dgt top_o0 bottom_o0 then (FP.dadd (0 : UInt64) (FP.dmul (FP.dsub right_o0 left_o0) (FP.dsub top_o0 bottom_o0))) else (0 : UInt64)) else (0 : UInt64))) else (if dgt right_o0 left_o0 then (if dgt top_o0 bottom_o0 then (FP.dadd (0 : UInt64) (FP.dmul (FP.dsub right_o0 left_o0) (FP.dsub top_o0 bottom_o0))) else (0 : UInt64)) else (0 : UInt64))) (FP.dmul (FP.dsub right_o0 rightLegLeft_o0) (FP.dsub bottom_o0 rightFoot_o0))) else (if dgt leftLegRight_o0 left_o0 then (if dgt bottom_o0 leftFoot_o0 then (FP.dadd (if dgt right_o0 left_o0 then (if dgt top_o0 bottom_o0 then (FP.dadd (0 : UInt64) (FP.dmul (FP.dsub right_o0 left_o0) (FP.dsub top_o0 bottom_o0))) else (0 : UInt64)) else (0 : UInt64)) (FP.dmul (FP.dsub leftLegRight_o0 left_o0) (FP.dsub bottom_o0 leftFoot_o0))) else (if dgt right_o0 left_o0 then (if dgt top_o0 bottom_o0 then (FP.dadd (0 : UInt64) (FP.dmul (FP.dsub right_o0 left_o0) (FP.dsub top_o0 bottom_o0))) else (0 : UInt64)) else (0 : UInt64))) else (if dgt right_o0 left_o0 then (if dgt top_o0 bottom_o0 then (FP.dadd (0 : UInt64) (FP.dmul (FP.dsub right_o0 left_o0) (FP.dsub top_o0 bottom_o0))) else (0 : UInt64)) else (0 : UInt64)))) else (if dgt leftLegRight_o0 left_o0 then (if dgt bottom_o0 leftFoot_o0 then (FP.dadd (if dgt right_o0 left_o0 then (if dgt top_o0 bottom_o0 then (FP.dadd (0 : UInt64) (FP.dmul (FP.dsub right_o0 left_o0) (FP.dsub top_o0 bottom_o0))) else (0 : UInt64)) else (0 : UInt64)) (FP.dmul (FP.dsub leftLegRight_o0 left_o0) (FP.dsub bottom_o0 leftFoot_o0))) else (if dgt right_o0 left_o0 then (if dgt top_o0 bottom_o0 then (FP.dadd (0 : UInt64) (FP.dmul (FP.dsub right_o0 left_o0) (FP.dsub top_o0 bottom_o0))) else (0 : UInt64)) else (0 : UInt64))) else (if dgt right_o0 left_o0 then (if dgt top_o0 bottom_o0 then (FP.dadd (0 : UInt64) (FP.dmul (FP.dsub right_o0 left_o0) (FP.dsub top_o0 bottom_o0))) else (0 : UInt64)) else (0 : UInt64))))) ∧ Fr n0 L ∧ Keep h0 h []
set_option maxRecDepth 65536 in
set_option maxHeartbeats 40000000 in
theorem rm6 (l : Launch) (Z : State) (a0 : Array Value) (hw : ∀ d ∈ tables_1, d.before a0 Z = true) (o0 : Addr) (left_o0 : UInt64) (bottom_o0 : UInt64) (right_o0 : UInt64) (top_o0 : UInt64) (leftFoot_o0 : UInt64) (leftLegRight_o0 : UInt64) (rightLegLeft_o0 : UInt64) (rightFoot_o0 : UInt64) (h0 : Heap) (n0 : Nat) (Z0 : n0 ≤ h0.size) (E_o0 : Exa Z h0 o0 "com/example/dido/dido/HangingRegion") (F_o0_left : Fld Z h0 o0 "com/example/dido/dido/HangingRegion" "left" "D" (.double left_o0)) (F_o0_bottom : Fld Z h0 o0 "com/example/dido/dido/HangingRegion" "bottom" "D" (.double bottom_o0)) (F_o0_right : Fld Z h0 o0 "com/example/dido/dido/HangingRegion" "right" "D" (.double right_o0)) (F_o0_top : Fld Z h0 o0 "com/example/dido/dido/HangingRegion" "top" "D" (.double top_o0)) (F_o0_leftFoot : Fld Z h0 o0 "com/example/dido/dido/HangingRegion" "leftFoot" "D" (.double leftFoot_o0)) (F_o0_leftLegRight : Fld Z h0 o0 "com/example/dido/dido/HangingRegion" "leftLegRight" "D" (.double leftLegRight_o0)) (F_o0_rightLegLeft : Fld Z h0 o0 "com/example/dido/dido/HangingRegion" "rightLegLeft" "D" (.double rightLegLeft_o0)) (F_o0_rightFoot : Fld Z h0 o0 "com/example/dido/dido/HangingRegion" "rightFoot" "D" (.double rightFoot_o0)) (hn62_1 : ((dgt right_o0 left_o0) → (dgt top_o0 bottom_o0) → NoNaN64 (FP.dsub right_o0 left_o0))) (hn71_1 : ((dgt right_o0 left_o0) → (dgt top_o0 bottom_o0) → NoNaN64 (FP.dsub top_o0 bottom_o0))) (hn72_1 : ((dgt right_o0 left_o0) → (dgt top_o0 bottom_o0) → NoNaN64 (FP.dmul (FP.dsub right_o0 left_o0) (FP.dsub top_o0 bottom_o0)))) (hn73_1 : ((dgt right_o0 left_o0) → (dgt top_o0 bottom_o0) → NoNaN64 (FP.dadd (0 : UInt64) (FP.dmul (FP.dsub right_o0 left_o0) (FP.dsub top_o0 bottom_o0))))) (hn62_2 : ((dgt leftLegRight_o0 left_o0) → (dgt bottom_o0 leftFoot_o0) → NoNaN64 (FP.dsub leftLegRight_o0 left_o0))) (hn71_2 : ((dgt leftLegRight_o0 left_o0) → (dgt bottom_o0 leftFoot_o0) → NoNaN64 (FP.dsub bottom_o0 leftFoot_o0))) (hn72_2 : ((dgt leftLegRight_o0 left_o0) → (dgt bottom_o0 leftFoot_o0) → NoNaN64 (FP.dmul (FP.dsub leftLegRight_o0 left_o0) (FP.dsub bottom_o0 leftFoot_o0)))) (hn73_2 : ((dgt leftLegRight_o0 left_o0) → (dgt bottom_o0 leftFoot_o0) → NoNaN64 (FP.dadd (if dgt right_o0 left_o0 then (if dgt top_o0 bottom_o0 then (FP.dadd (0 : UInt64) (FP.dmul (FP.dsub right_o0 left_o0) (FP.dsub top_o0 bottom_o0))) else (0 : UInt64)) else (0 : UInt64)) (FP.dmul (FP.dsub leftLegRight_o0 left_o0) (FP.dsub bottom_o0 leftFoot_o0))))) (hn62_3 : ((dgt right_o0 rightLegLeft_o0) → (dgt bottom_o0 rightFoot_o0) → NoNaN64 (FP.dsub right_o0 rightLegLeft_o0))) (hn71_3 : ((dgt right_o0 rightLegLeft_o0) → (dgt bottom_o0 rightFoot_o0) → NoNaN64 (FP.dsub bottom_o0 rightFoot_o0))) (hn72_3 : ((dgt right_o0 rightLegLeft_o0) → (dgt bottom_o0 rightFoot_o0) → NoNaN64 (FP.dmul (FP.dsub right_o0 rightLegLeft_o0) (FP.dsub bottom_o0 rightFoot_o0)))) (hn73_3 : ((dgt right_o0 rightLegLeft_o0) → (dgt bottom_o0 rightFoot_o0) → NoNaN64 (FP.dadd (if dgt leftLegRight_o0 left_o0 then (if dgt bottom_o0 leftFoot_o0 then (FP.dadd (if dgt right_o0 left_o0 then (if dgt top_o0 bottom_o0 then (FP.dadd (0 : UInt64) (FP.dmul (FP.dsub right_o0 left_o0) (FP.dsub top_o0 bottom_o0))) else (0 : UInt64)) else (0 : UInt64)) (FP.dmul (FP.dsub leftLegRight_o0 left_o0) (FP.dsub bottom_o0 leftFoot_o0))) else (if dgt right_o0 left_o0 then (if dgt top_o0 bottom_o0 then (FP.dadd (0 : UInt64) (FP.dmul (FP.dsub right_o0 left_o0) (FP.dsub top_o0 bottom_o0))) else (0 : UInt64)) else (0 : UInt64))) else (if dgt right_o0 left_o0 then (if dgt top_o0 bottom_o0 then (FP.dadd (0 : UInt64) (FP.dmul (FP.dsub right_o0 left_o0) (FP.dsub top_o0 bottom_o0))) else (0 : UInt64)) else (0 : UInt64))) (FP.dmul (FP.dsub right_o0 rightLegLeft_o0) (FP.dsub bottom_o0 rightFoot_o0))))) :
    Raw l (⟨"com/example/dido/dido/Region", "area", "()D"⟩ : MethodName) prog_17_method_3_code 7 (some .double) ({ frames := 1, cells := 4, slots := 15, locals := 12 } : Room) #[(.ref o0)] Z h0 (Q6 Z o0 left_o0 bottom_o0 right_o0 top_o0 leftFoot_o0 leftLegRight_o0 rightLegLeft_o0 rightFoot_o0 h0 n0) := by
  intro p e s m below meth c s₁ hx X0 hby hml hown hlk hret hZ eH0
  have N0 := Fr.nil n0
  have K0 := Keep.refl h0 []
  refine own_cast (ef6 m o0) ?_
  refine own_dconst0 X0 hx hby (v := (0 : UInt64)) (by decide) d6_0 (pc' := 1) rfl ?_
  refine own_dstoreN X0 hx hby (L' := #[.val (.ref o0), .val (.double (0 : UInt64)), .second, .unset, .unset, .unset, .unset]) rfl d6_1 (pc' := 2) rfl ?_
  refine own_aloadN X0 hx hby rfl rfl d6_2 (pc' := 3) rfl ?_
  refine own_iface X0 hx hby hZ (y := (⟨"com/example/dido/dido/HangingRegion", "rectangles", "()[[D"⟩ : MethodName)) (y' := (⟨"com/example/dido/dido/Region", "rectangles", "()[[D"⟩ : MethodName)) (C := "com/example/dido/dido/HangingRegion") (rest := []) hown (hw _ (List.mem_of_getElem? (i := 53) rfl)) (hw _ (List.mem_of_getElem? (i := 54) rfl)) (hw _ (List.mem_of_getElem? (i := 55) rfl)) (hw _ (List.mem_of_getElem? (i := 56) rfl)) (hw _ (List.mem_of_getElem? (i := 33) rfl)) (hw _ (List.mem_of_getElem? (i := 57) rfl)) (hw _ (List.mem_of_getElem? (i := 58) rfl)) (hw _ (List.mem_of_getElem? (i := 51) rfl)) (hw _ (List.mem_of_getElem? (i := 35) rfl)) (hw _ (List.mem_of_getElem? (i := 3) rfl)) (by decide) (rm4 l Z a0 hw [] o0 left_o0 bottom_o0 right_o0 top_o0 leftFoot_o0 leftLegRight_o0 rightLegLeft_o0 rightFoot_o0 h0 n0 Z0 F_o0_left F_o0_bottom F_o0_right F_o0_top F_o0_leftFoot F_o0_leftLegRight F_o0_rightLegLeft F_o0_rightFoot) eH0 (by rw [hml]; rfl) (a := o0) E_o0 (argsL := []) rfl (lenOf pd_1 rfl) rfl d6_3 (pc' := 8) rfl (by decide) (W := 0) (Nat.le_of_eq rfl) (by decide) (by decide) (by decide) (fun T1 h1 Lc1 v1r X1 eH1 hQ1 => ?_)
  obtain ⟨b1_1, b2_1, b12_1, b22_1, rfl, Nq1, Kq1, gq1_0, gq1_1, gq1_2, gq1_3, gq1_4, gq1_5, gq1_6, gq1_7, gq1_8, gq1_9, gq1_10, gq1_11, gq1_12, gq1_13, gq1_14, gq1_15, gq1_16, gq1_17⟩ := hQ1
  have N1 := Fr.app N0 Nq1
  have g_b1_1 : n0 ≤ b1_1 := Nat.le_trans Z0 gq1_0
  have sz_b1_1 : h0.size ≤ b1_1 := Nat.le_trans K0.1 gq1_0
  have ne_o0_b1_1 : o0 ≠ b1_1 := Nat.ne_of_lt (Nat.lt_of_lt_of_le E_o0.lt gq1_0)
  have g_b2_1 : n0 ≤ b2_1 := Nat.le_trans Z0 gq1_1
  have sz_b2_1 : h0.size ≤ b2_1 := Nat.le_trans K0.1 gq1_1
  have ne_o0_b2_1 : o0 ≠ b2_1 := Nat.ne_of_lt (Nat.lt_of_lt_of_le E_o0.lt gq1_1)
  have g_b12_1 : n0 ≤ b12_1 := Nat.le_trans Z0 gq1_2
  have sz_b12_1 : h0.size ≤ b12_1 := Nat.le_trans K0.1 gq1_2
  have ne_o0_b12_1 : o0 ≠ b12_1 := Nat.ne_of_lt (Nat.lt_of_lt_of_le E_o0.lt gq1_2)
  have g_b22_1 : n0 ≤ b22_1 := Nat.le_trans Z0 gq1_3
  have sz_b22_1 : h0.size ≤ b22_1 := Nat.le_trans K0.1 gq1_3
  have ne_o0_b22_1 : o0 ≠ b22_1 := Nat.ne_of_lt (Nat.lt_of_lt_of_le E_o0.lt gq1_3)
  replace E_o0 := E_o0.keep Kq1
  replace F_o0_left := F_o0_left.keep Kq1 nin0
  replace F_o0_bottom := F_o0_bottom.keep Kq1 nin0
  replace F_o0_right := F_o0_right.keep Kq1 nin0
  replace F_o0_top := F_o0_top.keep Kq1 nin0
  replace F_o0_leftFoot := F_o0_leftFoot.keep Kq1 nin0
  replace F_o0_leftLegRight := F_o0_leftLegRight.keep Kq1 nin0
  replace F_o0_rightLegLeft := F_o0_rightLegLeft.keep Kq1 nin0
  replace F_o0_rightFoot := F_o0_rightFoot.keep Kq1 nin0
  replace K0 := K0.trans Kq1 all0
  have ne_b1_1_b2_1 := gq1_4
  have ne_b1_1_b12_1 := gq1_5
  have ne_b1_1_b22_1 := gq1_6
  have ne_b2_1_b12_1 := gq1_7
  have ne_b2_1_b22_1 := gq1_8
  have ne_b12_1_b22_1 := gq1_9
  have E_b1_1 := gq1_10
  have V_b1_1 := gq1_11
  have E_b2_1 := gq1_12
  have V_b2_1 := gq1_13
  have E_b12_1 := gq1_14
  have V_b12_1 := gq1_15
  have E_b22_1 := gq1_16
  have V_b22_1 := gq1_17
  replace Z0 := Nat.le_trans Z0 Kq1.1
  refine own_astoreN X1 hx hby rfl (L' := #[.val (.ref o0), .val (.double (0 : UInt64)), .second, .val (.ref b1_1), .unset, .unset, .unset]) rfl d6_8 (pc' := 9) rfl ?_
  refine own_aloadN X1 hx hby rfl rfl d6_9 (pc' := 10) rfl ?_
  refine own_alen X1 hx hby hZ eH1 V_b1_1 (z := (3 : Int32)) (by first | rfl | decide) d6_10 (pc' := 11) rfl ?_
  refine own_istore X1 hx hby (L' := #[.val (.ref o0), .val (.double (0 : UInt64)), .second, .val (.ref b1_1), .val (.int (3 : Int32)), .unset, .unset]) rfl d6_11 (pc' := 13) rfl ?_
  refine own_iconst X1 hx hby (v := (0 : Int32)) (by decide) d6_13 (pc' := 14) rfl ?_
  refine own_istore X1 hx hby (L' := #[.val (.ref o0), .val (.double (0 : UInt64)), .second, .val (.ref b1_1), .val (.int (3 : Int32)), .val (.int (0 : Int32)), .unset]) rfl d6_14 (pc' := 16) rfl ?_
  refine own_iload X1 hx hby rfl d6_16 (pc' := 18) rfl ?_
  refine own_iload X1 hx hby rfl d6_18 (pc' := 20) rfl ?_
  refine own_icF X1 hx hby d6_20 (by decide) (pc' := 23) rfl ?_
  refine own_aloadN X1 hx hby rfl rfl d6_23 (pc' := 24) rfl ?_
  refine own_iload X1 hx hby rfl d6_24 (pc' := 26) rfl ?_
  refine own_aaload X1 hx hby hZ eH1 V_b1_1 rfl (by decide) (v := (.ref b2_1)) rfl d6_26 (pc' := 27) rfl ?_
  refine own_astore X1 hx hby rfl (L' := #[.val (.ref o0), .val (.double (0 : UInt64)), .second, .val (.ref b1_1), .val (.int (3 : Int32)), .val (.int (0 : Int32)), .val (.ref b2_1)]) rfl d6_27 (pc' := 29) rfl ?_
  refine own_aload X1 hx hby rfl rfl d6_29 (pc' := 31) rfl ?_
  refine own_iconst X1 hx hby (v := (2 : Int32)) (by decide) d6_31 (pc' := 32) rfl ?_
  refine own_daload X1 hx hby hZ eH1 V_b2_1 (by decide) (v := (.double right_o0)) rfl d6_32 (pc' := 33) rfl ?_
  refine own_aload X1 hx hby rfl rfl d6_33 (pc' := 35) rfl ?_
  refine own_iconst X1 hx hby (v := (0 : Int32)) (by decide) d6_35 (pc' := 36) rfl ?_
  refine own_daload X1 hx hby hZ eH1 V_b2_1 (by decide) (v := (.double left_o0)) rfl d6_36 (pc' := 37) rfl ?_
  refine own_dcmp X1 hx hby rfl d6_37 (pc' := 38) rfl ?_
  refine own_join (S' := T1.setTop (mkF m 75 #[.val (.ref o0), .val (.double (if dgt right_o0 left_o0 then (if dgt top_o0 bottom_o0 then (FP.dadd (0 : UInt64) (FP.dmul (FP.dsub right_o0 left_o0) (FP.dsub top_o0 bottom_o0))) else (0 : UInt64)) else (0 : UInt64))), .second, .val (.ref b1_1), .val (.int (3 : Int32)), .val (.int (0 : Int32)), .val (.ref b2_1)] [])) (fun F' k' => ?_) ?_
  · revert k'; intro k'
    by_cases hc2 : dgt right_o0 left_o0
    · simp only [if_pos hc2] at k'
      refine own_ifF X1 hx hby d6_38 (own_dl_le_p hc2) (pc' := 41) rfl ?_
      refine own_aload X1 hx hby rfl rfl d6_41 (pc' := 43) rfl ?_
      refine own_iconst X1 hx hby (v := (3 : Int32)) (by decide) d6_43 (pc' := 44) rfl ?_
      refine own_daload X1 hx hby hZ eH1 V_b2_1 (by decide) (v := (.double top_o0)) rfl d6_44 (pc' := 45) rfl ?_
      refine own_aload X1 hx hby rfl rfl d6_45 (pc' := 47) rfl ?_
      refine own_iconst X1 hx hby (v := (1 : Int32)) (by decide) d6_47 (pc' := 48) rfl ?_
      refine own_daload X1 hx hby hZ eH1 V_b2_1 (by decide) (v := (.double bottom_o0)) rfl d6_48 (pc' := 49) rfl ?_
      refine own_dcmp X1 hx hby rfl d6_49 (pc' := 50) rfl ?_
      by_cases hc3 : dgt top_o0 bottom_o0
      · simp only [if_pos hc3] at k'
        refine own_ifF X1 hx hby d6_50 (own_dl_le_p hc3) (pc' := 53) rfl ?_
        refine own_dloadN X1 hx hby rfl d6_53 (pc' := 54) rfl ?_
        refine own_aload X1 hx hby rfl rfl d6_54 (pc' := 56) rfl ?_
        refine own_iconst X1 hx hby (v := (2 : Int32)) (by decide) d6_56 (pc' := 57) rfl ?_
        refine own_daload X1 hx hby hZ eH1 V_b2_1 (by decide) (v := (.double right_o0)) rfl d6_57 (pc' := 58) rfl ?_
        refine own_aload X1 hx hby rfl rfl d6_58 (pc' := 60) rfl ?_
        refine own_iconst X1 hx hby (v := (0 : Int32)) (by decide) d6_60 (pc' := 61) rfl ?_
        refine own_daload X1 hx hby hZ eH1 V_b2_1 (by decide) (v := (.double left_o0)) rfl d6_61 (pc' := 62) rfl ?_
        refine own_dsub X1 hx hby (hn62_1 hc2 hc3) rfl d6_62 (pc' := 63) rfl ?_
        refine own_aload X1 hx hby rfl rfl d6_63 (pc' := 65) rfl ?_
        refine own_iconst X1 hx hby (v := (3 : Int32)) (by decide) d6_65 (pc' := 66) rfl ?_
        refine own_daload X1 hx hby hZ eH1 V_b2_1 (by decide) (v := (.double top_o0)) rfl d6_66 (pc' := 67) rfl ?_
        refine own_aload X1 hx hby rfl rfl d6_67 (pc' := 69) rfl ?_
        refine own_iconst X1 hx hby (v := (1 : Int32)) (by decide) d6_69 (pc' := 70) rfl ?_
        refine own_daload X1 hx hby hZ eH1 V_b2_1 (by decide) (v := (.double bottom_o0)) rfl d6_70 (pc' := 71) rfl ?_
        refine own_dsub X1 hx hby (hn71_1 hc2 hc3) rfl d6_71 (pc' := 72) rfl ?_
        refine own_dmul X1 hx hby (hn72_1 hc2 hc3) rfl d6_72 (pc' := 73) rfl ?_
        refine own_dadd X1 hx hby (hn73_1 hc2 hc3) rfl d6_73 (pc' := 74) rfl ?_
        refine own_dstoreN X1 hx hby (L' := #[.val (.ref o0), .val (.double (FP.dadd (0 : UInt64) (FP.dmul (FP.dsub right_o0 left_o0) (FP.dsub top_o0 bottom_o0)))), .second, .val (.ref b1_1), .val (.int (3 : Int32)), .val (.int (0 : Int32)), .val (.ref b2_1)]) rfl d6_74 (pc' := 75) rfl ?_
        exact k'
      · simp only [if_neg hc3] at k'
        refine own_ifT X1 hx hby d6_50 (own_dl_le_n hc3) (by decide) (pc' := 75) (by decide) ?_
        exact k'
    · simp only [if_neg hc2] at k'
      refine own_ifT X1 hx hby d6_38 (own_dl_le_n hc2) (by decide) (pc' := 75) (by decide) ?_
      exact k'
  refine own_iinc X1 hx hby rfl (L' := #[.val (.ref o0), .val (.double (if dgt right_o0 left_o0 then (if dgt top_o0 bottom_o0 then (FP.dadd (0 : UInt64) (FP.dmul (FP.dsub right_o0 left_o0) (FP.dsub top_o0 bottom_o0))) else (0 : UInt64)) else (0 : UInt64))), .second, .val (.ref b1_1), .val (.int (3 : Int32)), .val (.int (1 : Int32)), .val (.ref b2_1)]) rfl d6_75 (pc' := 78) rfl ?_
  refine own_goto X1 hx hby d6_78 (by decide) (pc' := 16) (by decide) ?_
  refine own_iload X1 hx hby rfl d6_16 (pc' := 18) rfl ?_
  refine own_iload X1 hx hby rfl d6_18 (pc' := 20) rfl ?_
  refine own_icF X1 hx hby d6_20 (by decide) (pc' := 23) rfl ?_
  refine own_aloadN X1 hx hby rfl rfl d6_23 (pc' := 24) rfl ?_
  refine own_iload X1 hx hby rfl d6_24 (pc' := 26) rfl ?_
  refine own_aaload X1 hx hby hZ eH1 V_b1_1 rfl (by decide) (v := (.ref b12_1)) rfl d6_26 (pc' := 27) rfl ?_
  refine own_astore X1 hx hby rfl (L' := #[.val (.ref o0), .val (.double (if dgt right_o0 left_o0 then (if dgt top_o0 bottom_o0 then (FP.dadd (0 : UInt64) (FP.dmul (FP.dsub right_o0 left_o0) (FP.dsub top_o0 bottom_o0))) else (0 : UInt64)) else (0 : UInt64))), .second, .val (.ref b1_1), .val (.int (3 : Int32)), .val (.int (1 : Int32)), .val (.ref b12_1)]) rfl d6_27 (pc' := 29) rfl ?_
  refine own_aload X1 hx hby rfl rfl d6_29 (pc' := 31) rfl ?_
  refine own_iconst X1 hx hby (v := (2 : Int32)) (by decide) d6_31 (pc' := 32) rfl ?_
  refine own_daload X1 hx hby hZ eH1 V_b12_1 (by decide) (v := (.double leftLegRight_o0)) rfl d6_32 (pc' := 33) rfl ?_
  refine own_aload X1 hx hby rfl rfl d6_33 (pc' := 35) rfl ?_
  refine own_iconst X1 hx hby (v := (0 : Int32)) (by decide) d6_35 (pc' := 36) rfl ?_
  refine own_daload X1 hx hby hZ eH1 V_b12_1 (by decide) (v := (.double left_o0)) rfl d6_36 (pc' := 37) rfl ?_
  refine own_dcmp X1 hx hby rfl d6_37 (pc' := 38) rfl ?_
  refine own_join (S' := T1.setTop (mkF m 75 #[.val (.ref o0), .val (.double (if dgt leftLegRight_o0 left_o0 then (if dgt bottom_o0 leftFoot_o0 then (FP.dadd (if dgt right_o0 left_o0 then (if dgt top_o0 bottom_o0 then (FP.dadd (0 : UInt64) (FP.dmul (FP.dsub right_o0 left_o0) (FP.dsub top_o0 bottom_o0))) else (0 : UInt64)) else (0 : UInt64)) (FP.dmul (FP.dsub leftLegRight_o0 left_o0) (FP.dsub bottom_o0 leftFoot_o0))) else (if dgt right_o0 left_o0 then (if dgt top_o0 bottom_o0 then (FP.dadd (0 : UInt64) (FP.dmul (FP.dsub right_o0 left_o0) (FP.dsub top_o0 bottom_o0))) else (0 : UInt64)) else (0 : UInt64))) else (if dgt right_o0 left_o0 then (if dgt top_o0 bottom_o0 then (FP.dadd (0 : UInt64) (FP.dmul (FP.dsub right_o0 left_o0) (FP.dsub top_o0 bottom_o0))) else (0 : UInt64)) else (0 : UInt64)))), .second, .val (.ref b1_1), .val (.int (3 : Int32)), .val (.int (1 : Int32)), .val (.ref b12_1)] [])) (fun F' k' => ?_) ?_
  · revert k'; intro k'
    by_cases hc4 : dgt leftLegRight_o0 left_o0
    · simp only [if_pos hc4] at k'
      refine own_ifF X1 hx hby d6_38 (own_dl_le_p hc4) (pc' := 41) rfl ?_
      refine own_aload X1 hx hby rfl rfl d6_41 (pc' := 43) rfl ?_
      refine own_iconst X1 hx hby (v := (3 : Int32)) (by decide) d6_43 (pc' := 44) rfl ?_
      refine own_daload X1 hx hby hZ eH1 V_b12_1 (by decide) (v := (.double bottom_o0)) rfl d6_44 (pc' := 45) rfl ?_
      refine own_aload X1 hx hby rfl rfl d6_45 (pc' := 47) rfl ?_
      refine own_iconst X1 hx hby (v := (1 : Int32)) (by decide) d6_47 (pc' := 48) rfl ?_
      refine own_daload X1 hx hby hZ eH1 V_b12_1 (by decide) (v := (.double leftFoot_o0)) rfl d6_48 (pc' := 49) rfl ?_
      refine own_dcmp X1 hx hby rfl d6_49 (pc' := 50) rfl ?_
      by_cases hc5 : dgt bottom_o0 leftFoot_o0
      · simp only [if_pos hc5] at k'
        refine own_ifF X1 hx hby d6_50 (own_dl_le_p hc5) (pc' := 53) rfl ?_
        refine own_dloadN X1 hx hby rfl d6_53 (pc' := 54) rfl ?_
        refine own_aload X1 hx hby rfl rfl d6_54 (pc' := 56) rfl ?_
        refine own_iconst X1 hx hby (v := (2 : Int32)) (by decide) d6_56 (pc' := 57) rfl ?_
        refine own_daload X1 hx hby hZ eH1 V_b12_1 (by decide) (v := (.double leftLegRight_o0)) rfl d6_57 (pc' := 58) rfl ?_
        refine own_aload X1 hx hby rfl rfl d6_58 (pc' := 60) rfl ?_
        refine own_iconst X1 hx hby (v := (0 : Int32)) (by decide) d6_60 (pc' := 61) rfl ?_
        refine own_daload X1 hx hby hZ eH1 V_b12_1 (by decide) (v := (.double left_o0)) rfl d6_61 (pc' := 62) rfl ?_
        refine own_dsub X1 hx hby (hn62_2 hc4 hc5) rfl d6_62 (pc' := 63) rfl ?_
        refine own_aload X1 hx hby rfl rfl d6_63 (pc' := 65) rfl ?_
        refine own_iconst X1 hx hby (v := (3 : Int32)) (by decide) d6_65 (pc' := 66) rfl ?_
        refine own_daload X1 hx hby hZ eH1 V_b12_1 (by decide) (v := (.double bottom_o0)) rfl d6_66 (pc' := 67) rfl ?_
        refine own_aload X1 hx hby rfl rfl d6_67 (pc' := 69) rfl ?_
        refine own_iconst X1 hx hby (v := (1 : Int32)) (by decide) d6_69 (pc' := 70) rfl ?_
        refine own_daload X1 hx hby hZ eH1 V_b12_1 (by decide) (v := (.double leftFoot_o0)) rfl d6_70 (pc' := 71) rfl ?_
        refine own_dsub X1 hx hby (hn71_2 hc4 hc5) rfl d6_71 (pc' := 72) rfl ?_
        refine own_dmul X1 hx hby (hn72_2 hc4 hc5) rfl d6_72 (pc' := 73) rfl ?_
        refine own_dadd X1 hx hby (hn73_2 hc4 hc5) rfl d6_73 (pc' := 74) rfl ?_
        refine own_dstoreN X1 hx hby (L' := #[.val (.ref o0), .val (.double (FP.dadd (if dgt right_o0 left_o0 then (if dgt top_o0 bottom_o0 then (FP.dadd (0 : UInt64) (FP.dmul (FP.dsub right_o0 left_o0) (FP.dsub top_o0 bottom_o0))) else (0 : UInt64)) else (0 : UInt64)) (FP.dmul (FP.dsub leftLegRight_o0 left_o0) (FP.dsub bottom_o0 leftFoot_o0)))), .second, .val (.ref b1_1), .val (.int (3 : Int32)), .val (.int (1 : Int32)), .val (.ref b12_1)]) rfl d6_74 (pc' := 75) rfl ?_
        exact k'
      · simp only [if_neg hc5] at k'
        refine own_ifT X1 hx hby d6_50 (own_dl_le_n hc5) (by decide) (pc' := 75) (by decide) ?_
        exact k'
    · simp only [if_neg hc4] at k'
      refine own_ifT X1 hx hby d6_38 (own_dl_le_n hc4) (by decide) (pc' := 75) (by decide) ?_
      exact k'
  refine own_iinc X1 hx hby rfl (L' := #[.val (.ref o0), .val (.double (if dgt leftLegRight_o0 left_o0 then (if dgt bottom_o0 leftFoot_o0 then (FP.dadd (if dgt right_o0 left_o0 then (if dgt top_o0 bottom_o0 then (FP.dadd (0 : UInt64) (FP.dmul (FP.dsub right_o0 left_o0) (FP.dsub top_o0 bottom_o0))) else (0 : UInt64)) else (0 : UInt64)) (FP.dmul (FP.dsub leftLegRight_o0 left_o0) (FP.dsub bottom_o0 leftFoot_o0))) else (if dgt right_o0 left_o0 then (if dgt top_o0 bottom_o0 then (FP.dadd (0 : UInt64) (FP.dmul (FP.dsub right_o0 left_o0) (FP.dsub top_o0 bottom_o0))) else (0 : UInt64)) else (0 : UInt64))) else (if dgt right_o0 left_o0 then (if dgt top_o0 bottom_o0 then (FP.dadd (0 : UInt64) (FP.dmul (FP.dsub right_o0 left_o0) (FP.dsub top_o0 bottom_o0))) else (0 : UInt64)) else (0 : UInt64)))), .second, .val (.ref b1_1), .val (.int (3 : Int32)), .val (.int (2 : Int32)), .val (.ref b12_1)]) rfl d6_75 (pc' := 78) rfl ?_
  refine own_goto X1 hx hby d6_78 (by decide) (pc' := 16) (by decide) ?_
  refine own_iload X1 hx hby rfl d6_16 (pc' := 18) rfl ?_
  refine own_iload X1 hx hby rfl d6_18 (pc' := 20) rfl ?_
  refine own_icF X1 hx hby d6_20 (by decide) (pc' := 23) rfl ?_
  refine own_aloadN X1 hx hby rfl rfl d6_23 (pc' := 24) rfl ?_
  refine own_iload X1 hx hby rfl d6_24 (pc' := 26) rfl ?_
  refine own_aaload X1 hx hby hZ eH1 V_b1_1 rfl (by decide) (v := (.ref b22_1)) rfl d6_26 (pc' := 27) rfl ?_
  refine own_astore X1 hx hby rfl (L' := #[.val (.ref o0), .val (.double (if dgt leftLegRight_o0 left_o0 then (if dgt bottom_o0 leftFoot_o0 then (FP.dadd (if dgt right_o0 left_o0 then (if dgt top_o0 bottom_o0 then (FP.dadd (0 : UInt64) (FP.dmul (FP.dsub right_o0 left_o0) (FP.dsub top_o0 bottom_o0))) else (0 : UInt64)) else (0 : UInt64)) (FP.dmul (FP.dsub leftLegRight_o0 left_o0) (FP.dsub bottom_o0 leftFoot_o0))) else (if dgt right_o0 left_o0 then (if dgt top_o0 bottom_o0 then (FP.dadd (0 : UInt64) (FP.dmul (FP.dsub right_o0 left_o0) (FP.dsub top_o0 bottom_o0))) else (0 : UInt64)) else (0 : UInt64))) else (if dgt right_o0 left_o0 then (if dgt top_o0 bottom_o0 then (FP.dadd (0 : UInt64) (FP.dmul (FP.dsub right_o0 left_o0) (FP.dsub top_o0 bottom_o0))) else (0 : UInt64)) else (0 : UInt64)))), .second, .val (.ref b1_1), .val (.int (3 : Int32)), .val (.int (2 : Int32)), .val (.ref b22_1)]) rfl d6_27 (pc' := 29) rfl ?_
  refine own_aload X1 hx hby rfl rfl d6_29 (pc' := 31) rfl ?_
  refine own_iconst X1 hx hby (v := (2 : Int32)) (by decide) d6_31 (pc' := 32) rfl ?_
  refine own_daload X1 hx hby hZ eH1 V_b22_1 (by decide) (v := (.double right_o0)) rfl d6_32 (pc' := 33) rfl ?_
  refine own_aload X1 hx hby rfl rfl d6_33 (pc' := 35) rfl ?_
  refine own_iconst X1 hx hby (v := (0 : Int32)) (by decide) d6_35 (pc' := 36) rfl ?_
  refine own_daload X1 hx hby hZ eH1 V_b22_1 (by decide) (v := (.double rightLegLeft_o0)) rfl d6_36 (pc' := 37) rfl ?_
  refine own_dcmp X1 hx hby rfl d6_37 (pc' := 38) rfl ?_
  refine own_join (S' := T1.setTop (mkF m 75 #[.val (.ref o0), .val (.double (if dgt right_o0 rightLegLeft_o0 then (if dgt bottom_o0 rightFoot_o0 then (FP.dadd (if dgt leftLegRight_o0 left_o0 then (if dgt bottom_o0 leftFoot_o0 then (FP.dadd (if dgt right_o0 left_o0 then (if dgt top_o0 bottom_o0 then (FP.dadd (0 : UInt64) (FP.dmul (FP.dsub right_o0 left_o0) (FP.dsub top_o0 bottom_o0))) else (0 : UInt64)) else (0 : UInt64)) (FP.dmul (FP.dsub leftLegRight_o0 left_o0) (FP.dsub bottom_o0 leftFoot_o0))) else (if dgt right_o0 left_o0 then (if dgt top_o0 bottom_o0 then (FP.dadd (0 : UInt64) (FP.dmul (FP.dsub right_o0 left_o0) (FP.dsub top_o0 bottom_o0))) else (0 : UInt64)) else (0 : UInt64))) else (if dgt right_o0 left_o0 then (if dgt top_o0 bottom_o0 then (FP.dadd (0 : UInt64) (FP.dmul (FP.dsub right_o0 left_o0) (FP.dsub top_o0 bottom_o0))) else (0 : UInt64)) else (0 : UInt64))) (FP.dmul (FP.dsub right_o0 rightLegLeft_o0) (FP.dsub bottom_o0 rightFoot_o0))) else (if dgt leftLegRight_o0 left_o0 then (if dgt bottom_o0 leftFoot_o0 then (FP.dadd (if dgt right_o0 left_o0 then (if dgt top_o0 bottom_o0 then (FP.dadd (0 : UInt64) (FP.dmul (FP.dsub right_o0 left_o0) (FP.dsub top_o0 bottom_o0))) else (0 : UInt64)) else (0 : UInt64)) (FP.dmul (FP.dsub leftLegRight_o0 left_o0) (FP.dsub bottom_o0 leftFoot_o0))) else (if dgt right_o0 left_o0 then (if dgt top_o0 bottom_o0 then (FP.dadd (0 : UInt64) (FP.dmul (FP.dsub right_o0 left_o0) (FP.dsub top_o0 bottom_o0))) else (0 : UInt64)) else (0 : UInt64))) else (if dgt right_o0 left_o0 then (if dgt top_o0 bottom_o0 then (FP.dadd (0 : UInt64) (FP.dmul (FP.dsub right_o0 left_o0) (FP.dsub top_o0 bottom_o0))) else (0 : UInt64)) else (0 : UInt64)))) else (if dgt leftLegRight_o0 left_o0 then (if dgt bottom_o0 leftFoot_o0 then (FP.dadd (if dgt right_o0 left_o0 then (if dgt top_o0 bottom_o0 then (FP.dadd (0 : UInt64) (FP.dmul (FP.dsub right_o0 left_o0) (FP.dsub top_o0 bottom_o0))) else (0 : UInt64)) else (0 : UInt64)) (FP.dmul (FP.dsub leftLegRight_o0 left_o0) (FP.dsub bottom_o0 leftFoot_o0))) else (if dgt right_o0 left_o0 then (if dgt top_o0 bottom_o0 then (FP.dadd (0 : UInt64) (FP.dmul (FP.dsub right_o0 left_o0) (FP.dsub top_o0 bottom_o0))) else (0 : UInt64)) else (0 : UInt64))) else (if dgt right_o0 left_o0 then (if dgt top_o0 bottom_o0 then (FP.dadd (0 : UInt64) (FP.dmul (FP.dsub right_o0 left_o0) (FP.dsub top_o0 bottom_o0))) else (0 : UInt64)) else (0 : UInt64))))), .second, .val (.ref b1_1), .val (.int (3 : Int32)), .val (.int (2 : Int32)), .val (.ref b22_1)] [])) (fun F' k' => ?_) ?_
  · revert k'; intro k'
    by_cases hc6 : dgt right_o0 rightLegLeft_o0
    · simp only [if_pos hc6] at k'
      refine own_ifF X1 hx hby d6_38 (own_dl_le_p hc6) (pc' := 41) rfl ?_
      refine own_aload X1 hx hby rfl rfl d6_41 (pc' := 43) rfl ?_
      refine own_iconst X1 hx hby (v := (3 : Int32)) (by decide) d6_43 (pc' := 44) rfl ?_
      refine own_daload X1 hx hby hZ eH1 V_b22_1 (by decide) (v := (.double bottom_o0)) rfl d6_44 (pc' := 45) rfl ?_
      refine own_aload X1 hx hby rfl rfl d6_45 (pc' := 47) rfl ?_
      refine own_iconst X1 hx hby (v := (1 : Int32)) (by decide) d6_47 (pc' := 48) rfl ?_
      refine own_daload X1 hx hby hZ eH1 V_b22_1 (by decide) (v := (.double rightFoot_o0)) rfl d6_48 (pc' := 49) rfl ?_
      refine own_dcmp X1 hx hby rfl d6_49 (pc' := 50) rfl ?_
      by_cases hc7 : dgt bottom_o0 rightFoot_o0
      · simp only [if_pos hc7] at k'
        refine own_ifF X1 hx hby d6_50 (own_dl_le_p hc7) (pc' := 53) rfl ?_
        refine own_dloadN X1 hx hby rfl d6_53 (pc' := 54) rfl ?_
        refine own_aload X1 hx hby rfl rfl d6_54 (pc' := 56) rfl ?_
        refine own_iconst X1 hx hby (v := (2 : Int32)) (by decide) d6_56 (pc' := 57) rfl ?_
        refine own_daload X1 hx hby hZ eH1 V_b22_1 (by decide) (v := (.double right_o0)) rfl d6_57 (pc' := 58) rfl ?_
        refine own_aload X1 hx hby rfl rfl d6_58 (pc' := 60) rfl ?_
        refine own_iconst X1 hx hby (v := (0 : Int32)) (by decide) d6_60 (pc' := 61) rfl ?_
        refine own_daload X1 hx hby hZ eH1 V_b22_1 (by decide) (v := (.double rightLegLeft_o0)) rfl d6_61 (pc' := 62) rfl ?_
        refine own_dsub X1 hx hby (hn62_3 hc6 hc7) rfl d6_62 (pc' := 63) rfl ?_
        refine own_aload X1 hx hby rfl rfl d6_63 (pc' := 65) rfl ?_
        refine own_iconst X1 hx hby (v := (3 : Int32)) (by decide) d6_65 (pc' := 66) rfl ?_
        refine own_daload X1 hx hby hZ eH1 V_b22_1 (by decide) (v := (.double bottom_o0)) rfl d6_66 (pc' := 67) rfl ?_
        refine own_aload X1 hx hby rfl rfl d6_67 (pc' := 69) rfl ?_
        refine own_iconst X1 hx hby (v := (1 : Int32)) (by decide) d6_69 (pc' := 70) rfl ?_
        refine own_daload X1 hx hby hZ eH1 V_b22_1 (by decide) (v := (.double rightFoot_o0)) rfl d6_70 (pc' := 71) rfl ?_
        refine own_dsub X1 hx hby (hn71_3 hc6 hc7) rfl d6_71 (pc' := 72) rfl ?_
        refine own_dmul X1 hx hby (hn72_3 hc6 hc7) rfl d6_72 (pc' := 73) rfl ?_
        refine own_dadd X1 hx hby (hn73_3 hc6 hc7) rfl d6_73 (pc' := 74) rfl ?_
        refine own_dstoreN X1 hx hby (L' := #[.val (.ref o0), .val (.double (FP.dadd (if dgt leftLegRight_o0 left_o0 then (if dgt bottom_o0 leftFoot_o0 then (FP.dadd (if dgt right_o0 left_o0 then (if dgt top_o0 bottom_o0 then (FP.dadd (0 : UInt64) (FP.dmul (FP.dsub right_o0 left_o0) (FP.dsub top_o0 bottom_o0))) else (0 : UInt64)) else (0 : UInt64)) (FP.dmul (FP.dsub leftLegRight_o0 left_o0) (FP.dsub bottom_o0 leftFoot_o0))) else (if dgt right_o0 left_o0 then (if dgt top_o0 bottom_o0 then (FP.dadd (0 : UInt64) (FP.dmul (FP.dsub right_o0 left_o0) (FP.dsub top_o0 bottom_o0))) else (0 : UInt64)) else (0 : UInt64))) else (if dgt right_o0 left_o0 then (if dgt top_o0 bottom_o0 then (FP.dadd (0 : UInt64) (FP.dmul (FP.dsub right_o0 left_o0) (FP.dsub top_o0 bottom_o0))) else (0 : UInt64)) else (0 : UInt64))) (FP.dmul (FP.dsub right_o0 rightLegLeft_o0) (FP.dsub bottom_o0 rightFoot_o0)))), .second, .val (.ref b1_1), .val (.int (3 : Int32)), .val (.int (2 : Int32)), .val (.ref b22_1)]) rfl d6_74 (pc' := 75) rfl ?_
        exact k'
      · simp only [if_neg hc7] at k'
        refine own_ifT X1 hx hby d6_50 (own_dl_le_n hc7) (by decide) (pc' := 75) (by decide) ?_
        exact k'
    · simp only [if_neg hc6] at k'
      refine own_ifT X1 hx hby d6_38 (own_dl_le_n hc6) (by decide) (pc' := 75) (by decide) ?_
      exact k'
  refine own_iinc X1 hx hby rfl (L' := #[.val (.ref o0), .val (.double (if dgt right_o0 rightLegLeft_o0 then (if dgt bottom_o0 rightFoot_o0 then (FP.dadd (if dgt leftLegRight_o0 left_o0 then (if dgt bottom_o0 leftFoot_o0 then (FP.dadd (if dgt right_o0 left_o0 then (if dgt top_o0 bottom_o0 then (FP.dadd (0 : UInt64) (FP.dmul (FP.dsub right_o0 left_o0) (FP.dsub top_o0 bottom_o0))) else (0 : UInt64)) else (0 : UInt64)) (FP.dmul (FP.dsub leftLegRight_o0 left_o0) (FP.dsub bottom_o0 leftFoot_o0))) else (if dgt right_o0 left_o0 then (if dgt top_o0 bottom_o0 then (FP.dadd (0 : UInt64) (FP.dmul (FP.dsub right_o0 left_o0) (FP.dsub top_o0 bottom_o0))) else (0 : UInt64)) else (0 : UInt64))) else (if dgt right_o0 left_o0 then (if dgt top_o0 bottom_o0 then (FP.dadd (0 : UInt64) (FP.dmul (FP.dsub right_o0 left_o0) (FP.dsub top_o0 bottom_o0))) else (0 : UInt64)) else (0 : UInt64))) (FP.dmul (FP.dsub right_o0 rightLegLeft_o0) (FP.dsub bottom_o0 rightFoot_o0))) else (if dgt leftLegRight_o0 left_o0 then (if dgt bottom_o0 leftFoot_o0 then (FP.dadd (if dgt right_o0 left_o0 then (if dgt top_o0 bottom_o0 then (FP.dadd (0 : UInt64) (FP.dmul (FP.dsub right_o0 left_o0) (FP.dsub top_o0 bottom_o0))) else (0 : UInt64)) else (0 : UInt64)) (FP.dmul (FP.dsub leftLegRight_o0 left_o0) (FP.dsub bottom_o0 leftFoot_o0))) else (if dgt right_o0 left_o0 then (if dgt top_o0 bottom_o0 then (FP.dadd (0 : UInt64) (FP.dmul (FP.dsub right_o0 left_o0) (FP.dsub top_o0 bottom_o0))) else (0 : UInt64)) else (0 : UInt64))) else (if dgt right_o0 left_o0 then (if dgt top_o0 bottom_o0 then (FP.dadd (0 : UInt64) (FP.dmul (FP.dsub right_o0 left_o0) (FP.dsub top_o0 bottom_o0))) else (0 : UInt64)) else (0 : UInt64)))) else (if dgt leftLegRight_o0 left_o0 then (if dgt bottom_o0 leftFoot_o0 then (FP.dadd (if dgt right_o0 left_o0 then (if dgt top_o0 bottom_o0 then (FP.dadd (0 : UInt64) (FP.dmul (FP.dsub right_o0 left_o0) (FP.dsub top_o0 bottom_o0))) else (0 : UInt64)) else (0 : UInt64)) (FP.dmul (FP.dsub leftLegRight_o0 left_o0) (FP.dsub bottom_o0 leftFoot_o0))) else (if dgt right_o0 left_o0 then (if dgt top_o0 bottom_o0 then (FP.dadd (0 : UInt64) (FP.dmul (FP.dsub right_o0 left_o0) (FP.dsub top_o0 bottom_o0))) else (0 : UInt64)) else (0 : UInt64))) else (if dgt right_o0 left_o0 then (if dgt top_o0 bottom_o0 then (FP.dadd (0 : UInt64) (FP.dmul (FP.dsub right_o0 left_o0) (FP.dsub top_o0 bottom_o0))) else (0 : UInt64)) else (0 : UInt64))))), .second, .val (.ref b1_1), .val (.int (3 : Int32)), .val (.int (3 : Int32)), .val (.ref b22_1)]) rfl d6_75 (pc' := 78) rfl ?_
  refine own_goto X1 hx hby d6_78 (by decide) (pc' := 16) (by decide) ?_
  refine own_iload X1 hx hby rfl d6_16 (pc' := 18) rfl ?_
  refine own_iload X1 hx hby rfl d6_18 (pc' := 20) rfl ?_
  refine own_icT X1 hx hby d6_20 (by decide) (by decide) (pc' := 81) (by decide) ?_
  refine own_dloadN X1 hx hby rfl d6_81 (pc' := 82) rfl ?_
  exact own_retD X1 hx hby hlk hret d6_82 (by decide) (by decide) eH1 ⟨rfl, N1, K0⟩
theorem ef0 (m : MethodId) (x0 : Int32) (x1 : Int32) (x2 : Int32) (x3 : Int32) (x4 : Int32) (x5 : Int32) : entryFrame m #[(.int x0), (.int x1), (.int x2), (.int x3), (.int x4), (.int x5)] maxLocals = mkF m 0 #[.val (.int x0), .val (.int x1), .val (.int x2), .val (.int x3), .val (.int x4), .val (.int x5), .unset, .unset, .unset, .unset, .unset, .unset, .unset, .unset, .unset, .unset, .unset, .unset, .unset, .unset, .unset, .unset, .unset, .unset, .unset, .unset, .unset, .unset, .unset, .unset, .unset, .unset, .unset, .unset, .unset, .unset, .unset] [] := by first | (simp [entryFrame, mkF, argsToLocals, Value.category, maxLocals]; done) | rfl
def Q0 (Z : State) (p0 : Int32) (p1 : Int32) (p2 : Int32) (p3 : Int32) (p4 : Int32) (p5 : Int32) (h0 : Heap) (n0 : Nat) (v : Option Value) (h : Heap) (L : List Loc) : Prop := v = some (.int 1) ∧ Fr n0 L
set_option maxRecDepth 65536 in
set_option maxHeartbeats 40000000 in
theorem rm0 (l : Launch) (Z : State) (a0 : Array Value) (hw : ∀ d ∈ tables_1, d.before a0 Z = true) (ws : List Jvm.Cond) (p0 : Int32) (p1 : Int32) (p2 : Int32) (p3 : Int32) (p4 : Int32) (p5 : Int32) (h0 : Heap) (n0 : Nat) (Z0 : n0 ≤ h0.size) :
    MetFree l x (head1 (Jvm.Cond.code x code maxLocals ret :: ws) room_1) (fun a U => a = #[(.int p0), (.int p1), (.int p2), (.int p3), (.int p4), (.int p5)] ∧ Z.Warmed39 U.vm ∧ U.heap = h0) (fun _ _ _ _ _ => True) (fun _ U o U' => ∃ v L, o = .returned v ∧ Q0 Z p0 p1 p2 p3 p4 p5 h0 n0 v U'.heap L ∧ FrameEnd U o U' L 32 192) := by
  refine MetFree.of_bodySF (plainFor_of_name pn_com_example_dido_dido_HangingRegionRectanglesPinLaw) hisR ?_
  intro p e s m args below meth c s₁ Bd hml0 hP hK
  obtain ⟨rfl, hZ, hh⟩ := hP
  have hx := Bd.exec
  have hby := Bd.bytes
  have hml : c.maxLocals = 37 := hml0
  have hown : s.vm.findClass "com/example/dido/dido/HangingRegionRectanglesPinLaw" = some m.cls := findClass_of_methodNamed Bd.named
  have hnm := (name_of_methodNamed Bd.named Bd.method).1
  have X0 : Stand p l e room_1 s m #[(.int p0), (.int p1), (.int p2), (.int p3), (.int p4), (.int p5)] below meth c s₁ [] 0 0 := Stand.of_body Bd
  have eH0 : s₁.heap = h0 := by rw [← hh, Bd.state]; rfl
  have N0 := Fr.nil n0
  show Gt p.tables e below (fun o U' => ∃ v L, o = .returned v ∧ Q0 Z p0 p1 p2 p3 p4 p5 h0 n0 v U'.heap L ∧ FrameEnd s o U' L 32 192) _
  refine own_cast (ef0 m p0 p1 p2 p3 p4 p5) ?_
  refine own_iconst X0 hx hby (v := (1 : Int32)) (by decide) at_0 (pc' := 1) rfl ?_
  refine own_iloadN X0 hx hby rfl at_1 (pc' := 2) rfl ?_
  refine own_sipush X0 hx hby (v := (1023 : Int32)) (by decide) at_2 (pc' := 5) rfl ?_
  refine own_iand X0 hx hby rfl at_5 (pc' := 6) rfl ?_
  refine own_iadd X0 hx hby rfl at_6 (pc' := 7) rfl ?_
  refine own_i2l X0 hx hby rfl at_7 (pc' := 8) rfl ?_
  generalize q_n1 : (((1 : Int32) + (p1 &&& (1023 : Int32))).toInt64) = n1
  refine own_lstore X0 hx hby (L' := #[.val (.int p0), .val (.int p1), .val (.int p2), .val (.int p3), .val (.int p4), .val (.int p5), .val (.long n1), .second, .unset, .unset, .unset, .unset, .unset, .unset, .unset, .unset, .unset, .unset, .unset, .unset, .unset, .unset, .unset, .unset, .unset, .unset, .unset, .unset, .unset, .unset, .unset, .unset, .unset, .unset, .unset, .unset, .unset]) rfl at_8 (pc' := 10) rfl ?_
  refine own_iconst X0 hx hby (v := (1 : Int32)) (by decide) at_10 (pc' := 11) rfl ?_
  refine own_iloadN X0 hx hby rfl at_11 (pc' := 12) rfl ?_
  refine own_bipush X0 hx hby (v := (10 : Int32)) (by decide) at_12 (pc' := 14) rfl ?_
  refine own_iushr X0 hx hby rfl at_14 (pc' := 15) rfl ?_
  refine own_sipush X0 hx hby (v := (1023 : Int32)) (by decide) at_15 (pc' := 18) rfl ?_
  refine own_iand X0 hx hby rfl at_18 (pc' := 19) rfl ?_
  refine own_iadd X0 hx hby rfl at_19 (pc' := 20) rfl ?_
  refine own_i2l X0 hx hby rfl at_20 (pc' := 21) rfl ?_
  generalize q_n2 : (((1 : Int32) + (((p1.toUInt32 >>> ((10 : Int32) &&& 31).toUInt32).toInt32) &&& (1023 : Int32))).toInt64) = n2
  refine own_lstore X0 hx hby (L' := #[.val (.int p0), .val (.int p1), .val (.int p2), .val (.int p3), .val (.int p4), .val (.int p5), .val (.long n1), .second, .val (.long n2), .second, .unset, .unset, .unset, .unset, .unset, .unset, .unset, .unset, .unset, .unset, .unset, .unset, .unset, .unset, .unset, .unset, .unset, .unset, .unset, .unset, .unset, .unset, .unset, .unset, .unset, .unset, .unset]) rfl at_21 (pc' := 23) rfl ?_
  refine own_lload X0 hx hby rfl at_23 (pc' := 25) rfl ?_
  refine own_lload X0 hx hby rfl at_25 (pc' := 27) rfl ?_
  refine own_ladd X0 hx hby rfl at_27 (pc' := 28) rfl ?_
  refine own_lconst X0 hx hby (v := (1 : Int64)) (by decide) at_28 (pc' := 29) rfl ?_
  refine own_ladd X0 hx hby rfl at_29 (pc' := 30) rfl ?_
  refine own_iloadN X0 hx hby rfl at_30 (pc' := 31) rfl ?_
  refine own_bipush X0 hx hby (v := (20 : Int32)) (by decide) at_31 (pc' := 33) rfl ?_
  refine own_iushr X0 hx hby rfl at_33 (pc' := 34) rfl ?_
  refine own_sipush X0 hx hby (v := (255 : Int32)) (by decide) at_34 (pc' := 37) rfl ?_
  refine own_iand X0 hx hby rfl at_37 (pc' := 38) rfl ?_
  refine own_i2l X0 hx hby rfl at_38 (pc' := 39) rfl ?_
  refine own_ladd X0 hx hby rfl at_39 (pc' := 40) rfl ?_
  generalize q_n3 : (((n1 + n2) + (1 : Int64)) + ((((p1.toUInt32 >>> ((20 : Int32) &&& 31).toUInt32).toInt32) &&& (255 : Int32)).toInt64)) = n3
  refine own_lstore X0 hx hby (L' := #[.val (.int p0), .val (.int p1), .val (.int p2), .val (.int p3), .val (.int p4), .val (.int p5), .val (.long n1), .second, .val (.long n2), .second, .val (.long n3), .second, .unset, .unset, .unset, .unset, .unset, .unset, .unset, .unset, .unset, .unset, .unset, .unset, .unset, .unset, .unset, .unset, .unset, .unset, .unset, .unset, .unset, .unset, .unset, .unset, .unset]) rfl at_40 (pc' := 42) rfl ?_
  refine own_iloadN X0 hx hby rfl at_42 (pc' := 43) rfl ?_
  refine own_i2l X0 hx hby rfl at_43 (pc' := 44) rfl ?_
  generalize q_n4 : (p0.toInt64) = n4
  refine own_lstore X0 hx hby (L' := #[.val (.int p0), .val (.int p1), .val (.int p2), .val (.int p3), .val (.int p4), .val (.int p5), .val (.long n1), .second, .val (.long n2), .second, .val (.long n3), .second, .val (.long n4), .second, .unset, .unset, .unset, .unset, .unset, .unset, .unset, .unset, .unset, .unset, .unset, .unset, .unset, .unset, .unset, .unset, .unset, .unset, .unset, .unset, .unset, .unset, .unset]) rfl at_44 (pc' := 46) rfl ?_
  refine own_lload X0 hx hby rfl at_46 (pc' := 48) rfl ?_
  refine own_lload X0 hx hby rfl at_48 (pc' := 50) rfl ?_
  refine own_ladd X0 hx hby rfl at_50 (pc' := 51) rfl ?_
  generalize q_n5 : (n4 + n3) = n5
  refine own_lstore X0 hx hby (L' := #[.val (.int p0), .val (.int p1), .val (.int p2), .val (.int p3), .val (.int p4), .val (.int p5), .val (.long n1), .second, .val (.long n2), .second, .val (.long n3), .second, .val (.long n4), .second, .val (.long n5), .second, .unset, .unset, .unset, .unset, .unset, .unset, .unset, .unset, .unset, .unset, .unset, .unset, .unset, .unset, .unset, .unset, .unset, .unset, .unset, .unset, .unset]) rfl at_51 (pc' := 53) rfl ?_
  refine own_lload X0 hx hby rfl at_53 (pc' := 55) rfl ?_
  refine own_lload X0 hx hby rfl at_55 (pc' := 57) rfl ?_
  refine own_ladd X0 hx hby rfl at_57 (pc' := 58) rfl ?_
  generalize q_n6 : (n4 + n1) = n6
  refine own_lstore X0 hx hby (L' := #[.val (.int p0), .val (.int p1), .val (.int p2), .val (.int p3), .val (.int p4), .val (.int p5), .val (.long n1), .second, .val (.long n2), .second, .val (.long n3), .second, .val (.long n4), .second, .val (.long n5), .second, .val (.long n6), .second, .unset, .unset, .unset, .unset, .unset, .unset, .unset, .unset, .unset, .unset, .unset, .unset, .unset, .unset, .unset, .unset, .unset, .unset, .unset]) rfl at_58 (pc' := 60) rfl ?_
  refine own_lload X0 hx hby rfl at_60 (pc' := 62) rfl ?_
  refine own_lload X0 hx hby rfl at_62 (pc' := 64) rfl ?_
  refine own_lsub X0 hx hby rfl at_64 (pc' := 65) rfl ?_
  generalize q_n7 : (n5 - n2) = n7
  refine own_lstore X0 hx hby (L' := #[.val (.int p0), .val (.int p1), .val (.int p2), .val (.int p3), .val (.int p4), .val (.int p5), .val (.long n1), .second, .val (.long n2), .second, .val (.long n3), .second, .val (.long n4), .second, .val (.long n5), .second, .val (.long n6), .second, .val (.long n7), .second, .unset, .unset, .unset, .unset, .unset, .unset, .unset, .unset, .unset, .unset, .unset, .unset, .unset, .unset, .unset, .unset, .unset]) rfl at_65 (pc' := 67) rfl ?_
  refine own_iloadN X0 hx hby rfl at_67 (pc' := 68) rfl ?_
  refine own_i2l X0 hx hby rfl at_68 (pc' := 69) rfl ?_
  generalize q_n8 : (p2.toInt64) = n8
  refine own_lstore X0 hx hby (L' := #[.val (.int p0), .val (.int p1), .val (.int p2), .val (.int p3), .val (.int p4), .val (.int p5), .val (.long n1), .second, .val (.long n2), .second, .val (.long n3), .second, .val (.long n4), .second, .val (.long n5), .second, .val (.long n6), .second, .val (.long n7), .second, .val (.long n8), .second, .unset, .unset, .unset, .unset, .unset, .unset, .unset, .unset, .unset, .unset, .unset, .unset, .unset, .unset, .unset]) rfl at_69 (pc' := 71) rfl ?_
  refine own_lload X0 hx hby rfl at_71 (pc' := 73) rfl ?_
  refine own_lconst X0 hx hby (v := (1 : Int64)) (by decide) at_73 (pc' := 74) rfl ?_
  refine own_ladd X0 hx hby rfl at_74 (pc' := 75) rfl ?_
  refine own_iloadN X0 hx hby rfl at_75 (pc' := 76) rfl ?_
  refine own_i2l X0 hx hby rfl at_76 (pc' := 77) rfl ?_
  refine own_ldc2L X0 hx hby hZ hown (hw _ (List.mem_of_getElem? (i := 0) rfl)) at_77 (pc' := 80) rfl ?_
  refine own_land X0 hx hby rfl at_80 (pc' := 81) rfl ?_
  refine own_ladd X0 hx hby rfl at_81 (pc' := 82) rfl ?_
  generalize q_n9 : ((n8 + (1 : Int64)) + ((p3.toInt64) &&& (2147483647 : Int64))) = n9
  refine own_lstore X0 hx hby (L' := #[.val (.int p0), .val (.int p1), .val (.int p2), .val (.int p3), .val (.int p4), .val (.int p5), .val (.long n1), .second, .val (.long n2), .second, .val (.long n3), .second, .val (.long n4), .second, .val (.long n5), .second, .val (.long n6), .second, .val (.long n7), .second, .val (.long n8), .second, .val (.long n9), .second, .unset, .unset, .unset, .unset, .unset, .unset, .unset, .unset, .unset, .unset, .unset, .unset, .unset]) rfl at_82 (pc' := 84) rfl ?_
  refine own_lload X0 hx hby rfl at_84 (pc' := 86) rfl ?_
  refine own_iload X0 hx hby rfl at_86 (pc' := 88) rfl ?_
  refine own_i2l X0 hx hby rfl at_88 (pc' := 89) rfl ?_
  refine own_ladd X0 hx hby rfl at_89 (pc' := 90) rfl ?_
  generalize q_n10 : (n8 + (p4.toInt64)) = n10
  refine own_lstore X0 hx hby (L' := #[.val (.int p0), .val (.int p1), .val (.int p2), .val (.int p3), .val (.int p4), .val (.int p5), .val (.long n1), .second, .val (.long n2), .second, .val (.long n3), .second, .val (.long n4), .second, .val (.long n5), .second, .val (.long n6), .second, .val (.long n7), .second, .val (.long n8), .second, .val (.long n9), .second, .val (.long n10), .second, .unset, .unset, .unset, .unset, .unset, .unset, .unset, .unset, .unset, .unset, .unset]) rfl at_90 (pc' := 92) rfl ?_
  refine own_lload X0 hx hby rfl at_92 (pc' := 94) rfl ?_
  refine own_iload X0 hx hby rfl at_94 (pc' := 96) rfl ?_
  refine own_i2l X0 hx hby rfl at_96 (pc' := 97) rfl ?_
  refine own_ladd X0 hx hby rfl at_97 (pc' := 98) rfl ?_
  generalize q_n11 : (n8 + (p5.toInt64)) = n11
  refine own_lstore X0 hx hby (L' := #[.val (.int p0), .val (.int p1), .val (.int p2), .val (.int p3), .val (.int p4), .val (.int p5), .val (.long n1), .second, .val (.long n2), .second, .val (.long n3), .second, .val (.long n4), .second, .val (.long n5), .second, .val (.long n6), .second, .val (.long n7), .second, .val (.long n8), .second, .val (.long n9), .second, .val (.long n10), .second, .val (.long n11), .second, .unset, .unset, .unset, .unset, .unset, .unset, .unset, .unset, .unset]) rfl at_98 (pc' := 100) rfl ?_
  have G := own_geo q_n1 q_n2 q_n3 q_n4 q_n5 q_n6 q_n7 q_n8 q_n9 q_n10 q_n11
  have e_n1 := G.1
  have e_n2 := G.2.1
  have e_n3 := G.2.2.1
  have e_n4 := G.2.2.2.1
  have e_n5 := G.2.2.2.2.1
  have e_n6 := G.2.2.2.2.2.1
  have e_n7 := G.2.2.2.2.2.2.1
  have e_n8 := G.2.2.2.2.2.2.2.1
  have e_n9 := G.2.2.2.2.2.2.2.2.1
  have e_n10 := G.2.2.2.2.2.2.2.2.2.1
  have e_n11 := G.2.2.2.2.2.2.2.2.2.2.1
  have b_n1 : -9007199254740992 < n1.toInt ∧ n1.toInt < 9007199254740992 := by rw [e_n1]; have h1 := G.2.2.2.2.2.2.2.2.2.2.2.1; have h2 := G.2.2.2.2.2.2.2.2.2.2.2.2.1; have h3 := G.2.2.2.2.2.2.2.2.2.2.2.2.2; exact own_bd_lw h1 h2 h3
  have b_n2 : -9007199254740992 < n2.toInt ∧ n2.toInt < 9007199254740992 := by rw [e_n2]; have h1 := G.2.2.2.2.2.2.2.2.2.2.2.1; have h2 := G.2.2.2.2.2.2.2.2.2.2.2.2.1; have h3 := G.2.2.2.2.2.2.2.2.2.2.2.2.2; exact own_bd_rv h1 h2 h3
  have b_n3 : -9007199254740992 < n3.toInt ∧ n3.toInt < 9007199254740992 := by rw [e_n3]; have h1 := G.2.2.2.2.2.2.2.2.2.2.2.1; have h2 := G.2.2.2.2.2.2.2.2.2.2.2.2.1; have h3 := G.2.2.2.2.2.2.2.2.2.2.2.2.2; exact own_bd_w h1 h2 h3
  have b_n4 : -9007199254740992 < n4.toInt ∧ n4.toInt < 9007199254740992 := by rw [e_n4]; have h1 := G.2.2.2.2.2.2.2.2.2.2.2.1; have h2 := G.2.2.2.2.2.2.2.2.2.2.2.2.1; have h3 := G.2.2.2.2.2.2.2.2.2.2.2.2.2; exact own_bd_l h1 h2 h3
  have b_n5 : -9007199254740992 < n5.toInt ∧ n5.toInt < 9007199254740992 := by rw [e_n5]; have h1 := G.2.2.2.2.2.2.2.2.2.2.2.1; have h2 := G.2.2.2.2.2.2.2.2.2.2.2.2.1; have h3 := G.2.2.2.2.2.2.2.2.2.2.2.2.2; exact own_bd_r h1 h2 h3
  have b_n6 : -9007199254740992 < n6.toInt ∧ n6.toInt < 9007199254740992 := by rw [e_n6]; have h1 := G.2.2.2.2.2.2.2.2.2.2.2.1; have h2 := G.2.2.2.2.2.2.2.2.2.2.2.2.1; have h3 := G.2.2.2.2.2.2.2.2.2.2.2.2.2; exact own_bd_llr h1 h2 h3
  have b_n7 : -9007199254740992 < n7.toInt ∧ n7.toInt < 9007199254740992 := by rw [e_n7]; have h1 := G.2.2.2.2.2.2.2.2.2.2.2.1; have h2 := G.2.2.2.2.2.2.2.2.2.2.2.2.1; have h3 := G.2.2.2.2.2.2.2.2.2.2.2.2.2; exact own_bd_rll h1 h2 h3
  have b_n8 : -9007199254740992 < n8.toInt ∧ n8.toInt < 9007199254740992 := by rw [e_n8]; have h1 := G.2.2.2.2.2.2.2.2.2.2.2.1; have h2 := G.2.2.2.2.2.2.2.2.2.2.2.2.1; have h3 := G.2.2.2.2.2.2.2.2.2.2.2.2.2; exact own_bd_b h1 h2 h3
  have b_n9 : -9007199254740992 < n9.toInt ∧ n9.toInt < 9007199254740992 := by rw [e_n9]; have h1 := G.2.2.2.2.2.2.2.2.2.2.2.1; have h2 := G.2.2.2.2.2.2.2.2.2.2.2.2.1; have h3 := G.2.2.2.2.2.2.2.2.2.2.2.2.2; exact own_bd_t h1 h2 h3
  have b_n10 : -9007199254740992 < n10.toInt ∧ n10.toInt < 9007199254740992 := by rw [e_n10]; have h1 := G.2.2.2.2.2.2.2.2.2.2.2.1; have h2 := G.2.2.2.2.2.2.2.2.2.2.2.2.1; have h3 := G.2.2.2.2.2.2.2.2.2.2.2.2.2; exact own_bd_lf h1 h2 h3
  have b_n11 : -9007199254740992 < n11.toInt ∧ n11.toInt < 9007199254740992 := by rw [e_n11]; have h1 := G.2.2.2.2.2.2.2.2.2.2.2.1; have h2 := G.2.2.2.2.2.2.2.2.2.2.2.2.1; have h3 := G.2.2.2.2.2.2.2.2.2.2.2.2.2; exact own_bd_rf h1 h2 h3
  refine own_newO X0 hx hby hZ hown (hw _ (List.mem_of_getElem? (i := 1) rfl)) (hw _ (List.mem_of_getElem? (i := 2) rfl)) (hw _ (List.mem_of_getElem? (i := 3) rfl)) eH0 at_100 (pc' := 103) rfl (by decide) (by decide) (fun T12 h12 b12 X12 eH12 E12 g12 E_b12 D12 => ?_)
  have g_b12 : n0 ≤ b12 := g12 ▸ Z0
  replace Z0 := Nat.le_trans Z0 E12.1
  have F_b12_left : Fld Z h12 b12 "com/example/dido/dido/HangingRegion" "left" "D" (.double (0 : UInt64)) := D12 (Or.inr (hw _ (List.mem_of_getElem? (i := 16) rfl))) (ty := .double) (by decide)
  have F_b12_leftLegRight : Fld Z h12 b12 "com/example/dido/dido/HangingRegion" "leftLegRight" "D" (.double (0 : UInt64)) := D12 (Or.inr (hw _ (List.mem_of_getElem? (i := 18) rfl))) (ty := .double) (by decide)
  have F_b12_rightLegLeft : Fld Z h12 b12 "com/example/dido/dido/HangingRegion" "rightLegLeft" "D" (.double (0 : UInt64)) := D12 (Or.inr (hw _ (List.mem_of_getElem? (i := 20) rfl))) (ty := .double) (by decide)
  have F_b12_right : Fld Z h12 b12 "com/example/dido/dido/HangingRegion" "right" "D" (.double (0 : UInt64)) := D12 (Or.inr (hw _ (List.mem_of_getElem? (i := 22) rfl))) (ty := .double) (by decide)
  have F_b12_leftFoot : Fld Z h12 b12 "com/example/dido/dido/HangingRegion" "leftFoot" "D" (.double (0 : UInt64)) := D12 (Or.inr (hw _ (List.mem_of_getElem? (i := 24) rfl))) (ty := .double) (by decide)
  have F_b12_rightFoot : Fld Z h12 b12 "com/example/dido/dido/HangingRegion" "rightFoot" "D" (.double (0 : UInt64)) := D12 (Or.inr (hw _ (List.mem_of_getElem? (i := 26) rfl))) (ty := .double) (by decide)
  have F_b12_bottom : Fld Z h12 b12 "com/example/dido/dido/HangingRegion" "bottom" "D" (.double (0 : UInt64)) := D12 (Or.inr (hw _ (List.mem_of_getElem? (i := 28) rfl))) (ty := .double) (by decide)
  have F_b12_top : Fld Z h12 b12 "com/example/dido/dido/HangingRegion" "top" "D" (.double (0 : UInt64)) := D12 (Or.inr (hw _ (List.mem_of_getElem? (i := 30) rfl))) (ty := .double) (by decide)
  refine own_dup X12 hx hby rfl at_103 (pc' := 104) rfl ?_
  refine own_lload X12 hx hby rfl at_104 (pc' := 106) rfl ?_
  obtain ⟨v13, q_v13⟩ : ∃ z : UInt64, (FP.l2d n4) = z := ⟨_, rfl⟩
  have D_v13 : Dy v13 n4.toInt 0 := q_v13 ▸ dy_l2d b_n4.1 b_n4.2
  refine own_l2d X12 hx hby q_v13 at_106 (pc' := 107) rfl ?_
  refine own_lload X12 hx hby rfl at_107 (pc' := 109) rfl ?_
  obtain ⟨v14, q_v14⟩ : ∃ z : UInt64, (FP.l2d n6) = z := ⟨_, rfl⟩
  have D_v14 : Dy v14 n6.toInt 0 := q_v14 ▸ dy_l2d b_n6.1 b_n6.2
  refine own_l2d X12 hx hby q_v14 at_109 (pc' := 110) rfl ?_
  refine own_lload X12 hx hby rfl at_110 (pc' := 112) rfl ?_
  as_aux_lemma =>
    obtain ⟨v15, q_v15⟩ : ∃ z : UInt64, (FP.l2d n7) = z := ⟨_, rfl⟩
    have D_v15 : Dy v15 n7.toInt 0 := q_v15 ▸ dy_l2d b_n7.1 b_n7.2
    refine own_l2d X12 hx hby q_v15 at_112 (pc' := 113) rfl ?_
    refine own_lload X12 hx hby rfl at_113 (pc' := 115) rfl ?_
    obtain ⟨v16, q_v16⟩ : ∃ z : UInt64, (FP.l2d n5) = z := ⟨_, rfl⟩
    have D_v16 : Dy v16 n5.toInt 0 := q_v16 ▸ dy_l2d b_n5.1 b_n5.2
    refine own_l2d X12 hx hby q_v16 at_115 (pc' := 116) rfl ?_
    refine own_lload X12 hx hby rfl at_116 (pc' := 118) rfl ?_
    obtain ⟨v17, q_v17⟩ : ∃ z : UInt64, (FP.l2d n10) = z := ⟨_, rfl⟩
    have D_v17 : Dy v17 n10.toInt 0 := q_v17 ▸ dy_l2d b_n10.1 b_n10.2
    refine own_l2d X12 hx hby q_v17 at_118 (pc' := 119) rfl ?_
    refine own_lload X12 hx hby rfl at_119 (pc' := 121) rfl ?_
    obtain ⟨v18, q_v18⟩ : ∃ z : UInt64, (FP.l2d n11) = z := ⟨_, rfl⟩
    have D_v18 : Dy v18 n11.toInt 0 := q_v18 ▸ dy_l2d b_n11.1 b_n11.2
    refine own_l2d X12 hx hby q_v18 at_121 (pc' := 122) rfl ?_
    refine own_lload X12 hx hby rfl at_122 (pc' := 124) rfl ?_
    obtain ⟨v19, q_v19⟩ : ∃ z : UInt64, (FP.l2d n8) = z := ⟨_, rfl⟩
    have D_v19 : Dy v19 n8.toInt 0 := q_v19 ▸ dy_l2d b_n8.1 b_n8.2
    refine own_l2d X12 hx hby q_v19 at_124 (pc' := 125) rfl ?_
    refine own_lload X12 hx hby rfl at_125 (pc' := 127) rfl ?_
    obtain ⟨v20, q_v20⟩ : ∃ z : UInt64, (FP.l2d n9) = z := ⟨_, rfl⟩
    have D_v20 : Dy v20 n9.toInt 0 := q_v20 ▸ dy_l2d b_n9.1 b_n9.2
    refine own_l2d X12 hx hby q_v20 at_127 (pc' := 128) rfl ?_
    refine own_special X12 hx hby hZ (y := (⟨"com/example/dido/dido/HangingRegion", "<init>", "(DDDDDDDD)V"⟩ : MethodName)) (rest := [(.ref b12)]) rfl hown (hw _ (List.mem_of_getElem? (i := 4) rfl)) (hw _ (List.mem_of_getElem? (i := 5) rfl)) rfl (hw _ (List.mem_of_getElem? (i := 6) rfl)) (hw _ (List.mem_of_getElem? (i := 3) rfl)) (by decide) (rm1 l Z a0 hw [] b12 v13 v14 v15 v16 v17 v18 v19 v20 (0 : UInt64) (0 : UInt64) (0 : UInt64) (0 : UInt64) (0 : UInt64) (0 : UInt64) (0 : UInt64) (0 : UInt64) h12 n0 Z0 F_b12_left F_b12_leftLegRight F_b12_rightLegLeft F_b12_right F_b12_leftFoot F_b12_rightFoot F_b12_bottom F_b12_top E_b12 g_b12) eH12 (by rw [hml]; rfl) (a := b12) (argsL := [(.double v13), (.double v14), (.double v15), (.double v16), (.double v17), (.double v18), (.double v19), (.double v20)]) rfl (lenOf pd_2 rfl) rfl at_128 (pc' := 131) rfl (by decide) (W := 1) (Nat.le_of_eq rfl) (by decide) (by decide) (by decide) (fun T21 h21 Lc21 v21r X21 eH21 hQ21 => ?_)
    obtain ⟨rfl, Nq21, Kq21, gq21_0, gq21_1, gq21_2, gq21_3, gq21_4, gq21_5, gq21_6, gq21_7, gq21_8⟩ := hQ21
    have N21 := Fr.app N0 Nq21
    replace E_b12 := E_b12.keep Kq21
    have E_b12 := gq21_0
    have F_b12_left := gq21_1
    have F_b12_leftLegRight := gq21_2
    have F_b12_rightLegLeft := gq21_3
    have F_b12_right := gq21_4
    have F_b12_leftFoot := gq21_5
    have F_b12_rightFoot := gq21_6
    have F_b12_bottom := gq21_7
    have F_b12_top := gq21_8
    replace Z0 := Nat.le_trans Z0 Kq21.1
    refine own_astore X21 hx hby rfl (L' := #[.val (.int p0), .val (.int p1), .val (.int p2), .val (.int p3), .val (.int p4), .val (.int p5), .val (.long n1), .second, .val (.long n2), .second, .val (.long n3), .second, .val (.long n4), .second, .val (.long n5), .second, .val (.long n6), .second, .val (.long n7), .second, .val (.long n8), .second, .val (.long n9), .second, .val (.long n10), .second, .val (.long n11), .second, .val (.ref b12), .unset, .unset, .unset, .unset, .unset, .unset, .unset, .unset]) rfl at_131 (pc' := 133) rfl ?_
    refine own_aload X21 hx hby rfl rfl at_133 (pc' := 135) rfl ?_
    refine own_virtual X21 hx hby hZ (y := (⟨"com/example/dido/dido/HangingRegion", "rectangles", "()[[D"⟩ : MethodName)) (y' := (⟨"com/example/dido/dido/HangingRegion", "rectangles", "()[[D"⟩ : MethodName)) (C := "com/example/dido/dido/HangingRegion") (rest := []) hown (hw _ (List.mem_of_getElem? (i := 31) rfl)) (hw _ (List.mem_of_getElem? (i := 32) rfl)) (notFace_of_selects (args := #[]) (mvT hZ (hw _ (List.mem_of_getElem? (i := 34) rfl)))) (hw _ (List.mem_of_getElem? (i := 34) rfl)) (hw _ (List.mem_of_getElem? (i := 33) rfl)) (hw _ (List.mem_of_getElem? (i := 35) rfl)) (hw _ (List.mem_of_getElem? (i := 3) rfl)) (by decide) (rm4 l Z a0 hw [] b12 v13 v19 v16 v20 v17 v14 v15 v18 h21 n0 Z0 F_b12_left F_b12_bottom F_b12_right F_b12_top F_b12_leftFoot F_b12_leftLegRight F_b12_rightLegLeft F_b12_rightFoot) eH21 (by rw [hml]; rfl) (a := b12) E_b12 (argsL := []) rfl (lenOf pd_1 rfl) rfl at_135 (pc' := 138) rfl (by decide) (W := 0) (Nat.le_of_eq rfl) (by decide) (by decide) (by decide) (fun T22 h22 Lc22 v22r X22 eH22 hQ22 => ?_)
    obtain ⟨b1_22, b2_22, b12_22, b22_22, rfl, Nq22, Kq22, gq22_0, gq22_1, gq22_2, gq22_3, gq22_4, gq22_5, gq22_6, gq22_7, gq22_8, gq22_9, gq22_10, gq22_11, gq22_12, gq22_13, gq22_14, gq22_15, gq22_16, gq22_17⟩ := hQ22
    have N22 := Fr.app N21 Nq22
    have g_b1_22 : n0 ≤ b1_22 := Nat.le_trans Z0 gq22_0
    have ne_b12_b1_22 : b12 ≠ b1_22 := Nat.ne_of_lt (Nat.lt_of_lt_of_le E_b12.lt gq22_0)
    have g_b2_22 : n0 ≤ b2_22 := Nat.le_trans Z0 gq22_1
    have ne_b12_b2_22 : b12 ≠ b2_22 := Nat.ne_of_lt (Nat.lt_of_lt_of_le E_b12.lt gq22_1)
    have g_b12_22 : n0 ≤ b12_22 := Nat.le_trans Z0 gq22_2
    have ne_b12_b12_22 : b12 ≠ b12_22 := Nat.ne_of_lt (Nat.lt_of_lt_of_le E_b12.lt gq22_2)
    have g_b22_22 : n0 ≤ b22_22 := Nat.le_trans Z0 gq22_3
    have ne_b12_b22_22 : b12 ≠ b22_22 := Nat.ne_of_lt (Nat.lt_of_lt_of_le E_b12.lt gq22_3)
    replace E_b12 := E_b12.keep Kq22
    replace F_b12_left := F_b12_left.keep Kq22 nin0
    replace F_b12_leftLegRight := F_b12_leftLegRight.keep Kq22 nin0
    replace F_b12_rightLegLeft := F_b12_rightLegLeft.keep Kq22 nin0
    replace F_b12_right := F_b12_right.keep Kq22 nin0
    replace F_b12_leftFoot := F_b12_leftFoot.keep Kq22 nin0
    replace F_b12_rightFoot := F_b12_rightFoot.keep Kq22 nin0
    replace F_b12_bottom := F_b12_bottom.keep Kq22 nin0
    replace F_b12_top := F_b12_top.keep Kq22 nin0
    have ne_b1_22_b2_22 := gq22_4
    have ne_b1_22_b12_22 := gq22_5
    have ne_b1_22_b22_22 := gq22_6
    have ne_b2_22_b12_22 := gq22_7
    have ne_b2_22_b22_22 := gq22_8
    have ne_b12_22_b22_22 := gq22_9
    have E_b1_22 := gq22_10
    have V_b1_22 := gq22_11
    have E_b2_22 := gq22_12
    have V_b2_22 := gq22_13
    have E_b12_22 := gq22_14
    have V_b12_22 := gq22_15
    have E_b22_22 := gq22_16
    have V_b22_22 := gq22_17
    replace Z0 := Nat.le_trans Z0 Kq22.1
    refine own_astore X22 hx hby rfl (L' := #[.val (.int p0), .val (.int p1), .val (.int p2), .val (.int p3), .val (.int p4), .val (.int p5), .val (.long n1), .second, .val (.long n2), .second, .val (.long n3), .second, .val (.long n4), .second, .val (.long n5), .second, .val (.long n6), .second, .val (.long n7), .second, .val (.long n8), .second, .val (.long n9), .second, .val (.long n10), .second, .val (.long n11), .second, .val (.ref b12), .val (.ref b1_22), .unset, .unset, .unset, .unset, .unset, .unset, .unset]) rfl at_138 (pc' := 140) rfl ?_
    refine own_aload X22 hx hby rfl rfl at_140 (pc' := 142) rfl ?_
    refine own_alen X22 hx hby hZ eH22 V_b1_22 (z := (3 : Int32)) (by first | rfl | decide) at_142 (pc' := 143) rfl ?_
    refine own_iconst X22 hx hby (v := (3 : Int32)) (by decide) at_143 (pc' := 144) rfl ?_
    refine own_icF X22 hx hby at_144 (by decide) (pc' := 147) rfl ?_
    refine own_aload X22 hx hby rfl rfl at_147 (pc' := 149) rfl ?_
    refine own_iconst X22 hx hby (v := (0 : Int32)) (by decide) at_149 (pc' := 150) rfl ?_
    refine own_aaload X22 hx hby hZ eH22 V_b1_22 rfl (by decide) (v := (.ref b2_22)) rfl at_150 (pc' := 151) rfl ?_
    refine own_ifnullF X22 hx hby at_151 (pc' := 154) rfl ?_
    refine own_aload X22 hx hby rfl rfl at_154 (pc' := 156) rfl ?_
    refine own_iconst X22 hx hby (v := (1 : Int32)) (by decide) at_156 (pc' := 157) rfl ?_
    refine own_aaload X22 hx hby hZ eH22 V_b1_22 rfl (by decide) (v := (.ref b12_22)) rfl at_157 (pc' := 158) rfl ?_
    refine own_ifnullF X22 hx hby at_158 (pc' := 161) rfl ?_
    refine own_aload X22 hx hby rfl rfl at_161 (pc' := 163) rfl ?_
    refine own_iconst X22 hx hby (v := (2 : Int32)) (by decide) at_163 (pc' := 164) rfl ?_
    refine own_aaload X22 hx hby hZ eH22 V_b1_22 rfl (by decide) (v := (.ref b22_22)) rfl at_164 (pc' := 165) rfl ?_
    refine own_ifnonnullT X22 hx hby at_165 (by decide) (pc' := 170) (by decide) ?_
    refine own_aload X22 hx hby rfl rfl at_170 (pc' := 172) rfl ?_
    refine own_iconst X22 hx hby (v := (0 : Int32)) (by decide) at_172 (pc' := 173) rfl ?_
    refine own_aaload X22 hx hby hZ eH22 V_b1_22 rfl (by decide) (v := (.ref b2_22)) rfl at_173 (pc' := 174) rfl ?_
    refine own_alen X22 hx hby hZ eH22 V_b2_22 (z := (4 : Int32)) (by first | rfl | decide) at_174 (pc' := 175) rfl ?_
    refine own_iconst X22 hx hby (v := (4 : Int32)) (by decide) at_175 (pc' := 176) rfl ?_
    refine own_icF X22 hx hby at_176 (by decide) (pc' := 179) rfl ?_
    refine own_aload X22 hx hby rfl rfl at_179 (pc' := 181) rfl ?_
    refine own_iconst X22 hx hby (v := (1 : Int32)) (by decide) at_181 (pc' := 182) rfl ?_
    refine own_aaload X22 hx hby hZ eH22 V_b1_22 rfl (by decide) (v := (.ref b12_22)) rfl at_182 (pc' := 183) rfl ?_
    refine own_alen X22 hx hby hZ eH22 V_b12_22 (z := (4 : Int32)) (by first | rfl | decide) at_183 (pc' := 184) rfl ?_
    refine own_iconst X22 hx hby (v := (4 : Int32)) (by decide) at_184 (pc' := 185) rfl ?_
    refine own_icF X22 hx hby at_185 (by decide) (pc' := 188) rfl ?_
    refine own_aload X22 hx hby rfl rfl at_188 (pc' := 190) rfl ?_
    refine own_iconst X22 hx hby (v := (2 : Int32)) (by decide) at_190 (pc' := 191) rfl ?_
    refine own_aaload X22 hx hby hZ eH22 V_b1_22 rfl (by decide) (v := (.ref b22_22)) rfl at_191 (pc' := 192) rfl ?_
    refine own_alen X22 hx hby hZ eH22 V_b22_22 (z := (4 : Int32)) (by first | rfl | decide) at_192 (pc' := 193) rfl ?_
    refine own_iconst X22 hx hby (v := (4 : Int32)) (by decide) at_193 (pc' := 194) rfl ?_
    refine own_icT X22 hx hby at_194 (by decide) (by decide) (pc' := 199) (by decide) ?_
    refine own_aload X22 hx hby rfl rfl at_199 (pc' := 201) rfl ?_
    refine own_iconst X22 hx hby (v := (0 : Int32)) (by decide) at_201 (pc' := 202) rfl ?_
    refine own_aaload X22 hx hby hZ eH22 V_b1_22 rfl (by decide) (v := (.ref b2_22)) rfl at_202 (pc' := 203) rfl ?_
    refine own_lload X22 hx hby rfl at_203 (pc' := 205) rfl ?_
    refine own_lload X22 hx hby rfl at_205 (pc' := 207) rfl ?_
    refine own_lload X22 hx hby rfl at_207 (pc' := 209) rfl ?_
    refine own_lload X22 hx hby rfl at_209 (pc' := 211) rfl ?_
    refine own_static X22 hx hby hZ (y := (⟨"com/example/dido/dido/HangingRegionRectanglesPinLaw", "same", "([DJJJJ)Z"⟩ : MethodName)) (rest := []) hown (hw _ (List.mem_of_getElem? (i := 40) rfl)) (hw _ (List.mem_of_getElem? (i := 41) rfl)) (hw _ (List.mem_of_getElem? (i := 43) rfl)) (hw _ (List.mem_of_getElem? (i := 42) rfl)) (by decide) (rm5 l Z a0 hw [] b2_22 n4 n8 n5 n9 v13 v19 v16 v20 h22 n0 Z0 V_b2_22 (by rw [q_v13]; exact own_deq D_v13) (by rw [q_v19]; exact own_deq D_v19) (by rw [q_v16]; exact own_deq D_v16) (by rw [q_v20]; exact own_deq D_v20)) eH22 (by rw [hml]; rfl) (argsL := [(.ref b2_22), (.long n4), (.long n8), (.long n5), (.long n9)]) rfl (lenOf pd_3 rfl) rfl at_211 (pc' := 214) rfl (by decide) (W := 0) (Nat.le_of_eq rfl) (by decide) (by decide) (by decide) (fun T23 h23 Lc23 v23r X23 eH23 hQ23 => ?_)
    obtain ⟨rfl, Nq23, rfl⟩ := hQ23
    have N23 := Fr.app N22 Nq23
    refine own_ifF X23 hx hby at_214 (by decide) (pc' := 217) rfl ?_
    refine own_aload X23 hx hby rfl rfl at_217 (pc' := 219) rfl ?_
    as_aux_lemma =>
      refine own_iconst X23 hx hby (v := (1 : Int32)) (by decide) at_219 (pc' := 220) rfl ?_
      refine own_aaload X23 hx hby hZ eH23 V_b1_22 rfl (by decide) (v := (.ref b12_22)) rfl at_220 (pc' := 221) rfl ?_
      refine own_lload X23 hx hby rfl at_221 (pc' := 223) rfl ?_
      refine own_lload X23 hx hby rfl at_223 (pc' := 225) rfl ?_
      refine own_lload X23 hx hby rfl at_225 (pc' := 227) rfl ?_
      refine own_lload X23 hx hby rfl at_227 (pc' := 229) rfl ?_
      refine own_static X23 hx hby hZ (y := (⟨"com/example/dido/dido/HangingRegionRectanglesPinLaw", "same", "([DJJJJ)Z"⟩ : MethodName)) (rest := []) hown (hw _ (List.mem_of_getElem? (i := 40) rfl)) (hw _ (List.mem_of_getElem? (i := 41) rfl)) (hw _ (List.mem_of_getElem? (i := 43) rfl)) (hw _ (List.mem_of_getElem? (i := 42) rfl)) (by decide) (rm5 l Z a0 hw [] b12_22 n4 n10 n6 n8 v13 v17 v14 v19 h22 n0 Z0 V_b12_22 (by rw [q_v13]; exact own_deq D_v13) (by rw [q_v17]; exact own_deq D_v17) (by rw [q_v14]; exact own_deq D_v14) (by rw [q_v19]; exact own_deq D_v19)) eH23 (by rw [hml]; rfl) (argsL := [(.ref b12_22), (.long n4), (.long n10), (.long n6), (.long n8)]) rfl (lenOf pd_3 rfl) rfl at_229 (pc' := 232) rfl (by decide) (W := 0) (Nat.le_of_eq rfl) (by decide) (by decide) (by decide) (fun T24 h24 Lc24 v24r X24 eH24 hQ24 => ?_)
      obtain ⟨rfl, Nq24, rfl⟩ := hQ24
      have N24 := Fr.app N23 Nq24
      refine own_ifF X24 hx hby at_232 (by decide) (pc' := 235) rfl ?_
      refine own_aload X24 hx hby rfl rfl at_235 (pc' := 237) rfl ?_
      refine own_iconst X24 hx hby (v := (2 : Int32)) (by decide) at_237 (pc' := 238) rfl ?_
      refine own_aaload X24 hx hby hZ eH24 V_b1_22 rfl (by decide) (v := (.ref b22_22)) rfl at_238 (pc' := 239) rfl ?_
      refine own_lload X24 hx hby rfl at_239 (pc' := 241) rfl ?_
      refine own_lload X24 hx hby rfl at_241 (pc' := 243) rfl ?_
      refine own_lload X24 hx hby rfl at_243 (pc' := 245) rfl ?_
      refine own_lload X24 hx hby rfl at_245 (pc' := 247) rfl ?_
      refine own_static X24 hx hby hZ (y := (⟨"com/example/dido/dido/HangingRegionRectanglesPinLaw", "same", "([DJJJJ)Z"⟩ : MethodName)) (rest := []) hown (hw _ (List.mem_of_getElem? (i := 40) rfl)) (hw _ (List.mem_of_getElem? (i := 41) rfl)) (hw _ (List.mem_of_getElem? (i := 43) rfl)) (hw _ (List.mem_of_getElem? (i := 42) rfl)) (by decide) (rm5 l Z a0 hw [] b22_22 n7 n11 n5 n8 v15 v18 v16 v19 h22 n0 Z0 V_b22_22 (by rw [q_v15]; exact own_deq D_v15) (by rw [q_v18]; exact own_deq D_v18) (by rw [q_v16]; exact own_deq D_v16) (by rw [q_v19]; exact own_deq D_v19)) eH24 (by rw [hml]; rfl) (argsL := [(.ref b22_22), (.long n7), (.long n11), (.long n5), (.long n8)]) rfl (lenOf pd_3 rfl) rfl at_247 (pc' := 250) rfl (by decide) (W := 0) (Nat.le_of_eq rfl) (by decide) (by decide) (by decide) (fun T25 h25 Lc25 v25r X25 eH25 hQ25 => ?_)
      obtain ⟨rfl, Nq25, rfl⟩ := hQ25
      have N25 := Fr.app N24 Nq25
      refine own_ifF X25 hx hby at_250 (by decide) (pc' := 253) rfl ?_
      refine own_iconst X25 hx hby (v := (1 : Int32)) (by decide) at_253 (pc' := 254) rfl ?_
      refine own_goto X25 hx hby at_254 (by decide) (pc' := 258) (by decide) ?_
      refine own_istore X25 hx hby (L' := #[.val (.int p0), .val (.int p1), .val (.int p2), .val (.int p3), .val (.int p4), .val (.int p5), .val (.long n1), .second, .val (.long n2), .second, .val (.long n3), .second, .val (.long n4), .second, .val (.long n5), .second, .val (.long n6), .second, .val (.long n7), .second, .val (.long n8), .second, .val (.long n9), .second, .val (.long n10), .second, .val (.long n11), .second, .val (.ref b12), .val (.ref b1_22), .val (.int (1 : Int32)), .unset, .unset, .unset, .unset, .unset, .unset]) rfl at_258 (pc' := 260) rfl ?_
      refine own_iload X25 hx hby rfl at_260 (pc' := 262) rfl ?_
      obtain ⟨w26, q_w26⟩ : ∃ z : Int64, (if p4 < 0 then (n1 * (-(p4.toInt64))) else (0 : Int64)) = z := ⟨_, rfl⟩
      refine own_join (S' := T25.setTop (mkF m 276 #[.val (.int p0), .val (.int p1), .val (.int p2), .val (.int p3), .val (.int p4), .val (.int p5), .val (.long n1), .second, .val (.long n2), .second, .val (.long n3), .second, .val (.long n4), .second, .val (.long n5), .second, .val (.long n6), .second, .val (.long n7), .second, .val (.long n8), .second, .val (.long n9), .second, .val (.long n10), .second, .val (.long n11), .second, .val (.ref b12), .val (.ref b1_22), .val (.int (1 : Int32)), .unset, .unset, .unset, .unset, .unset, .unset] [(.long w26)])) (fun F' k' => ?_) ?_
      · rw [← q_w26] at k'
        by_cases hc27 : p4 < 0
        · simp only [if_pos hc27] at k'
          refine own_ifF X25 hx hby at_262 (own_i0_ge_p hc27) (pc' := 265) rfl ?_
          refine own_lload X25 hx hby rfl at_265 (pc' := 267) rfl ?_
          refine own_iload X25 hx hby rfl at_267 (pc' := 269) rfl ?_
          refine own_i2l X25 hx hby rfl at_269 (pc' := 270) rfl ?_
          refine own_lneg X25 hx hby rfl at_270 (pc' := 271) rfl ?_
          refine own_lmul X25 hx hby rfl at_271 (pc' := 272) rfl ?_
          refine own_goto X25 hx hby at_272 (by decide) (pc' := 276) (by decide) ?_
          exact k'
        · simp only [if_neg hc27] at k'
          refine own_ifT X25 hx hby at_262 (own_i0_ge_n hc27) (by decide) (pc' := 275) (by decide) ?_
          refine own_lconst X25 hx hby (v := (0 : Int64)) (by decide) at_275 (pc' := 276) rfl ?_
          exact k'
      refine own_lstore X25 hx hby (L' := #[.val (.int p0), .val (.int p1), .val (.int p2), .val (.int p3), .val (.int p4), .val (.int p5), .val (.long n1), .second, .val (.long n2), .second, .val (.long n3), .second, .val (.long n4), .second, .val (.long n5), .second, .val (.long n6), .second, .val (.long n7), .second, .val (.long n8), .second, .val (.long n9), .second, .val (.long n10), .second, .val (.long n11), .second, .val (.ref b12), .val (.ref b1_22), .val (.int (1 : Int32)), .val (.long w26), .second, .unset, .unset, .unset, .unset]) rfl at_276 (pc' := 278) rfl ?_
      refine own_iload X25 hx hby rfl at_278 (pc' := 280) rfl ?_
      obtain ⟨w28, q_w28⟩ : ∃ z : Int64, (if p5 < 0 then (n2 * (-(p5.toInt64))) else (0 : Int64)) = z := ⟨_, rfl⟩
      refine own_join (S' := T25.setTop (mkF m 294 #[.val (.int p0), .val (.int p1), .val (.int p2), .val (.int p3), .val (.int p4), .val (.int p5), .val (.long n1), .second, .val (.long n2), .second, .val (.long n3), .second, .val (.long n4), .second, .val (.long n5), .second, .val (.long n6), .second, .val (.long n7), .second, .val (.long n8), .second, .val (.long n9), .second, .val (.long n10), .second, .val (.long n11), .second, .val (.ref b12), .val (.ref b1_22), .val (.int (1 : Int32)), .val (.long w26), .second, .unset, .unset, .unset, .unset] [(.long w28)])) (fun F' k' => ?_) ?_
      · rw [← q_w28] at k'
        by_cases hc29 : p5 < 0
        · simp only [if_pos hc29] at k'
          refine own_ifF X25 hx hby at_280 (own_i0_ge_p hc29) (pc' := 283) rfl ?_
          refine own_lload X25 hx hby rfl at_283 (pc' := 285) rfl ?_
          refine own_iload X25 hx hby rfl at_285 (pc' := 287) rfl ?_
          refine own_i2l X25 hx hby rfl at_287 (pc' := 288) rfl ?_
          refine own_lneg X25 hx hby rfl at_288 (pc' := 289) rfl ?_
          refine own_lmul X25 hx hby rfl at_289 (pc' := 290) rfl ?_
          refine own_goto X25 hx hby at_290 (by decide) (pc' := 294) (by decide) ?_
          exact k'
        · simp only [if_neg hc29] at k'
          refine own_ifT X25 hx hby at_280 (own_i0_ge_n hc29) (by decide) (pc' := 293) (by decide) ?_
          refine own_lconst X25 hx hby (v := (0 : Int64)) (by decide) at_293 (pc' := 294) rfl ?_
          exact k'
      refine own_lstore X25 hx hby (L' := #[.val (.int p0), .val (.int p1), .val (.int p2), .val (.int p3), .val (.int p4), .val (.int p5), .val (.long n1), .second, .val (.long n2), .second, .val (.long n3), .second, .val (.long n4), .second, .val (.long n5), .second, .val (.long n6), .second, .val (.long n7), .second, .val (.long n8), .second, .val (.long n9), .second, .val (.long n10), .second, .val (.long n11), .second, .val (.ref b12), .val (.ref b1_22), .val (.int (1 : Int32)), .val (.long w26), .second, .val (.long w28), .second, .unset, .unset]) rfl at_294 (pc' := 296) rfl ?_
      refine own_lload X25 hx hby rfl at_296 (pc' := 298) rfl ?_
      refine own_lload X25 hx hby rfl at_298 (pc' := 300) rfl ?_
      refine own_lload X25 hx hby rfl at_300 (pc' := 302) rfl ?_
      refine own_lsub X25 hx hby rfl at_302 (pc' := 303) rfl ?_
      refine own_lmul X25 hx hby rfl at_303 (pc' := 304) rfl ?_
      refine own_lload X25 hx hby rfl at_304 (pc' := 306) rfl ?_
      refine own_ladd X25 hx hby rfl at_306 (pc' := 307) rfl ?_
      refine own_lload X25 hx hby rfl at_307 (pc' := 309) rfl ?_
      refine own_ladd X25 hx hby rfl at_309 (pc' := 310) rfl ?_
      generalize q_n30 : (((n3 * (n9 - n8)) + w26) + w28) = n30
      refine own_lstore X25 hx hby (L' := #[.val (.int p0), .val (.int p1), .val (.int p2), .val (.int p3), .val (.int p4), .val (.int p5), .val (.long n1), .second, .val (.long n2), .second, .val (.long n3), .second, .val (.long n4), .second, .val (.long n5), .second, .val (.long n6), .second, .val (.long n7), .second, .val (.long n8), .second, .val (.long n9), .second, .val (.long n10), .second, .val (.long n11), .second, .val (.ref b12), .val (.ref b1_22), .val (.int (1 : Int32)), .val (.long w26), .second, .val (.long w28), .second, .val (.long n30), .second]) rfl at_310 (pc' := 312) rfl ?_
      have h1 := G.2.2.2.2.2.2.2.2.2.2.2.1
      have h2 := G.2.2.2.2.2.2.2.2.2.2.2.2.1
      have h3 := G.2.2.2.2.2.2.2.2.2.2.2.2.2
      have AX := own_wl q_w26 h1.1
      have AY := own_wl q_w28 h1.2
      have AR := own_areaL q_n30 AX AY (own_bw h1 h2) (own_hh e_n8 h3)
      refine own_iload X25 hx hby rfl at_312 (pc' := 314) rfl ?_
      refine own_ifF X25 hx hby at_314 (by decide) (pc' := 317) rfl ?_
      refine own_aload X25 hx hby rfl rfl at_317 (pc' := 319) rfl ?_
      have RC1 := own_rect own_d0 D_v13 D_v19 D_v16 D_v20 own_z (own_dW1 e_n5 e_n4) (H := n9.toInt - n8.toInt) rfl (own_bw h1 h2) (own_bh e_n8 h3)
      have RC2 := own_rect RC1.2.1 D_v13 D_v17 D_v14 D_v19 (own_T1 RC1.2.2) (own_dW1 e_n6 e_n4) (own_dH2 e_n8 e_n10) (own_bl h1.1) (own_bp p4)
      have RC3 := own_rect RC2.2.1 D_v15 D_v18 D_v16 D_v19 (own_T2 RC1.2.2 RC2.2.2) (own_dW3 e_n5 e_n7) (own_dH2 e_n8 e_n11) (own_bl h1.2) (own_bp p5)
      refine own_virtD X25 hx hby hZ (y := (⟨"com/example/dido/dido/Region", "area", "()D"⟩ : MethodName)) (y' := (⟨"com/example/dido/dido/HangingRegion", "area", "()D"⟩ : MethodName)) (C := "com/example/dido/dido/HangingRegion") (rest := []) hown (hw _ (List.mem_of_getElem? (i := 44) rfl)) (hw _ (List.mem_of_getElem? (i := 45) rfl)) (hw _ (List.mem_of_getElem? (i := 46) rfl)) (hw _ (List.mem_of_getElem? (i := 48) rfl)) (hw _ (List.mem_of_getElem? (i := 47) rfl)) (hw _ (List.mem_of_getElem? (i := 52) rfl)) (plainFor_of_name pn_com_example_dido_dido_Region) (by decide) (rm6 l Z a0 hw b12 v13 v19 v16 v20 v17 v14 v15 v18 h22 n0 Z0 E_b12 F_b12_left F_b12_bottom F_b12_right F_b12_top F_b12_leftFoot F_b12_leftLegRight F_b12_rightLegLeft F_b12_rightFoot RC1.1.1 RC1.1.2.1 RC1.1.2.2.1 RC1.1.2.2.2 RC2.1.1 RC2.1.2.1 RC2.1.2.2.1 RC2.1.2.2.2 RC3.1.1 RC3.1.2.1 RC3.1.2.2.1 RC3.1.2.2.2) eH25 (by rw [hml]; rfl) (a := b12) E_b12 (argsL := []) rfl (lenOf pd_4 rfl) rfl at_319 (pc' := 322) rfl (by decide) (W := 0) (Nat.le_of_eq rfl) (by decide) (by decide) (by decide) (fun T31 h31 Lc31 v31r X31 eH31 hQ31 => ?_)
      obtain ⟨rfl, Nq31, Kq31⟩ := hQ31
      have N31 := Fr.app N25 Nq31
      replace E_b12 := E_b12.keep Kq31
      replace F_b12_left := F_b12_left.keep Kq31 nin0
      replace F_b12_leftLegRight := F_b12_leftLegRight.keep Kq31 nin0
      replace F_b12_rightLegLeft := F_b12_rightLegLeft.keep Kq31 nin0
      replace F_b12_right := F_b12_right.keep Kq31 nin0
      replace F_b12_leftFoot := F_b12_leftFoot.keep Kq31 nin0
      replace F_b12_rightFoot := F_b12_rightFoot.keep Kq31 nin0
      replace F_b12_bottom := F_b12_bottom.keep Kq31 nin0
      replace F_b12_top := F_b12_top.keep Kq31 nin0
      replace E_b1_22 := E_b1_22.keep Kq31
      replace V_b1_22 := V_b1_22.keep Kq31 nin0
      replace E_b2_22 := E_b2_22.keep Kq31
      replace V_b2_22 := V_b2_22.keep Kq31 nin0
      replace E_b12_22 := E_b12_22.keep Kq31
      replace V_b12_22 := V_b12_22.keep Kq31 nin0
      replace E_b22_22 := E_b22_22.keep Kq31
      replace V_b22_22 := V_b22_22.keep Kq31 nin0
      replace Z0 := Nat.le_trans Z0 Kq31.1
      dsimp only [Option.toList, List.cons_append, List.nil_append]
      generalize q_r32 : (if dgt v16 v15 then (if dgt v19 v18 then (FP.dadd (if dgt v14 v13 then (if dgt v19 v17 then (FP.dadd (if dgt v16 v13 then (if dgt v20 v19 then (FP.dadd (0 : UInt64) (FP.dmul (FP.dsub v16 v13) (FP.dsub v20 v19))) else (0 : UInt64)) else (0 : UInt64)) (FP.dmul (FP.dsub v14 v13) (FP.dsub v19 v17))) else (if dgt v16 v13 then (if dgt v20 v19 then (FP.dadd (0 : UInt64) (FP.dmul (FP.dsub v16 v13) (FP.dsub v20 v19))) else (0 : UInt64)) else (0 : UInt64))) else (if dgt v16 v13 then (if dgt v20 v19 then (FP.dadd (0 : UInt64) (FP.dmul (FP.dsub v16 v13) (FP.dsub v20 v19))) else (0 : UInt64)) else (0 : UInt64))) (FP.dmul (FP.dsub v16 v15) (FP.dsub v19 v18))) else (if dgt v14 v13 then (if dgt v19 v17 then (FP.dadd (if dgt v16 v13 then (if dgt v20 v19 then (FP.dadd (0 : UInt64) (FP.dmul (FP.dsub v16 v13) (FP.dsub v20 v19))) else (0 : UInt64)) else (0 : UInt64)) (FP.dmul (FP.dsub v14 v13) (FP.dsub v19 v17))) else (if dgt v16 v13 then (if dgt v20 v19 then (FP.dadd (0 : UInt64) (FP.dmul (FP.dsub v16 v13) (FP.dsub v20 v19))) else (0 : UInt64)) else (0 : UInt64))) else (if dgt v16 v13 then (if dgt v20 v19 then (FP.dadd (0 : UInt64) (FP.dmul (FP.dsub v16 v13) (FP.dsub v20 v19))) else (0 : UInt64)) else (0 : UInt64)))) else (if dgt v14 v13 then (if dgt v19 v17 then (FP.dadd (if dgt v16 v13 then (if dgt v20 v19 then (FP.dadd (0 : UInt64) (FP.dmul (FP.dsub v16 v13) (FP.dsub v20 v19))) else (0 : UInt64)) else (0 : UInt64)) (FP.dmul (FP.dsub v14 v13) (FP.dsub v19 v17))) else (if dgt v16 v13 then (if dgt v20 v19 then (FP.dadd (0 : UInt64) (FP.dmul (FP.dsub v16 v13) (FP.dsub v20 v19))) else (0 : UInt64)) else (0 : UInt64))) else (if dgt v16 v13 then (if dgt v20 v19 then (FP.dadd (0 : UInt64) (FP.dmul (FP.dsub v16 v13) (FP.dsub v20 v19))) else (0 : UInt64)) else (0 : UInt64)))) = r32
      refine own_lload X31 hx hby rfl at_322 (pc' := 324) rfl ?_
      obtain ⟨v33, q_v33⟩ : ∃ z : UInt64, (FP.l2d n30) = z := ⟨_, rfl⟩
      have D_v33 : Dy v33 n30.toInt 0 := q_v33 ▸ dy_l2d AR.1 AR.2.1
      refine own_l2d X31 hx hby q_v33 at_324 (pc' := 325) rfl ?_
      refine own_dcmp X31 hx hby rfl at_325 (pc' := 326) rfl ?_
      have hk34 : deq r32 v33 := by rw [← q_r32]; exact (RC3.2.1.eq D_v33).mpr AR.2.2.symm
      refine own_ifF X31 hx hby at_326 (own_dl_ne_p hk34) (pc' := 329) rfl ?_
      refine own_iconst X31 hx hby (v := (1 : Int32)) (by decide) at_329 (pc' := 330) rfl ?_
      refine own_goto X31 hx hby at_330 (by decide) (pc' := 334) (by decide) ?_
      exact own_retZ X31 hx hby Bd.notSynchronized Bd.returns (Or.inr rfl) at_334 (by decide) (by decide) eH31 ⟨rfl, N31⟩
set_option maxRecDepth 65536 in
set_option maxHeartbeats 40000000 in
theorem comes_1 {Post : Tables → Env → Array Value → State → Outcome → State → Prop} (hpost : ∀ tb e args s v u, (limb_1_1.after args s (.returned v) u = true ∧ limb_1_2.after args s (.returned v) u = true ∧ True) → FrameEnd s (.returned v) u (Jvm.fieldLocs frame_1_writes args s ++ Jvm.arrayLocs frame_1_arrays args s ++ Jvm.staticLocs frame_1_statics s) 32 192 → Post tb e args s (.returned v) u) :
    ArmFor flags0 classFile x code maxLocals ret World_1 tables_1 room_1 Calls_1 rest_1 Pre_1 Post := by
  intro l hfl _ _ p e ha hc hk s m args below hf hA hF happ hP
  obtain ⟨hcalls, hrest, hpre⟩ := hP
  obtain ⟨-, -, -, hnamed, -, -, -, hat⟩ := (Spec.applies_iff hf).mp happ
  obtain ⟨hg, hn⟩ := and_e (Cond.before_iff.mp (show (Jvm.Cond.and given_1 narrow_1).before args s = true from hpre))
  obtain ⟨gg1, gg2⟩ := and_e hg
  obtain ⟨gg3, gg4⟩ := and_e gg2
  obtain ⟨gg5, gg6⟩ := and_e gg4
  obtain ⟨gg7, gg8⟩ := and_e gg6
  obtain ⟨gg9, gg10⟩ := and_e gg8
  obtain ⟨gg11, gg12⟩ := and_e gg10
  obtain ⟨w0, w1, w2, w3, w4, w5, rfl⟩ : ∃ w0 w1 w2 w3 w4 w5 : Value, args = #[w0, w1, w2, w3, w4, w5] := by
    have hs : args.size = 6 := by simpa [Cond.value, given_1] using gg1
    obtain ⟨L⟩ := args
    match L, hs with
    | [w0, w1, w2, w3, w4, w5], _ => exact ⟨w0, w1, w2, w3, w4, w5, rfl⟩
  have hw := fun d (hd : d ∈ tables_1) => atoms_spec (ws := Jvm.Cond.code x code maxLocals ret :: tables_1) hat d (List.mem_cons_of_mem _ hd)
  have hfit : Fit s := fun {y c} hc i hi => by
    obtain ⟨ha, rfl⟩ := Array.getElem?_eq_some_iff.mp hc
    have q := List.all_eq_true.mp ((Array.all_eq_true_iff_forall_mem.mp hF) _ (Array.getElem_mem ha)) i (List.mem_range.mpr hi)
    simpa [Array.getElem?_eq_getElem hi] using q
  obtain ⟨i0, ei0⟩ := is_v gg3
  obtain rfl : w0 = (.int i0) := Option.some.inj ei0
  obtain ⟨i1, ei1⟩ := is_v gg5
  obtain rfl : w1 = (.int i1) := Option.some.inj ei1
  obtain ⟨i2, ei2⟩ := is_v gg7
  obtain rfl : w2 = (.int i2) := Option.some.inj ei2
  obtain ⟨i3, ei3⟩ := is_v gg9
  obtain rfl : w3 = (.int i3) := Option.some.inj ei3
  obtain ⟨i4, ei4⟩ := is_v gg11
  obtain rfl : w4 = (.int i4) := Option.some.inj ei4
  obtain ⟨i5, ei5⟩ := is_v gg12
  obtain rfl : w5 = (.int i5) := Option.some.inj ei5
  obtain ⟨n, o, h1, h2, h3, _, L, rfl, ⟨rfl, N⟩, hq⟩ := rm0 l s _ hw tables_1 i0 i1 i2 i3 i4 i5 s.heap s.heap.size (Nat.le_refl _) p e ha hc hk s m _ below hf ((Spec.applies_iff_loose hf).mp happ).1 ⟨rfl, State.Warmed39.refl s, rfl⟩ trivial
  refine ⟨n, _, h1, h2, h3, hpost _ _ _ _ _ _ ⟨Cond.after_iff.mpr rfl, Cond.after_iff.mpr (eq_i res_at (Term.int_eval (1)) rfl), trivial⟩ ⟨hq.1, hq.2.1, (hq.2.2.sift fun y hy => Or.inr (N y hy)).mono (by decide) (by decide)⟩⟩
theorem main_1_1 : Claimed_1_1 := comes_1 fun _ _ _ _ _ _ h hF => ⟨h.1, hF⟩
theorem main_1_2 : Claimed_1_2 := comes_1 fun _ _ _ _ _ _ h hF => ⟨h.2.1, hF⟩
end Jvm.Pilot.@@N@@
namespace Jvm.Pilot.@@N@@
open Jvm Jvm.ClassFile Sem Op Lib Jvm.Free Jvm.Stand Jvm.Pilot.@@N@@.Jvm.D
/-! MADE BY PROGRAM (witnessworld.py) out of the Statement's table words and the real class files: 14 classes; the members and pool entries that the words name. The judged class is class 1, her method 1. -/
namespace start1
open Jvm.ClassFile
def u (s : String) : CpInfo := .utf8 (stringToUtf16 s)
/-- a pool by its gaps: so many unusable entries, then the entry; so many at the end -/
def gap : Nat → List CpInfo → List CpInfo
  | 0, r => r
  | n + 1, r => .unusable :: gap n r
def poolList (es : List (Nat × CpInfo)) (last : Nat) : List CpInfo := es.foldr (fun e r => gap e.1 (e.2 :: r)) (gap last [])
def pool (es : List (Nat × CpInfo)) (last : Nat) : Array CpInfo := ⟨poolList es last⟩
def fileOf (pool : Array CpInfo) (this : Nat) (attrs : Array Attribute := #[]) (ms : Array MethodInfo := #[]) (fl : Nat := 33) (sup : Nat := 0) (ifs : Array Nat := #[]) (fds : Array FieldInfo := #[]) : ClassFile where
  minorVersion := 0
  majorVersion := 65
  constantPool := pool
  accessFlags := fl
  thisClass := this
  superClass := sup
  interfaces := ifs
  fields := fds
  methods := ms
  attributes := attrs
def plain (name : String) (sup : Option ClassId) : Class where
  name := name
  kind := .ordinary
  loader := none
  accessFlags := 33
  super := sup
  interfaces := #[]
  cf := none
  fields := #[]
  methods := #[]
  instanceTypes := #[]
  staticTypes := #[]
  resolved := #[]
  callSites := []
  init := .initialized
  statics := none
  mirror := none

def pool0 : Array CpInfo := pool [(5, u "<init>"), (0, u "()V"), (1, .class_ 10), (1, u "java/lang/Object")] 113

def k0c0 : Code := { maxStack := 0, maxLocals := 1, code := object_method_1_code, exceptionTable := #[], attributes := #[] }
def k0m0 : Method := { name := "<init>", desc := "()V", sig := { parameters := [], returnType := none }, accessFlags := 1, code := some k0c0 }
/-- java/lang/Object -/
def k0 : Class := { plain "java/lang/Object" none with
  accessFlags := 33
  interfaces := #[]
  cf := some (fileOf pool0 8 #[] #[{ accessFlags := 1, nameIndex := 5, descriptorIndex := 6, attributes := #[] }] 33 0 #[] #[])
  fields := #[]
  methods := #[k0m0]
  instanceTypes := #[]
  staticTypes := #[]
  resolved := Array.replicate 124 none
  statics := none }

def pool1 : Array CpInfo := pool [(2, .class_ 4), (1, u "java/lang/Object"), (0, u "<init>"), (0, u "()V"), (0, .long 2147483647), (1, .class_ 10), (0, u "com/example/dido/dido/HangingRegion"), (0, .methodref 9 12), (0, .nameAndType 5 13), (0, u "(DDDDDDDD)V"), (0, .methodref 9 15), (0, .nameAndType 16 17), (0, u "rectangles"), (0, u "()[[D"), (0, .methodref 19 20), (0, .class_ 21), (0, .nameAndType 22 23), (0, u "com/example/dido/dido/HangingRegionRectanglesPinLaw"), (0, u "same"), (0, u "([DJJJJ)Z"), (0, .methodref 9 25), (0, .nameAndType 26 27), (0, u "area"), (0, u "()D"), (2, u "law"), (0, u "(IIIIII)Z")] 5

def k1m0 : Method := { name := "<init>", desc := "()V", sig := { parameters := [], returnType := none }, accessFlags := 1, code := none }
def k1c1 : Code := { maxStack := 18, maxLocals := 37, code := code, exceptionTable := #[], attributes := #[] }
def k1m1 : Method := { name := "law", desc := "(IIIIII)Z", sig := { parameters := [.int, .int, .int, .int, .int, .int], returnType := some .boolean }, accessFlags := 9, code := some k1c1 }
def k1c2 : Code := { maxStack := 4, maxLocals := 9, code := method_3_code, exceptionTable := #[], attributes := #[] }
def k1m2 : Method := { name := "same", desc := "([DJJJJ)Z", sig := { parameters := [(.array .double), .long, .long, .long, .long], returnType := some .boolean }, accessFlags := 10, code := some k1c2 }
/-- com/example/dido/dido/HangingRegionRectanglesPinLaw -/
def k1 : Class := { plain "com/example/dido/dido/HangingRegionRectanglesPinLaw" (some 0) with
  accessFlags := 49
  interfaces := #[]
  cf := some (fileOf pool1 19 #[] #[{ accessFlags := 1, nameIndex := 5, descriptorIndex := 6, attributes := #[] }, { accessFlags := 9, nameIndex := 30, descriptorIndex := 31, attributes := #[] }, { accessFlags := 10, nameIndex := 22, descriptorIndex := 23, attributes := #[] }] 49 2 #[] #[])
  fields := #[]
  methods := #[k1m0, k1m1, k1m2]
  instanceTypes := #[]
  staticTypes := #[]
  resolved := Array.replicate 37 none
  statics := none }

def pool2 : Array CpInfo := pool [(1, .methodref 2 3), (0, .class_ 4), (0, .nameAndType 5 6), (0, u "java/lang/Object"), (0, u "<init>"), (0, u "()V"), (0, .class_ 8), (0, u "java/lang/Record")] 13

def k2c0 : Code := { maxStack := 1, maxLocals := 1, code := jdk_30_method_1_code, exceptionTable := #[], attributes := #[] }
def k2m0 : Method := { name := "<init>", desc := "()V", sig := { parameters := [], returnType := none }, accessFlags := 4, code := some k2c0 }
/-- java/lang/Record -/
def k2 : Class := { plain "java/lang/Record" (some 0) with
  accessFlags := 1057
  interfaces := #[]
  cf := some (fileOf pool2 7 #[] #[{ accessFlags := 4, nameIndex := 5, descriptorIndex := 6, attributes := #[] }] 1057 2 #[] #[])
  fields := #[]
  methods := #[k2m0]
  instanceTypes := #[]
  staticTypes := #[]
  resolved := Array.replicate 22 none
  statics := none }

def pool3 : Array CpInfo := pool [(1, .interfaceMethodref 2 3), (0, .class_ 4), (0, .nameAndType 5 6), (0, u "com/example/dido/dido/Region"), (0, u "rectangles"), (0, u "()[[D"), (0, .class_ 8), (0, u "java/lang/Object"), (2, u "area"), (0, u "()D")] 14

def k3m0 : Method := { name := "rectangles", desc := "()[[D", sig := { parameters := [], returnType := some (.array (.array .double)) }, accessFlags := 1025, code := none }
def k3c1 : Code := { maxStack := 8, maxLocals := 7, code := prog_17_method_3_code, exceptionTable := #[], attributes := #[] }
def k3m1 : Method := { name := "area", desc := "()D", sig := { parameters := [], returnType := some .double }, accessFlags := 1, code := some k3c1 }
/-- com/example/dido/dido/Region -/
def k3 : Class := { plain "com/example/dido/dido/Region" (some 0) with
  accessFlags := 1537
  interfaces := #[]
  cf := some (fileOf pool3 2 #[] #[{ accessFlags := 1025, nameIndex := 5, descriptorIndex := 6, attributes := #[] }, { accessFlags := 1, nameIndex := 11, descriptorIndex := 12, attributes := #[] }] 1537 7 #[] #[])
  fields := #[]
  methods := #[k3m0, k3m1]
  instanceTypes := #[]
  staticTypes := #[]
  resolved := Array.replicate 27 none
  statics := none }

def pool4 : Array CpInfo := pool [(1, .methodref 2 3), (0, .class_ 4), (0, .nameAndType 5 6), (0, u "java/lang/Record"), (0, u "<init>"), (0, u "()V"), (0, .fieldref 8 9), (0, .class_ 10), (0, .nameAndType 11 12), (0, u "com/example/dido/dido/HangingRegion"), (0, u "left"), (0, u "D"), (0, .fieldref 8 14), (0, .nameAndType 15 12), (0, u "leftLegRight"), (0, .fieldref 8 17), (0, .nameAndType 18 12), (0, u "rightLegLeft"), (0, .fieldref 8 20), (0, .nameAndType 21 12), (0, u "right"), (0, .fieldref 8 23), (0, .nameAndType 24 12), (0, u "leftFoot"), (0, .fieldref 8 26), (0, .nameAndType 27 12), (0, u "rightFoot"), (0, .fieldref 8 29), (0, .nameAndType 30 12), (0, u "bottom"), (0, .fieldref 8 32), (0, .nameAndType 33 12), (0, u "top"), (6, .class_ 41), (0, u "[D"), (12, .class_ 55), (0, u "com/example/dido/dido/Region"), (0, u "(DDDDDDDD)V"), (6, u "rectangles"), (0, u "()[[D")] 31

def k4c0 : Code := { maxStack := 3, maxLocals := 17, code := prog_4_method_1_code, exceptionTable := #[], attributes := #[] }
def k4m0 : Method := { name := "<init>", desc := "(DDDDDDDD)V", sig := { parameters := [.double, .double, .double, .double, .double, .double, .double, .double], returnType := none }, accessFlags := 1, code := some k4c0 }
def k4c1 : Code := { maxStack := 8, maxLocals := 1, code := prog_4_method_3_code, exceptionTable := #[], attributes := #[] }
def k4m1 : Method := { name := "rectangles", desc := "()[[D", sig := { parameters := [], returnType := some (.array (.array .double)) }, accessFlags := 1, code := some k4c1 }
/-- com/example/dido/dido/HangingRegion -/
def k4 : Class := { plain "com/example/dido/dido/HangingRegion" (some 2) with
  accessFlags := 49
  interfaces := #[3]
  cf := some (fileOf pool4 8 #[] #[{ accessFlags := 1, nameIndex := 5, descriptorIndex := 56, attributes := #[] }, { accessFlags := 1, nameIndex := 63, descriptorIndex := 64, attributes := #[] }] 49 2 #[54] #[{ accessFlags := 18, nameIndex := 11, descriptorIndex := 12, attributes := #[] }, { accessFlags := 18, nameIndex := 15, descriptorIndex := 12, attributes := #[] }, { accessFlags := 18, nameIndex := 18, descriptorIndex := 12, attributes := #[] }, { accessFlags := 18, nameIndex := 21, descriptorIndex := 12, attributes := #[] }, { accessFlags := 18, nameIndex := 24, descriptorIndex := 12, attributes := #[] }, { accessFlags := 18, nameIndex := 27, descriptorIndex := 12, attributes := #[] }, { accessFlags := 18, nameIndex := 30, descriptorIndex := 12, attributes := #[] }, { accessFlags := 18, nameIndex := 33, descriptorIndex := 12, attributes := #[] }])
  fields := #[{ name := "left", type := .double, accessFlags := 18, slot := 0, constantValue := 0 }, { name := "leftLegRight", type := .double, accessFlags := 18, slot := 1, constantValue := 0 }, { name := "rightLegLeft", type := .double, accessFlags := 18, slot := 2, constantValue := 0 }, { name := "right", type := .double, accessFlags := 18, slot := 3, constantValue := 0 }, { name := "leftFoot", type := .double, accessFlags := 18, slot := 4, constantValue := 0 }, { name := "rightFoot", type := .double, accessFlags := 18, slot := 5, constantValue := 0 }, { name := "bottom", type := .double, accessFlags := 18, slot := 6, constantValue := 0 }, { name := "top", type := .double, accessFlags := 18, slot := 7, constantValue := 0 }]
  methods := #[k4m0, k4m1]
  instanceTypes := #[.double, .double, .double, .double, .double, .double, .double, .double]
  staticTypes := #[]
  resolved := Array.replicate 96 none
  statics := none }

def pool5 : Array CpInfo := pool [(1, u "java/lang/Cloneable"), (0, .class_ 1), (0, u "java/lang/Object"), (0, .class_ 3)] 3

/-- java/lang/Cloneable -/
def k5 : Class := { plain "java/lang/Cloneable" (some 0) with
  accessFlags := 1537
  interfaces := #[]
  cf := some (fileOf pool5 2 #[] #[] 1537 4 #[] #[])
  fields := #[]
  methods := #[]
  instanceTypes := #[]
  staticTypes := #[]
  resolved := Array.replicate 8 none
  statics := none }

def pool6 : Array CpInfo := pool [(1, u "java/io/Serializable"), (0, .class_ 1), (0, u "java/lang/Object"), (0, .class_ 3)] 3

/-- java/io/Serializable -/
def k6 : Class := { plain "java/io/Serializable" (some 0) with
  accessFlags := 1537
  interfaces := #[]
  cf := some (fileOf pool6 2 #[] #[] 1537 4 #[] #[])
  fields := #[]
  methods := #[]
  instanceTypes := #[]
  staticTypes := #[]
  resolved := Array.replicate 8 none
  statics := none }

/-- the primitive byte -/
def k7 : Class := { plain "byte" none with kind := .primitive 'B', accessFlags := 0x411 }
/-- [B -/
def k8 : Class := { plain "[B" (some 0) with kind := .array 7 .byte, interfaces := #[5, 6], accessFlags := 1041 }

/-- the primitive double -/
def k9 : Class := { plain "double" none with kind := .primitive 'D', accessFlags := 0x411 }
/-- [D -/
def k10 : Class := { plain "[D" (some 0) with kind := .array 9 .double, interfaces := #[5, 6], accessFlags := 1041 }

/-- the primitive int -/
def k11 : Class := { plain "int" none with kind := .primitive 'I', accessFlags := 0x411 }
/-- [I -/
def k12 : Class := { plain "[I" (some 0) with kind := .array 11 .int, interfaces := #[5, 6], accessFlags := 1041 }

/-- [[D -/
def k13 : Class := { plain "[[D" (some 0) with kind := .array 10 (.array .double), interfaces := #[5, 6], accessFlags := 1041 }

def heap : Heap := #[]
def classes : Array Class := #[k0, k1, k2, k3, k4, k5, k6, k7, k8, k9, k10, k11, k12, k13]
def interned : List (Array UInt16 × Addr) := []
def slotsUsed : Nat := 0
def theMethod : MethodId := ⟨1, 1⟩
def args0 : Array Value := #[.int 5, .int 7, .int 9, .int 2, .int 3, .int 4]
def aboutOver (below : List Frame) : State where
  vm := { classes := classes, interned := interned.toArray }
  heap := heap
  slotsUsed := slotsUsed
  threads := #[{ frames := .invoking theMethod args0 :: below }]
def below0 : List Frame := [.native { method := ⟨0, 0⟩, args := #[] }]
def about1 : State := aboutOver below0
def p0 : Program := .bare "" "" ""
def e0 : Env := launch0.env 0 0 0
theorem w_frames : about1.frames = Frame.invoking theMethod args0 :: below0 := rfl
set_option maxRecDepth 65536 in
theorem w_args : argsFit about1.vm theMethod args0 = true := by decide +kernel
set_option maxRecDepth 65536 in
theorem w_heap : heapFits about1 = true := by decide +kernel
set_option maxRecDepth 65536 in
theorem w_runnable : about1.curStatus? = some .runnable := by decide +kernel
set_option maxRecDepth 65536 in
theorem w_alone : about1.alone = true := by decide +kernel
set_option maxRecDepth 65536 in
theorem w_named : about1.methodNamed? x = some theMethod := by decide +kernel
set_option maxRecDepth 65536 in
theorem w_hears : about1.hears theMethod below0 = true := by decide +kernel
set_option maxRecDepth 65536 in
theorem w_ripe : about1.ripe theMethod args0 below0 = true := by decide +kernel
theorem w_running : about1.status = .running := rfl
set_option maxRecDepth 65536 in
theorem w_room : about1.hasRoom e0.platform room_1 = true :=
  launch0.hasRoom_least _ room_1 (by decide +kernel) (by decide +kernel) (by decide +kernel) (by decide +kernel) (by decide +kernel) (by decide +kernel)
theorem allAtoms_all (ts : List Jvm.Cond) (a : Array Jvm.Value) (st : Jvm.State) : (allAtoms ts).before a st = ts.all (fun c => c.before a st) := by
  induction ts with
  | nil => rfl
  | cons c t ih =>
    show (Jvm.Cond.and c (allAtoms t)).before a st = _
    rw [Jvm.Cond.before_and, ih, List.all_cons]
def words1 : List Jvm.Cond := Jvm.Cond.code x code maxLocals ret :: tables_1
/-- a 'code' word, met by the world's own term for the bytes: nothing is compared byte by byte -/
theorem code_word {y : MethodName} {bytes : ByteArray} {mx : Nat} {rt : Option FieldType} {a : Array Value} {s : State} {m : MethodId} {meth : Method} {c : Code} (h1 : s.methodNamed? y = some m) (h2 : s.vm.method? m = some meth) (h3 : meth.code = some c) (h4 : c.code = bytes)
    (h5 : (c.maxLocals == mx && c.exceptionTable.isEmpty && decide (c.maxStack ≤ mostOperands) && decide (meth.sig.returnType = rt) && !meth.locks && decide (parseMethodDescriptor y.desc = some meth.sig)) = true) : (Jvm.Cond.code y bytes mx rt).before a s = true := by
  simp only [Bool.and_eq_true, beq_iff_eq, Bool.not_eq_true', decide_eq_true_eq] at h5
  obtain ⟨⟨⟨⟨⟨g1, g2⟩, g3⟩, g4⟩, g5⟩, g6⟩ := h5
  simp [Cond.before, Cond.holds, Cond.value, h1, h2, h3, h4, g1, g2, g3, g4, g5, g6]
def isCode : Jvm.Cond → Bool
  | .code _ _ _ _ => true
  | _ => false
theorem all_split {L : List Jvm.Cond} {P : Jvm.Cond → Bool} (h1 : L.all (fun c => isCode c || P c) = true) (h2 : ∀ c ∈ L.filter isCode, P c = true) : L.all P = true := by
  refine List.all_eq_true.mpr fun c hc => ?_
  have h := List.all_eq_true.mp h1 c hc
  rcases Bool.eq_false_or_eq_true (isCode c) with hi | hi
  · exact h2 c (List.mem_filter.mpr ⟨hc, hi⟩)
  · simpa [hi] using h
set_option maxRecDepth 65536 in
theorem w_c0 : (Jvm.Cond.code x code maxLocals ret).before args0 about1 = true := code_word (m := ⟨1, 1⟩) (meth := k1m1) (c := k1c1) (by decide +kernel) rfl rfl rfl (by decide +kernel)
set_option maxRecDepth 65536 in
theorem w_c1 : (Jvm.Cond.code ({ cls := "com/example/dido/dido/HangingRegion", name := "<init>", desc := "(DDDDDDDD)V" } : Jvm.MethodName) prog_4_method_1_code (17 : Nat) (Option.none : Option Jvm.ClassFile.FieldType)).before args0 about1 = true := code_word (m := ⟨4, 0⟩) (meth := k4m0) (c := k4c0) (by decide +kernel) rfl rfl rfl (by decide +kernel)
set_option maxRecDepth 65536 in
theorem w_c2 : (Jvm.Cond.code ({ cls := "java/lang/Record", name := "<init>", desc := "()V" } : Jvm.MethodName) jdk_30_method_1_code (1 : Nat) (Option.none : Option Jvm.ClassFile.FieldType)).before args0 about1 = true := code_word (m := ⟨2, 0⟩) (meth := k2m0) (c := k2c0) (by decide +kernel) rfl rfl rfl (by decide +kernel)
set_option maxRecDepth 65536 in
theorem w_c3 : (Jvm.Cond.code ({ cls := "java/lang/Object", name := "<init>", desc := "()V" } : Jvm.MethodName) object_method_1_code (1 : Nat) (Option.none : Option Jvm.ClassFile.FieldType)).before args0 about1 = true := code_word (m := ⟨0, 0⟩) (meth := k0m0) (c := k0c0) (by decide +kernel) rfl rfl rfl (by decide +kernel)
set_option maxRecDepth 65536 in
theorem w_c4 : (Jvm.Cond.code ({ cls := "com/example/dido/dido/HangingRegion", name := "rectangles", desc := "()[[D" } : Jvm.MethodName) prog_4_method_3_code (1 : Nat) (Option.some (Jvm.ClassFile.FieldType.array (Jvm.ClassFile.FieldType.array Jvm.ClassFile.FieldType.double)))).before args0 about1 = true := code_word (m := ⟨4, 1⟩) (meth := k4m1) (c := k4c1) (by decide +kernel) rfl rfl rfl (by decide +kernel)
set_option maxRecDepth 65536 in
theorem w_c5 : (Jvm.Cond.code ({ cls := "com/example/dido/dido/HangingRegionRectanglesPinLaw", name := "same", desc := "([DJJJJ)Z" } : Jvm.MethodName) method_3_code (9 : Nat) (Option.some Jvm.ClassFile.FieldType.boolean)).before args0 about1 = true := code_word (m := ⟨1, 2⟩) (meth := k1m2) (c := k1c2) (by decide +kernel) rfl rfl rfl (by decide +kernel)
set_option maxRecDepth 65536 in
theorem w_c6 : (Jvm.Cond.code ({ cls := "com/example/dido/dido/Region", name := "area", desc := "()D" } : Jvm.MethodName) prog_17_method_3_code (7 : Nat) (Option.some Jvm.ClassFile.FieldType.double)).before args0 about1 = true := code_word (m := ⟨3, 1⟩) (meth := k3m1) (c := k3c1) (by decide +kernel) rfl rfl rfl (by decide +kernel)
def codes1 : List Jvm.Cond := [Jvm.Cond.code x code maxLocals ret, Jvm.Cond.code ({ cls := "com/example/dido/dido/HangingRegion", name := "<init>", desc := "(DDDDDDDD)V" } : Jvm.MethodName) prog_4_method_1_code (17 : Nat) (Option.none : Option Jvm.ClassFile.FieldType), Jvm.Cond.code ({ cls := "java/lang/Record", name := "<init>", desc := "()V" } : Jvm.MethodName) jdk_30_method_1_code (1 : Nat) (Option.none : Option Jvm.ClassFile.FieldType), Jvm.Cond.code ({ cls := "java/lang/Object", name := "<init>", desc := "()V" } : Jvm.MethodName) object_method_1_code (1 : Nat) (Option.none : Option Jvm.ClassFile.FieldType), Jvm.Cond.code ({ cls := "com/example/dido/dido/HangingRegion", name := "rectangles", desc := "()[[D" } : Jvm.MethodName) prog_4_method_3_code (1 : Nat) (Option.some (Jvm.ClassFile.FieldType.array (Jvm.ClassFile.FieldType.array Jvm.ClassFile.FieldType.double))), Jvm.Cond.code ({ cls := "com/example/dido/dido/HangingRegionRectanglesPinLaw", name := "same", desc := "([DJJJJ)Z" } : Jvm.MethodName) method_3_code (9 : Nat) (Option.some Jvm.ClassFile.FieldType.boolean), Jvm.Cond.code ({ cls := "com/example/dido/dido/Region", name := "area", desc := "()D" } : Jvm.MethodName) prog_17_method_3_code (7 : Nat) (Option.some Jvm.ClassFile.FieldType.double)]
set_option maxRecDepth 65536 in
theorem codes_eq : words1.filter isCode = codes1 := rfl
theorem w_codes : ∀ c ∈ words1.filter isCode, c.before args0 about1 = true := by
  rw [codes_eq]
  intro c hc
  simp only [codes1, List.mem_cons, List.not_mem_nil, or_false] at hc
  rcases hc with rfl | rfl | rfl | rfl | rfl | rfl | rfl
  · exact w_c0
  · exact w_c1
  · exact w_c2
  · exact w_c3
  · exact w_c4
  · exact w_c5
  · exact w_c6
set_option maxRecDepth 65536 in
theorem w_t1 : (words1.take 24).all (fun c => isCode c || c.before args0 about1) = true := by decide +kernel
set_option maxRecDepth 65536 in
theorem w_t2 : ((words1.drop 24).take 24).all (fun c => isCode c || c.before args0 about1) = true := by decide +kernel
set_option maxRecDepth 65536 in
theorem w_t3 : ((words1.drop 24).drop 24).all (fun c => isCode c || c.before args0 about1) = true := by decide +kernel
theorem w_tables : (allAtoms (Jvm.Cond.code x code maxLocals ret :: tables_1)).before args0 about1 = true := by
  rw [allAtoms_all]
  show words1.all (fun c => c.before args0 about1) = true
  refine all_split ?_ w_codes
  rw [← List.take_append_drop 24 words1, List.all_append, w_t1, ← List.take_append_drop 24 (words1.drop 24), List.all_append, w_t2, w_t3]
  rfl
set_option maxRecDepth 65536 in
theorem w_case : (Jvm.Cond.and given_1 narrow_1).before args0 about1 = true := by decide +kernel
theorem w_applies : (headSpec (Jvm.Cond.code x code maxLocals ret :: tables_1) room_1).applies x e0.platform about1 = true :=
  (Spec.applies_iff w_frames).mpr ⟨w_running, w_runnable, w_alone, w_named, w_hears, w_ripe, w_room, w_tables⟩
theorem atStart : AtStart classFile x code maxLocals ret World_1 tables_1 room_1 Calls_1 rest_1 Pre_1 launch0 p0 e0 about1 theMethod args0 below0 :=
  ⟨lists_1, trivial, launch0.admits_env _ _ _, launch0.least_env, fairChoices_fair.cas, fairChoices_fair.clock, w_frames, w_args, w_heap, w_applies, trivial, trivial, w_case⟩
end start1
theorem witness_1 : WitnessClaimed_1 := ⟨start1.p0, start1.e0, start1.about1, start1.theMethod, start1.args0, start1.below0, start1.atStart⟩
end Jvm.Pilot.@@N@@
