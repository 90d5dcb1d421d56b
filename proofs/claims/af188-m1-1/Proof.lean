import JvmDerived
import JvmDerived.Pilot.@@N@@Statement
import JvmDerived.Pilot.@@N@@Code
set_option linter.unusedVariables false
set_option linter.unusedSimpArgs false
namespace Jvm.Pilot.@@N@@
open Jvm Jvm.ClassFile Sem Op Lib Jvm.Free Jvm.Stand Jvm.LawKit Jvm.RoadKit Jvm.Free.Fl Bundle Jvm.Pilot.@@N@@.Jvm.D
section OwnG
variable {p : Program} {l : Launch} {e : Env} {R : Room} {s : State} {m : MethodId} {args : Array Value} {below : List Frame} {meth : Method} {c : Code} {T : State} {locs : List Loc} {cells slots : Nat} {Z : State} {a0 : Array Value} {h : Heap} {B : ByteArray} {pc pc' : Nat} {L L' : Array Slot} {rest : List Value} {F : Outcome → State → Prop}
def Gt (tb : Tables) (e : Env) (below : List Frame) (F : Outcome → State → Prop) (S : State) : Prop := ∃ s₂ o, Steps tb e below S s₂ ∧ s₂.status = .running ∧ Ended s₂ below o ∧ F o s₂
theorem Gt.go {tb : Tables} {S S' : State} (k : Gt tb e below F S') (q : ∀ t, Steps tb e below S' t → Steps tb e below S t) : Gt tb e below F S := by
  obtain ⟨a, o, h1, h2⟩ := k; exact ⟨a, o, q _ h1, h2⟩
theorem own_join {tb : Tables} {S S' : State} (q : ∀ F', Gt tb e below F' S' → Gt tb e below F' S) (k : Gt tb e below F S') : Gt tb e below F S := q F k
theorem own_cast {tb : Tables} {g g' : JFrame} (q : g = g') (k : Gt tb e below F (T.setTop g')) : Gt tb e below F (T.setTop g) := q ▸ k
theorem own_iadd (X : Stand p l e R s m args below meth c T locs cells slots) (hx : p.tables.exec = Jvm.exec) (hby : c.code = B) {x y v : Int32} (hv : x + y = v) (hd : decode B pc = .ok (.iadd, 1)) (hp : pc + 1 = pc') (k : Gt p.tables e below F (T.setTop (mkF m pc' L (.int v :: rest)))) : Gt p.tables e below F (T.setTop (mkF m pc L (.int y :: .int x :: rest))) := by
  subst hp; exact (by subst hv; exact k.go fun t q => XS.iadd X.here hx rfl (hb hby hd) rfl q)
theorem own_isub (X : Stand p l e R s m args below meth c T locs cells slots) (hx : p.tables.exec = Jvm.exec) (hby : c.code = B) {x y v : Int32} (hv : x - y = v) (hd : decode B pc = .ok (.isub, 1)) (hp : pc + 1 = pc') (k : Gt p.tables e below F (T.setTop (mkF m pc' L (.int v :: rest)))) : Gt p.tables e below F (T.setTop (mkF m pc L (.int y :: .int x :: rest))) := by
  subst hp; exact (by subst hv; exact k.go fun t q => XS.isub X.here hx rfl (hb hby hd) rfl q)
theorem own_imul (X : Stand p l e R s m args below meth c T locs cells slots) (hx : p.tables.exec = Jvm.exec) (hby : c.code = B) {x y v : Int32} (hv : x * y = v) (hd : decode B pc = .ok (.imul, 1)) (hp : pc + 1 = pc') (k : Gt p.tables e below F (T.setTop (mkF m pc' L (.int v :: rest)))) : Gt p.tables e below F (T.setTop (mkF m pc L (.int y :: .int x :: rest))) := by
  subst hp; exact (by subst hv; exact k.go fun t q => XS.imul X.here hx rfl (hb hby hd) rfl q)
theorem own_iand (X : Stand p l e R s m args below meth c T locs cells slots) (hx : p.tables.exec = Jvm.exec) (hby : c.code = B) {x y v : Int32} (hv : x &&& y = v) (hd : decode B pc = .ok (.iand, 1)) (hp : pc + 1 = pc') (k : Gt p.tables e below F (T.setTop (mkF m pc' L (.int v :: rest)))) : Gt p.tables e below F (T.setTop (mkF m pc L (.int y :: .int x :: rest))) := by
  subst hp; exact (by subst hv; exact k.go fun t q => XS.iand X.here hx rfl (hb hby hd) rfl q)
theorem own_ior (X : Stand p l e R s m args below meth c T locs cells slots) (hx : p.tables.exec = Jvm.exec) (hby : c.code = B) {x y v : Int32} (hv : x ||| y = v) (hd : decode B pc = .ok (.ior, 1)) (hp : pc + 1 = pc') (k : Gt p.tables e below F (T.setTop (mkF m pc' L (.int v :: rest)))) : Gt p.tables e below F (T.setTop (mkF m pc L (.int y :: .int x :: rest))) := by
  subst hp; exact (by subst hv; exact k.go fun t q => XS.ior X.here hx rfl (hb hby hd) rfl q)
theorem own_ixor (X : Stand p l e R s m args below meth c T locs cells slots) (hx : p.tables.exec = Jvm.exec) (hby : c.code = B) {x y v : Int32} (hv : x ^^^ y = v) (hd : decode B pc = .ok (.ixor, 1)) (hp : pc + 1 = pc') (k : Gt p.tables e below F (T.setTop (mkF m pc' L (.int v :: rest)))) : Gt p.tables e below F (T.setTop (mkF m pc L (.int y :: .int x :: rest))) := by
  subst hp; exact (by subst hv; exact k.go fun t q => XS.ixor X.here hx rfl (hb hby hd) rfl q)
theorem own_ishl (X : Stand p l e R s m args below meth c T locs cells slots) (hx : p.tables.exec = Jvm.exec) (hby : c.code = B) {x y v : Int32} (hv : x <<< (y &&& 31) = v) (hd : decode B pc = .ok (.ishl, 1)) (hp : pc + 1 = pc') (k : Gt p.tables e below F (T.setTop (mkF m pc' L (.int v :: rest)))) : Gt p.tables e below F (T.setTop (mkF m pc L (.int y :: .int x :: rest))) := by
  subst hp; exact (by subst hv; exact k.go fun t q => XS.ishl X.here hx rfl (hb hby hd) rfl q)
theorem own_ishr (X : Stand p l e R s m args below meth c T locs cells slots) (hx : p.tables.exec = Jvm.exec) (hby : c.code = B) {x y v : Int32} (hv : x >>> (y &&& 31) = v) (hd : decode B pc = .ok (.ishr, 1)) (hp : pc + 1 = pc') (k : Gt p.tables e below F (T.setTop (mkF m pc' L (.int v :: rest)))) : Gt p.tables e below F (T.setTop (mkF m pc L (.int y :: .int x :: rest))) := by
  subst hp; exact (by subst hv; exact k.go fun t q => XS.ishr X.here hx rfl (hb hby hd) rfl q)
theorem own_iushr (X : Stand p l e R s m args below meth c T locs cells slots) (hx : p.tables.exec = Jvm.exec) (hby : c.code = B) {x y v : Int32} (hv : (x.toUInt32 >>> (y &&& 31).toUInt32).toInt32 = v) (hd : decode B pc = .ok (.iushr, 1)) (hp : pc + 1 = pc') (k : Gt p.tables e below F (T.setTop (mkF m pc' L (.int v :: rest)))) : Gt p.tables e below F (T.setTop (mkF m pc L (.int y :: .int x :: rest))) := by
  subst hp; exact (by subst hv; exact k.go fun t q => XS.iushr X.here hx rfl (hb hby hd) rfl q)
theorem own_ladd (X : Stand p l e R s m args below meth c T locs cells slots) (hx : p.tables.exec = Jvm.exec) (hby : c.code = B) {x y v : Int64} (hv : x + y = v) (hd : decode B pc = .ok (.ladd, 1)) (hp : pc + 1 = pc') (k : Gt p.tables e below F (T.setTop (mkF m pc' L (.long v :: rest)))) : Gt p.tables e below F (T.setTop (mkF m pc L (.long y :: .long x :: rest))) := by
  subst hp; exact (by subst hv; exact k.go fun t q => XS.ladd X.here hx rfl (hb hby hd) rfl q)
theorem own_lsub (X : Stand p l e R s m args below meth c T locs cells slots) (hx : p.tables.exec = Jvm.exec) (hby : c.code = B) {x y v : Int64} (hv : x - y = v) (hd : decode B pc = .ok (.lsub, 1)) (hp : pc + 1 = pc') (k : Gt p.tables e below F (T.setTop (mkF m pc' L (.long v :: rest)))) : Gt p.tables e below F (T.setTop (mkF m pc L (.long y :: .long x :: rest))) := by
  subst hp; exact (by subst hv; exact k.go fun t q => XS.lsub X.here hx rfl (hb hby hd) rfl q)
theorem own_lmul (X : Stand p l e R s m args below meth c T locs cells slots) (hx : p.tables.exec = Jvm.exec) (hby : c.code = B) {x y v : Int64} (hv : x * y = v) (hd : decode B pc = .ok (.lmul, 1)) (hp : pc + 1 = pc') (k : Gt p.tables e below F (T.setTop (mkF m pc' L (.long v :: rest)))) : Gt p.tables e below F (T.setTop (mkF m pc L (.long y :: .long x :: rest))) := by
  subst hp; exact (by subst hv; exact k.go fun t q => XS.lmul X.here hx rfl (hb hby hd) rfl q)
theorem own_land (X : Stand p l e R s m args below meth c T locs cells slots) (hx : p.tables.exec = Jvm.exec) (hby : c.code = B) {x y v : Int64} (hv : x &&& y = v) (hd : decode B pc = .ok (.land, 1)) (hp : pc + 1 = pc') (k : Gt p.tables e below F (T.setTop (mkF m pc' L (.long v :: rest)))) : Gt p.tables e below F (T.setTop (mkF m pc L (.long y :: .long x :: rest))) := by
  subst hp; exact (by subst hv; exact k.go fun t q => XS.land X.here hx rfl (hb hby hd) rfl q)
theorem own_lor (X : Stand p l e R s m args below meth c T locs cells slots) (hx : p.tables.exec = Jvm.exec) (hby : c.code = B) {x y v : Int64} (hv : x ||| y = v) (hd : decode B pc = .ok (.lor, 1)) (hp : pc + 1 = pc') (k : Gt p.tables e below F (T.setTop (mkF m pc' L (.long v :: rest)))) : Gt p.tables e below F (T.setTop (mkF m pc L (.long y :: .long x :: rest))) := by
  subst hp; exact (by subst hv; exact k.go fun t q => XS.lor X.here hx rfl (hb hby hd) rfl q)
theorem own_lxor (X : Stand p l e R s m args below meth c T locs cells slots) (hx : p.tables.exec = Jvm.exec) (hby : c.code = B) {x y v : Int64} (hv : x ^^^ y = v) (hd : decode B pc = .ok (.lxor, 1)) (hp : pc + 1 = pc') (k : Gt p.tables e below F (T.setTop (mkF m pc' L (.long v :: rest)))) : Gt p.tables e below F (T.setTop (mkF m pc L (.long y :: .long x :: rest))) := by
  subst hp; exact (by subst hv; exact k.go fun t q => XS.lxor X.here hx rfl (hb hby hd) rfl q)
theorem own_lshl (X : Stand p l e R s m args below meth c T locs cells slots) (hx : p.tables.exec = Jvm.exec) (hby : c.code = B) {x v : Int64} {y : Int32} (hv : x <<< (y &&& 0x3f).toInt64 = v) (hd : decode B pc = .ok (.lshl, 1)) (hp : pc + 1 = pc') (k : Gt p.tables e below F (T.setTop (mkF m pc' L (.long v :: rest)))) : Gt p.tables e below F (T.setTop (mkF m pc L (.int y :: .long x :: rest))) := by
  subst hp; exact (by subst hv; exact k.go fun t q => XS.lshl X.here hx rfl (hb hby hd) rfl q)
theorem own_lshr (X : Stand p l e R s m args below meth c T locs cells slots) (hx : p.tables.exec = Jvm.exec) (hby : c.code = B) {x v : Int64} {y : Int32} (hv : x >>> (y &&& 0x3f).toInt64 = v) (hd : decode B pc = .ok (.lshr, 1)) (hp : pc + 1 = pc') (k : Gt p.tables e below F (T.setTop (mkF m pc' L (.long v :: rest)))) : Gt p.tables e below F (T.setTop (mkF m pc L (.int y :: .long x :: rest))) := by
  subst hp; exact (by subst hv; exact k.go fun t q => XS.lshr X.here hx rfl (hb hby hd) rfl q)
theorem own_lushr (X : Stand p l e R s m args below meth c T locs cells slots) (hx : p.tables.exec = Jvm.exec) (hby : c.code = B) {x v : Int64} {y : Int32} (hv : (x.toUInt64 >>> (y &&& 0x3f).toInt64.toUInt64).toInt64 = v) (hd : decode B pc = .ok (.lushr, 1)) (hp : pc + 1 = pc') (k : Gt p.tables e below F (T.setTop (mkF m pc' L (.long v :: rest)))) : Gt p.tables e below F (T.setTop (mkF m pc L (.int y :: .long x :: rest))) := by
  subst hp; exact (by subst hv; exact k.go fun t q => XS.lushr X.here hx rfl (hb hby hd) rfl q)
theorem own_idiv (X : Stand p l e R s m args below meth c T locs cells slots) (hx : p.tables.exec = Jvm.exec) (hby : c.code = B) {x y v : Int32} (hy : y ≠ 0) (hv : x / y = v) (hd : decode B pc = .ok (.idiv, 1)) (hp : pc + 1 = pc') (k : Gt p.tables e below F (T.setTop (mkF m pc' L (.int v :: rest)))) : Gt p.tables e below F (T.setTop (mkF m pc L (.int y :: .int x :: rest))) := by
  subst hp; exact (by subst hv; exact k.go fun t q => XS.idiv X.here hx rfl (hb hby hd) rfl hy q)
theorem own_irem (X : Stand p l e R s m args below meth c T locs cells slots) (hx : p.tables.exec = Jvm.exec) (hby : c.code = B) {x y v : Int32} (hy : y ≠ 0) (hv : x % y = v) (hd : decode B pc = .ok (.irem, 1)) (hp : pc + 1 = pc') (k : Gt p.tables e below F (T.setTop (mkF m pc' L (.int v :: rest)))) : Gt p.tables e below F (T.setTop (mkF m pc L (.int y :: .int x :: rest))) := by
  subst hp; exact (by subst hv; exact k.go fun t q => iremM X hx rfl (hb hby hd) rfl hy q)
theorem own_ldiv (X : Stand p l e R s m args below meth c T locs cells slots) (hx : p.tables.exec = Jvm.exec) (hby : c.code = B) {x y v : Int64} (hy : y ≠ 0) (hv : x / y = v) (hd : decode B pc = .ok (.ldiv, 1)) (hp : pc + 1 = pc') (k : Gt p.tables e below F (T.setTop (mkF m pc' L (.long v :: rest)))) : Gt p.tables e below F (T.setTop (mkF m pc L (.long y :: .long x :: rest))) := by
  subst hp; exact (by subst hv; exact k.go fun t q => XS.ldiv X.here hx rfl (hb hby hd) rfl hy q)
theorem own_lrem (X : Stand p l e R s m args below meth c T locs cells slots) (hx : p.tables.exec = Jvm.exec) (hby : c.code = B) {x y v : Int64} (hy : y ≠ 0) (hv : x % y = v) (hd : decode B pc = .ok (.lrem, 1)) (hp : pc + 1 = pc') (k : Gt p.tables e below F (T.setTop (mkF m pc' L (.long v :: rest)))) : Gt p.tables e below F (T.setTop (mkF m pc L (.long y :: .long x :: rest))) := by
  subst hp; exact (by subst hv; rw [← lrem_mod] at k; exact k.go fun t q => XS.lrem X.here hx rfl (hb hby hd) rfl hy q)
theorem own_lcmp (X : Stand p l e R s m args below meth c T locs cells slots) (hx : p.tables.exec = Jvm.exec) (hby : c.code = B) {x y : Int64} {v : Int32} (hv : (if x > y then 1 else if x = y then 0 else -1 : Int32) = v) (hd : decode B pc = .ok (.lcmp, 1)) (hp : pc + 1 = pc') (k : Gt p.tables e below F (T.setTop (mkF m pc' L (.int v :: rest)))) : Gt p.tables e below F (T.setTop (mkF m pc L (.long y :: .long x :: rest))) := by
  subst hp; exact (by subst hv; exact k.go fun t q => XS.lcmp X.here hx rfl (hb hby hd) rfl q)
theorem own_ineg (X : Stand p l e R s m args below meth c T locs cells slots) (hx : p.tables.exec = Jvm.exec) (hby : c.code = B) {x v : Int32} (hv : -x = v) (hd : decode B pc = .ok (.ineg, 1)) (hp : pc + 1 = pc') (k : Gt p.tables e below F (T.setTop (mkF m pc' L (.int v :: rest)))) : Gt p.tables e below F (T.setTop (mkF m pc L (.int x :: rest))) := by
  subst hp; exact (by subst hv; exact k.go fun t q => XS.ineg X.here hx rfl (hb hby hd) rfl q)
theorem own_lneg (X : Stand p l e R s m args below meth c T locs cells slots) (hx : p.tables.exec = Jvm.exec) (hby : c.code = B) {x v : Int64} (hv : -x = v) (hd : decode B pc = .ok (.lneg, 1)) (hp : pc + 1 = pc') (k : Gt p.tables e below F (T.setTop (mkF m pc' L (.long v :: rest)))) : Gt p.tables e below F (T.setTop (mkF m pc L (.long x :: rest))) := by
  subst hp; exact (by subst hv; exact k.go fun t q => XS.lneg X.here hx rfl (hb hby hd) rfl q)
theorem own_i2b (X : Stand p l e R s m args below meth c T locs cells slots) (hx : p.tables.exec = Jvm.exec) (hby : c.code = B) {x v : Int32} (hv : x.toInt8.toInt32 = v) (hd : decode B pc = .ok (.i2b, 1)) (hp : pc + 1 = pc') (k : Gt p.tables e below F (T.setTop (mkF m pc' L (.int v :: rest)))) : Gt p.tables e below F (T.setTop (mkF m pc L (.int x :: rest))) := by
  subst hp; exact (by subst hv; exact k.go fun t q => XS.i2b X.here hx rfl (hb hby hd) rfl q)
theorem own_i2c (X : Stand p l e R s m args below meth c T locs cells slots) (hx : p.tables.exec = Jvm.exec) (hby : c.code = B) {x v : Int32} (hv : x.toUInt32.toUInt16.toUInt32.toInt32 = v) (hd : decode B pc = .ok (.i2c, 1)) (hp : pc + 1 = pc') (k : Gt p.tables e below F (T.setTop (mkF m pc' L (.int v :: rest)))) : Gt p.tables e below F (T.setTop (mkF m pc L (.int x :: rest))) := by
  subst hp; exact (by subst hv; exact k.go fun t q => XS.i2c X.here hx rfl (hb hby hd) rfl q)
theorem own_i2s (X : Stand p l e R s m args below meth c T locs cells slots) (hx : p.tables.exec = Jvm.exec) (hby : c.code = B) {x v : Int32} (hv : x.toInt16.toInt32 = v) (hd : decode B pc = .ok (.i2s, 1)) (hp : pc + 1 = pc') (k : Gt p.tables e below F (T.setTop (mkF m pc' L (.int v :: rest)))) : Gt p.tables e below F (T.setTop (mkF m pc L (.int x :: rest))) := by
  subst hp; exact (by subst hv; exact k.go fun t q => XS.i2s X.here hx rfl (hb hby hd) rfl q)
theorem own_i2l (X : Stand p l e R s m args below meth c T locs cells slots) (hx : p.tables.exec = Jvm.exec) (hby : c.code = B) {x : Int32} {v : Int64} (hv : x.toInt64 = v) (hd : decode B pc = .ok (.i2l, 1)) (hp : pc + 1 = pc') (k : Gt p.tables e below F (T.setTop (mkF m pc' L (.long v :: rest)))) : Gt p.tables e below F (T.setTop (mkF m pc L (.int x :: rest))) := by
  subst hp; exact (by subst hv; exact k.go fun t q => XS.i2l X.here hx rfl (hb hby hd) rfl q)
theorem own_l2i (X : Stand p l e R s m args below meth c T locs cells slots) (hx : p.tables.exec = Jvm.exec) (hby : c.code = B) {x : Int64} {v : Int32} (hv : x.toInt32 = v) (hd : decode B pc = .ok (.l2i, 1)) (hp : pc + 1 = pc') (k : Gt p.tables e below F (T.setTop (mkF m pc' L (.int v :: rest)))) : Gt p.tables e below F (T.setTop (mkF m pc L (.long x :: rest))) := by
  subst hp; exact (by subst hv; exact k.go fun t q => XS.l2i X.here hx rfl (hb hby hd) rfl q)
theorem own_iload (X : Stand p l e R s m args below meth c T locs cells slots) (hx : p.tables.exec = Jvm.exec) (hby : c.code = B) {i : Nat} {v : Int32} (hl : L[i]? = some (.val (.int v))) (hd : decode B pc = .ok (.iload i, 2)) (hp : pc + 2 = pc') (k : Gt p.tables e below F (T.setTop (mkF m pc' L (.int v :: rest)))) : Gt p.tables e below F (T.setTop (mkF m pc L rest)) := by
  subst hp; exact k.go fun t q => XS.iload X.here hx rfl (hb hby hd) hl q
theorem own_iloadN (X : Stand p l e R s m args below meth c T locs cells slots) (hx : p.tables.exec = Jvm.exec) (hby : c.code = B) {i : Fin 4} {v : Int32} (hl : L[i.val]? = some (.val (.int v))) (hd : decode B pc = .ok (.iload_n i, 1)) (hp : pc + 1 = pc') (k : Gt p.tables e below F (T.setTop (mkF m pc' L (.int v :: rest)))) : Gt p.tables e below F (T.setTop (mkF m pc L rest)) := by
  subst hp; exact k.go fun t q => XS.iloadN X.here hx rfl (hb hby hd) hl q
theorem own_lload (X : Stand p l e R s m args below meth c T locs cells slots) (hx : p.tables.exec = Jvm.exec) (hby : c.code = B) {i : Nat} {v : Int64} (hl : L[i]? = some (.val (.long v))) (hd : decode B pc = .ok (.lload i, 2)) (hp : pc + 2 = pc') (k : Gt p.tables e below F (T.setTop (mkF m pc' L (.long v :: rest)))) : Gt p.tables e below F (T.setTop (mkF m pc L rest)) := by
  subst hp; exact k.go fun t q => XS.lload X.here hx rfl (hb hby hd) hl q
theorem own_lloadN (X : Stand p l e R s m args below meth c T locs cells slots) (hx : p.tables.exec = Jvm.exec) (hby : c.code = B) {i : Fin 4} {v : Int64} (hl : L[i.val]? = some (.val (.long v))) (hd : decode B pc = .ok (.lload_n i, 1)) (hp : pc + 1 = pc') (k : Gt p.tables e below F (T.setTop (mkF m pc' L (.long v :: rest)))) : Gt p.tables e below F (T.setTop (mkF m pc L rest)) := by
  subst hp; exact k.go fun t q => XS.lloadN X.here hx rfl (hb hby hd) hl q
theorem own_dload (X : Stand p l e R s m args below meth c T locs cells slots) (hx : p.tables.exec = Jvm.exec) (hby : c.code = B) {i : Nat} {v : UInt64} (hl : L[i]? = some (.val (.double v))) (hd : decode B pc = .ok (.dload i, 2)) (hp : pc + 2 = pc') (k : Gt p.tables e below F (T.setTop (mkF m pc' L (.double v :: rest)))) : Gt p.tables e below F (T.setTop (mkF m pc L rest)) := by
  subst hp; exact k.go fun t q => XS.dload X.here hx rfl (hb hby hd) hl q
theorem own_dloadN (X : Stand p l e R s m args below meth c T locs cells slots) (hx : p.tables.exec = Jvm.exec) (hby : c.code = B) {i : Fin 4} {v : UInt64} (hl : L[i.val]? = some (.val (.double v))) (hd : decode B pc = .ok (.dload_n i, 1)) (hp : pc + 1 = pc') (k : Gt p.tables e below F (T.setTop (mkF m pc' L (.double v :: rest)))) : Gt p.tables e below F (T.setTop (mkF m pc L rest)) := by
  subst hp; exact k.go fun t q => XS.dloadN X.here hx rfl (hb hby hd) hl q
theorem own_aload (X : Stand p l e R s m args below meth c T locs cells slots) (hx : p.tables.exec = Jvm.exec) (hby : c.code = B) {i : Nat} {v : Value} (hl : L[i]? = some (.val v)) (hr : v.isRef = true) (hd : decode B pc = .ok (.aload i, 2)) (hp : pc + 2 = pc') (k : Gt p.tables e below F (T.setTop (mkF m pc' L (v :: rest)))) : Gt p.tables e below F (T.setTop (mkF m pc L rest)) := by
  subst hp; exact k.go fun t q => XS.aload X.here hx rfl (hb hby hd) hl hr q
theorem own_aloadN (X : Stand p l e R s m args below meth c T locs cells slots) (hx : p.tables.exec = Jvm.exec) (hby : c.code = B) {i : Fin 4} {v : Value} (hl : L[i.val]? = some (.val v)) (hr : v.isRef = true) (hd : decode B pc = .ok (.aload_n i, 1)) (hp : pc + 1 = pc') (k : Gt p.tables e below F (T.setTop (mkF m pc' L (v :: rest)))) : Gt p.tables e below F (T.setTop (mkF m pc L rest)) := by
  subst hp; exact k.go fun t q => XS.aloadN X.here hx rfl (hb hby hd) hl hr q
theorem own_istore (X : Stand p l e R s m args below meth c T locs cells slots) (hx : p.tables.exec = Jvm.exec) (hby : c.code = B) {i : Nat} {v : Int32} (hl : storeLocals L i (.int v) = some L') (hd : decode B pc = .ok (.istore i, 2)) (hp : pc + 2 = pc') (k : Gt p.tables e below F (T.setTop (mkF m pc' L' rest))) : Gt p.tables e below F (T.setTop (mkF m pc L (.int v :: rest))) := by
  subst hp; exact k.go fun t q => XS.istore X.here hx rfl (hb hby hd) rfl hl q
theorem own_istoreN (X : Stand p l e R s m args below meth c T locs cells slots) (hx : p.tables.exec = Jvm.exec) (hby : c.code = B) {i : Fin 4} {v : Int32} (hl : storeLocals L i.val (.int v) = some L') (hd : decode B pc = .ok (.istore_n i, 1)) (hp : pc + 1 = pc') (k : Gt p.tables e below F (T.setTop (mkF m pc' L' rest))) : Gt p.tables e below F (T.setTop (mkF m pc L (.int v :: rest))) := by
  subst hp; exact k.go fun t q => XS.istoreN X.here hx rfl (hb hby hd) rfl hl q
theorem own_lstore (X : Stand p l e R s m args below meth c T locs cells slots) (hx : p.tables.exec = Jvm.exec) (hby : c.code = B) {i : Nat} {v : Int64} (hl : storeLocals L i (.long v) = some L') (hd : decode B pc = .ok (.lstore i, 2)) (hp : pc + 2 = pc') (k : Gt p.tables e below F (T.setTop (mkF m pc' L' rest))) : Gt p.tables e below F (T.setTop (mkF m pc L (.long v :: rest))) := by
  subst hp; exact k.go fun t q => XS.lstore X.here hx rfl (hb hby hd) rfl hl q
theorem own_lstoreN (X : Stand p l e R s m args below meth c T locs cells slots) (hx : p.tables.exec = Jvm.exec) (hby : c.code = B) {i : Fin 4} {v : Int64} (hl : storeLocals L i.val (.long v) = some L') (hd : decode B pc = .ok (.lstore_n i, 1)) (hp : pc + 1 = pc') (k : Gt p.tables e below F (T.setTop (mkF m pc' L' rest))) : Gt p.tables e below F (T.setTop (mkF m pc L (.long v :: rest))) := by
  subst hp; exact k.go fun t q => XS.lstoreN X.here hx rfl (hb hby hd) rfl hl q
theorem own_dstore (X : Stand p l e R s m args below meth c T locs cells slots) (hx : p.tables.exec = Jvm.exec) (hby : c.code = B) {i : Nat} {v : UInt64} (hl : storeLocals L i (.double v) = some L') (hd : decode B pc = .ok (.dstore i, 2)) (hp : pc + 2 = pc') (k : Gt p.tables e below F (T.setTop (mkF m pc' L' rest))) : Gt p.tables e below F (T.setTop (mkF m pc L (.double v :: rest))) := by
  subst hp; exact k.go fun t q => XS.dstore X.here hx rfl (hb hby hd) rfl hl q
theorem own_dstoreN (X : Stand p l e R s m args below meth c T locs cells slots) (hx : p.tables.exec = Jvm.exec) (hby : c.code = B) {i : Fin 4} {v : UInt64} (hl : storeLocals L i.val (.double v) = some L') (hd : decode B pc = .ok (.dstore_n i, 1)) (hp : pc + 1 = pc') (k : Gt p.tables e below F (T.setTop (mkF m pc' L' rest))) : Gt p.tables e below F (T.setTop (mkF m pc L (.double v :: rest))) := by
  subst hp; exact k.go fun t q => XS.dstoreN X.here hx rfl (hb hby hd) rfl hl q
theorem own_astore (X : Stand p l e R s m args below meth c T locs cells slots) (hx : p.tables.exec = Jvm.exec) (hby : c.code = B) {i : Nat} {v : Value} (hr : v.isRef = true) (hl : storeLocals L i v = some L') (hd : decode B pc = .ok (.astore i, 2)) (hp : pc + 2 = pc') (k : Gt p.tables e below F (T.setTop (mkF m pc' L' rest))) : Gt p.tables e below F (T.setTop (mkF m pc L (v :: rest))) := by
  subst hp; exact k.go fun t q => XS.astore X.here hx rfl (hb hby hd) rfl hr hl q
theorem own_astoreN (X : Stand p l e R s m args below meth c T locs cells slots) (hx : p.tables.exec = Jvm.exec) (hby : c.code = B) {i : Fin 4} {v : Value} (hr : v.isRef = true) (hl : storeLocals L i.val v = some L') (hd : decode B pc = .ok (.astore_n i, 1)) (hp : pc + 1 = pc') (k : Gt p.tables e below F (T.setTop (mkF m pc' L' rest))) : Gt p.tables e below F (T.setTop (mkF m pc L (v :: rest))) := by
  subst hp; exact k.go fun t q => XS.astoreN X.here hx rfl (hb hby hd) rfl hr hl q
theorem own_iinc (X : Stand p l e R s m args below meth c T locs cells slots) (hx : p.tables.exec = Jvm.exec) (hby : c.code = B) {i : Nat} {cst : Int} {x : Int32} (hl : L[i]? = some (.val (.int x))) (hl' : storeLocals L i (.int (x + Int32.ofInt cst)) = some L') (hd : decode B pc = .ok (.iinc i cst, 3)) (hp : pc + 3 = pc') (k : Gt p.tables e below F (T.setTop (mkF m pc' L' rest))) : Gt p.tables e below F (T.setTop (mkF m pc L rest)) := by
  subst hp; exact k.go fun t q => XS.iinc X.here hx rfl (hb hby hd) hl hl' q
theorem own_iconst (X : Stand p l e R s m args below meth c T locs cells slots) (hx : p.tables.exec = Jvm.exec) (hby : c.code = B) {i : Int} {v : Int32} (hv : Int32.ofInt i = v) (hd : decode B pc = .ok (.iconst i, 1)) (hp : pc + 1 = pc') (k : Gt p.tables e below F (T.setTop (mkF m pc' L (.int v :: rest)))) : Gt p.tables e below F (T.setTop (mkF m pc L rest)) := by
  subst hp; exact (by subst hv; exact k.go fun t q => XS.iconst X.here hx rfl (hb hby hd) q)
theorem own_bipush (X : Stand p l e R s m args below meth c T locs cells slots) (hx : p.tables.exec = Jvm.exec) (hby : c.code = B) {i : Int} {v : Int32} (hv : (Int8.ofInt i).toInt32 = v) (hd : decode B pc = .ok (.bipush i, 2)) (hp : pc + 2 = pc') (k : Gt p.tables e below F (T.setTop (mkF m pc' L (.int v :: rest)))) : Gt p.tables e below F (T.setTop (mkF m pc L rest)) := by
  subst hp; exact (by subst hv; exact k.go fun t q => XS.bipush X.here hx rfl (hb hby hd) q)
theorem own_sipush (X : Stand p l e R s m args below meth c T locs cells slots) (hx : p.tables.exec = Jvm.exec) (hby : c.code = B) {i : Int} {v : Int32} (hv : (Int16.ofInt i).toInt32 = v) (hd : decode B pc = .ok (.sipush i, 3)) (hp : pc + 3 = pc') (k : Gt p.tables e below F (T.setTop (mkF m pc' L (.int v :: rest)))) : Gt p.tables e below F (T.setTop (mkF m pc L rest)) := by
  subst hp; exact (by subst hv; exact k.go fun t q => XS.sipush X.here hx rfl (hb hby hd) q)
theorem own_lconst (X : Stand p l e R s m args below meth c T locs cells slots) (hx : p.tables.exec = Jvm.exec) (hby : c.code = B) {i : Fin 2} {v : Int64} (hv : Int64.ofNat i = v) (hd : decode B pc = .ok (.lconst i, 1)) (hp : pc + 1 = pc') (k : Gt p.tables e below F (T.setTop (mkF m pc' L (.long v :: rest)))) : Gt p.tables e below F (T.setTop (mkF m pc L rest)) := by
  subst hp; exact (by subst hv; exact k.go fun t q => XS.lconst X.here hx rfl (hb hby hd) q)
theorem own_aconst (X : Stand p l e R s m args below meth c T locs cells slots) (hx : p.tables.exec = Jvm.exec) (hby : c.code = B)  (hd : decode B pc = .ok (.aconst_null, 1)) (hp : pc + 1 = pc') (k : Gt p.tables e below F (T.setTop (mkF m pc' L (.null :: rest)))) : Gt p.tables e below F (T.setTop (mkF m pc L rest)) := by
  subst hp; exact k.go fun t q => XS.aconstNull X.here hx rfl (hb hby hd) q
theorem own_dconst0 (X : Stand p l e R s m args below meth c T locs cells slots) (hx : p.tables.exec = Jvm.exec) (hby : c.code = B) {v : UInt64} (hv : FP.dconst0 = v) (hd : decode B pc = .ok (.dconst 0, 1)) (hp : pc + 1 = pc') (k : Gt p.tables e below F (T.setTop (mkF m pc' L (.double v :: rest)))) : Gt p.tables e below F (T.setTop (mkF m pc L rest)) := by
  subst hp; exact k.go fun t q => XS.dconst0 X.here hx rfl (hb hby hd) hv q
theorem own_dconst1 (X : Stand p l e R s m args below meth c T locs cells slots) (hx : p.tables.exec = Jvm.exec) (hby : c.code = B) {v : UInt64} (hv : FP.dconst1 = v) (hd : decode B pc = .ok (.dconst 1, 1)) (hp : pc + 1 = pc') (k : Gt p.tables e below F (T.setTop (mkF m pc' L (.double v :: rest)))) : Gt p.tables e below F (T.setTop (mkF m pc L rest)) := by
  subst hp; exact k.go fun t q => XS.dconst1 X.here hx rfl (hb hby hd) hv q
theorem own_dadd (X : Stand p l e R s m args below meth c T locs cells slots) (hx : p.tables.exec = Jvm.exec) (hby : c.code = B) {x y v : UInt64} (hn : NoNaN64 (FP.dadd x y)) (hv : FP.dadd x y = v) (hd : decode B pc = .ok (.dadd, 1)) (hp : pc + 1 = pc') (k : Gt p.tables e below F (T.setTop (mkF m pc' L (.double v :: rest)))) : Gt p.tables e below F (T.setTop (mkF m pc L (.double y :: .double x :: rest))) := by
  subst hp; exact k.go fun t q => XS.daddS X.here hx rfl (hb hby hd) rfl hn hv q
theorem own_dsub (X : Stand p l e R s m args below meth c T locs cells slots) (hx : p.tables.exec = Jvm.exec) (hby : c.code = B) {x y v : UInt64} (hn : NoNaN64 (FP.dsub x y)) (hv : FP.dsub x y = v) (hd : decode B pc = .ok (.dsub, 1)) (hp : pc + 1 = pc') (k : Gt p.tables e below F (T.setTop (mkF m pc' L (.double v :: rest)))) : Gt p.tables e below F (T.setTop (mkF m pc L (.double y :: .double x :: rest))) := by
  subst hp; exact k.go fun t q => XS.dsubS X.here hx rfl (hb hby hd) rfl hn hv q
theorem own_dmul (X : Stand p l e R s m args below meth c T locs cells slots) (hx : p.tables.exec = Jvm.exec) (hby : c.code = B) {x y v : UInt64} (hn : NoNaN64 (FP.dmul x y)) (hv : FP.dmul x y = v) (hd : decode B pc = .ok (.dmul, 1)) (hp : pc + 1 = pc') (k : Gt p.tables e below F (T.setTop (mkF m pc' L (.double v :: rest)))) : Gt p.tables e below F (T.setTop (mkF m pc L (.double y :: .double x :: rest))) := by
  subst hp; exact k.go fun t q => XS.dmulS X.here hx rfl (hb hby hd) rfl hn hv q
theorem own_ddiv (X : Stand p l e R s m args below meth c T locs cells slots) (hx : p.tables.exec = Jvm.exec) (hby : c.code = B) {x y v : UInt64} (hn : NoNaN64 (FP.ddiv x y)) (hv : FP.ddiv x y = v) (hd : decode B pc = .ok (.ddiv, 1)) (hp : pc + 1 = pc') (k : Gt p.tables e below F (T.setTop (mkF m pc' L (.double v :: rest)))) : Gt p.tables e below F (T.setTop (mkF m pc L (.double y :: .double x :: rest))) := by
  subst hp; exact k.go fun t q => XS.ddivS X.here hx rfl (hb hby hd) rfl hn hv q
theorem own_dneg (X : Stand p l e R s m args below meth c T locs cells slots) (hx : p.tables.exec = Jvm.exec) (hby : c.code = B) {x v : UInt64} (hv : FP.dneg x = v) (hd : decode B pc = .ok (.dneg, 1)) (hp : pc + 1 = pc') (k : Gt p.tables e below F (T.setTop (mkF m pc' L (.double v :: rest)))) : Gt p.tables e below F (T.setTop (mkF m pc L (.double x :: rest))) := by
  subst hp; exact k.go fun t q => XS.dnegS X.here hx rfl (hb hby hd) rfl hv q
theorem own_dcmp (X : Stand p l e R s m args below meth c T locs cells slots) (hx : p.tables.exec = Jvm.exec) (hby : c.code = B) {o : CmpOp} {x y : UInt64} {v : Int32} (hv : cmpValue (FP.dcmp x y) o = v) (hd : decode B pc = .ok (.dcmp o, 1)) (hp : pc + 1 = pc') (k : Gt p.tables e below F (T.setTop (mkF m pc' L (.int v :: rest)))) : Gt p.tables e below F (T.setTop (mkF m pc L (.double y :: .double x :: rest))) := by
  subst hp; exact k.go fun t q => XS.dcmpS X.here hx rfl (hb hby hd) rfl hv q
theorem own_i2d (X : Stand p l e R s m args below meth c T locs cells slots) (hx : p.tables.exec = Jvm.exec) (hby : c.code = B) {x : Int32} {v : UInt64} (hv : FP.i2d x = v) (hd : decode B pc = .ok (.i2d, 1)) (hp : pc + 1 = pc') (k : Gt p.tables e below F (T.setTop (mkF m pc' L (.double v :: rest)))) : Gt p.tables e below F (T.setTop (mkF m pc L (.int x :: rest))) := by
  subst hp; exact k.go fun t q => XS.i2dS X.here hx rfl (hb hby hd) rfl hv q
theorem own_l2d (X : Stand p l e R s m args below meth c T locs cells slots) (hx : p.tables.exec = Jvm.exec) (hby : c.code = B) {x : Int64} {v : UInt64} (hv : FP.l2d x = v) (hd : decode B pc = .ok (.l2d, 1)) (hp : pc + 1 = pc') (k : Gt p.tables e below F (T.setTop (mkF m pc' L (.double v :: rest)))) : Gt p.tables e below F (T.setTop (mkF m pc L (.long x :: rest))) := by
  subst hp; exact k.go fun t q => XS.l2dS X.here hx rfl (hb hby hd) rfl hv q
theorem own_dup (X : Stand p l e R s m args below meth c T locs cells slots) (hx : p.tables.exec = Jvm.exec) (hby : c.code = B) {x : Value} (hc : x.category = 1) (hd : decode B pc = .ok (.dup, 1)) (hp : pc + 1 = pc') (k : Gt p.tables e below F (T.setTop (mkF m pc' L (x :: x :: rest)))) : Gt p.tables e below F (T.setTop (mkF m pc L (x :: rest))) := by
  subst hp; exact k.go fun t q => XS.dup X.here hx rfl (hb hby hd) rfl hc q
theorem own_pop (X : Stand p l e R s m args below meth c T locs cells slots) (hx : p.tables.exec = Jvm.exec) (hby : c.code = B) {x : Value} (hc : x.category = 1) (hd : decode B pc = .ok (.pop, 1)) (hp : pc + 1 = pc') (k : Gt p.tables e below F (T.setTop (mkF m pc' L rest))) : Gt p.tables e below F (T.setTop (mkF m pc L (x :: rest))) := by
  subst hp; exact k.go fun t q => XS.pop X.here hx rfl (hb hby hd) rfl hc q
theorem own_dupX1 (X : Stand p l e R s m args below meth c T locs cells slots) (hx : p.tables.exec = Jvm.exec) (hby : c.code = B) {x y : Value} (hc : x.category = 1) (hc' : y.category = 1) (hd : decode B pc = .ok (.dup_x1, 1)) (hp : pc + 1 = pc') (k : Gt p.tables e below F (T.setTop (mkF m pc' L (x :: y :: x :: rest)))) : Gt p.tables e below F (T.setTop (mkF m pc L (x :: y :: rest))) := by
  subst hp; exact k.go fun t q => XS.dupX1 X.here hx rfl (hb hby hd) rfl hc hc' q
theorem own_dup2 (X : Stand p l e R s m args below meth c T locs cells slots) (hx : p.tables.exec = Jvm.exec) (hby : c.code = B) {x y : Value} (hc : x.category = 1) (hc' : y.category = 1) (hd : decode B pc = .ok (.dup2, 1)) (hp : pc + 1 = pc') (k : Gt p.tables e below F (T.setTop (mkF m pc' L (x :: y :: x :: y :: rest)))) : Gt p.tables e below F (T.setTop (mkF m pc L (x :: y :: rest))) := by
  subst hp; exact k.go fun t q => Jvm.Free.XT.dup2 X.here hx rfl (hb hby hd) rfl hc hc' q
theorem own_goto (X : Stand p l e R s m args below meth c T locs cells slots) (hx : p.tables.exec = Jvm.exec) (hby : c.code = B) {o : Int} (hd : decode B pc = .ok (.goto o, 3)) (ho : 0 ≤ (pc : Int) + o) (hp : ((pc : Int) + o).toNat = pc') (k : Gt p.tables e below F (T.setTop (mkF m pc' L rest))) : Gt p.tables e below F (T.setTop (mkF m pc L rest)) :=
  k.go fun t q => XS.goto X.here hx rfl rfl (hb hby hd) ho hp q
theorem own_ifT (X : Stand p l e R s m args below meth c T locs cells slots) (hx : p.tables.exec = Jvm.exec) (hby : c.code = B) {cd : ClassFile.Cond} {x : Int32} {o : Int} (hd : decode B pc = .ok (.ifCond cd o, 3)) (hc : ifCond.holds cd x = true) (ho : 0 ≤ (pc : Int) + o) (hp : ((pc : Int) + o).toNat = pc') (k : Gt p.tables e below F (T.setTop (mkF m pc' L rest))) : Gt p.tables e below F (T.setTop (mkF m pc L (.int x :: rest))) :=
  k.go fun t q => XS.ifYes X.here hx rfl rfl (hb hby hd) rfl hc ho hp q
theorem own_ifF (X : Stand p l e R s m args below meth c T locs cells slots) (hx : p.tables.exec = Jvm.exec) (hby : c.code = B) {cd : ClassFile.Cond} {x : Int32} {o : Int} (hd : decode B pc = .ok (.ifCond cd o, 3)) (hc : ifCond.holds cd x = false) (hp : pc + 3 = pc') (k : Gt p.tables e below F (T.setTop (mkF m pc' L rest))) : Gt p.tables e below F (T.setTop (mkF m pc L (.int x :: rest))) := by
  subst hp; exact k.go fun t q => XS.ifNo X.here hx rfl (hb hby hd) rfl hc q
theorem own_icT (X : Stand p l e R s m args below meth c T locs cells slots) (hx : p.tables.exec = Jvm.exec) (hby : c.code = B) {cd : ClassFile.Cond} {x y : Int32} {o : Int} (hd : decode B pc = .ok (.if_icmp cd o, 3)) (hc : if_icmp.holds cd x y = true) (ho : 0 ≤ (pc : Int) + o) (hp : ((pc : Int) + o).toNat = pc') (k : Gt p.tables e below F (T.setTop (mkF m pc' L rest))) : Gt p.tables e below F (T.setTop (mkF m pc L (.int y :: .int x :: rest))) :=
  k.go fun t q => XS.icmpYes X.here hx rfl rfl (hb hby hd) rfl hc ho hp q
theorem own_icF (X : Stand p l e R s m args below meth c T locs cells slots) (hx : p.tables.exec = Jvm.exec) (hby : c.code = B) {cd : ClassFile.Cond} {x y : Int32} {o : Int} (hd : decode B pc = .ok (.if_icmp cd o, 3)) (hc : if_icmp.holds cd x y = false) (hp : pc + 3 = pc') (k : Gt p.tables e below F (T.setTop (mkF m pc' L rest))) : Gt p.tables e below F (T.setTop (mkF m pc L (.int y :: .int x :: rest))) := by
  subst hp; exact k.go fun t q => XS.icmpNo X.here hx rfl (hb hby hd) rfl hc q
theorem own_ifnullT (X : Stand p l e R s m args below meth c T locs cells slots) (hx : p.tables.exec = Jvm.exec) (hby : c.code = B) {o : Int} (hd : decode B pc = .ok (.ifnull o, 3)) (ho : 0 ≤ (pc : Int) + o) (hp : ((pc : Int) + o).toNat = pc') (k : Gt p.tables e below F (T.setTop (mkF m pc' L rest))) : Gt p.tables e below F (T.setTop (mkF m pc L (.null :: rest))) :=
  k.go fun t q => XS.ifnullYes X.here hx rfl rfl (hb hby hd) rfl ho hp q
theorem own_ifnullF (X : Stand p l e R s m args below meth c T locs cells slots) (hx : p.tables.exec = Jvm.exec) (hby : c.code = B) {o : Int} {b : Addr} (hd : decode B pc = .ok (.ifnull o, 3)) (hp : pc + 3 = pc') (k : Gt p.tables e below F (T.setTop (mkF m pc' L rest))) : Gt p.tables e below F (T.setTop (mkF m pc L (.ref b :: rest))) := by
  subst hp; exact k.go fun t q => XS.ifnullNo X.here hx rfl (hb hby hd) rfl q
theorem own_ifnonnullT (X : Stand p l e R s m args below meth c T locs cells slots) (hx : p.tables.exec = Jvm.exec) (hby : c.code = B) {o : Int} {b : Addr} (hd : decode B pc = .ok (.ifnonnull o, 3)) (ho : 0 ≤ (pc : Int) + o) (hp : ((pc : Int) + o).toNat = pc') (k : Gt p.tables e below F (T.setTop (mkF m pc' L rest))) : Gt p.tables e below F (T.setTop (mkF m pc L (.ref b :: rest))) :=
  k.go fun t q => XS.ifnonnullYes X.here hx rfl rfl (hb hby hd) rfl ho hp q
theorem own_ifnonnullF (X : Stand p l e R s m args below meth c T locs cells slots) (hx : p.tables.exec = Jvm.exec) (hby : c.code = B) {o : Int} (hd : decode B pc = .ok (.ifnonnull o, 3)) (hp : pc + 3 = pc') (k : Gt p.tables e below F (T.setTop (mkF m pc' L rest))) : Gt p.tables e below F (T.setTop (mkF m pc L (.null :: rest))) := by
  subst hp; exact k.go fun t q => XS.ifnonnullNo X.here hx rfl (hb hby hd) rfl q
theorem own_acmp (X : Stand p l e R s m args below meth c T locs cells slots) (hx : p.tables.exec = Jvm.exec) (hby : c.code = B) {cd : ACond} {x y : Value} (h1 : x.isRef = true) (h2 : y.isRef = true) {o : Int} {same : Bool} (hd : decode B pc = .ok (.if_acmp cd o, 3)) (hq : decide (x = y) = same) (ho : 0 ≤ (pc : Int) + o) (hp : pc' = if acV cd same = true then ((pc : Int) + o).toNat else pc + 3) (k : Gt p.tables e below F (T.setTop (mkF m pc' L rest))) : Gt p.tables e below F (T.setTop (mkF m pc L (y :: x :: rest))) :=
  k.go fun t q => Jvm.RoadKit.acmp X hx rfl h1 h2 rfl (hb hby hd) rfl hq ho hp q
theorem own_ldcI (X : Stand p l e R s m args below meth c T locs cells slots) (hx : p.tables.exec = Jvm.exec) (hby : c.code = B) (hZ : Z.Warmed39 s.vm) {own : String} {i : Nat} {v : Int32} (hown : s.vm.findClass own = some m.cls) (w : (Jvm.Cond.constant own i v).before a0 Z = true) (hd : decode B pc = .ok (.ldc i, 2)) (hp : pc + 2 = pc') (k : Gt p.tables e below F (T.setTop (mkF m pc' L (.int v :: rest)))) : Gt p.tables e below F (T.setTop (mkF m pc L rest)) := by
  subst hp; exact k.go (X.ldcInt hx hown (mvT hZ w) (g := mkF m pc L rest) rfl (hb hby hd))
theorem own_ldc2L (X : Stand p l e R s m args below meth c T locs cells slots) (hx : p.tables.exec = Jvm.exec) (hby : c.code = B) (hZ : Z.Warmed39 s.vm) {own : String} {i : Nat} {v : Int64} (hown : s.vm.findClass own = some m.cls) (w : (Jvm.Cond.constantLong own i v).before a0 Z = true) (hd : decode B pc = .ok (.ldc2_w i, 3)) (hp : pc + 3 = pc') (k : Gt p.tables e below F (T.setTop (mkF m pc' L (.long v :: rest)))) : Gt p.tables e below F (T.setTop (mkF m pc L rest)) := by
  subst hp; exact k.go (X.ldc2Long hx hown (mvT hZ w) (g := mkF m pc L rest) rfl (hb hby hd))
theorem own_ldc2D (X : Stand p l e R s m args below meth c T locs cells slots) (hx : p.tables.exec = Jvm.exec) (hby : c.code = B) (hZ : Z.Warmed39 s.vm) {own : String} {i : Nat} {v : UInt64} (hown : s.vm.findClass own = some m.cls) (w : (Jvm.Cond.constantDouble own i v).before a0 Z = true) (hd : decode B pc = .ok (.ldc2_w i, 3)) (hp : pc + 3 = pc') (k : Gt p.tables e below F (T.setTop (mkF m pc' L (.double v :: rest)))) : Gt p.tables e below F (T.setTop (mkF m pc L rest)) := by
  subst hp; exact k.go (X.ldc2DoubleC hx hown (mvT hZ w) (g := mkF m pc L rest) rfl (hb hby hd))
theorem own_getF (X : Stand p l e R s m args below meth c T locs cells slots) (hx : p.tables.exec = Jvm.exec) (hby : c.code = B) (hZ : Z.Warmed39 s.vm) {own R0 O n d host : String} {index : Nat} (hown : s.vm.findClass own = some m.cls) (w : (Jvm.Cond.fieldLink own index R0 n d).before a0 Z = true ∨ (Jvm.Cond.fieldLinkNest own index R0 n d host).before a0 Z = true) (via : Via Z R0 O n d) (eT : T.heap = h) {a : Addr} {v : Value} (Ff : Fld Z h a O n d v) (hd : decode B pc = .ok (.getfield index, 3)) (hp : pc + 3 = pc') (k : ∀ T', Stand p l e R s m args below meth c T' locs cells slots → T'.heap = h → Gt p.tables e below F (T'.setTop (mkF m pc' L (v :: rest)))) : Gt p.tables e below F (T.setTop (mkF m pc L (.ref a :: rest))) := by
  subst hp; obtain ⟨T', X', e', st⟩ := getF X hx hZ hown w via eT Ff (g := mkF m pc L (.ref a :: rest)) rfl rfl (hb hby hd); exact (k T' X' e').go st
theorem own_getS (X : Stand p l e R s m args below meth c T locs cells slots) (hx : p.tables.exec = Jvm.exec) (hby : c.code = B) (hZ : Z.Warmed39 s.vm) {own R0 O n d host : String} {index : Nat} (hown : s.vm.findClass own = some m.cls) (w : (Jvm.Cond.fieldLink own index R0 n d).before a0 Z = true ∨ (Jvm.Cond.fieldLinkNest own index R0 n d host).before a0 Z = true) (via : Via Z R0 O n d) (eT : T.heap = h) {v : Value} (Ff : Sta Z h O n d v) (hd : decode B pc = .ok (.getstatic index, 3)) (hp : pc + 3 = pc') (k : ∀ T', Stand p l e R s m args below meth c T' locs cells slots → T'.heap = h → Gt p.tables e below F (T'.setTop (mkF m pc' L (v :: rest)))) : Gt p.tables e below F (T.setTop (mkF m pc L rest)) := by
  subst hp; obtain ⟨T', X', e', st⟩ := getS2 X hx hZ hown w via eT Ff (g := mkF m pc L rest) rfl (hb hby hd); exact (k T' X' e').go st
theorem own_putF (X : Stand p l e R s m args below meth c T locs cells slots) (hx : p.tables.exec = Jvm.exec) (hby : c.code = B) (hZ : Z.Warmed39 s.vm) {own R0 O n d host C : String} {index kk : Nat} {ty : FieldType} (hown : s.vm.findClass own = some m.cls) (w : (Jvm.Cond.fieldLink own index R0 n d).before a0 Z = true ∨ (Jvm.Cond.fieldLinkNest own index R0 n d host).before a0 Z = true) (via : Via Z R0 O n d) (eT : T.heap = h) {a : Addr} {v old : Value} (Ff : Fld Z h a O n d old) (E : Exa Z h a C) (La : (Jvm.Cond.lays C O n d).before a0 Z = true ∨ ((Jvm.Cond.laysFinal C O n d).before a0 Z = true ∧ own = O ∧ meth.name = "<init>")) (wi : (Jvm.Cond.instantiable C kk).before a0 Z = true) (hty : parseFieldDescriptor d = some ty) (hn : narrow ty v = v) (hf : fits ty v = true) (hd : decode B pc = .ok (.putfield index, 3)) (hp : pc + 3 = pc') (k : ∀ T' h', Stand p l e R s m args below meth c T' (locs ++ [⟨a, Jvm.RoadKit.slotOf Z O n d⟩]) cells slots → T'.heap = h' → Wr h h' a (Jvm.RoadKit.slotOf Z O n d) v → Gt p.tables e below F (T'.setTop (mkF m pc' L rest))) : Gt p.tables e below F (T.setTop (mkF m pc L (v :: .ref a :: rest))) := by
  subst hp; obtain ⟨T', h', X', e', W, st⟩ := putF X hx hZ hown w via eT Ff E La wi hty hn hf (g := mkF m pc L (v :: .ref a :: rest)) rfl rfl (hb hby hd); exact (k T' h' X' e' W).go st
theorem own_newO (X : Stand p l e R s m args below meth c T locs cells slots) (hx : p.tables.exec = Jvm.exec) (hby : c.code = B) (hZ : Z.Warmed39 s.vm) {own C : String} {index n : Nat} (hown : s.vm.findClass own = some m.cls) (w : (Jvm.Cond.classLink own index C).before a0 Z = true) (wi : (Jvm.Cond.instantiable C n).before a0 Z = true) (wz : (Jvm.Cond.initialized C).before a0 Z = true) (eT : T.heap = h) (hd : decode B pc = .ok (.new index, 3)) (hp : pc + 3 = pc') (hc : cells + 1 ≤ R.cells) (hl : slots + n ≤ R.slots) (k : ∀ T' h' a, Stand p l e R s m args below meth c T' locs (cells + 1) (slots + n) → T'.heap = h' → Ext h h' → h.size = a → Exa Z h' a C → (∀ {O nm d : String} {ty : FieldType}, Laid Z a0 C O nm d → parseFieldDescriptor d = some ty → Fld Z h' a O nm d (defaultValue ty)) → Gt p.tables e below F (T'.setTop (mkF m pc' L (.ref a :: rest)))) : Gt p.tables e below F (T.setTop (mkF m pc L rest)) := by
  subst hp; obtain ⟨T', h', X', e', E', A', D', -, st⟩ := newO X hx hZ hown w wi wz eT (g := mkF m pc L rest) rfl (hb hby hd) hc hl; exact (k T' h' _ X' e' E' rfl A' D').go st
theorem own_initO (X : Stand p l e R s m args below meth c T locs cells slots) (hx : p.tables.exec = Jvm.exec) (hby : c.code = B) (hZ : Z.Warmed39 s.vm) {own : String} {idx : Nat} (hown : s.vm.findClass own = some m.cls) (w1 : (Jvm.Cond.methodLink own idx Lib.objectInit).before a0 Z = true) (w2 : (Jvm.Cond.instanceMethod Lib.objectInit).before a0 Z = true) (w3 : (Jvm.Cond.code Lib.objectInit ⟨#[0xb1]⟩ 1 none).before a0 Z = true) (eT : T.heap = h) (hsize : L.size = c.maxLocals) {a : Addr} (hd : decode B pc = .ok (.invokespecial idx, 3)) (hp : pc + 3 = pc') (hf : 1 ≤ R.frames) {W : Nat} (hW : (rest.map fun v => v.category).sum ≤ W) (hl : W + 12 ≤ R.locals) (k : ∀ T', Stand p l e R s m args below meth c T' locs cells slots → T'.heap = h → Gt p.tables e below F (T'.setTop (mkF m pc' L rest))) : Gt p.tables e below F (T.setTop (mkF m pc L (.ref a :: rest))) := by
  subst hp; obtain ⟨T', X', e', st⟩ := initO X hx hZ hown w1 w2 w3 eT (g := mkF m pc L (.ref a :: rest)) rfl hsize rfl (hb hby hd) hf (W := W) (by show 2 * 0 + _ ≤ _; rw [Nat.mul_zero, Nat.zero_add]; exact hW) hl; exact (k T' X' e').go st
theorem own_special (X : Stand p l e R s m args below meth c T locs cells slots) (hx : p.tables.exec = Jvm.exec) (hby : c.code = B) (hZ : Z.Warmed39 s.vm) {own : String} {index : Nat} {y : MethodName} {bytes : ByteArray} {maxL : Nat} {ret : Option FieldType} {rm : Room} {as' : Array Value} {Q : Option Value → Heap → List Loc → Prop} (hy1 : y.name = "<init>") (hown : s.vm.findClass own = some m.cls) (w1 : (Jvm.Cond.methodLink own index y).before a0 Z = true) (w2 : (Jvm.Cond.instanceMethod y).before a0 Z = true) (hret : ret = none) (w3 : (Jvm.Cond.code y bytes maxL ret).before a0 Z = true) (w4 : (Jvm.Cond.initialized y.cls).before a0 Z = true) (hy : y.cls ≠ "java/lang/invoke/MethodHandle" ∧ y.cls ≠ "java/lang/invoke/VarHandle") (hM : MetFree l y (head1 [Jvm.Cond.code y bytes maxL ret] rm) (fun a U => a = as' ∧ Z.Warmed39 U.vm ∧ U.heap = h) (fun _ _ _ _ _ => True) (fun _ U o U' => ∃ v L, o = .returned v ∧ Q v U'.heap L ∧ FrameEnd U o U' L rm.cells rm.slots)) (eT : T.heap = h) (hsize : L.size = c.maxLocals) {a : Addr} {argsL : List Value} (has : as' = (.ref a :: argsL).toArray) (hlen : ∀ sig, parseMethodDescriptor y.desc = some sig → argsL.length = sig.parameters.length) {st : List Value} (hst : st = argsL.reverse ++ .ref a :: rest) (hd : decode B pc = .ok (.invokespecial index, 3)) (hp : pc + 3 = pc') (hf : rm.frames + 1 ≤ R.frames) {W : Nat} (hW : (rest.map fun v => v.category).sum ≤ W) (hl : W + (maxL + 11) + rm.locals ≤ R.locals) (hc : cells + rm.cells ≤ R.cells) (hs : slots + rm.slots ≤ R.slots) (k : ∀ T' h' L' v, Stand p l e R s m args below meth c T' (locs ++ L') (cells + rm.cells) (slots + rm.slots) → T'.heap = h' → Q v h' L' → Gt p.tables e below F (T'.setTop (mkF m pc' L (v.toList ++ rest)))) : Gt p.tables e below F (T.setTop (mkF m pc L st)) := by
  subst hp hret has hst
  obtain ⟨v, vm1, ⟨T', L1, k1, n1⟩, -, X', ⟨Lc, hQ, l1, l2, l3⟩, st⟩ := X.specialBack hx (y := y) hy1 hown (mvT hZ w1) (mvT hZ w2) (mvT hZ w3) hy (backOf (W := W) hM hZ w3 w4 hf hl) (g := mkF m pc L (argsL.reverse ++ .ref a :: rest)) rfl hsize (Steps.refl _) (a := a) (argsL := argsL) (rest := rest) hlen rfl (by show 2 * 0 + _ ≤ _; rw [Nat.mul_zero, Nat.zero_add]; exact hW) (hb hby hd) (fun _ _ => ⟨rfl, eT, hc, hs⟩)
  dsimp only [Pt.U, Pt.locs, Pt.cells, Pt.slots] at X' l1 l2 l3 st hQ
  subst l1 l2 l3
  exact (k T' _ Lc v X' rfl hQ).go fun t q => st.trans q
theorem own_virtual (X : Stand p l e R s m args below meth c T locs cells slots) (hx : p.tables.exec = Jvm.exec) (hby : c.code = B) (hZ : Z.Warmed39 s.vm) {own : String} {index : Nat} {y : MethodName} {bytes : ByteArray} {maxL : Nat} {ret : Option FieldType} {rm : Room} {as' : Array Value} {Q : Option Value → Heap → List Loc → Prop} {C : String} {y' : MethodName} (hown : s.vm.findClass own = some m.cls) (w1 : (Jvm.Cond.methodLink own index y').before a0 Z = true) (w2 : (Jvm.Cond.declares y').before a0 Z = true) (hnf : NotFace s y') (w5 : (Jvm.Cond.selects C y' y).before a0 Z = true) (w6 : (Jvm.Cond.instanceMethod y).before a0 Z = true) (w3 : (Jvm.Cond.code y bytes maxL ret).before a0 Z = true) (w4 : (Jvm.Cond.initialized y.cls).before a0 Z = true) (hy : y'.cls ≠ "java/lang/invoke/MethodHandle" ∧ y'.cls ≠ "java/lang/invoke/VarHandle") (hM : MetFree l y (head1 [Jvm.Cond.code y bytes maxL ret] rm) (fun a U => a = as' ∧ Z.Warmed39 U.vm ∧ U.heap = h) (fun _ _ _ _ _ => True) (fun _ U o U' => ∃ v L, o = .returned v ∧ Q v U'.heap L ∧ FrameEnd U o U' L rm.cells rm.slots)) (eT : T.heap = h) (hsize : L.size = c.maxLocals) {a : Addr} (E : Exa Z h a C) {argsL : List Value} (has : as' = (.ref a :: argsL).toArray) (hlen : ∀ sig, parseMethodDescriptor y'.desc = some sig → argsL.length = sig.parameters.length) {st : List Value} (hst : st = argsL.reverse ++ .ref a :: rest) (hd : decode B pc = .ok (.invokevirtual index, 3)) (hp : pc + 3 = pc') (hf : rm.frames + 1 ≤ R.frames) {W : Nat} (hW : (rest.map fun v => v.category).sum ≤ W) (hl : W + (maxL + 11) + rm.locals ≤ R.locals) (hc : cells + rm.cells ≤ R.cells) (hs : slots + rm.slots ≤ R.slots) (k : ∀ T' h' L' v, Stand p l e R s m args below meth c T' (locs ++ L') (cells + rm.cells) (slots + rm.slots) → T'.heap = h' → Q v h' L' → Gt p.tables e below F (T'.setTop (mkF m pc' L (v.toList ++ rest)))) : Gt p.tables e below F (T.setTop (mkF m pc L st)) := by
  subst hp has hst
  obtain ⟨cq, kq, qa, qb, qc⟩ := isOf hZ eT E
  obtain ⟨v, vm1, ⟨T', L1, k1, n1⟩, -, X', ⟨Lc, hQ, l1, l2, l3⟩, st⟩ := X.virtualBack hx (y := y') (z := y) hown (mvT hZ w1) (mvT hZ w2) hnf (mvT hZ w5) (mvT hZ w6) hy (backOf (W := W) hM hZ w3 w4 hf hl) qa qc (g := mkF m pc L (argsL.reverse ++ .ref a :: rest)) rfl hsize (Steps.refl _) (argsL := argsL) (rest := rest) hlen rfl (by show 2 * 0 + _ ≤ _; rw [Nat.mul_zero, Nat.zero_add]; exact hW) (hb hby hd) (fun _ _ => ⟨rfl, eT, hc, hs⟩)
  dsimp only [Pt.U, Pt.locs, Pt.cells, Pt.slots] at X' l1 l2 l3 st hQ
  subst l1 l2 l3
  exact (k T' _ Lc v X' rfl hQ).go fun t q => st.trans q
theorem own_static (X : Stand p l e R s m args below meth c T locs cells slots) (hx : p.tables.exec = Jvm.exec) (hby : c.code = B) (hZ : Z.Warmed39 s.vm) {own : String} {index : Nat} {y : MethodName} {bytes : ByteArray} {maxL : Nat} {ret : Option FieldType} {rm : Room} {as' : Array Value} {Q : Option Value → Heap → List Loc → Prop} (hown : s.vm.findClass own = some m.cls) (w1 : (Jvm.Cond.methodLink own index y).before a0 Z = true) (w2 : (Jvm.Cond.static y).before a0 Z = true) (w3 : (Jvm.Cond.code y bytes maxL ret).before a0 Z = true) (w4 : (Jvm.Cond.initialized y.cls).before a0 Z = true) (hy : y.cls ≠ "java/lang/invoke/MethodHandle" ∧ y.cls ≠ "java/lang/invoke/VarHandle") (hM : MetFree l y (head1 [Jvm.Cond.code y bytes maxL ret] rm) (fun a U => a = as' ∧ Z.Warmed39 U.vm ∧ U.heap = h) (fun _ _ _ _ _ => True) (fun _ U o U' => ∃ v L, o = .returned v ∧ Q v U'.heap L ∧ FrameEnd U o U' L rm.cells rm.slots)) (eT : T.heap = h) (hsize : L.size = c.maxLocals) {argsL : List Value} (has : as' = argsL.toArray) (hlen : ∀ sig, parseMethodDescriptor y.desc = some sig → argsL.length = sig.parameters.length) {st : List Value} (hst : st = argsL.reverse ++ rest) (hd : decode B pc = .ok (.invokestatic index, 3)) (hp : pc + 3 = pc') (hf : rm.frames + 1 ≤ R.frames) {W : Nat} (hW : (rest.map fun v => v.category).sum ≤ W) (hl : W + (maxL + 11) + rm.locals ≤ R.locals) (hc : cells + rm.cells ≤ R.cells) (hs : slots + rm.slots ≤ R.slots) (k : ∀ T' h' L' v, Stand p l e R s m args below meth c T' (locs ++ L') (cells + rm.cells) (slots + rm.slots) → T'.heap = h' → Q v h' L' → Gt p.tables e below F (T'.setTop (mkF m pc' L (v.toList ++ rest)))) : Gt p.tables e below F (T.setTop (mkF m pc L st)) := by
  subst hp has hst
  obtain ⟨v, vm1, ⟨T', L1, k1, n1⟩, -, X', ⟨Lc, hQ, l1, l2, l3⟩, st⟩ := Jvm.LawKit.callS X hx (y := y) hown (mvT hZ w1) (mvT hZ w2) (mvT hZ w4) (mvT hZ w3) hy (backOf (W := W) hM hZ w3 w4 hf hl) (g := mkF m pc L (argsL.reverse ++ rest)) rfl hsize (argsL := argsL) (rest := rest) hlen rfl (by show 2 * 0 + _ ≤ _; rw [Nat.mul_zero, Nat.zero_add]; exact hW) (hb hby hd) (fun _ _ => ⟨rfl, eT, hc, hs⟩)
  dsimp only [Pt.U, Pt.locs, Pt.cells, Pt.slots] at X' l1 l2 l3 st hQ
  subst l1 l2 l3
  exact (k T' _ Lc v X' rfl hQ).go fun t q => st _ q
theorem own_private (X : Stand p l e R s m args below meth c T locs cells slots) (hx : p.tables.exec = Jvm.exec) (hby : c.code = B) (hZ : Z.Warmed39 s.vm) {own : String} {index : Nat} {y : MethodName} {bytes : ByteArray} {maxL : Nat} {ret : Option FieldType} {rm : Room} {as' : Array Value} {Q : Option Value → Heap → List Loc → Prop} (hown : s.vm.findClass own = some m.cls) (w1 : (Jvm.Cond.methodLink own index y).before a0 Z = true) (w2 : (Jvm.Cond.instanceMethod y).before a0 Z = true) {ni : Nat} (w5 : (Jvm.Cond.instantiable y.cls ni).before a0 Z = true) (w6 : (Jvm.Cond.privateMethod y).before a0 Z = true) (w3 : (Jvm.Cond.code y bytes maxL ret).before a0 Z = true) (w4 : (Jvm.Cond.initialized y.cls).before a0 Z = true) (hy : y.cls ≠ "java/lang/invoke/MethodHandle" ∧ y.cls ≠ "java/lang/invoke/VarHandle") (hM : MetFree l y (head1 [Jvm.Cond.code y bytes maxL ret] rm) (fun a U => a = as' ∧ Z.Warmed39 U.vm ∧ U.heap = h) (fun _ _ _ _ _ => True) (fun _ U o U' => ∃ v L, o = .returned v ∧ Q v U'.heap L ∧ FrameEnd U o U' L rm.cells rm.slots)) (eT : T.heap = h) (hsize : L.size = c.maxLocals) {a : Addr} (E : Exa Z h a y.cls) {argsL : List Value} (has : as' = (.ref a :: argsL).toArray) (hlen : ∀ sig, parseMethodDescriptor y.desc = some sig → argsL.length = sig.parameters.length) {st : List Value} (hst : st = argsL.reverse ++ .ref a :: rest) (hd : decode B pc = .ok (.invokevirtual index, 3)) (hp : pc + 3 = pc') (hf : rm.frames + 1 ≤ R.frames) {W : Nat} (hW : (rest.map fun v => v.category).sum ≤ W) (hl : W + (maxL + 11) + rm.locals ≤ R.locals) (hc : cells + rm.cells ≤ R.cells) (hs : slots + rm.slots ≤ R.slots) (k : ∀ T' h' L' v, Stand p l e R s m args below meth c T' (locs ++ L') (cells + rm.cells) (slots + rm.slots) → T'.heap = h' → Q v h' L' → Gt p.tables e below F (T'.setTop (mkF m pc' L (v.toList ++ rest)))) : Gt p.tables e below F (T.setTop (mkF m pc L st)) := by
  subst hp has hst
  obtain ⟨cq, q1, q2⟩ := E.cell
  obtain ⟨cI, kI, i1, i2, -, i3, -⟩ := Cond.instantiable_spec (mv (s := s) (args := args) hZ w5)
  have hpr := Cond.privateMethod_at (mvP (s := s) hZ w6 (args := #[]))
  have hsel := Jvm.Stand.selects_self_of_private i1 i2 (Bool.or_eq_false_iff.mp i3).1 hpr (mvT (s := s) (args := args) hZ w2) hy
  obtain ⟨v, vm1, ⟨T', L1, k1, n1⟩, -, X', ⟨Lc, hQ, l1, l2, l3⟩, st⟩ := X.privateBack hx (y := y) hown (mvT hZ w1) (mvT hZ w2) hsel hpr (mvT hZ w3) hy (backOf (W := W) hM hZ w3 w4 hf hl) (g := mkF m pc L (argsL.reverse ++ .ref a :: rest)) rfl hsize (Steps.refl _) (a := a) (by rw [eT]; exact q1) q2 (argsL := argsL) (rest := rest) hlen rfl (by show 2 * 0 + _ ≤ _; rw [Nat.mul_zero, Nat.zero_add]; exact hW) (hb hby hd) (fun _ _ => ⟨rfl, eT, hc, hs⟩)
  dsimp only [Pt.U, Pt.locs, Pt.cells, Pt.slots] at X' l1 l2 l3 st hQ
  subst l1 l2 l3
  exact (k T' _ Lc v X' rfl hQ).go fun t q => st.trans q
theorem own_retV (X : Stand p l e R s m args below meth c T locs cells slots) (hx : p.tables.exec = Jvm.exec) (hby : c.code = B) (hlocks : meth.locks = false) {Q : Option Value → Heap → List Loc → Prop} {kc ks : Nat} (hret : meth.sig.returnType = none) (hd : decode B pc = .ok (.return_, 1)) (hc : cells ≤ kc) (hs : slots ≤ ks) (eT : T.heap = h) (hq : Q none h locs) : Gt p.tables e below (fun o U' => ∃ v Lc, o = .returned v ∧ Q v U'.heap Lc ∧ FrameEnd s o U' Lc kc ks) (T.setTop (mkF m pc L [])) := by
  subst eT
  obtain ⟨fs, hr, hrun, hended, hW, hsame⟩ := X.leave (v := none) (fun _ => rfl) hlocks
  exact ⟨_, _, X.returnOut hx hret (hb hby hd) hr, hrun, hended, _, _, rfl, hq, ⟨_, rfl⟩, hW, hsame.mono hc hs⟩
theorem own_retI (X : Stand p l e R s m args below meth c T locs cells slots) (hx : p.tables.exec = Jvm.exec) (hby : c.code = B) (hlocks : meth.locks = false) {Q : Option Value → Heap → List Loc → Prop} {kc ks : Nat} (hret : meth.sig.returnType = some .int) {z : Int32} (hd : decode B pc = .ok (.ireturn, 1)) (hc : cells ≤ kc) (hs : slots ≤ ks) (eT : T.heap = h) (hq : Q (some (.int z)) h locs) : Gt p.tables e below (fun o U' => ∃ v Lc, o = .returned v ∧ Q v U'.heap Lc ∧ FrameEnd s o U' Lc kc ks) (T.setTop (mkF m pc L (.int z :: rest))) := by
  subst eT
  obtain ⟨fs, hr, hrun, hended, hW, hsame⟩ := X.leave (v := (some (.int z))) (fun h => by rw [hret] at h; cases h) hlocks
  exact ⟨_, _, retOut X hx hret rfl (Or.inl ⟨rfl, Or.inl rfl, z, rfl⟩) (hb hby hd) hr, hrun, hended, _, _, rfl, hq, ⟨_, rfl⟩, hW, hsame.mono hc hs⟩
theorem own_retL (X : Stand p l e R s m args below meth c T locs cells slots) (hx : p.tables.exec = Jvm.exec) (hby : c.code = B) (hlocks : meth.locks = false) {Q : Option Value → Heap → List Loc → Prop} {kc ks : Nat} (hret : meth.sig.returnType = some .long) {z : Int64} (hd : decode B pc = .ok (.lreturn, 1)) (hc : cells ≤ kc) (hs : slots ≤ ks) (eT : T.heap = h) (hq : Q (some (.long z)) h locs) : Gt p.tables e below (fun o U' => ∃ v Lc, o = .returned v ∧ Q v U'.heap Lc ∧ FrameEnd s o U' Lc kc ks) (T.setTop (mkF m pc L (.long z :: rest))) := by
  subst eT
  obtain ⟨fs, hr, hrun, hended, hW, hsame⟩ := X.leave (v := (some (.long z))) (fun h => by rw [hret] at h; cases h) hlocks
  exact ⟨_, _, retOut X hx hret rfl (Or.inr (Or.inl ⟨rfl, rfl, z, rfl⟩)) (hb hby hd) hr, hrun, hended, _, _, rfl, hq, ⟨_, rfl⟩, hW, hsame.mono hc hs⟩
theorem own_retD (X : Stand p l e R s m args below meth c T locs cells slots) (hx : p.tables.exec = Jvm.exec) (hby : c.code = B) (hlocks : meth.locks = false) {Q : Option Value → Heap → List Loc → Prop} {kc ks : Nat} (hret : meth.sig.returnType = some .double) {z : UInt64} (hd : decode B pc = .ok (.dreturn, 1)) (hc : cells ≤ kc) (hs : slots ≤ ks) (eT : T.heap = h) (hq : Q (some (.double z)) h locs) : Gt p.tables e below (fun o U' => ∃ v Lc, o = .returned v ∧ Q v U'.heap Lc ∧ FrameEnd s o U' Lc kc ks) (T.setTop (mkF m pc L (.double z :: rest))) := by
  subst eT
  obtain ⟨fs, hr, hrun, hended, hW, hsame⟩ := X.leave (v := (some (.double z))) (fun h => by rw [hret] at h; cases h) hlocks
  exact ⟨_, _, retOut X hx hret rfl (Or.inr (Or.inr (Or.inl ⟨rfl, rfl, z, rfl⟩))) (hb hby hd) hr, hrun, hended, _, _, rfl, hq, ⟨_, rfl⟩, hW, hsame.mono hc hs⟩
theorem own_retZ (X : Stand p l e R s m args below meth c T locs cells slots) (hx : p.tables.exec = Jvm.exec) (hby : c.code = B) (hlocks : meth.locks = false) {Q : Option Value → Heap → List Loc → Prop} {kc ks : Nat} (hret : meth.sig.returnType = some .boolean) {z : Int32} (hz : z = 0 ∨ z = 1) (hd : decode B pc = .ok (.ireturn, 1)) (hc : cells ≤ kc) (hs : slots ≤ ks) (eT : T.heap = h) (hq : Q (some (.int z)) h locs) : Gt p.tables e below (fun o U' => ∃ v Lc, o = .returned v ∧ Q v U'.heap Lc ∧ FrameEnd s o U' Lc kc ks) (T.setTop (mkF m pc L (.int z :: rest))) := by
  subst eT
  obtain ⟨fs, hr, hrun, hended, hW, hsame⟩ := X.leave (v := (some (.int z))) (fun h => by rw [hret] at h; cases h) hlocks
  exact ⟨_, _, retOut X hx hret (by rcases hz with rfl | rfl <;> rfl) (Or.inl ⟨rfl, Or.inr (Or.inl rfl), z, rfl⟩) (hb hby hd) hr, hrun, hended, _, _, rfl, hq, ⟨_, rfl⟩, hW, hsame.mono hc hs⟩
theorem own_retA (X : Stand p l e R s m args below meth c T locs cells slots) (hx : p.tables.exec = Jvm.exec) (hby : c.code = B) (hlocks : meth.locks = false) {Q : Option Value → Heap → List Loc → Prop} {kc ks : Nat} {t : FieldType} (hret : meth.sig.returnType = some t) (ht : t.isReference = true) {z : Value} (hz : z.isRef = true) (hd : decode B pc = .ok (.areturn, 1)) (hc : cells ≤ kc) (hs : slots ≤ ks) (eT : T.heap = h) (hq : Q (some z) h locs) : Gt p.tables e below (fun o U' => ∃ v Lc, o = .returned v ∧ Q v U'.heap Lc ∧ FrameEnd s o U' Lc kc ks) (T.setTop (mkF m pc L (z :: rest))) := by
  subst eT
  obtain ⟨fs, hr, hrun, hended, hW, hsame⟩ := X.leave (v := (some z)) (fun h => by rw [hret] at h; cases h) hlocks
  exact ⟨_, _, retOut X hx hret (by rcases ref_cases hz with rfl | ⟨a, rfl⟩ <;> cases t <;> simp_all [narrow, FieldType.isReference]) (Or.inr (Or.inr (Or.inr (Or.inr ⟨rfl, ht, hz⟩)))) (hb hby hd) hr, hrun, hended, _, _, rfl, hq, ⟨_, rfl⟩, hW, hsame.mono hc hs⟩
end OwnG
section OwnA
variable {p : Program} {l : Launch} {e : Env} {R : Room} {s : State} {m : MethodId} {args : Array Value} {below : List Frame} {meth : Method} {c : Code} {T : State} {locs : List Loc} {cells slots : Nat} {Z : State} {a0 : Array Value} {h h' : Heap} {B : ByteArray} {pc pc' : Nat} {L L' : Array Slot} {rest : List Value} {F : Outcome → State → Prop} {a b : Addr} {ty : FieldType} {vs : List Value} {P : ClassId → Prop} {sl : Nat} {v : Value} {ws : List Addr}
def tr (_ : ClassId) : Prop := True
/-- an array at a of kind ty whose components are the list vs, of a class with P -/
def Ary (P : ClassId → Prop) (Z : State) (h : Heap) (a : Addr) (ty : FieldType) (vs : List Value) : Prop := ∃ c : Cell, Arr Z h a c ty ∧ P c.cls ∧ c.slots.toList = vs ∧ vs.length < 2 ^ 31
theorem Ary.lt (V : Ary P Z h a ty vs) : a < h.size := by obtain ⟨c, A, -⟩ := V; exact A.lt
theorem Ary.ext (V : Ary P Z h a ty vs) (E : Ext h h') : Ary P Z h' a ty vs := by obtain ⟨c, A, r⟩ := V; exact ⟨c, A.ext E, r⟩
theorem Ary.other (V : Ary P Z h b ty vs) (W : Wr h h' a sl v) (q : b ≠ a) : Ary P Z h' b ty vs := by obtain ⟨c, A, r⟩ := V; exact ⟨c, A.other W q, r⟩
theorem Ary.keep (V : Ary P Z h a ty vs) (K : Keep h h' ws) (q : a ∉ ws) : Ary P Z h' a ty vs := by obtain ⟨c, A, r⟩ := V; exact ⟨c, ⟨K.2.1 a c A.1 q, A.2⟩, r⟩
theorem Ary.set (V : Ary P Z h a ty vs) (W : Wr h h' a sl v) : Ary P Z h' a ty (vs.set sl v) := by
  obtain ⟨c, A, q, r, t⟩ := V
  refine ⟨_, A.same W, q, ?_, by rw [List.length_set]; exact t⟩
  show (c.slots.setIfInBounds sl v).toList = _
  rw [Array.toList_setIfInBounds, r]
theorem Ary.size {cl : Cell} (r : cl.slots.toList = vs) : cl.slots.size = vs.length := by rw [← r]; simp
theorem Ary.inb {cl : Cell} {i : Int32} (r : cl.slots.toList = vs) (hi : ¬ i < 0) (hl : i.toNatClampNeg < vs.length) : ¬ (i < 0 ∨ cl.slots.size ≤ i.toNatClampNeg) := by
  rw [Ary.size r]; intro q; rcases q with q | q
  · exact hi q
  · omega
theorem Ary.at {cl : Cell} {i : Nat} (r : cl.slots.toList = vs) (hg : vs[i]? = some v) : cl.slots[i]? = some v := by
  rw [← hg, ← r]; simp
theorem own_alen (X : Stand p l e R s m args below meth c T locs cells slots) (hx : p.tables.exec = Jvm.exec) (hby : c.code = B) (hZ : Z.Warmed39 s.vm) (eT : T.heap = h) (V : Ary P Z h a ty vs) {z : Int32} (hz : vs.length.toInt32 = z) (hd : decode B pc = .ok (.arraylength, 1)) (hp : pc + 1 = pc') (k : Gt p.tables e below F (T.setTop (mkF m pc' L (.int z :: rest)))) : Gt p.tables e below F (T.setTop (mkF m pc L (.ref a :: rest))) := by
  subst hp hz
  obtain ⟨cl, A, -, r, t⟩ := V
  refine k.go fun t q => X.arraylength hx (by rw [eT]; exact A.1) (State.isArrayOf_alike hZ.alike A.2.1) (g := mkF m pc L (.ref a :: rest)) rfl rfl (hb hby hd) _ ?_
  rw [Ary.size r]; exact q
theorem own_iaload (X : Stand p l e R s m args below meth c T locs cells slots) (hx : p.tables.exec = Jvm.exec) (hby : c.code = B) (hZ : Z.Warmed39 s.vm) (eT : T.heap = h) (V : Ary P Z h a .int vs) {i : Int32} (hi : ¬ i < 0) (hg : vs[i.toNatClampNeg]? = some v) (hd : decode B pc = .ok (.iaload, 1)) (hp : pc + 1 = pc') (k : Gt p.tables e below F (T.setTop (mkF m pc' L (v :: rest)))) : Gt p.tables e below F (T.setTop (mkF m pc L (.int i :: .ref a :: rest))) := by
  subst hp
  obtain ⟨cl, A, -, r, t⟩ := V
  exact k.go fun t q => X.iaload hx (by rw [eT]; exact A.1) (State.isArrayOf_alike hZ.alike A.2.1) A.2.2 (Ary.inb r hi (List.getElem?_eq_some_iff.mp hg).1) (Ary.at r hg) (g := mkF m pc L (.int i :: .ref a :: rest)) rfl rfl (hb hby hd) _ q
theorem own_laload (X : Stand p l e R s m args below meth c T locs cells slots) (hx : p.tables.exec = Jvm.exec) (hby : c.code = B) (hZ : Z.Warmed39 s.vm) (eT : T.heap = h) (V : Ary P Z h a .long vs) {i : Int32} (hi : ¬ i < 0) (hg : vs[i.toNatClampNeg]? = some v) (hd : decode B pc = .ok (.laload, 1)) (hp : pc + 1 = pc') (k : Gt p.tables e below F (T.setTop (mkF m pc' L (v :: rest)))) : Gt p.tables e below F (T.setTop (mkF m pc L (.int i :: .ref a :: rest))) := by
  subst hp
  obtain ⟨cl, A, -, r, t⟩ := V
  exact k.go fun t q => X.laload hx (by rw [eT]; exact A.1) (State.isArrayOf_alike hZ.alike A.2.1) A.2.2 (Ary.inb r hi (List.getElem?_eq_some_iff.mp hg).1) (Ary.at r hg) (g := mkF m pc L (.int i :: .ref a :: rest)) rfl rfl (hb hby hd) _ q
theorem own_daload (X : Stand p l e R s m args below meth c T locs cells slots) (hx : p.tables.exec = Jvm.exec) (hby : c.code = B) (hZ : Z.Warmed39 s.vm) (eT : T.heap = h) (V : Ary P Z h a .double vs) {i : Int32} (hi : ¬ i < 0) (hg : vs[i.toNatClampNeg]? = some v) (hd : decode B pc = .ok (.daload, 1)) (hp : pc + 1 = pc') (k : Gt p.tables e below F (T.setTop (mkF m pc' L (v :: rest)))) : Gt p.tables e below F (T.setTop (mkF m pc L (.int i :: .ref a :: rest))) := by
  subst hp
  obtain ⟨cl, A, -, r, t⟩ := V
  exact k.go fun t q => X.daload hx (by rw [eT]; exact A.1) (State.isArrayOf_alike hZ.alike A.2.1) A.2.2 (Ary.inb r hi (List.getElem?_eq_some_iff.mp hg).1) (Ary.at r hg) (g := mkF m pc L (.int i :: .ref a :: rest)) rfl rfl (hb hby hd) _ q
theorem own_aaload (X : Stand p l e R s m args below meth c T locs cells slots) (hx : p.tables.exec = Jvm.exec) (hby : c.code = B) (hZ : Z.Warmed39 s.vm) (eT : T.heap = h) (V : Ary P Z h a ty vs) (hty : ty.isReference = true) {i : Int32} (hi : ¬ i < 0) (hg : vs[i.toNatClampNeg]? = some v) (hd : decode B pc = .ok (.aaload, 1)) (hp : pc + 1 = pc') (k : Gt p.tables e below F (T.setTop (mkF m pc' L (v :: rest)))) : Gt p.tables e below F (T.setTop (mkF m pc L (.int i :: .ref a :: rest))) := by
  subst hp
  obtain ⟨cl, A, -, r, t⟩ := V
  exact k.go fun t q => X.aaload hx (by rw [eT]; exact A.1) (State.isArrayOf_alike hZ.alike A.2.1) hty A.2.2 (Ary.inb r hi (List.getElem?_eq_some_iff.mp hg).1) (Ary.at r hg) (g := mkF m pc L (.int i :: .ref a :: rest)) rfl rfl (hb hby hd) _ q
theorem own_iastore (X : Stand p l e R s m args below meth c T locs cells slots) (hx : p.tables.exec = Jvm.exec) (hby : c.code = B) (hZ : Z.Warmed39 s.vm) (eT : T.heap = h) (V : Ary P Z h a .int vs) {i x : Int32} {n : Nat} (hi : ¬ i < 0) (hn : i.toNatClampNeg = n) (hl : n < vs.length) (hd : decode B pc = .ok (.iastore, 1)) (hp : pc + 1 = pc') (k : ∀ T' h', Stand p l e R s m args below meth c T' (locs ++ [⟨a, n⟩]) cells slots → T'.heap = h' → Wr h h' a n (.int x) → Gt p.tables e below F (T'.setTop (mkF m pc' L rest))) : Gt p.tables e below F (T.setTop (mkF m pc L (.int x :: .int i :: .ref a :: rest))) := by
  subst hp hn
  obtain ⟨cl, A, -, r, t⟩ := V
  obtain ⟨T', h', X', e', W, st⟩ := stI X hx hZ eT A (Ary.inb r hi hl) (g := mkF m pc L (.int x :: .int i :: .ref a :: rest)) rfl rfl (hb hby hd)
  exact (k T' h' X' e' W).go st
theorem own_lastore (X : Stand p l e R s m args below meth c T locs cells slots) (hx : p.tables.exec = Jvm.exec) (hby : c.code = B) (hZ : Z.Warmed39 s.vm) (eT : T.heap = h) (V : Ary P Z h a .long vs) {i : Int32} {x : Int64} {n : Nat} (hi : ¬ i < 0) (hn : i.toNatClampNeg = n) (hl : n < vs.length) (hd : decode B pc = .ok (.lastore, 1)) (hp : pc + 1 = pc') (k : ∀ T' h', Stand p l e R s m args below meth c T' (locs ++ [⟨a, n⟩]) cells slots → T'.heap = h' → Wr h h' a n (.long x) → Gt p.tables e below F (T'.setTop (mkF m pc' L rest))) : Gt p.tables e below F (T.setTop (mkF m pc L (.long x :: .int i :: .ref a :: rest))) := by
  subst hp hn
  obtain ⟨cl, A, -, r, t⟩ := V
  obtain ⟨T', h', X', e', W, st⟩ := stJ X hx hZ eT A (Ary.inb r hi hl) (g := mkF m pc L (.long x :: .int i :: .ref a :: rest)) rfl rfl (hb hby hd)
  exact (k T' h' X' e' W).go st
theorem own_dastore (X : Stand p l e R s m args below meth c T locs cells slots) (hx : p.tables.exec = Jvm.exec) (hby : c.code = B) (hZ : Z.Warmed39 s.vm) (eT : T.heap = h) (V : Ary P Z h a .double vs) {i : Int32} {x : UInt64} {n : Nat} (hi : ¬ i < 0) (hn : i.toNatClampNeg = n) (hl : n < vs.length) (hd : decode B pc = .ok (.dastore, 1)) (hp : pc + 1 = pc') (k : ∀ T' h', Stand p l e R s m args below meth c T' (locs ++ [⟨a, n⟩]) cells slots → T'.heap = h' → Wr h h' a n (.double x) → Gt p.tables e below F (T'.setTop (mkF m pc' L rest))) : Gt p.tables e below F (T.setTop (mkF m pc L (.double x :: .int i :: .ref a :: rest))) := by
  subst hp hn
  obtain ⟨cl, A, -, r, t⟩ := V
  obtain ⟨T', h', X', e', W, st⟩ := stD X hx hZ eT A (Ary.inb r hi hl) (g := mkF m pc L (.double x :: .int i :: .ref a :: rest)) rfl rfl (hb hby hd)
  exact (k T' h' X' e' W).go st
/-- what lies in it: an array class over C -/
def ovA (Z : State) (ty : FieldType) (C : String) (k : ClassId) : Prop := OvrA Z k ty C
def ovO (Z : State) (C : String) (k : ClassId) : Prop := Ovr Z k C
theorem own_aastoreA (X : Stand p l e R s m args below meth c T locs cells slots) (hx : p.tables.exec = Jvm.exec) (hby : c.code = B) (hZ : Z.Warmed39 s.vm) (eT : T.heap = h) {C : String} (V : Ary (ovA Z ty C) Z h a (.array ty) vs) {i : Int32} {x : Addr} {n : Nat} (E : Exa Z h x C) (hi : ¬ i < 0) (hn : i.toNatClampNeg = n) (hl : n < vs.length) (hd : decode B pc = .ok (.aastore, 1)) (hp : pc + 1 = pc') (k : ∀ T' h', Stand p l e R s m args below meth c T' (locs ++ [⟨a, n⟩]) cells slots → T'.heap = h' → Wr h h' a n (.ref x) → Gt p.tables e below F (T'.setTop (mkF m pc' L rest))) : Gt p.tables e below F (T.setTop (mkF m pc L (.ref x :: .int i :: .ref a :: rest))) := by
  subst hp hn
  obtain ⟨cl, A, O, r, t⟩ := V
  obtain ⟨T', h', X', e', W, st⟩ := stR X hx hZ eT A (Ary.inb r hi hl) rfl (Sto.ofVA A rfl O (Ins.self E)) (g := mkF m pc L (.ref x :: .int i :: .ref a :: rest)) rfl rfl (hb hby hd)
  exact (k T' h' X' e' W).go st
theorem own_aastoreO (X : Stand p l e R s m args below meth c T locs cells slots) (hx : p.tables.exec = Jvm.exec) (hby : c.code = B) (hZ : Z.Warmed39 s.vm) (eT : T.heap = h) {C : String} (V : Ary (ovO Z C) Z h a (.object C) vs) {i : Int32} {x : Addr} {n : Nat} (E : Exa Z h x C) (hi : ¬ i < 0) (hn : i.toNatClampNeg = n) (hl : n < vs.length) (hd : decode B pc = .ok (.aastore, 1)) (hp : pc + 1 = pc') (k : ∀ T' h', Stand p l e R s m args below meth c T' (locs ++ [⟨a, n⟩]) cells slots → T'.heap = h' → Wr h h' a n (.ref x) → Gt p.tables e below F (T'.setTop (mkF m pc' L rest))) : Gt p.tables e below F (T.setTop (mkF m pc L (.ref x :: .int i :: .ref a :: rest))) := by
  subst hp hn
  obtain ⟨cl, A, O, r, t⟩ := V
  obtain ⟨T', h', X', e', W, st⟩ := stR X hx hZ eT A (Ary.inb r hi hl) rfl (Sto.of A O (Ins.self E)) (g := mkF m pc L (.ref x :: .int i :: .ref a :: rest)) rfl rfl (hb hby hd)
  exact (k T' h' X' e' W).go st
theorem own_newP (X : Stand p l e R s m args below meth c T locs cells slots) (hx : p.tables.exec = Jvm.exec) (hby : c.code = B) (hZ : Z.Warmed39 s.vm) {aty : ArrayType} (w : (Jvm.Cond.arrayClass (newarray.typeOf aty)).before a0 Z = true) (eT : T.heap = h) (hd : decode B pc = .ok (.newarray aty, 2)) (hp : pc + 2 = pc') {n : Int32} (hn : ¬ n < 0) {N : Nat} (hN : n.toNatClampNeg = N) {cap : Nat} (hcap : N ≤ cap) (hbb : cap * 8 ≤ 536870912) (hc : cells + 1 ≤ R.cells) (hl : slots + cap ≤ R.slots) {ad : String} (had : "[" ++ (newarray.typeOf aty).toString = ad)
    (k : ∀ T' h' a, Stand p l e R s m args below meth c T' locs (cells + 1) (slots + cap) → T'.heap = h' → Ext h h' → h.size = a → Exa Z h' a ad → Ary tr Z h' a (newarray.typeOf aty) (List.replicate N (defaultValue (newarray.typeOf aty))) → Gt p.tables e below F (T'.setTop (mkF m pc' L (.ref a :: rest)))) : Gt p.tables e below F (T.setTop (mkF m pc L (.int n :: rest))) := by
  subst hp hN
  obtain ⟨T', h', cA, X', e', E', A', Ex, st⟩ := newPE X hx hZ w eT (g := mkF m pc L (.int n :: rest)) rfl (hb hby hd) rfl hn hcap hbb hc hl had
  exact (k T' h' _ X' e' E' rfl Ex ⟨_, A', trivial, by simp [newA], by rw [List.length_replicate]; exact (back32 hn).2⟩).go st
theorem own_newRA (X : Stand p l e R s m args below meth c T locs cells slots) (hx : p.tables.exec = Jvm.exec) (hby : c.code = B) (hZ : Z.Warmed39 s.vm) {own C : String} {index : Nat} (hown : s.vm.findClass own = some m.cls) (hC : (FieldType.array ty).toString = C) (w1 : (Jvm.Cond.classLink own index C).before a0 Z = true) (w2 : (Jvm.Cond.arrayOver (.array ty)).before a0 Z = true) (eT : T.heap = h) (hd : decode B pc = .ok (.anewarray index, 3)) (hp : pc + 3 = pc') {n : Int32} (hn : ¬ n < 0) {N : Nat} (hN : n.toNatClampNeg = N) {cap : Nat} (hcap : N ≤ cap) (hbb : cap * 8 ≤ 536870912) (hc : cells + 1 ≤ R.cells) (hl : slots + cap ≤ R.slots) {ad : String} (had : "[" ++ C = ad)
    (k : ∀ T' h' a, Stand p l e R s m args below meth c T' locs (cells + 1) (slots + cap) → T'.heap = h' → Ext h h' → h.size = a → Exa Z h' a ad → Ary (ovA Z ty C) Z h' a (.array ty) (List.replicate N .null) → Gt p.tables e below F (T'.setTop (mkF m pc' L (.ref a :: rest)))) : Gt p.tables e below F (T.setTop (mkF m pc L (.int n :: rest))) := by
  subst hp hN
  obtain ⟨T', h', cA, X', e', E', A', Ex, O, st⟩ := newRA X hx hZ hown hC w1 w2 eT (g := mkF m pc L (.int n :: rest)) rfl (hb hby hd) rfl hn hcap hbb hc hl had
  exact (k T' h' _ X' e' E' rfl Ex ⟨_, A', O, by simp [newA, defaultValue], by rw [List.length_replicate]; exact (back32 hn).2⟩).go st
theorem own_newRO (X : Stand p l e R s m args below meth c T locs cells slots) (hx : p.tables.exec = Jvm.exec) (hby : c.code = B) (hZ : Z.Warmed39 s.vm) {own C : String} {index : Nat} (hown : s.vm.findClass own = some m.cls) (w1 : (Jvm.Cond.classLink own index C).before a0 Z = true) (w2 : (Jvm.Cond.arrayOver (.object C)).before a0 Z = true) (eT : T.heap = h) (hd : decode B pc = .ok (.anewarray index, 3)) (hp : pc + 3 = pc') {n : Int32} (hn : ¬ n < 0) {N : Nat} (hN : n.toNatClampNeg = N) {cap : Nat} (hcap : N ≤ cap) (hbb : cap * 8 ≤ 536870912) (hc : cells + 1 ≤ R.cells) (hl : slots + cap ≤ R.slots) {ad : String} (had : "[" ++ (FieldType.object C).toString = ad)
    (k : ∀ T' h' a, Stand p l e R s m args below meth c T' locs (cells + 1) (slots + cap) → T'.heap = h' → Ext h h' → h.size = a → Exa Z h' a ad → Ary (ovO Z C) Z h' a (.object C) (List.replicate N .null) → Gt p.tables e below F (T'.setTop (mkF m pc' L (.ref a :: rest)))) : Gt p.tables e below F (T.setTop (mkF m pc L (.int n :: rest))) := by
  subst hp hN
  obtain ⟨T', h', cA, X', e', E', A', Ex, O, st⟩ := newRE X hx hZ hown w1 w2 eT (g := mkF m pc L (.int n :: rest)) rfl (hb hby hd) rfl hn hcap hbb hc hl had
  exact (k T' h' _ X' e' E' rfl Ex ⟨_, A', O, by simp [newA, defaultValue], by rw [List.length_replicate]; exact (back32 hn).2⟩).go st
/-- new T[3][3] of a primitive kind -/
theorem own_grid3 (X : Stand p l e R s m args below meth c T locs cells slots) (hx : p.tables.exec = Jvm.exec) (hby : c.code = B) (hZ : Z.Warmed39 s.vm) {own C ad : String} {index : Nat} (hown : s.vm.findClass own = some m.cls) (hC : (FieldType.array ty).toString = C) (had : "[" ++ C = ad)
    (w1 : (Jvm.Cond.classLink own index ad).before a0 Z = true) (w2 : (Jvm.Cond.arrayOver (.array ty)).before a0 Z = true) (w3 : (Jvm.Cond.arrayClass ty).before a0 Z = true) (eT : T.heap = h) (hd : decode B pc = .ok (.multianewarray index 2, 4)) (hp : pc + 4 = pc') (hdf : fits ty (defaultValue ty) = true) (hdd : (defaultValue ty).isDefault = true) (hc : cells + 4 ≤ R.cells) (hl : slots + 12 ≤ R.slots)
    (k : ∀ T' h' a b1 b2 b3, Stand p l e R s m args below meth c T' locs (cells + 4) (slots + 12) → T'.heap = h' → Ext h h' → h.size = a → a < b1 → b1 < b2 → b2 < b3 → Exa Z h' a ad → Ary (ovA Z ty C) Z h' a (.array ty) [.ref b1, .ref b2, .ref b3] → Exa Z h' b1 C → Exa Z h' b2 C → Exa Z h' b3 C → Ary tr Z h' b1 ty [defaultValue ty, defaultValue ty, defaultValue ty] → Ary tr Z h' b2 ty [defaultValue ty, defaultValue ty, defaultValue ty] → Ary tr Z h' b3 ty [defaultValue ty, defaultValue ty, defaultValue ty] → Gt p.tables e below F (T'.setTop (mkF m pc' L (.ref a :: rest)))) : Gt p.tables e below F (T.setTop (mkF m pc L (.int 3 :: .int 3 :: rest))) := by
  subst hp
  obtain ⟨T', h', cA, comp, X', e', E', ⟨cl, A1, A2, A3, A4, A5, A6⟩, O, Ex, I, st⟩ := gridM X hx hZ hown hC had w1 w2 w3 eT (g := mkF m pc L (.int 3 :: .int 3 :: rest)) rfl (hb hby hd) (n := 3) (k := 3) rfl (by decide) (by decide) (N := 3) (by decide) (xs := [h.size + 1, h.size + 2, h.size + 3]) rfl (cap := 3) (by decide) (by decide) (by decide) hdf hdd hc hl
  have i1 := I 0 _ rfl; have i2 := I 1 _ rfl; have i3 := I 2 _ rfl
  have f : ∀ x, Arr Z h' x (newA comp ty 3) ty → Ary tr Z h' x ty [defaultValue ty, defaultValue ty, defaultValue ty] := fun x q => ⟨_, q, trivial, by simp [newA], by show 3 < 2 ^ 31; decide⟩
  refine (k T' h' _ _ _ _ X' e' E' rfl (Nat.lt_succ_self _) (Nat.lt_succ_self _) (Nat.lt_succ_self _) Ex ⟨cl, A1, A2 ▸ O, ?_, by show 3 < 2 ^ 31; decide⟩ i1.2 i2.2 i3.2 (f _ i1.1) (f _ i2.1) (f _ i3.1)).go st
  have sz : cl.slots.size = 3 := A3
  refine List.ext_getElem? fun i => ?_
  by_cases hi : i < 3
  · have q := A5 i (by omega)
    rw [Array.getElem?_toList, q]
    match i, hi with
    | 0, _ => rfl
    | 1, _ => rfl
    | 2, _ => rfl
  · rw [List.getElem?_eq_none (by simp; omega), List.getElem?_eq_none (by simp; omega)]
end OwnA
section OwnL
theorem own_lget {α : Type} {L : List α} {d : α} {i : Nat} {f : α → Value} (h : i < L.length) : (L.map f)[i]? = some (f (L.getD i d)) := by
  rw [List.getElem?_map, List.getD_eq_getElem?_getD, List.getElem?_eq_getElem h]; rfl
theorem own_rg0 {i : Int32} {m : Int} (h : 0 ≤ i.toInt ∧ i.toInt < m) : ¬ i < 0 := by
  rw [Int32.lt_iff_toInt_lt]; have : (0 : Int32).toInt = 0 := by decide
  omega
theorem own_rgl {α : Type} {L : List α} {i : Int32} {m : Int} {n : Nat} (h : 0 ≤ i.toInt ∧ i.toInt < m) (hl : L.length = n) (e : m.toNat = n := by rfl) : i.toNatClampNeg < L.length := by
  show i.toInt.toNat < _; omega
end OwnL
section OwnC
variable {x y : UInt64} {i j : Int64} {a b : Int32}
abbrev dlt (x y : UInt64) : Prop := FP.dcmp x y = some .lt
abbrev dgt (x y : UInt64) : Prop := FP.dcmp x y = some .gt
abbrev deq (x y : UInt64) : Prop := FP.dcmp x y = some .eq
abbrev dle (x y : UInt64) : Prop := FP.dcmp x y = some .lt ∨ FP.dcmp x y = some .eq
abbrev dge (x y : UInt64) : Prop := FP.dcmp x y = some .gt ∨ FP.dcmp x y = some .eq
theorem own_dl_lt_p (h : dge x y) : ifCond.holds .lt (cmpValue (FP.dcmp x y) .l) = false := by
  unfold dge at h; revert h; generalize FP.dcmp x y = o; rcases o with _ | (_ | _ | _) <;> decide
theorem own_dl_lt_n (h : ¬ dge x y) : ifCond.holds .lt (cmpValue (FP.dcmp x y) .l) = true := by
  unfold dge at h; revert h; generalize FP.dcmp x y = o; rcases o with _ | (_ | _ | _) <;> decide
theorem own_dl_ge_p (h : dge x y) : ifCond.holds .ge (cmpValue (FP.dcmp x y) .l) = true := by
  unfold dge at h; revert h; generalize FP.dcmp x y = o; rcases o with _ | (_ | _ | _) <;> decide
theorem own_dl_ge_n (h : ¬ dge x y) : ifCond.holds .ge (cmpValue (FP.dcmp x y) .l) = false := by
  unfold dge at h; revert h; generalize FP.dcmp x y = o; rcases o with _ | (_ | _ | _) <;> decide
theorem own_dl_gt_p (h : dgt x y) : ifCond.holds .gt (cmpValue (FP.dcmp x y) .l) = true := by
  unfold dgt at h; revert h; generalize FP.dcmp x y = o; rcases o with _ | (_ | _ | _) <;> decide
theorem own_dl_gt_n (h : ¬ dgt x y) : ifCond.holds .gt (cmpValue (FP.dcmp x y) .l) = false := by
  unfold dgt at h; revert h; generalize FP.dcmp x y = o; rcases o with _ | (_ | _ | _) <;> decide
theorem own_dl_le_p (h : dgt x y) : ifCond.holds .le (cmpValue (FP.dcmp x y) .l) = false := by
  unfold dgt at h; revert h; generalize FP.dcmp x y = o; rcases o with _ | (_ | _ | _) <;> decide
theorem own_dl_le_n (h : ¬ dgt x y) : ifCond.holds .le (cmpValue (FP.dcmp x y) .l) = true := by
  unfold dgt at h; revert h; generalize FP.dcmp x y = o; rcases o with _ | (_ | _ | _) <;> decide
theorem own_dl_eq_p (h : deq x y) : ifCond.holds .eq (cmpValue (FP.dcmp x y) .l) = true := by
  unfold deq at h; revert h; generalize FP.dcmp x y = o; rcases o with _ | (_ | _ | _) <;> decide
theorem own_dl_eq_n (h : ¬ deq x y) : ifCond.holds .eq (cmpValue (FP.dcmp x y) .l) = false := by
  unfold deq at h; revert h; generalize FP.dcmp x y = o; rcases o with _ | (_ | _ | _) <;> decide
theorem own_dl_ne_p (h : deq x y) : ifCond.holds .ne (cmpValue (FP.dcmp x y) .l) = false := by
  unfold deq at h; revert h; generalize FP.dcmp x y = o; rcases o with _ | (_ | _ | _) <;> decide
theorem own_dl_ne_n (h : ¬ deq x y) : ifCond.holds .ne (cmpValue (FP.dcmp x y) .l) = true := by
  unfold deq at h; revert h; generalize FP.dcmp x y = o; rcases o with _ | (_ | _ | _) <;> decide
theorem own_dg_lt_p (h : dlt x y) : ifCond.holds .lt (cmpValue (FP.dcmp x y) .g) = true := by
  unfold dlt at h; revert h; generalize FP.dcmp x y = o; rcases o with _ | (_ | _ | _) <;> decide
theorem own_dg_lt_n (h : ¬ dlt x y) : ifCond.holds .lt (cmpValue (FP.dcmp x y) .g) = false := by
  unfold dlt at h; revert h; generalize FP.dcmp x y = o; rcases o with _ | (_ | _ | _) <;> decide
theorem own_dg_ge_p (h : dlt x y) : ifCond.holds .ge (cmpValue (FP.dcmp x y) .g) = false := by
  unfold dlt at h; revert h; generalize FP.dcmp x y = o; rcases o with _ | (_ | _ | _) <;> decide
theorem own_dg_ge_n (h : ¬ dlt x y) : ifCond.holds .ge (cmpValue (FP.dcmp x y) .g) = true := by
  unfold dlt at h; revert h; generalize FP.dcmp x y = o; rcases o with _ | (_ | _ | _) <;> decide
theorem own_dg_gt_p (h : dle x y) : ifCond.holds .gt (cmpValue (FP.dcmp x y) .g) = false := by
  unfold dle at h; revert h; generalize FP.dcmp x y = o; rcases o with _ | (_ | _ | _) <;> decide
theorem own_dg_gt_n (h : ¬ dle x y) : ifCond.holds .gt (cmpValue (FP.dcmp x y) .g) = true := by
  unfold dle at h; revert h; generalize FP.dcmp x y = o; rcases o with _ | (_ | _ | _) <;> decide
theorem own_dg_le_p (h : dle x y) : ifCond.holds .le (cmpValue (FP.dcmp x y) .g) = true := by
  unfold dle at h; revert h; generalize FP.dcmp x y = o; rcases o with _ | (_ | _ | _) <;> decide
theorem own_dg_le_n (h : ¬ dle x y) : ifCond.holds .le (cmpValue (FP.dcmp x y) .g) = false := by
  unfold dle at h; revert h; generalize FP.dcmp x y = o; rcases o with _ | (_ | _ | _) <;> decide
theorem own_dg_eq_p (h : deq x y) : ifCond.holds .eq (cmpValue (FP.dcmp x y) .g) = true := by
  unfold deq at h; revert h; generalize FP.dcmp x y = o; rcases o with _ | (_ | _ | _) <;> decide
theorem own_dg_eq_n (h : ¬ deq x y) : ifCond.holds .eq (cmpValue (FP.dcmp x y) .g) = false := by
  unfold deq at h; revert h; generalize FP.dcmp x y = o; rcases o with _ | (_ | _ | _) <;> decide
theorem own_dg_ne_p (h : deq x y) : ifCond.holds .ne (cmpValue (FP.dcmp x y) .g) = false := by
  unfold deq at h; revert h; generalize FP.dcmp x y = o; rcases o with _ | (_ | _ | _) <;> decide
theorem own_dg_ne_n (h : ¬ deq x y) : ifCond.holds .ne (cmpValue (FP.dcmp x y) .g) = true := by
  unfold deq at h; revert h; generalize FP.dcmp x y = o; rcases o with _ | (_ | _ | _) <;> decide
theorem own_lc_lt_p (h : i < j) : ifCond.holds .lt (if i > j then 1 else if i = j then 0 else -1 : Int32) = true := by
  simp only [gt_iff_lt, Int64.lt_iff_toInt_lt, ← Int64.toInt_inj] at h ⊢
  rcases Int.lt_trichotomy i.toInt j.toInt with q | q | q
  · rw [if_neg (by omega), if_neg (by omega)]; first | rfl | (exfalso; omega)
  · rw [if_neg (by omega), if_pos q]; first | rfl | (exfalso; omega)
  · rw [if_pos q]; first | rfl | (exfalso; omega)
theorem own_lc_lt_n (h : ¬ i < j) : ifCond.holds .lt (if i > j then 1 else if i = j then 0 else -1 : Int32) = false := by
  simp only [gt_iff_lt, Int64.lt_iff_toInt_lt, ← Int64.toInt_inj] at h ⊢
  rcases Int.lt_trichotomy i.toInt j.toInt with q | q | q
  · rw [if_neg (by omega), if_neg (by omega)]; first | rfl | (exfalso; omega)
  · rw [if_neg (by omega), if_pos q]; first | rfl | (exfalso; omega)
  · rw [if_pos q]; first | rfl | (exfalso; omega)
theorem own_lc_ge_p (h : i < j) : ifCond.holds .ge (if i > j then 1 else if i = j then 0 else -1 : Int32) = false := by
  simp only [gt_iff_lt, Int64.lt_iff_toInt_lt, ← Int64.toInt_inj] at h ⊢
  rcases Int.lt_trichotomy i.toInt j.toInt with q | q | q
  · rw [if_neg (by omega), if_neg (by omega)]; first | rfl | (exfalso; omega)
  · rw [if_neg (by omega), if_pos q]; first | rfl | (exfalso; omega)
  · rw [if_pos q]; first | rfl | (exfalso; omega)
theorem own_lc_ge_n (h : ¬ i < j) : ifCond.holds .ge (if i > j then 1 else if i = j then 0 else -1 : Int32) = true := by
  simp only [gt_iff_lt, Int64.lt_iff_toInt_lt, ← Int64.toInt_inj] at h ⊢
  rcases Int.lt_trichotomy i.toInt j.toInt with q | q | q
  · rw [if_neg (by omega), if_neg (by omega)]; first | rfl | (exfalso; omega)
  · rw [if_neg (by omega), if_pos q]; first | rfl | (exfalso; omega)
  · rw [if_pos q]; first | rfl | (exfalso; omega)
theorem own_lc_gt_p (h : j < i) : ifCond.holds .gt (if i > j then 1 else if i = j then 0 else -1 : Int32) = true := by
  simp only [gt_iff_lt, Int64.lt_iff_toInt_lt, ← Int64.toInt_inj] at h ⊢
  rcases Int.lt_trichotomy i.toInt j.toInt with q | q | q
  · rw [if_neg (by omega), if_neg (by omega)]; first | rfl | (exfalso; omega)
  · rw [if_neg (by omega), if_pos q]; first | rfl | (exfalso; omega)
  · rw [if_pos q]; first | rfl | (exfalso; omega)
theorem own_lc_gt_n (h : ¬ j < i) : ifCond.holds .gt (if i > j then 1 else if i = j then 0 else -1 : Int32) = false := by
  simp only [gt_iff_lt, Int64.lt_iff_toInt_lt, ← Int64.toInt_inj] at h ⊢
  rcases Int.lt_trichotomy i.toInt j.toInt with q | q | q
  · rw [if_neg (by omega), if_neg (by omega)]; first | rfl | (exfalso; omega)
  · rw [if_neg (by omega), if_pos q]; first | rfl | (exfalso; omega)
  · rw [if_pos q]; first | rfl | (exfalso; omega)
theorem own_lc_le_p (h : j < i) : ifCond.holds .le (if i > j then 1 else if i = j then 0 else -1 : Int32) = false := by
  simp only [gt_iff_lt, Int64.lt_iff_toInt_lt, ← Int64.toInt_inj] at h ⊢
  rcases Int.lt_trichotomy i.toInt j.toInt with q | q | q
  · rw [if_neg (by omega), if_neg (by omega)]; first | rfl | (exfalso; omega)
  · rw [if_neg (by omega), if_pos q]; first | rfl | (exfalso; omega)
  · rw [if_pos q]; first | rfl | (exfalso; omega)
theorem own_lc_le_n (h : ¬ j < i) : ifCond.holds .le (if i > j then 1 else if i = j then 0 else -1 : Int32) = true := by
  simp only [gt_iff_lt, Int64.lt_iff_toInt_lt, ← Int64.toInt_inj] at h ⊢
  rcases Int.lt_trichotomy i.toInt j.toInt with q | q | q
  · rw [if_neg (by omega), if_neg (by omega)]; first | rfl | (exfalso; omega)
  · rw [if_neg (by omega), if_pos q]; first | rfl | (exfalso; omega)
  · rw [if_pos q]; first | rfl | (exfalso; omega)
theorem own_lc_eq_p (h : i = j) : ifCond.holds .eq (if i > j then 1 else if i = j then 0 else -1 : Int32) = true := by
  simp only [gt_iff_lt, Int64.lt_iff_toInt_lt, ← Int64.toInt_inj] at h ⊢
  rcases Int.lt_trichotomy i.toInt j.toInt with q | q | q
  · rw [if_neg (by omega), if_neg (by omega)]; first | rfl | (exfalso; omega)
  · rw [if_neg (by omega), if_pos q]; first | rfl | (exfalso; omega)
  · rw [if_pos q]; first | rfl | (exfalso; omega)
theorem own_lc_eq_n (h : ¬ i = j) : ifCond.holds .eq (if i > j then 1 else if i = j then 0 else -1 : Int32) = false := by
  simp only [gt_iff_lt, Int64.lt_iff_toInt_lt, ← Int64.toInt_inj] at h ⊢
  rcases Int.lt_trichotomy i.toInt j.toInt with q | q | q
  · rw [if_neg (by omega), if_neg (by omega)]; first | rfl | (exfalso; omega)
  · rw [if_neg (by omega), if_pos q]; first | rfl | (exfalso; omega)
  · rw [if_pos q]; first | rfl | (exfalso; omega)
theorem own_lc_ne_p (h : i = j) : ifCond.holds .ne (if i > j then 1 else if i = j then 0 else -1 : Int32) = false := by
  simp only [gt_iff_lt, Int64.lt_iff_toInt_lt, ← Int64.toInt_inj] at h ⊢
  rcases Int.lt_trichotomy i.toInt j.toInt with q | q | q
  · rw [if_neg (by omega), if_neg (by omega)]; first | rfl | (exfalso; omega)
  · rw [if_neg (by omega), if_pos q]; first | rfl | (exfalso; omega)
  · rw [if_pos q]; first | rfl | (exfalso; omega)
theorem own_lc_ne_n (h : ¬ i = j) : ifCond.holds .ne (if i > j then 1 else if i = j then 0 else -1 : Int32) = true := by
  simp only [gt_iff_lt, Int64.lt_iff_toInt_lt, ← Int64.toInt_inj] at h ⊢
  rcases Int.lt_trichotomy i.toInt j.toInt with q | q | q
  · rw [if_neg (by omega), if_neg (by omega)]; first | rfl | (exfalso; omega)
  · rw [if_neg (by omega), if_pos q]; first | rfl | (exfalso; omega)
  · rw [if_pos q]; first | rfl | (exfalso; omega)
theorem own_i0_lt_p (h : a < 0) : ifCond.holds .lt a = true := (if0 _ _).trans (tlt h).1
theorem own_i0_lt_n (h : ¬ a < 0) : ifCond.holds .lt a = false := (if0 _ _).trans (flt h).1
theorem own_i0_ge_p (h : a < 0) : ifCond.holds .ge a = false := (if0 _ _).trans (tlt h).2.1
theorem own_i0_ge_n (h : ¬ a < 0) : ifCond.holds .ge a = true := (if0 _ _).trans (flt h).2.1
theorem own_i0_gt_p (h : 0 < a) : ifCond.holds .gt a = true := (if0 _ _).trans (tlt h).2.2.1
theorem own_i0_gt_n (h : ¬ 0 < a) : ifCond.holds .gt a = false := (if0 _ _).trans (flt h).2.2.1
theorem own_i0_le_p (h : 0 < a) : ifCond.holds .le a = false := (if0 _ _).trans (tlt h).2.2.2
theorem own_i0_le_n (h : ¬ 0 < a) : ifCond.holds .le a = true := (if0 _ _).trans (flt h).2.2.2
theorem own_i0_eq_p (h : a = 0) : ifCond.holds .eq a = true := (if0 _ _).trans (teq h).1
theorem own_i0_eq_n (h : ¬ a = 0) : ifCond.holds .eq a = false := (if0 _ _).trans (feq h).1
theorem own_i0_ne_p (h : a = 0) : ifCond.holds .ne a = false := (if0 _ _).trans (teq h).2
theorem own_i0_ne_n (h : ¬ a = 0) : ifCond.holds .ne a = true := (if0 _ _).trans (feq h).2
theorem own_ic_lt_p (h : a < b) : if_icmp.holds .lt a b = true := (tlt h).1
theorem own_ic_lt_n (h : ¬ a < b) : if_icmp.holds .lt a b = false := (flt h).1
theorem own_ic_ge_p (h : a < b) : if_icmp.holds .ge a b = false := (tlt h).2.1
theorem own_ic_ge_n (h : ¬ a < b) : if_icmp.holds .ge a b = true := (flt h).2.1
theorem own_ic_gt_p (h : b < a) : if_icmp.holds .gt a b = true := (tlt h).2.2.1
theorem own_ic_gt_n (h : ¬ b < a) : if_icmp.holds .gt a b = false := (flt h).2.2.1
theorem own_ic_le_p (h : b < a) : if_icmp.holds .le a b = false := (tlt h).2.2.2
theorem own_ic_le_n (h : ¬ b < a) : if_icmp.holds .le a b = true := (flt h).2.2.2
theorem own_ic_eq_p (h : a = b) : if_icmp.holds .eq a b = true := (teq h).1
theorem own_ic_eq_n (h : ¬ a = b) : if_icmp.holds .eq a b = false := (feq h).1
theorem own_ic_ne_p (h : a = b) : if_icmp.holds .ne a b = false := (teq h).2
theorem own_ic_ne_n (h : ¬ a = b) : if_icmp.holds .ne a b = true := (feq h).2
end OwnC
section OwnM
variable {p : Program} {l : Launch} {e : Env} {R : Room} {s : State} {m : MethodId} {args : Array Value} {below : List Frame} {meth : Method} {c : Code} {T : State} {locs : List Loc} {cells slots : Nat} {Z : State} {a0 : Array Value} {h h' : Heap} {B : ByteArray} {pc pc' : Nat} {L L' : Array Slot} {rest : List Value} {F : Outcome → State → Prop} {a b : Addr} {ty : FieldType} {vs : List Value} {P : ClassId → Prop} {sl : Nat} {v : Value} {ws : List Addr}
theorem own_caload (X : Stand p l e R s m args below meth c T locs cells slots) (hx : p.tables.exec = Jvm.exec) (hby : c.code = B) (hZ : Z.Warmed39 s.vm) (eT : T.heap = h) (V : Ary P Z h a .char vs) {i : Int32} (hi : ¬ i < 0) (hg : vs[i.toNatClampNeg]? = some v) (hd : decode B pc = .ok (.caload, 1)) (hp : pc + 1 = pc') (k : Gt p.tables e below F (T.setTop (mkF m pc' L (v :: rest)))) : Gt p.tables e below F (T.setTop (mkF m pc L (.int i :: .ref a :: rest))) := by
  subst hp
  obtain ⟨cl, A, -, r, t⟩ := V
  exact k.go fun t q => X.caload hx (by rw [eT]; exact A.1) (State.isArrayOf_alike hZ.alike A.2.1) A.2.2 (Ary.inb r hi (List.getElem?_eq_some_iff.mp hg).1) (Ary.at r hg) (g := mkF m pc L (.int i :: .ref a :: rest)) rfl rfl (hb hby hd) _ q
theorem own_castore (X : Stand p l e R s m args below meth c T locs cells slots) (hx : p.tables.exec = Jvm.exec) (hby : c.code = B) (hZ : Z.Warmed39 s.vm) (eT : T.heap = h) (V : Ary P Z h a .char vs) {i x : Int32} {n : Nat} (hi : ¬ i < 0) (hn : i.toNatClampNeg = n) (hl : n < vs.length) (hd : decode B pc = .ok (.castore, 1)) (hp : pc + 1 = pc') (k : ∀ T' h', Stand p l e R s m args below meth c T' (locs ++ [⟨a, n⟩]) cells slots → T'.heap = h' → Wr h h' a n (.int (nar .char x)) → Gt p.tables e below F (T'.setTop (mkF m pc' L rest))) : Gt p.tables e below F (T.setTop (mkF m pc L (.int x :: .int i :: .ref a :: rest))) := by
  subst hp hn
  obtain ⟨cl, A, -, r, t⟩ := V
  obtain ⟨T', h', X', e', W, st⟩ := stC X hx hZ eT A (Ary.inb r hi hl) (g := mkF m pc L (.int x :: .int i :: .ref a :: rest)) rfl rfl (hb hby hd)
  exact (k T' h' X' e' W).go st
theorem own_bastore (X : Stand p l e R s m args below meth c T locs cells slots) (hx : p.tables.exec = Jvm.exec) (hby : c.code = B) (hZ : Z.Warmed39 s.vm) (eT : T.heap = h) (V : Ary P Z h a .byte vs) {i x : Int32} {n : Nat} (hi : ¬ i < 0) (hn : i.toNatClampNeg = n) (hl : n < vs.length) (hd : decode B pc = .ok (.bastore, 1)) (hp : pc + 1 = pc') (k : ∀ T' h', Stand p l e R s m args below meth c T' (locs ++ [⟨a, n⟩]) cells slots → T'.heap = h' → Wr h h' a n (.int (nar .byte x)) → Gt p.tables e below F (T'.setTop (mkF m pc' L rest))) : Gt p.tables e below F (T.setTop (mkF m pc L (.int x :: .int i :: .ref a :: rest))) := by
  subst hp hn
  obtain ⟨cl, A, -, r, t⟩ := V
  obtain ⟨T', h', X', e', W, st⟩ := stB X hx hZ eT A (Ary.inb r hi hl) (g := mkF m pc L (.int x :: .int i :: .ref a :: rest)) rfl rfl (hb hby hd)
  exact (k T' h' X' e' W).go st
theorem own_baload (X : Stand p l e R s m args below meth c T locs cells slots) (hx : p.tables.exec = Jvm.exec) (hby : c.code = B) (hZ : Z.Warmed39 s.vm) (eT : T.heap = h) (V : Ary P Z h a .byte vs) {i : Int32} (hi : ¬ i < 0) (hg : vs[i.toNatClampNeg]? = some v) (hd : decode B pc = .ok (.baload, 1)) (hp : pc + 1 = pc') (k : Gt p.tables e below F (T.setTop (mkF m pc' L (v :: rest)))) : Gt p.tables e below F (T.setTop (mkF m pc L (.int i :: .ref a :: rest))) := by
  subst hp
  obtain ⟨cl, A, -, r, t⟩ := V
  exact k.go fun t q => X.baloadBytes hx (by rw [eT]; exact A.1) (State.isArrayOf_alike hZ.alike A.2.1) A.2.2 (Ary.inb r hi (List.getElem?_eq_some_iff.mp hg).1) (Ary.at r hg) (g := mkF m pc L (.int i :: .ref a :: rest)) rfl rfl (hb hby hd) _ q
theorem own_ldcF (X : Stand p l e R s m args below meth c T locs cells slots) (hx : p.tables.exec = Jvm.exec) (hby : c.code = B) (hZ : Z.Warmed39 s.vm) {own : String} {i : Nat} {w : UInt32} (hown : s.vm.findClass own = some m.cls) (wd : (Jvm.Cond.constantFloat own i w).before a0 Z = true) (hd : decode B pc = .ok (.ldc i, 2)) (hp : pc + 2 = pc') (k : Gt p.tables e below F (T.setTop (mkF m pc' L (.float w :: rest)))) : Gt p.tables e below F (T.setTop (mkF m pc L rest)) := by
  subst hp; exact k.go (X.ldcFloatC hx hown (mvT hZ wd) (g := mkF m pc L rest) rfl (hb hby hd))
theorem own_lsw (X : Stand p l e R s m args below meth c T locs cells slots) (hx : p.tables.exec = Jvm.exec) (hby : c.code = B) {df : Int} {prs : Array (Int × Int)} {len : Nat} {x : Int32} {i off : Int} (hd : decode B pc = .ok (.lookupswitch df prs, len)) (h1 : (prs.toList.zip (prs.toList.drop 1)).all (fun (a, next) => a.1 < next.1) = true) (h2 : prs.find? (·.1 == x.toInt) = some (i, off)) (h3 : 0 ≤ (pc : Int) + off) (hp : ((pc : Int) + off).toNat = pc') (k : Gt p.tables e below F (T.setTop (mkF m pc' L rest))) : Gt p.tables e below F (T.setTop (mkF m pc L (.int x :: rest))) := by
  subst hp; exact k.go fun t q => X.lookupswitchHit hx (g := mkF m pc L (.int x :: rest)) rfl rfl (hb hby hd) h1 h2 h3 t q
theorem own_instY (X : Stand p l e R s m args below meth c T locs cells slots) (hx : p.tables.exec = Jvm.exec) (hby : c.code = B) (hZ : Z.Warmed39 s.vm) {own C : String} {index : Nat} (hown : s.vm.findClass own = some m.cls) (w : (Jvm.Cond.classLink own index C).before a0 Z = true) (eT : T.heap = h) (Ff : Ins Z h a C true) (hd : decode B pc = .ok (.instanceof index, 3)) (hp : pc + 3 = pc') (k : ∀ T', Stand p l e R s m args below meth c T' locs cells slots → T'.heap = h → Gt p.tables e below F (T'.setTop (mkF m pc' L (.int 1 :: rest)))) : Gt p.tables e below F (T.setTop (mkF m pc L (.ref a :: rest))) := by
  subst hp; obtain ⟨T', X', e', st⟩ := instY X hx hZ hown w eT Ff (g := mkF m pc L (.ref a :: rest)) rfl rfl (hb hby hd); exact (k T' X' e').go st
theorem own_castY (X : Stand p l e R s m args below meth c T locs cells slots) (hx : p.tables.exec = Jvm.exec) (hby : c.code = B) (hZ : Z.Warmed39 s.vm) {own C : String} {index : Nat} (hown : s.vm.findClass own = some m.cls) (w : (Jvm.Cond.classLink own index C).before a0 Z = true) (eT : T.heap = h) (Ff : Ins Z h a C true) (hd : decode B pc = .ok (.checkcast index, 3)) (hp : pc + 3 = pc') (k : ∀ T', Stand p l e R s m args below meth c T' locs cells slots → T'.heap = h → Gt p.tables e below F (T'.setTop (mkF m pc' L (.ref a :: rest)))) : Gt p.tables e below F (T.setTop (mkF m pc L (.ref a :: rest))) := by
  subst hp; obtain ⟨T', X', e', st⟩ := castY X hx hZ hown w eT Ff (g := mkF m pc L (.ref a :: rest)) rfl rfl (hb hby hd); exact (k T' X' e').go st
theorem own_face {r n d : String} (hy : r ≠ "java/lang/invoke/MethodHandle" ∧ r ≠ "java/lang/invoke/VarHandle") : ((Jvm.Cond.interfaceMethod r r n d).onTables && (Jvm.Cond.interfaceMethod r r n d).keepsFace) = true := by
  show (true && (false || ((r == r && r != "java/lang/invoke/MethodHandle") && r != "java/lang/invoke/VarHandle"))) = true
  simp [hy.1, hy.2]
theorem own_iface (X : Stand p l e R s m args below meth c T locs cells slots) (hx : p.tables.exec = Jvm.exec) (hby : c.code = B) (hZ : Z.Warmed39 s.vm) {own : String} {index : Nat} {y : MethodName} {bytes : ByteArray} {maxL : Nat} {ret : Option FieldType} {rm : Room} {as' : Array Value} {Q : Option Value → Heap → List Loc → Prop} {C : String} {y' : MethodName} (hown : s.vm.findClass own = some m.cls) (w1 : (Jvm.Cond.methodLink own index y').before a0 Z = true) (w2 : (Jvm.Cond.declares y').before a0 Z = true) (w7 : (Jvm.Cond.interfaceMethod y'.cls y'.cls y'.name y'.desc).before a0 Z = true) (w5 : (Jvm.Cond.selects C y' y).before a0 Z = true) (w6 : (Jvm.Cond.instanceMethod y).before a0 Z = true) (w8 : (Jvm.Cond.publicMethod y).before a0 Z = true) (w9 : (Jvm.Cond.unhidden C y'.name y'.desc).before a0 Z = true) (wc : (Jvm.Cond.castable C y'.cls).before a0 Z = true) (w3 : (Jvm.Cond.code y bytes maxL ret).before a0 Z = true) (w4 : (Jvm.Cond.initialized y.cls).before a0 Z = true) (hy : y'.cls ≠ "java/lang/invoke/MethodHandle" ∧ y'.cls ≠ "java/lang/invoke/VarHandle") (hM : MetFree l y (head1 [Jvm.Cond.code y bytes maxL ret] rm) (fun a U => a = as' ∧ Z.Warmed39 U.vm ∧ U.heap = h) (fun _ _ _ _ _ => True) (fun _ U o U' => ∃ v L, o = .returned v ∧ Q v U'.heap L ∧ FrameEnd U o U' L rm.cells rm.slots)) (eT : T.heap = h) (hsize : L.size = c.maxLocals) {a : Addr} (E : Exa Z h a C) {argsL : List Value} (has : as' = (.ref a :: argsL).toArray) (hlen : ∀ sig, parseMethodDescriptor y'.desc = some sig → argsL.length = sig.parameters.length) {ct : Nat} {st : List Value} (hst : st = argsL.reverse ++ .ref a :: rest) (hd : decode B pc = .ok (.invokeinterface index ct, 5)) (hp : pc + 5 = pc') (hf : rm.frames + 1 ≤ R.frames) {W : Nat} (hW : (rest.map fun v => v.category).sum ≤ W) (hl : W + (maxL + 11) + rm.locals ≤ R.locals) (hc : cells + rm.cells ≤ R.cells) (hs : slots + rm.slots ≤ R.slots) (k : ∀ T' h' L' v, Stand p l e R s m args below meth c T' (locs ++ L') (cells + rm.cells) (slots + rm.slots) → T'.heap = h' → Q v h' L' → Gt p.tables e below F (T'.setTop (mkF m pc' L (v.toList ++ rest)))) : Gt p.tables e below F (T.setTop (mkF m pc L st)) := by
  subst hp has hst
  obtain ⟨cq, kq, qa, qb, qc⟩ := isOf hZ eT E
  obtain ⟨v, vm1, ⟨T', L1, k1, n1⟩, -, X', ⟨Lc, hQ, l1, l2, l3⟩, st⟩ := X.interfaceBack hx (xi := y') (y := y) hown (mvT hZ w1) (mvT hZ w2) (mvT hZ w7 (own_face hy)) (mvT hZ w5) (mvT hZ w6) (mvT hZ w8) (mvT hZ w9) (mvT hZ wc) hy (backOf (W := W) hM hZ w3 w4 hf hl) qa qb qc (g := mkF m pc L (argsL.reverse ++ .ref a :: rest)) rfl hsize (Steps.refl _) (argsL := argsL) (rest := rest) hlen rfl (by show 2 * 0 + _ ≤ _; rw [Nat.mul_zero, Nat.zero_add]; exact hW) (hb hby hd) (fun _ _ => ⟨rfl, eT, hc, hs⟩)
  dsimp only [Pt.U, Pt.locs, Pt.cells, Pt.slots] at X' l1 l2 l3 st hQ
  subst l1 l2 l3
  exact (k T' _ Lc v X' rfl hQ).go fun t q => st.trans q
theorem own_retB (X : Stand p l e R s m args below meth c T locs cells slots) (hx : p.tables.exec = Jvm.exec) (hby : c.code = B) (hlocks : meth.locks = false) {Q : Option Value → Heap → List Loc → Prop} {kc ks : Nat} (hret : meth.sig.returnType = some .byte) {z : Int32} (hz : narrow .byte (.int z) = .int z) (hd : decode B pc = .ok (.ireturn, 1)) (hc : cells ≤ kc) (hs : slots ≤ ks) (eT : T.heap = h) (hq : Q (some (.int z)) h locs) : Gt p.tables e below (fun o U' => ∃ v Lc, o = .returned v ∧ Q v U'.heap Lc ∧ FrameEnd s o U' Lc kc ks) (T.setTop (mkF m pc L (.int z :: rest))) := by
  subst eT
  obtain ⟨fs, hr, hrun, hended, hW, hsame⟩ := X.leave (v := (some (.int z))) (fun h => by rw [hret] at h; cases h) hlocks
  exact ⟨_, _, retOut X hx hret hz (Or.inl ⟨rfl, Or.inr (Or.inr (Or.inl rfl)), z, rfl⟩) (hb hby hd) hr, hrun, hended, _, _, rfl, hq, ⟨_, rfl⟩, hW, hsame.mono hc hs⟩
theorem own_skn {C n d : String} {w : Value} {ws : List Addr} (Ff : Sta Z h C n d w) (K : Keep h h' ws) (q : ∀ x ∈ ws, ∃ D, Exa Z h x D) : Sta Z h' C n d w := by
  obtain ⟨cf, i, k, f, st, cell, h1, h2, h3, h4, h5, h6, h7⟩ := Ff
  refine ⟨cf, i, k, f, st, cell, h1, h2, h3, h4, K.2.1 st cell h5 (fun hm => ?_), h6, h7⟩
  obtain ⟨D, cell', k', e1, -, -, e4, -⟩ := q st hm
  cases h5.symm.trans e1
  rw [h6] at e4; cases e4
theorem own_sk0 : ∀ x ∈ ([] : List Addr), ∃ D, Exa Z h x D := fun _ q => nomatch q
theorem own_skS {x : Addr} {C : String} {ws : List Addr} (E : Exa Z h x C) (r : ∀ y ∈ ws, ∃ D, Exa Z h y D) : ∀ y ∈ x :: ws, ∃ D, Exa Z h y D := fun y q => by
  rcases List.mem_cons.mp q with rfl | q
  · exact ⟨C, E⟩
  · exact r y q
theorem own_ldcS (X : Stand p l e R s m args below meth c T locs cells slots) (hx : p.tables.exec = Jvm.exec) (hby : c.code = B) (hZ : Z.Warmed39 s.vm) {own text : String} {index : Nat} (hown : s.vm.findClass own = some m.cls) (w : (Jvm.Cond.stringLink own index text).before a0 Z = true) (wS : ∀ d ∈ Bundle.stringAtoms, d.before a0 Z = true) (eT : T.heap = h) (hd : decode B pc = .ok (.ldc index, 2)) (hp : pc + 2 = pc') {n : Nat} (hn : 4 * text.toList.length ≤ n) (hbig : n ≤ 536870912) (hc : cells + 2 ≤ R.cells) (hl : slots + (n + 4) ≤ R.slots)
    (k : ∀ (a : Addr) (T' : State) (h' : Heap) (k1 : Nat), Stand p l e R (s.setVm T'.vm) m args below meth c T' locs (cells + 2) (slots + (n + 4)) → T'.heap = h' → Ext h h' → s.Since T'.vm k1 → k1 ≤ h'.size → Z.Warmed39 (s.setVm T'.vm).vm → (s.setVm T'.vm).vm.findClass own = some m.cls → Gt p.tables e below F (T'.setTop (mkF m pc' L (.ref a :: rest)))) : Gt p.tables e below F (T.setTop (mkF m pc L rest)) := by
  subst hp
  have X0 : Stand p l e R (s.setVm s.vm) m args below meth c T locs cells slots := X
  obtain ⟨a, T', h', k1, X', e', E', S', q', Z', o', st⟩ := ldcS X0 hx hZ hown w wS eT ((State.WarmedH.refl s).since 0) (Nat.zero_le _) (g := mkF m pc L rest) rfl (hb hby hd) hn hbig hc hl
  exact (k a T' h' k1 X' e' E' S' q' Z' o').go st
theorem own_retZW {vm1 : Vm} {k1 : Nat} (X : Stand p l e R (s.setVm vm1) m args below meth c T locs cells slots) (hx : p.tables.exec = Jvm.exec) (hby : c.code = B) (hlocks : meth.locks = false) {Q : Option Value → Heap → List Loc → Prop} {kc ks : Nat} (hret : meth.sig.returnType = some .boolean) {z : Int32} (hz : z = 0 ∨ z = 1) (hd : decode B pc = .ok (.ireturn, 1)) (hc : cells ≤ kc) (hs : slots ≤ ks) (eT : T.heap = h) (hS : s.Since vm1 k1) (hk : k1 ≤ h.size) (hq : Q (some (.int z)) h locs) : Gt p.tables e below (fun o U' => ∃ v Lc, o = .returned v ∧ Q v U'.heap Lc ∧ ReturnedEndW s o U' Lc kc ks) (T.setTop (mkF m pc L (.int z :: rest))) := by
  subst eT
  obtain ⟨fs, hr, hrun, hended, hE⟩ := X.leaveW hS hk (v := (some (.int z))) (fun h => by rw [hret] at h; cases h) hlocks
  exact ⟨_, _, retOut X hx hret (by rcases hz with rfl | rfl <;> rfl) (Or.inl ⟨rfl, Or.inr (Or.inl rfl), z, rfl⟩) (hb hby hd) hr, hrun, hended, _, _, rfl, hq, hE.1, hE.2.1, hE.2.2.1, hE.2.2.2.mono hc hs⟩
theorem own_cloneI (X : Stand p l e R s m args below meth c T locs cells slots) (hx : p.tables.exec = Jvm.exec) (hby : c.code = B) (hZ : Z.Warmed39 s.vm) {own ad : String} {index : Nat} (hown : s.vm.findClass own = some m.cls)
    (w1 : (Jvm.Cond.methodLink own index ⟨ad, "clone", "()Ljava/lang/Object;"⟩).before a0 Z = true) (w2 : (Jvm.Cond.sameMethod ad "java/lang/Object" "clone" "()Ljava/lang/Object;").before a0 Z = true) (w3 : (Jvm.Cond.native ⟨"java/lang/Object", "clone", "()Ljava/lang/Object;"⟩).before a0 Z = true)
    (w4 : (Jvm.Cond.instanceMethod ⟨"java/lang/Object", "clone", "()Ljava/lang/Object;"⟩).before a0 Z = true) (w5 : (Jvm.Cond.selects ad ⟨ad, "clone", "()Ljava/lang/Object;"⟩ ⟨"java/lang/Object", "clone", "()Ljava/lang/Object;"⟩).before a0 Z = true) (w6 : (Jvm.Cond.castable ad "java/lang/Cloneable").before a0 Z = true)
    (eT : T.heap = h) (V : Ary tr Z h a .int vs) (E : Exa Z h a ad) {z : Int32} (hz : z.toNatClampNeg = vs.length) (hz0 : ¬ z < 0) (hfit : ∀ i, i < vs.length → fits .int (vs.getD i (.int 0)) = true) (hsize : L.size = c.maxLocals) (hd : decode B pc = .ok (.invokevirtual index, 3)) (hp : pc + 3 = pc')
    (hf : 1 ≤ R.frames) {W cap : Nat} (hW : (rest.map fun v => v.category).sum ≤ W) (hl : W + 14 ≤ R.locals) (hcap : vs.length ≤ cap) (hc : cells + 1 ≤ R.cells) (hsl : slots + cap ≤ R.slots)
    (k : ∀ T' h' b, Stand p l e R s m args below meth c T' locs (cells + 1) (slots + cap) → T'.heap = h' → Ext h h' → h.size = b → Exa Z h' b ad → Ary tr Z h' b .int vs → Gt p.tables e below F (T'.setTop (mkF m pc' L (.ref b :: rest)))) : Gt p.tables e below F (T.setTop (mkF m pc L (.ref a :: rest))) := by
  subst hp
  obtain ⟨cl, A, -, r, t⟩ := V
  have sz := Ary.size r
  have F0 : Arh Z h a cl.cls .int z [] vs (.int 0) := by
    refine ⟨cl, A, rfl, by rw [sz, hz], hz0, fun i hi => ?_, fun i hi => hfit i (sz ▸ hi)⟩
    refine Ary.at r ?_
    show vs[i]? = some (vs.getD i (.int 0))
    rw [List.getD_eq_getElem?_getD, List.getElem?_eq_getElem (sz ▸ hi)]; rfl
  obtain ⟨T', h', X', e', E', F1, Ex, st⟩ := cloneH X hx hZ hown w1 w2 w3 w4 w5 w6 eT F0 E (g := mkF m pc L (.ref a :: rest)) rfl hsize rfl (hb hby hd) hf (W := W) (cap := cap) (by show 2 * 0 + _ ≤ _; rw [Nat.mul_zero, Nat.zero_add]; exact hW) hl (by rw [hz]; exact hcap) hc hsl
  refine (k T' h' _ X' e' E' rfl Ex ?_).go st
  obtain ⟨c2, A2, -, s2, -, g2, -⟩ := F1
  rw [hz] at s2
  refine ⟨c2, A2, trivial, List.ext_getElem? fun i => ?_, t⟩
  by_cases hi : i < vs.length
  · rw [Array.getElem?_toList, g2 i (by rw [s2]; exact hi), List.getElem?_eq_getElem hi]
    show some (vs.getD i (.int 0)) = _
    rw [List.getD_eq_getElem?_getD, List.getElem?_eq_getElem hi]; rfl
  · rw [List.getElem?_eq_none (by rw [Array.length_toList, s2]; omega), List.getElem?_eq_none (by omega)]
theorem own_el0 {C : String} : ∀ v ∈ ([] : List Value), ∃ x, v = .ref x ∧ Exa Z h x C := fun _ q => nomatch q
theorem own_elS {x : Addr} {C : String} {us : List Value} (E : Exa Z h x C) (r : ∀ v ∈ us, ∃ x, v = .ref x ∧ Exa Z h x C) : ∀ v ∈ (.ref x :: us), ∃ x, v = .ref x ∧ Exa Z h x C := fun v q => by
  rcases List.mem_cons.mp q with rfl | q
  · exact ⟨x, rfl, E⟩
  · exact r v q
theorem own_stol {cl : Cell} {C : String} (A : Arr Z h b cl (.object C)) (O : Ovr Z cl.cls C) : ∀ us : List Value, (∀ v ∈ us, ∃ x, v = .ref x ∧ Exa Z h x C) → StoL Z h b us
  | [], _ => trivial
  | v :: r, q => by
    obtain ⟨x, e, E⟩ := q v (List.mem_cons_self ..)
    exact ⟨e ▸ Sto.of A O (Ins.self E), own_stol A O r fun w k => q w (List.mem_cons_of_mem _ k)⟩
theorem own_cpR (X : Stand p l e R s m args below meth c T locs cells slots) (hx : p.tables.exec = Jvm.exec) (hby : c.code = B) (hZ : Z.Warmed39 s.vm) {own : String} {index : Nat} (hown : s.vm.findClass own = some m.cls) (w1 : (Jvm.Cond.methodLink own index Jvm.Stand.acN).before a0 Z = true) (w2 : (Jvm.Cond.native Jvm.Stand.acN).before a0 Z = true) (w3 : (Jvm.Cond.static Jvm.Stand.acN).before a0 Z = true) (w4 : (Jvm.Cond.initialized "java/lang/System").before a0 Z = true) (eT : T.heap = h)
    {C : String} (V : Ary (ovO Z C) Z h b (.object C) vs) {z sp dp nn : Int32} {S D N : Nat} (hz : z.toNatClampNeg = vs.length) (hz0 : ¬ z < 0) (h1 : ¬ sp < 0) (h2 : ¬ dp < 0) (h3 : ¬ nn < 0) (hS : sp.toNatClampNeg = S) (hD : dp.toNatClampNeg = D) (hN : nn.toNatClampNeg = N) (h4 : S + N ≤ vs.length) (h5 : D + N ≤ vs.length)
    {us us' : List Value} (hus : us = (List.range N).map fun i => vs.getD (S + i) .null) (hfit : ∀ i, i < vs.length → fits (.object C) (vs.getD i .null) = true) (hel : ∀ v ∈ us, ∃ x, v = .ref x ∧ Exa Z h x C) (hr : vs.take D ++ us ++ vs.drop (D + N) = us') (hlen : us'.length = vs.length) {n0 : Nat} (Nf : Fr n0 locs) (ge : n0 ≤ b)
    (hsize : L.size = c.maxLocals) (hd : decode B pc = .ok (.invokestatic index, 3)) (hp : pc + 3 = pc') (hf : 1 ≤ R.frames) {W : Nat} (hW : (rest.map fun v => v.category).sum ≤ W) (hlo : W + (nativeFrameWords "java/lang/System" "arraycopy" 5 + 11) ≤ R.locals)
    (k : ∀ T' h' L', Stand p l e R s m args below meth c T' L' cells slots → T'.heap = h' → Fr n0 L' → Keep h h' [b] → Ary (ovO Z C) Z h' b (.object C) us' → Gt p.tables e below F (T'.setTop (mkF m pc' L rest))) : Gt p.tables e below F (T.setTop (mkF m pc L (.int nn :: .int dp :: .ref b :: .int sp :: .ref b :: rest))) := by
  subst hp hS hD hN
  obtain ⟨cl, A, O, r, t⟩ := V
  have sz := Ary.size r
  have F0 : Arv Z h b cl.cls (.object C) z vs .null := by
    refine ⟨cl, A, rfl, by rw [sz, hz], hz0, fun i hi => ?_, fun i hi => hfit i (sz ▸ hi)⟩
    refine Ary.at r ?_
    rw [List.getD_eq_getElem?_getD, List.getElem?_eq_getElem (sz ▸ hi)]; rfl
  obtain ⟨T', h', L', X', e', N', K', F1, st⟩ := cpA X hx hZ hown w1 w2 w3 w4 eT F0 F0 (Or.inr ⟨rfl, rfl, own_stol A O us hel⟩) h1 h2 h3 (by rw [hz]; exact h4) (by rw [hz]; exact h5) hus h5 Nf ge (g := mkF m pc L (.int nn :: .int dp :: .ref b :: .int sp :: .ref b :: rest)) rfl hsize (rest := rest) rfl (hb hby hd) hf (W := W) (by show 2 * 0 + _ ≤ _; rw [Nat.mul_zero, Nat.zero_add]; exact hW) hlo
  refine (k T' h' L' X' e' N' K' ?_).go st
  rw [hr] at F1
  obtain ⟨c2, A2, q2, s2, -, g2, -⟩ := F1
  rw [hz] at s2
  refine ⟨c2, A2, by rw [q2]; exact O, List.ext_getElem? fun i => ?_, by rw [hlen]; exact t⟩
  by_cases hi : i < vs.length
  · rw [Array.getElem?_toList, g2 i (by rw [s2]; exact hi), List.getD_eq_getElem?_getD, List.getElem?_eq_getElem (by rw [hlen]; exact hi)]; rfl
  · rw [List.getElem?_eq_none (by rw [Array.length_toList, s2]; omega), List.getElem?_eq_none (by omega)]
theorem own_weaken {tb : Tables} {g : JFrame} {x y : State} (h : Steps tb e (.java g :: below) x y) : Steps tb e below x y := by
  obtain ⟨n, hn, w⟩ := h
  refine ⟨n, hn, fun k hk => ?_⟩
  obtain ⟨ab, q1, q2, q3⟩ := w k hk
  refine ⟨ab ++ [.java g], by rw [q1, List.append_assoc]; rfl, by simp, fun z q => ?_⟩
  cases ab with
  | nil => exact q2 rfl
  | cons u r => simp at q
/-- what a body does, said of every place where it stands entered: no word on its class's state is asked -/
def Raw (l : Launch) (y : MethodName) (bytes : ByteArray) (maxL : Nat) (ret : Option FieldType) (rm : Room) (as' : Array Value) (Z : State) (h : Heap) (Q : Option Value → Heap → List Loc → Prop) : Prop :=
  ∀ (p : Program) (e : Env) (s : State) (m : MethodId) (below : List Frame) (meth : Method) (c : Code) (s₁ : State), p.tables.exec = Jvm.exec → Stand p l e rm s m as' below meth c s₁ [] 0 0 → c.code = bytes → c.maxLocals = maxL → s.vm.findClass y.cls = some m.cls → meth.locks = false → meth.sig.returnType = ret → Z.Warmed39 s.vm → s₁.heap = h →
    Gt p.tables e below (fun o U' => ∃ v L, o = .returned v ∧ Q v U'.heap L ∧ FrameEnd s o U' L rm.cells rm.slots) (s₁.setTop (entryFrame m as' maxL))
theorem own_backRaw {y : MethodName} {bytes : ByteArray} {maxL : Nat} {ret : Option FieldType} {rm : Room} {len W : Nat} {as' : Array Value} {Q : Option Value → Heap → List Loc → Prop} (hR : Raw l y bytes maxL ret rm as' Z h Q) (hx : p.tables.exec = Jvm.exec) (hpl : plainFor y = true)
    (hZ : Z.Warmed39 s.vm) (wc : (Jvm.Cond.code y bytes maxL ret).before a0 Z = true) (hf : rm.frames + 1 ≤ R.frames) (hl : W + (maxL + 11) + rm.locals ≤ R.locals) :
    Back l R p e below s args y len W (fun A a => a = as' ∧ A.U.heap = h ∧ A.cells + rm.cells ≤ R.cells ∧ A.slots + rm.slots ≤ R.slots) (fun A _ v B => ∃ L, Q v B.U.heap L ∧ B.locs = A.locs ++ L ∧ B.cells = A.cells + rm.cells ∧ B.slots = A.slots + rm.slots) := by
  intro m meth c A g ig mk a X hg hsize hdg hW hn hp
  obtain ⟨rfl, eH, hc, hs⟩ := hp
  have hU : Z.Warmed39 A.U.vm := wtrans hZ X.warmed
  obtain ⟨methY, cY, hmY, hcY, hbY, hlY, hrY, hkY, -⟩ := Cond.code_spec hn (mv (args := #[]) hU wc)
  obtain ⟨Y, hin⟩ := X.into hg hsize hdg a (R' := rm) hmY hcY hkY (State.plainMethod.of_named (s := A.U) hpl hn hmY) hf (by rw [hlY]; omega) hc hs
  obtain ⟨s₂, o, hst, hrun, hend, v, L, rfl, hq, hFE⟩ := hR p e (A.U.calling g mk a) mk (.java g :: below) methY cY _ hx Y hbY hlY (findClass_of_methodNamed hn) hkY hrY hU eH
  obtain ⟨-, hWe, hsame⟩ := hFE
  obtain ⟨T', X', hW', -, ht⟩ := X.outOf hg hdg hend hWe hsame
  refine ⟨v, ⟨T', A.locs ++ L, A.cells + rm.cells, A.slots + rm.slots⟩, X', ⟨L, ?_, rfl, rfl, rfl⟩, ?_⟩
  · have e1 : s₂.heap = T'.heap := by rw [ht]; rfl
    rw [e1] at hq; exact hq
  · rw [hin []]
    show Steps p.tables e below _ (T'.setTop { g with pc := g.pc + len, stack := v.toList ++ g.stack })
    rw [← ht]
    rw [← hlY] at hst
    exact own_weaken hst
theorem own_virtD (X : Stand p l e R s m args below meth c T locs cells slots) (hx : p.tables.exec = Jvm.exec) (hby : c.code = B) (hZ : Z.Warmed39 s.vm) {own : String} {index : Nat} {y : MethodName} {bytes : ByteArray} {maxL : Nat} {ret : Option FieldType} {rm : Room} {as' : Array Value} {Q : Option Value → Heap → List Loc → Prop} {C : String} {y' : MethodName} (hown : s.vm.findClass own = some m.cls) (w1 : (Jvm.Cond.methodLink own index y').before a0 Z = true) (w2 : (Jvm.Cond.sameMethod y'.cls y.cls y'.name y'.desc).before a0 Z = true) (w7 : (Jvm.Cond.declares ⟨y.cls, y'.name, y'.desc⟩).before a0 Z = true) (w5 : (Jvm.Cond.landsInDefault C y' y).before a0 Z = true) (w6 : (Jvm.Cond.instanceMethod y).before a0 Z = true) (w3 : (Jvm.Cond.code y bytes maxL ret).before a0 Z = true) (hpl : plainFor y = true) (hy : y.cls ≠ "java/lang/invoke/MethodHandle" ∧ y.cls ≠ "java/lang/invoke/VarHandle") (hM : Raw l y bytes maxL ret rm as' Z h Q) (eT : T.heap = h) (hsize : L.size = c.maxLocals) {a : Addr} (E : Exa Z h a C) {argsL : List Value} (has : as' = (.ref a :: argsL).toArray) (hlen : ∀ sig, parseMethodDescriptor y'.desc = some sig → argsL.length = sig.parameters.length) {st : List Value} (hst : st = argsL.reverse ++ .ref a :: rest) (hd : decode B pc = .ok (.invokevirtual index, 3)) (hp : pc + 3 = pc') (hf : rm.frames + 1 ≤ R.frames) {W : Nat} (hW : (rest.map fun v => v.category).sum ≤ W) (hl : W + (maxL + 11) + rm.locals ≤ R.locals) (hc : cells + rm.cells ≤ R.cells) (hs : slots + rm.slots ≤ R.slots) (k : ∀ T' h' L' v, Stand p l e R s m args below meth c T' (locs ++ L') (cells + rm.cells) (slots + rm.slots) → T'.heap = h' → Q v h' L' → Gt p.tables e below F (T'.setTop (mkF m pc' L (v.toList ++ rest)))) : Gt p.tables e below F (T.setTop (mkF m pc L st)) := by
  subst hp has hst
  obtain ⟨cq, kq, qa, qb, qc⟩ := isOf hZ eT E
  obtain ⟨v, vm1, ⟨T', L1, k1, n1⟩, -, X', ⟨Lc, hQ, l1, l2, l3⟩, st⟩ := X.virtualBackUpD hx (x := y') (y := y) (owner := y.cls) hown (mvT hZ w1) (mvT hZ w2) (mvT hZ w7) hy (mvD hZ w5) (mvT hZ w6) (own_backRaw (W := W) hM hx hpl hZ w3 hf hl) qa qc (g := mkF m pc L (argsL.reverse ++ .ref a :: rest)) rfl hsize (Steps.refl _) (argsL := argsL) (rest := rest) hlen rfl (by show 2 * 0 + _ ≤ _; rw [Nat.mul_zero, Nat.zero_add]; exact hW) (hb hby hd) (fun _ _ => ⟨rfl, eT, hc, hs⟩)
  dsimp only [Pt.U, Pt.locs, Pt.cells, Pt.slots] at X' l1 l2 l3 st hQ
  subst l1 l2 l3
  exact (k T' _ Lc v X' rfl hQ).go fun t q => st.trans q
end OwnM
section OwnF
open Jvm.FP.Core (val64 zval zmag b64 one64 DFin DZero good_b64 val64_fits inUnits signed sgn)
/-- the value in units of 2^-1074 -/
abbrev zv (x : UInt64) : Int := zval b64 (val64 x)
def uu : Int := ((one64 : Nat) : Int)
theorem uu_pos : 0 < uu := by have := FP.Core.one64_pos; show (0 : Int) < ((one64 : Nat) : Int); omega
theorem own_add_le {x y V : UInt64} (hx : DFin x) (hy : DFin y) (hV : val64 V ≠ .nan) (h : zv x + zv y ≤ zv V) : zv (FP.dadd x y) ≤ zv V := by
  show zval b64 (val64 (FP.Core.dadd x y)) ≤ _
  rw [FP.Core.val64_dadd]; exact FP.Core.sum_le good_b64 hx hy (val64_fits x) (val64_fits y) (val64_fits V) hV h
theorem own_add_ge {x y V : UInt64} (hx : DFin x) (hy : DFin y) (hV : val64 V ≠ .nan) (h : zv V ≤ zv x + zv y) : zv V ≤ zv (FP.dadd x y) := by
  show _ ≤ zval b64 (val64 (FP.Core.dadd x y))
  rw [FP.Core.val64_dadd]; exact FP.Core.sum_ge good_b64 hx hy (val64_fits x) (val64_fits y) (val64_fits V) hV h
theorem own_neg_fin {y : UInt64} (hy : DFin y) : ∃ s c q, FP.Core.negate (val64 y) = .fin s c q := by
  obtain ⟨s, c, q, h⟩ := hy; exact ⟨!s, c, q, by rw [h]; rfl⟩
theorem own_sub_le {x y V : UInt64} (hx : DFin x) (hy : DFin y) (hV : val64 V ≠ .nan) (h : zv x - zv y ≤ zv V) : zv (FP.dsub x y) ≤ zv V := by
  show zval b64 (val64 (FP.Core.dsub x y)) ≤ _
  rw [FP.Core.val64_dsub]; exact FP.Core.sum_le good_b64 hx (own_neg_fin hy) (val64_fits x) (FP.Core.negate_fits (val64_fits y)) (val64_fits V) hV (by rw [FP.Core.zval_negate]; unfold zv at h; omega)
theorem own_sub_ge {x y V : UInt64} (hx : DFin x) (hy : DFin y) (hV : val64 V ≠ .nan) (h : zv V ≤ zv x - zv y) : zv V ≤ zv (FP.dsub x y) := by
  show _ ≤ zval b64 (val64 (FP.Core.dsub x y))
  rw [FP.Core.val64_dsub]; exact FP.Core.sum_ge good_b64 hx (own_neg_fin hy) (val64_fits x) (FP.Core.negate_fits (val64_fits y)) (val64_fits V) hV (by rw [FP.Core.zval_negate]; unfold zv at h; omega)
theorem own_signed_mul (s t : Bool) (m n : Nat) : signed (s != t) (m * n) = signed s m * signed t n := by
  cases s <;> cases t <;> simp [signed, Int.neg_mul, Int.mul_neg]
theorem own_qm : b64.qmin = -1074 := by decide
theorem own_pow_e0 : ((2 ^ (b64.qmin - 2 * b64.qmin).toNat : Nat) : Int) = uu := by
  show _ = ((one64 : Nat) : Int); rw [← FP.Core.pow_qmin64]; congr 3
theorem own_mul_le {x y V : UInt64} (hx : DFin x) (hy : DFin y) (hV : val64 V ≠ .nan) (h : zv x * zv y ≤ zv V * uu) : zv (FP.dmul x y) ≤ zv V := by
  show zval b64 (val64 (FP.Core.dmul x y)) ≤ _
  obtain ⟨s, c, q, ex⟩ := hx
  obtain ⟨t, d, r, ey⟩ := hy
  have fx := val64_fits x; have fy := val64_fits y
  rw [ex] at fx; rw [ey] at fy
  unfold zv at h
  rw [ex, ey] at h
  rw [FP.Core.val64_dmul, ex, ey]
  obtain ⟨e1, e2, e3⟩ := FP.Core.product_units fx fy
  rw [e1]
  refine FP.Core.zval_round_le good_b64 (val64_fits V) hV (e0 := 2 * b64.qmin) (by rw [own_qm]; decide) e2 ?_
  rw [e3, own_pow_e0, own_signed_mul]; exact h
theorem own_mul_ge {x y V : UInt64} (hx : DFin x) (hy : DFin y) (hV : val64 V ≠ .nan) (h : zv V * uu ≤ zv x * zv y) : zv V ≤ zv (FP.dmul x y) := by
  show _ ≤ zval b64 (val64 (FP.Core.dmul x y))
  obtain ⟨s, c, q, ex⟩ := hx
  obtain ⟨t, d, r, ey⟩ := hy
  have fx := val64_fits x; have fy := val64_fits y
  rw [ex] at fx; rw [ey] at fy
  unfold zv at h
  rw [ex, ey] at h
  rw [FP.Core.val64_dmul, ex, ey]
  obtain ⟨e1, e2, e3⟩ := FP.Core.product_units fx fy
  rw [e1]
  refine FP.Core.zval_round_ge good_b64 (val64_fits V) hV (e0 := 2 * b64.qmin) (by rw [own_qm]; decide) e2 ?_
  rw [e3, own_pow_e0, own_signed_mul]; exact h
/-- a quotient's two sides in whole units -/
theorem own_div_units {c d : Nat} {q r : Int} (hq : -1074 ≤ q) (hr : -1074 ≤ r) (hr2 : r ≤ 971) (v : Nat) :
    ∃ k : Nat, 0 < k ∧ inUnits c (q - r) (-2148) * k = inUnits c q (-1074) * one64 * 2 ^ 1074 ∧ (v * 2 ^ (1074 : Nat) * d) * k = v * inUnits d r (-1074) * 2 ^ 1074 := by
  refine ⟨2 ^ (r + 1074).toNat, Nat.two_pow_pos _, ?_, ?_⟩
  · unfold inUnits one64
    rw [Nat.mul_assoc, ← Nat.pow_add, Nat.mul_assoc, Nat.mul_assoc, ← Nat.pow_add, ← Nat.pow_add, show (q - r - -2148).toNat + (r + 1074).toNat = (q - -1074).toNat + (1074 + 1074) by omega]
  · unfold inUnits
    rw [show (r - -1074).toNat = (r + 1074).toNat by omega]
    generalize 2 ^ (1074 : Nat) = w
    generalize 2 ^ (r + 1074).toNat = u
    simp only [Nat.mul_comm, Nat.mul_left_comm, Nat.mul_assoc]
theorem own_div_mag_le {x y V : UInt64} (hx : DFin x) (hy : DFin y) (hz : ¬ DZero y) (hV : val64 V ≠ .nan) (h : zmag b64 (val64 x) * one64 ≤ zmag b64 (val64 V) * zmag b64 (val64 y)) : zmag b64 (val64 (FP.ddiv x y)) ≤ zmag b64 (val64 V) := by
  show zmag b64 (val64 (FP.Core.ddiv x y)) ≤ _
  obtain ⟨s, c, q, ex⟩ := hx
  obtain ⟨t, d, r, ey⟩ := hy
  have fx := val64_fits x; have fy := val64_fits y
  rw [ex] at fx; rw [ey] at fy
  have hd : d ≠ 0 := fun e => hz ⟨t, r, by rw [ey, e]⟩
  rw [FP.Core.val64_ddiv, ex, ey]
  rw [ex, ey] at h
  show zmag b64 (if d = 0 then _ else FP.Core.roundRatio b64 (s != t) c d (q - r)) ≤ _
  rw [if_neg hd]
  have b1 : -1074 ≤ q := own_qm ▸ fx.2.1
  have b2 : -1074 ≤ r := own_qm ▸ fy.2.1
  have b3 : r ≤ 971 := fy.2.2.1
  refine FP.Core.zmag_roundRatio_le good_b64 (Nat.pos_of_ne_zero hd) (val64_fits V) hV (e0 := -2148) (by rw [own_qm]; decide) (by omega) ?_
  obtain ⟨k, hk, k1, k2⟩ := own_div_units (c := c) (d := d) b1 b2 b3 (zmag b64 (val64 V))
  rw [show (b64.qmin - -2148).toNat = 1074 by rw [own_qm]; decide]
  refine Nat.le_of_mul_le_mul_right ?_ hk
  rw [k1, k2]
  exact Nat.mul_le_mul_right _ (by have := h; simp only [zmag, own_qm] at this; exact this)
theorem own_div_mag_ge {x y V : UInt64} (hx : DFin x) (hy : DFin y) (hz : ¬ DZero y) (h : zmag b64 (val64 V) * zmag b64 (val64 y) ≤ zmag b64 (val64 x) * one64) : zmag b64 (val64 V) ≤ zmag b64 (val64 (FP.ddiv x y)) := by
  show _ ≤ zmag b64 (val64 (FP.Core.ddiv x y))
  obtain ⟨s, c, q, ex⟩ := hx
  obtain ⟨t, d, r, ey⟩ := hy
  have fx := val64_fits x; have fy := val64_fits y
  rw [ex] at fx; rw [ey] at fy
  have hd : d ≠ 0 := fun e => hz ⟨t, r, by rw [ey, e]⟩
  rw [FP.Core.val64_ddiv, ex, ey]
  rw [ex, ey] at h
  show _ ≤ zmag b64 (if d = 0 then _ else FP.Core.roundRatio b64 (s != t) c d (q - r))
  rw [if_neg hd]
  have b1 : -1074 ≤ q := own_qm ▸ fx.2.1
  have b2 : -1074 ≤ r := own_qm ▸ fy.2.1
  have b3 : r ≤ 971 := fy.2.2.1
  refine FP.Core.zmag_roundRatio_ge good_b64 (Nat.pos_of_ne_zero hd) (val64_fits V) (e0 := -2148) (by rw [own_qm]; decide) (by omega) ?_
  obtain ⟨k, hk, k1, k2⟩ := own_div_units (c := c) (d := d) b1 b2 b3 (zmag b64 (val64 V))
  rw [show (b64.qmin - -2148).toNat = 1074 by rw [own_qm]; decide]
  refine Nat.le_of_mul_le_mul_right ?_ hk
  rw [k1, k2]
  exact Nat.mul_le_mul_right _ (by have := h; simp only [zmag, own_qm] at this; exact this)
theorem own_sgn_div {x y : UInt64} (hx : DFin x) (hy : DFin y) (hz : ¬ DZero y) : sgn (val64 (FP.ddiv x y)) = (sgn (val64 x) != sgn (val64 y)) := by
  show sgn (val64 (FP.Core.ddiv x y)) = _
  obtain ⟨s, c, q, ex⟩ := hx
  obtain ⟨t, d, r, ey⟩ := hy
  have hd : d ≠ 0 := fun e => hz ⟨t, r, by rw [ey, e]⟩
  rw [FP.Core.val64_ddiv, ex, ey]
  show sgn (if d = 0 then _ else FP.Core.roundRatio b64 (s != t) c d (q - r)) = _
  rw [if_neg hd, FP.Core.sgn_roundRatio]; rfl
theorem own_notz {y : UInt64} (hy : DFin y) (h : 0 < zv y) : ¬ DZero y := fun q => by have := q.zval; unfold zv at h; omega
theorem own_possg {y : UInt64} (h : 0 < zv y) : sgn (val64 y) = false ∧ ((zmag b64 (val64 y) : Nat) : Int) = zv y := by
  unfold zv zval at *
  cases e : sgn (val64 y) <;> rw [e] at h <;> simp only [signed, if_true, Bool.false_eq_true, if_false] at h ⊢
  · exact ⟨trivial, trivial⟩
  · omega
theorem own_div_le {x y V : UInt64} (hx : DFin x) (hy : DFin y) (h0 : 0 < zv y) (hV : val64 V ≠ .nan) (h : zv x * uu ≤ zv V * zv y) : zv (FP.ddiv x y) ≤ zv V := by
  have hz := own_notz hy h0
  obtain ⟨s1, s2⟩ := own_possg h0
  have sd := own_sgn_div hx hy hz
  have L := own_div_mag_le (V := V) hx hy hz hV
  have G := own_div_mag_ge (V := V) hx hy hz
  rw [← s2] at h
  have hy0 : 0 < zmag b64 (val64 y) := by omega
  unfold zv zval at h ⊢
  rw [sd, s1]
  have u0 := FP.Core.one64_pos
  have e : uu = ((one64 : Nat) : Int) := rfl
  rw [e] at h
  generalize zmag b64 (val64 y) = my at *
  generalize zmag b64 (val64 x) = mx at *
  generalize zmag b64 (val64 V) = mv at *
  generalize zmag b64 (val64 (FP.ddiv x y)) = md at *
  generalize one64 = u at *
  have p1 : ((mx : Nat) : Int) * ((u : Nat) : Int) = ((mx * u : Nat) : Int) := (Int.natCast_mul ..).symm
  have p2 : ((mv : Nat) : Int) * ((my : Nat) : Int) = ((mv * my : Nat) : Int) := (Int.natCast_mul ..).symm
  have z1 : mv * my = 0 → mv = 0 := fun q => by rcases Nat.mul_eq_zero.mp q with q | q <;> omega
  generalize sgn (val64 x) = sx at h ⊢
  generalize sgn (val64 V) = sV at h ⊢
  cases sx <;> cases sV <;> simp only [signed, if_true, Bool.false_eq_true, if_false, Int.neg_mul, p1, p2, bne_self_eq_false, Bool.bne_false] at h ⊢
  · have := L (by omega); omega
  · have := L (by omega); have := z1 (by omega); omega
  · omega
  · have := G (by omega); omega
theorem own_div_ge {x y V : UInt64} (hx : DFin x) (hy : DFin y) (h0 : 0 < zv y) (hV : val64 V ≠ .nan) (h : zv V * zv y ≤ zv x * uu) : zv V ≤ zv (FP.ddiv x y) := by
  have hz := own_notz hy h0
  obtain ⟨s1, s2⟩ := own_possg h0
  have sd := own_sgn_div hx hy hz
  have L := own_div_mag_le (V := V) hx hy hz hV
  have G := own_div_mag_ge (V := V) hx hy hz
  rw [← s2] at h
  have hy0 : 0 < zmag b64 (val64 y) := by omega
  unfold zv zval at h ⊢
  rw [sd, s1]
  have u0 := FP.Core.one64_pos
  have e : uu = ((one64 : Nat) : Int) := rfl
  rw [e] at h
  generalize zmag b64 (val64 y) = my at *
  generalize zmag b64 (val64 x) = mx at *
  generalize zmag b64 (val64 V) = mv at *
  generalize zmag b64 (val64 (FP.ddiv x y)) = md at *
  generalize one64 = u at *
  have p1 : ((mx : Nat) : Int) * ((u : Nat) : Int) = ((mx * u : Nat) : Int) := (Int.natCast_mul ..).symm
  have p2 : ((mv : Nat) : Int) * ((my : Nat) : Int) = ((mv * my : Nat) : Int) := (Int.natCast_mul ..).symm
  have z1 : mv * my = 0 → mv = 0 := fun q => by rcases Nat.mul_eq_zero.mp q with q | q <;> omega
  generalize sgn (val64 x) = sx at h ⊢
  generalize sgn (val64 V) = sV at h ⊢
  cases sx <;> cases sV <;> simp only [signed, if_true, Bool.false_eq_true, if_false, Int.neg_mul, p1, p2, bne_self_eq_false, Bool.bne_false] at h ⊢
  · have := G (by omega); omega
  · omega
  · have := L (by omega); have := z1 (by omega); omega
  · have := L (by omega); omega
theorem own_bits_of_zv {x : UInt64} (hn : val64 x ≠ .nan) {V : UInt64} (hV : DFin V) (h : zv x = zv V) : DFin x := by
  have q := hV.zval_lt
  cases e : val64 x with
  | nan => exact absurd e hn
  | fin s c r => exact ⟨s, c, r, e⟩
  | inf s =>
    exfalso
    have a1 : (zv x).natAbs = zmag b64 (val64 x) := by unfold zv zval; cases sgn (val64 x) <;> simp [signed]
    have a2 : (zv V).natAbs = zmag b64 (val64 V) := by unfold zv zval; cases sgn (val64 V) <;> simp [signed]
    rw [h, a2, e] at a1
    rw [a1] at q
    exact Nat.lt_irrefl _ q
/-- every n / 2^k of at most 53 digits is a double -/
theorem own_rep (n : Int) (k : Nat) (h1 : n.natAbs < 9007199254740992) (hk : k ≤ 1074) : ∃ V : UInt64, DFin V ∧ zv V * ((2 ^ k : Nat) : Int) = n * uu := by
  obtain ⟨c', q', e1, e2⟩ := FP.Core.round_exact good_b64 (decide (n < 0)) (c := n.natAbs) (q := -(k : Int)) (by exact h1) (by rw [own_qm]; omega) (by have h971 : b64.qmax = 971 := (by decide); omega)
  have f := FP.Core.round_fits good_b64 (.fin (decide (n < 0)) n.natAbs (-(k : Int)))
  refine ⟨FP.Core.of64 (FP.Core.round b64 (.fin (decide (n < 0)) n.natAbs (-(k : Int)))), ⟨decide (n < 0), c', q', by rw [FP.Core.val64_of64 f, e1]⟩, ?_⟩
  unfold zv
  rw [FP.Core.val64_of64 f, e1]
  show signed (decide (n < 0)) (inUnits c' q' b64.qmin) * _ = _
  rw [e2]
  unfold inUnits
  rw [FP.Core.signed_mul, Int.mul_assoc, ← Int.natCast_mul, ← Nat.pow_add, show (-(k : Int) - b64.qmin).toNat + k = 1074 by rw [own_qm]; omega]
  have s0 : signed (decide (n < 0)) n.natAbs = n := by
    unfold signed
    by_cases q : n < 0 <;> simp [q] <;> omega
  rw [s0]; rfl
/-- x is the number n / 2^k -/
def Dy (x : UInt64) (n : Int) (k : Nat) : Prop := DFin x ∧ zv x * ((2 ^ k : Nat) : Int) = n * uu
theorem Dy.fin {x : UInt64} {n : Int} {k : Nat} (D : Dy x n k) : DFin x := D.1
theorem Dy.nn {x : UInt64} {n : Int} {k : Nat} (D : Dy x n k) : NoNaN64 x := Fl.val64_no.mpr D.1.ne_nan
theorem own_pk (k : Nat) : 0 < ((2 ^ k : Nat) : Int) := by have := Nat.two_pow_pos k; omega
theorem own_mid {a b c d : Int} {k : Nat} (h1 : a * ((2 ^ k : Nat) : Int) = c) (h2 : b * ((2 ^ k : Nat) : Int) = d) : (a ≤ b ↔ c ≤ d) ∧ (a < b ↔ c < d) ∧ (a = b ↔ c = d) := by
  have p := own_pk k
  subst h1 h2
  generalize ((2 ^ k : Nat) : Int) = w at *
  exact ⟨(Int.mul_le_mul_right p).symm, (Int.mul_lt_mul_right p).symm, ⟨fun q => by rw [q], fun q => Int.eq_of_mul_eq_mul_right (by omega) q⟩⟩
theorem Dy.cmp {x y : UInt64} {n m : Int} {k : Nat} (A : Dy x n k) (B : Dy y m k) : FP.dcmp x y = some (compare n m) := by
  show FP.Core.dcmp x y = _
  rw [FP.Core.dcmp_zval A.1.ne_nan B.1.ne_nan]
  congr 1
  obtain ⟨-, q2, q3⟩ := own_mid A.2 B.2
  have u := uu_pos
  refine FP.Core.compare_congr (q2.trans ⟨fun q => ?_, fun q => Int.mul_lt_mul_of_pos_right q u⟩) (q3.trans ⟨fun q => Int.eq_of_mul_eq_mul_right (by omega) q, fun q => by rw [q]⟩)
  exact Int.lt_of_mul_lt_mul_right q (Int.le_of_lt u)
theorem Dy.lt {x y : UInt64} {n m : Int} {k : Nat} (A : Dy x n k) (B : Dy y m k) : FP.dcmp x y = some .lt ↔ n < m := by
  rw [A.cmp B, Option.some.injEq, FP.Core.compare_lt_iff]
theorem Dy.gt {x y : UInt64} {n m : Int} {k : Nat} (A : Dy x n k) (B : Dy y m k) : FP.dcmp x y = some .gt ↔ m < n := by
  rw [A.cmp B, Option.some.injEq, FP.Core.compare_gt_iff]
theorem Dy.eq {x y : UInt64} {n m : Int} {k : Nat} (A : Dy x n k) (B : Dy y m k) : FP.dcmp x y = some .eq ↔ n = m := by
  rw [A.cmp B, Option.some.injEq, FP.Core.compare_eq_iff]
theorem Dy.of_zv {x V : UInt64} {n : Int} {k : Nat} (hn : val64 x ≠ .nan) (hV : DFin V) (e : zv V * ((2 ^ k : Nat) : Int) = n * uu) (h1 : zv x ≤ zv V) (h2 : zv V ≤ zv x) : Dy x n k := by
  have q : zv x = zv V := by omega
  exact ⟨own_bits_of_zv hn hV q, by rw [q]; exact e⟩
theorem own_nn_add {x y : UInt64} (hx : DFin x) (hy : DFin y) : val64 (FP.dadd x y) ≠ .nan := Fl.val64_no.mp (Fl.noNaN64_no.mpr (FP.Core.dadd_out hx.notNaN hy))
theorem own_nn_sub {x y : UInt64} (hx : DFin x) (hy : DFin y) : val64 (FP.dsub x y) ≠ .nan := Fl.val64_no.mp (Fl.noNaN64_no.mpr (FP.Core.dsub_out hx.notNaN hy))
theorem own_nn_mul {x y : UInt64} (hx : DFin x) (hy : DFin y) : val64 (FP.dmul x y) ≠ .nan := Fl.val64_no.mp (Fl.noNaN64_no.mpr (FP.Core.dmul_out hx hy))
theorem own_nn_div {x y : UInt64} (hx : DFin x) (hy : DFin y) (hz : ¬ DZero y) : val64 (FP.ddiv x y) ≠ .nan := Fl.val64_no.mp (Fl.noNaN64_no.mpr (FP.Core.ddiv_out hx.notNaN hy hz))
theorem Dy.add {x y : UInt64} {n m : Int} {k : Nat} (A : Dy x n k) (B : Dy y m k) (hb : (n + m).natAbs < 9007199254740992) (hk : k ≤ 1074) : Dy (FP.dadd x y) (n + m) k := by
  obtain ⟨V, fV, eV⟩ := own_rep (n + m) k hb hk
  have e : (zv x + zv y) * ((2 ^ k : Nat) : Int) = (n + m) * uu := by rw [Int.add_mul, A.2, B.2, Int.add_mul]
  obtain ⟨-, -, q⟩ := own_mid e eV
  have q := q.mpr rfl
  exact Dy.of_zv (own_nn_add A.1 B.1) fV eV (own_add_le A.1 B.1 fV.ne_nan (by omega)) (own_add_ge A.1 B.1 fV.ne_nan (by omega))
theorem Dy.sub {x y : UInt64} {n m : Int} {k : Nat} (A : Dy x n k) (B : Dy y m k) (hb : (n - m).natAbs < 9007199254740992) (hk : k ≤ 1074) : Dy (FP.dsub x y) (n - m) k := by
  obtain ⟨V, fV, eV⟩ := own_rep (n - m) k hb hk
  have e : (zv x - zv y) * ((2 ^ k : Nat) : Int) = (n - m) * uu := by rw [Int.sub_mul, A.2, B.2, Int.sub_mul]
  obtain ⟨-, -, q⟩ := own_mid e eV
  have q := q.mpr rfl
  exact Dy.of_zv (own_nn_sub A.1 B.1) fV eV (own_sub_le A.1 B.1 fV.ne_nan (by omega)) (own_sub_ge A.1 B.1 fV.ne_nan (by omega))
theorem own_alg1 {X Y K J n m u : Int} (a : X * K = n * u) (b : Y * J = m * u) : X * Y * (K * J) = n * m * u * u := by
  calc X * Y * (K * J) = (X * K) * (Y * J) := by ac_rfl
    _ = (n * u) * (m * u) := by rw [a, b]
    _ = n * m * u * u := by ac_rfl
theorem own_alg2 {V K N u : Int} (e : V * K = N * u) : V * u * K = N * u * u := by
  calc V * u * K = V * K * u := by ac_rfl
    _ = N * u * u := by rw [e]
theorem own_alg3 {X Y V K J I n m r u : Int} (a : X * K = n * u) (b : Y * J = m * u) (e : V * I = r * u) : X * u * (K * (J * I)) = n * (J * I) * (u * u) ∧ V * Y * (K * (J * I)) = r * m * K * (u * u) := by
  constructor
  · calc X * u * (K * (J * I)) = (X * K) * u * (J * I) := by ac_rfl
      _ = n * u * u * (J * I) := by rw [a]
      _ = n * (J * I) * (u * u) := by ac_rfl
  · calc V * Y * (K * (J * I)) = (V * I) * (Y * J) * K := by ac_rfl
      _ = (r * u) * (m * u) * K := by rw [e, b]
      _ = r * m * K * (u * u) := by ac_rfl
theorem Dy.mul {x y : UInt64} {n m : Int} {k j : Nat} (A : Dy x n k) (B : Dy y m j) (hb : (n * m).natAbs < 9007199254740992) (hk : k + j ≤ 1074) : Dy (FP.dmul x y) (n * m) (k + j) := by
  obtain ⟨V, fV, eV⟩ := own_rep (n * m) (k + j) hb hk
  have e : (zv x * zv y) * ((2 ^ (k + j) : Nat) : Int) = (n * m) * uu * uu := by
    rw [Nat.pow_add, Int.natCast_mul]; exact own_alg1 A.2 B.2
  have e' : (zv V * uu) * ((2 ^ (k + j) : Nat) : Int) = (n * m) * uu * uu := own_alg2 eV
  obtain ⟨-, -, q⟩ := own_mid e e'
  have q := q.mpr rfl
  exact Dy.of_zv (own_nn_mul A.1 B.1) fV eV (own_mul_le A.1 B.1 fV.ne_nan (by omega)) (own_mul_ge A.1 B.1 fV.ne_nan (by omega))
theorem Dy.pos {y : UInt64} {m : Int} {j : Nat} (B : Dy y m j) (hm : 0 < m) : 0 < zv y := by
  have p := own_pk j
  have b := B.2
  have : 0 < m * uu := Int.mul_pos hm uu_pos
  rw [← b] at this
  exact Int.lt_of_mul_lt_mul_right (by rw [Int.zero_mul]; exact this) (Int.le_of_lt p)
/-- an exact quotient -/
theorem Dy.div {x y : UInt64} {n m r : Int} {k j i : Nat} (A : Dy x n k) (B : Dy y m j) (hm : 0 < m) (hq : n * ((2 ^ (j + i) : Nat) : Int) = r * m * ((2 ^ k : Nat) : Int)) (hb : r.natAbs < 9007199254740992) (hi : i ≤ 1074) : Dy (FP.ddiv x y) r i := by
  obtain ⟨V, fV, eV⟩ := own_rep r i hb hi
  have h0 := B.pos hm
  have e : zv x * uu = zv V * zv y := by
    have pk := own_pk k; have pj := own_pk j; have pi := own_pk i
    rw [Nat.pow_add, Int.natCast_mul] at hq
    obtain ⟨a1, a2⟩ := own_alg3 A.2 B.2 eV
    refine Int.eq_of_mul_eq_mul_right (a := ((2 ^ k : Nat) : Int) * (((2 ^ j : Nat) : Int) * ((2 ^ i : Nat) : Int))) (Int.ne_of_gt (Int.mul_pos pk (Int.mul_pos pj pi))) ?_
    rw [a1, a2, hq]
  exact Dy.of_zv (own_nn_div A.1 B.1 (own_notz B.1 h0)) fV eV (own_div_le A.1 B.1 h0 fV.ne_nan (by omega)) (own_div_ge A.1 B.1 h0 fV.ne_nan (by omega))
theorem Dy.up {x : UInt64} {n : Int} {k : Nat} (A : Dy x n k) (j : Nat) : Dy x (n * ((2 ^ j : Nat) : Int)) (k + j) := by
  refine ⟨A.1, ?_⟩
  rw [Nat.pow_add, Int.natCast_mul, ← Int.mul_assoc, A.2]; exact Int.mul_right_comm _ _ _
theorem Dy.to {x : UInt64} {n n' : Int} {k : Nat} (A : Dy x n k) (e : n = n') : Dy x n' k := e ▸ A
theorem own_dy_int {x : UInt64} {i : Int} (h : FP.Core.DInt i x) : Dy x i 0 := by
  have z := FP.Core.DInt_zval h
  have n := FP.Core.DInt_ne_nan h
  refine ⟨?_, by rw [show ((2 ^ 0 : Nat) : Int) = 1 from rfl, Int.mul_one]; exact z⟩
  unfold FP.Core.DInt at h
  cases e : val64 x with
  | nan => exact absurd e n
  | inf s => rw [e] at h; exact h.elim
  | fin s c q => exact ⟨s, c, q, e⟩
theorem dy_i2d (a : Int32) : Dy (FP.i2d a) a.toInt 0 := own_dy_int (FP.Core.i2d_int a)
theorem dy_l2d {a : Int64} (h1 : -9007199254740992 < a.toInt) (h2 : a.toInt < 9007199254740992) : Dy (FP.l2d a) a.toInt 0 := own_dy_int (FP.Core.l2d_whole ⟨h1, h2⟩)
/-- 0.0 + x is x, bit for bit, for a finite x that isn't -0.0 -/
theorem own_zero_add {x : UInt64} {s : Bool} {c : Nat} {q : Int} (hx : val64 x = .fin s c q) (h0 : c = 0 → s = false) : FP.dadd 0 x = x := by
  show FP.Core.dadd 0 x = x
  have fx := val64_fits x
  rw [hx] at fx
  have hq := fx.2.1
  have key : val64 (FP.Core.dadd 0 x) = .fin s c q := by
    rw [FP.Core.val64_dadd, FP.Core.val64_zero, hx]
    have m : min b64.qmin q = b64.qmin := by omega
    have u : FP.Core.sumUnits false 0 b64.qmin s c q b64.qmin = signed s (inUnits c q b64.qmin) := by
      unfold FP.Core.sumUnits; simp [signed, inUnits]
    show FP.Core.roundRatio b64 (FP.Core.sumSign false s (FP.Core.sumUnits false 0 b64.qmin s c q (min b64.qmin q))) (FP.Core.sumUnits false 0 b64.qmin s c q (min b64.qmin q)).natAbs 1 (min b64.qmin q) = _
    rw [m, u]
    have na : (signed s (inUnits c q b64.qmin)).natAbs = inUnits c q b64.qmin := by unfold signed; cases s <;> simp
    have sg : FP.Core.sumSign false s (signed s (inUnits c q b64.qmin)) = s := by
      have pp := Nat.two_pow_pos (q - b64.qmin).toNat
      unfold FP.Core.sumSign
      by_cases c0 : c = 0
      · subst c0; simp [signed, inUnits, h0 rfl]
      · have : 0 < inUnits c q b64.qmin := Nat.mul_pos (Nat.pos_of_ne_zero c0) pp
        cases s <;> simp [signed] <;> omega
    rw [na, sg]
    refine FP.Core.roundRatio_exact good_b64 (by decide) fx ?_
    rw [show (b64.qmin - q).toNat = 0 by omega, Nat.pow_zero, Nat.mul_one, Nat.mul_one]; rfl
  exact FP.Core.val64_inj (by rw [key]; exact FP.Core.Datum.noConfusion) (key.trans hx.symm)
theorem own_scale3 {X Y n m r : Int} {k j i : Nat} {V : Int} (a : X * ((2 ^ k : Nat) : Int) = n * uu) (b : Y * ((2 ^ j : Nat) : Int) = m * uu) (e : V * ((2 ^ i : Nat) : Int) = r * uu) :
    X * uu * (((2 ^ k : Nat) : Int) * (((2 ^ j : Nat) : Int) * ((2 ^ i : Nat) : Int))) = n * ((2 ^ (j + i) : Nat) : Int) * (uu * uu) ∧ V * Y * (((2 ^ k : Nat) : Int) * (((2 ^ j : Nat) : Int) * ((2 ^ i : Nat) : Int))) = r * m * ((2 ^ k : Nat) : Int) * (uu * uu) := by
  rw [Nat.pow_add, Int.natCast_mul]; exact own_alg3 a b e
theorem Dy.div_le {x y V : UInt64} {n m r : Int} {k j i : Nat} (A : Dy x n k) (B : Dy y m j) (hm : 0 < m) (C : Dy V r i) (h : n * ((2 ^ (j + i) : Nat) : Int) ≤ r * m * ((2 ^ k : Nat) : Int)) : zv (FP.ddiv x y) ≤ zv V := by
  refine own_div_le A.1 B.1 (B.pos hm) C.1.ne_nan ?_
  obtain ⟨e1, e2⟩ := own_scale3 A.2 B.2 C.2
  have p : 0 < ((2 ^ k : Nat) : Int) * (((2 ^ j : Nat) : Int) * ((2 ^ i : Nat) : Int)) := Int.mul_pos (own_pk k) (Int.mul_pos (own_pk j) (own_pk i))
  refine Int.le_of_mul_le_mul_right ?_ p
  rw [e1, e2]
  exact Int.mul_le_mul_of_nonneg_right h (Int.le_of_lt (Int.mul_pos uu_pos uu_pos))
theorem Dy.div_ge {x y V : UInt64} {n m r : Int} {k j i : Nat} (A : Dy x n k) (B : Dy y m j) (hm : 0 < m) (C : Dy V r i) (h : r * m * ((2 ^ k : Nat) : Int) ≤ n * ((2 ^ (j + i) : Nat) : Int)) : zv V ≤ zv (FP.ddiv x y) := by
  refine own_div_ge A.1 B.1 (B.pos hm) C.1.ne_nan ?_
  obtain ⟨e1, e2⟩ := own_scale3 A.2 B.2 C.2
  have p : 0 < ((2 ^ k : Nat) : Int) * (((2 ^ j : Nat) : Int) * ((2 ^ i : Nat) : Int)) := Int.mul_pos (own_pk k) (Int.mul_pos (own_pk j) (own_pk i))
  refine Int.le_of_mul_le_mul_right ?_ p
  rw [e1, e2]
  exact Int.mul_le_mul_of_nonneg_right h (Int.le_of_lt (Int.mul_pos uu_pos uu_pos))
/-- the order of two numbers written over one power of two -/
theorem Dy.zle {x y : UInt64} {n m : Int} {k : Nat} (A : Dy x n k) (B : Dy y m k) : (zv x ≤ zv y ↔ n ≤ m) ∧ (zv x < zv y ↔ n < m) := by
  obtain ⟨q1, q2, -⟩ := own_mid A.2 B.2
  have u := uu_pos
  exact ⟨q1.trans ⟨fun q => Int.le_of_mul_le_mul_right q u, fun q => Int.mul_le_mul_of_nonneg_right q (Int.le_of_lt u)⟩, q2.trans ⟨fun q => Int.lt_of_mul_lt_mul_right q (Int.le_of_lt u), fun q => Int.mul_lt_mul_of_pos_right q u⟩⟩
end OwnF
section OwnM
open Jvm.FP.Core (val64 zval zmag b64 one64 DFin DZero good_b64 val64_fits inUnits signed sgn roundRatio)
theorem own_arith {a a' m m' B B' : Nat} (k1 : m' * B < a) (k2 : a' < m * B') (hB : 0 < B) (hB' : 0 < B') (h : a * B' ≤ a' * B)
    (n1 : ((a : Int) - (m : Int) * (B : Int)).natAbs ≤ ((a : Int) - (m' : Int) * (B : Int)).natAbs) (n2 : ((a' : Int) - (m' : Int) * (B' : Int)).natAbs ≤ ((a' : Int) - (m : Int) * (B' : Int)).natAbs) : a * B' = a' * B := by
  have e1 : m * B' * B = m * B * B' := by ac_rfl
  have e2 : m' * B' * B = m' * B * B' := by ac_rfl
  have x1 : a < m * B := by
    have t := Nat.mul_lt_mul_of_pos_right k2 hB
    exact Nat.lt_of_mul_lt_mul_right (a := B') (by omega)
  have x2 : m' * B' < a' := by
    have t := Nat.mul_lt_mul_of_pos_right k1 hB'
    exact Nat.lt_of_mul_lt_mul_right (a := B) (by omega)
  rw [← Int.natCast_mul, ← Int.natCast_mul] at n1 n2
  have y1 : m * B + m' * B ≤ 2 * a := by omega
  have y2 : 2 * a' ≤ m * B' + m' * B' := by omega
  have z1 := Nat.mul_le_mul_right B' y1
  have z2 := Nat.mul_le_mul_right B y2
  rw [Nat.add_mul, Nat.mul_assoc 2] at z1
  rw [Nat.add_mul, Nat.mul_assoc 2] at z2
  omega
theorem own_unbase {A B A' B' : Nat} {e e' e0 : Int} (h1 : e0 ≤ e) (h2 : e0 ≤ e') (h : inUnits A e e0 * B' = inUnits A' e' e0 * B) : A * B' * 2 ^ (e - e').toNat = A' * B * 2 ^ (e' - e).toNat := by
  unfold inUnits at h
  refine Nat.eq_of_mul_eq_mul_right (Nat.two_pow_pos (min e e' - e0).toNat) ?_
  have x1 : 2 ^ (e - e').toNat * 2 ^ (min e e' - e0).toNat = 2 ^ (e - e0).toNat := by rw [← Nat.pow_add]; congr 1; omega
  have x2 : 2 ^ (e' - e).toNat * 2 ^ (min e e' - e0).toNat = 2 ^ (e' - e0).toNat := by rw [← Nat.pow_add]; congr 1; omega
  rw [Nat.mul_assoc, x1, Nat.mul_assoc (A' * B), x2, Nat.mul_right_comm A, h, Nat.mul_right_comm A']
theorem own_mx {c d X Y R R' W : Nat} (h : X * R = Y * W) : c * X * d * (R * R') = c * Y * (d * R') * W := by
  calc c * X * d * (R * R') = c * d * R' * (X * R) := by ac_rfl
    _ = c * d * R' * (Y * W) := by rw [h]
    _ = _ := by ac_rfl
/-- rounding keeps the order -/
theorem own_mono {s : Bool} {A B A' B' : Nat} {e e' e0 : Int} (hB : 0 < B) (hB' : 0 < B') (h0 : e0 ≤ b64.qmin) (h1 : e0 ≤ e) (h2 : e0 ≤ e') (hf : ∃ t c q, roundRatio b64 s A B e = .fin t c q) (h : inUnits A e e0 * B' ≤ inUnits A' e' e0 * B) : zmag b64 (roundRatio b64 s A B e) ≤ zmag b64 (roundRatio b64 s A' B' e') := by
  refine Nat.le_of_not_lt fun lt => ?_
  have F := FP.Core.roundRatio_fits good_b64 s A hB e
  have F' := FP.Core.roundRatio_fits good_b64 s A' hB' e'
  have L := FP.Core.zmag_roundRatio_le good_b64 (s := s) (A := A) (e := e) hB F' (FP.Core.roundRatio_ne_nan _ _ _ _ _) h0 h1
  have G := FP.Core.zmag_roundRatio_ge good_b64 (s := s) (A := A') (e := e') hB' F h0 h2
  obtain ⟨t, c, q, ef⟩ := hf
  have ef' : ∃ t c q, roundRatio b64 s A' B' e' = .fin t c q := by
    rcases FP.Core.roundRatio_cases b64 s A' B' e' with ⟨c', q', g⟩ | g
    · exact ⟨s, c', q', g⟩
    · exfalso
      have tp := FP.Core.zmag_le_top good_b64 F
      rw [g] at lt
      exact Nat.lt_irrefl _ (Nat.lt_of_le_of_lt tp lt)
  obtain ⟨t', c', q', ef'⟩ := ef'
  have n1 := FP.Core.roundRatio_nearest good_b64 hB ef (c' := c') (q' := q') (ef' ▸ F').1 (ef' ▸ F').2.1 h0 h1
  have n2 := FP.Core.roundRatio_nearest good_b64 hB' ef' (c' := c) (q' := q) (ef ▸ F).1 (ef ▸ F).2.1 h0 h2
  have u := FP.Core.units_fin (f := b64) (e0 := e0) (ef ▸ F) h0
  have u' := FP.Core.units_fin (f := b64) (e0 := e0) (ef' ▸ F') h0
  unfold FP.Core.distance at n1 n2
  rw [u, u'] at n1 n2
  rw [← ef, ← ef'] at n1 n2
  have k1 := Nat.lt_of_not_le fun g => absurd (L g) (Nat.not_le.mpr lt)
  have k2 := Nat.lt_of_not_le fun g => absurd (G g) (Nat.not_le.mpr lt)
  have key := own_arith k1 k2 hB hB' h n1 n2
  have cg := FP.Core.roundRatio_congr (f := b64) (s := s) hB hB' (own_unbase h1 h2 key)
  rw [cg] at lt
  exact Nat.lt_irrefl _ lt
theorem own_zs (s : Bool) (A B : Nat) (e : Int) : zmag b64 (roundRatio b64 s A B e) = zmag b64 (roundRatio b64 false A B e) := by
  cases s
  · rfl
  · rw [show true = !false from rfl, ← FP.Core.negate_roundRatio]
    cases roundRatio b64 false A B e <;> rfl
theorem own_fs {s : Bool} {A B : Nat} {e : Int} (h : ∃ t c q, roundRatio b64 s A B e = .fin t c q) : ∃ t c q, roundRatio b64 false A B e = .fin t c q := by
  cases s
  · exact h
  · obtain ⟨t, c, q, g⟩ := h
    rw [show true = !false from rfl, ← FP.Core.negate_roundRatio] at g
    cases k : roundRatio b64 false A B e with
    | nan => rw [k] at g; cases g
    | inf s => rw [k] at g; cases g
    | fin s c q => exact ⟨s, c, q, rfl⟩
theorem own_div_mono {x y x' y' : UInt64} (hx : DFin x) (hy : DFin y) (hz : ¬ DZero y) (hx' : DFin x') (hy' : DFin y') (hz' : ¬ DZero y') (hf : DFin (FP.ddiv x y)) (h : zmag b64 (val64 x) * zmag b64 (val64 y') ≤ zmag b64 (val64 x') * zmag b64 (val64 y)) : zmag b64 (val64 (FP.ddiv x y)) ≤ zmag b64 (val64 (FP.ddiv x' y')) := by
  change zmag b64 (val64 (FP.Core.ddiv x y)) ≤ zmag b64 (val64 (FP.Core.ddiv x' y'))
  have hf : ∃ t c q, val64 (FP.Core.ddiv x y) = .fin t c q := hf
  obtain ⟨s, c, q, ex⟩ := hx
  obtain ⟨t, d, r, ey⟩ := hy
  obtain ⟨s', c', q', ex'⟩ := hx'
  obtain ⟨t', d', r', ey'⟩ := hy'
  have fx := val64_fits x; have fy := val64_fits y; have fx' := val64_fits x'; have fy' := val64_fits y'
  rw [ex] at fx; rw [ey] at fy; rw [ex'] at fx'; rw [ey'] at fy'
  have hd : d ≠ 0 := fun e => hz ⟨t, r, by rw [ey, e]⟩
  have hd' : d' ≠ 0 := fun e => hz' ⟨t', r', by rw [ey', e]⟩
  rw [FP.Core.val64_ddiv, ex, ey] at hf ⊢
  rw [FP.Core.val64_ddiv, ex', ey']
  rw [ex, ey, ex', ey'] at h
  change ∃ t_1 c_1 q_1, (if d = 0 then _ else roundRatio b64 (s != t) c d (q - r)) = _ at hf
  rw [if_neg hd] at hf
  show zmag b64 (if d = 0 then _ else roundRatio b64 (s != t) c d (q - r)) ≤ zmag b64 (if d' = 0 then _ else roundRatio b64 (s' != t') c' d' (q' - r'))
  rw [if_neg hd, if_neg hd', own_zs, own_zs (s' != t')]
  have b1 : -1074 ≤ q := own_qm ▸ fx.2.1
  have b2 : -1074 ≤ r := own_qm ▸ fy.2.1
  have b3 : r ≤ 971 := fy.2.2.1
  have b1' : -1074 ≤ q' := own_qm ▸ fx'.2.1
  have b2' : -1074 ≤ r' := own_qm ▸ fy'.2.1
  have b3' : r' ≤ 971 := fy'.2.2.1
  refine own_mono (e0 := -2148) (Nat.pos_of_ne_zero hd) (Nat.pos_of_ne_zero hd') (by rw [own_qm]; decide) (by omega) (by omega) (own_fs hf) ?_
  -- c 2^(q-r+2148) d' ≤ c' 2^(q'-r'+2148) d, times 2^(r+1074) 2^(r'+1074)
  have h' : c * 2 ^ (q + 1074).toNat * (d' * 2 ^ (r' + 1074).toNat) ≤ c' * 2 ^ (q' + 1074).toNat * (d * 2 ^ (r + 1074).toNat) := by
    have := h; simp only [zmag, own_qm, inUnits] at this
    rw [show (q - -1074).toNat = (q + 1074).toNat by omega, show (q' - -1074).toNat = (q' + 1074).toNat by omega, show (r - -1074).toNat = (r + 1074).toNat by omega, show (r' - -1074).toNat = (r' + 1074).toNat by omega] at this
    exact this
  unfold inUnits
  refine Nat.le_of_mul_le_mul_right (c := 2 ^ (r + 1074).toNat * 2 ^ (r' + 1074).toNat) ?_ (Nat.mul_pos (Nat.two_pow_pos _) (Nat.two_pow_pos _))
  have x1 : 2 ^ (q - r - -2148).toNat * 2 ^ (r + 1074).toNat = 2 ^ (q + 1074).toNat * 2 ^ 2148 := by rw [← Nat.pow_add, ← Nat.pow_add]; congr 1; omega
  have x2 : 2 ^ (q' - r' - -2148).toNat * 2 ^ (r' + 1074).toNat = 2 ^ (q' + 1074).toNat * 2 ^ 2148 := by rw [← Nat.pow_add, ← Nat.pow_add]; congr 1; omega
  have l1 := own_mx (c := c) (d := d') (R' := 2 ^ (r' + 1074).toNat) x1
  have l2 := own_mx (c := c') (d := d) (R' := 2 ^ (r + 1074).toNat) x2
  rw [Nat.mul_comm (2 ^ (r' + 1074).toNat)] at l2
  rw [l1, l2]
  exact Nat.mul_le_mul_right _ h'
end OwnM
section OwnB
open Jvm.FP.Core (val64 zval zmag b64 one64 DFin DZero good_b64 val64_fits inUnits signed sgn)
/-- a finite number from 0 to 2^K -/
def Bn (x : UInt64) (K : Nat) : Prop := DFin x ∧ 0 ≤ zv x ∧ zv x ≤ ((2 ^ K : Nat) : Int) * uu
theorem Bn.nn {x : UInt64} {K : Nat} (B : Bn x K) : NoNaN64 x := Fl.val64_no.mpr B.1.ne_nan
theorem own_p52 {K : Nat} (h : K ≤ 52) : 2 ^ K ≤ 4503599627370496 := by
  have := Nat.pow_le_pow_right (show 0 < 2 by decide) h
  have e : 2 ^ 52 = 4503599627370496 := by decide
  omega
theorem own_pwd (K : Nat) (h : K ≤ 52) : ∃ V, DFin V ∧ zv V = ((2 ^ K : Nat) : Int) * uu := by
  have p := own_p52 h
  obtain ⟨V, f, e⟩ := own_rep ((2 ^ K : Nat) : Int) 0 (by rw [Int.natAbs_natCast]; omega) (by omega)
  rw [show ((2 ^ 0 : Nat) : Int) = 1 from rfl, Int.mul_one] at e
  exact ⟨V, f, e⟩
theorem own_zabs (V : UInt64) : (zv V).natAbs = zmag b64 (val64 V) := by unfold zv zval; cases sgn (val64 V) <;> simp [signed]
theorem own_fin_le {x V : UInt64} (hn : val64 x ≠ .nan) (hV : DFin V) (h : (zv x).natAbs ≤ (zv V).natAbs) : DFin x := by
  have q := hV.zval_lt
  cases e : val64 x with
  | nan => exact absurd e hn
  | fin s c r => exact ⟨s, c, r, e⟩
  | inf s =>
    exfalso
    rw [own_zabs, own_zabs, e] at h
    exact Nat.lt_irrefl _ (Nat.lt_of_le_of_lt h q)
theorem Bn.of {x : UInt64} {K : Nat} (hK : K ≤ 52) (hn : val64 x ≠ .nan) (h0 : 0 ≤ zv x) (h : ∀ V, DFin V → zv V = ((2 ^ K : Nat) : Int) * uu → zv x ≤ zv V) : Bn x K := by
  obtain ⟨V, f, e⟩ := own_pwd K hK
  have q := h V f e
  exact ⟨own_fin_le hn f (by omega), h0, by rw [← e]; exact q⟩
theorem own_pmono {K J : Nat} (h : K ≤ J) : ((2 ^ K : Nat) : Int) ≤ ((2 ^ J : Nat) : Int) := by
  have := Nat.pow_le_pow_right (show 0 < 2 by decide) h; omega
theorem Bn.mono {x : UInt64} {K J : Nat} (B : Bn x K) (h : K ≤ J) : Bn x J :=
  ⟨B.1, B.2.1, Int.le_trans B.2.2 (Int.mul_le_mul_of_nonneg_right (own_pmono h) (Int.le_of_lt uu_pos))⟩
theorem own_z0 : DFin (0 : UInt64) ∧ zv (0 : UInt64) = 0 := ⟨⟨false, 0, -1074, by decide +kernel⟩, by decide +kernel⟩
theorem own_bn0 (K : Nat) : Bn (0 : UInt64) K := ⟨own_z0.1, by rw [own_z0.2]; exact Int.le_refl _, by rw [own_z0.2]; exact Int.mul_nonneg (Int.natCast_nonneg _) (Int.le_of_lt uu_pos)⟩
theorem own_ge0 {x : UInt64} (h : zv (0 : UInt64) ≤ zv x) : 0 ≤ zv x := by rw [own_z0.2] at h; exact h
theorem own_alg4 (A B u : Int) : A * u * (B * u) = A * B * u * u := by ac_rfl
theorem own_alg5 (A B u y : Int) : A * u * (y * B) = A * B * u * y := by ac_rfl
theorem Bn.add {x y : UInt64} {K : Nat} (A : Bn x K) (B : Bn y K) (h : K ≤ 51) : Bn (FP.dadd x y) (K + 1) := by
  have a := A.2; have b := B.2
  refine Bn.of (by omega) (own_nn_add A.1 B.1) (own_ge0 (own_add_ge A.1 B.1 own_z0.1.ne_nan (by rw [own_z0.2]; omega))) fun V f e => own_add_le A.1 B.1 f.ne_nan ?_
  rw [e, Nat.pow_succ, Int.natCast_mul, Int.mul_assoc]
  have e2 : ((2 : Nat) : Int) * uu = uu + uu := by omega
  rw [e2, Int.mul_add]; omega
theorem Bn.mul {x y : UInt64} {K J : Nat} (A : Bn x K) (B : Bn y J) (h : K + J ≤ 52) : Bn (FP.dmul x y) (K + J) := by
  have a := A.2; have b := B.2
  refine Bn.of h (own_nn_mul A.1 B.1) (own_ge0 (own_mul_ge A.1 B.1 own_z0.1.ne_nan (by rw [own_z0.2, Int.zero_mul]; exact Int.mul_nonneg a.1 b.1))) fun V f e => own_mul_le A.1 B.1 f.ne_nan ?_
  rw [e, Nat.pow_add, Int.natCast_mul]
  refine Int.le_trans (Int.mul_le_mul a.2 b.2 b.1 (Int.mul_nonneg (Int.natCast_nonneg _) (Int.le_of_lt uu_pos))) (Int.le_of_eq ?_)
  exact own_alg4 _ _ _
/-- a quotient by at least 2^-J -/
theorem Bn.div {x y : UInt64} {K J : Nat} (A : Bn x K) (hy : DFin y) (hl : uu ≤ zv y * ((2 ^ J : Nat) : Int)) (h : K + J ≤ 52) : Bn (FP.ddiv x y) (K + J) := by
  have a := A.2
  have u := uu_pos
  have h0 : 0 < zv y := by
    exact Int.lt_of_mul_lt_mul_right (a := ((2 ^ J : Nat) : Int)) (by rw [Int.zero_mul]; omega) (Int.natCast_nonneg _)
  refine Bn.of h (own_nn_div A.1 hy (own_notz hy h0)) (own_ge0 (own_div_ge A.1 hy h0 own_z0.1.ne_nan (by rw [own_z0.2, Int.zero_mul]; exact Int.mul_nonneg a.1 (Int.le_of_lt u)))) fun V f e => own_div_le A.1 hy h0 f.ne_nan ?_
  rw [e, Nat.pow_add, Int.natCast_mul]
  refine Int.le_trans (Int.mul_le_mul a.2 hl (Int.le_of_lt u) (Int.mul_nonneg (Int.natCast_nonneg _) (Int.le_of_lt u))) (Int.le_of_eq ?_)
  exact own_alg5 _ _ _ _
theorem Dy.bn {x : UInt64} {n : Int} {k K : Nat} (D : Dy x n k) (h0 : 0 ≤ n) (h : n ≤ ((2 ^ (K + k) : Nat) : Int)) : Bn x K := by
  have u := uu_pos
  have p := own_pk k
  have d := D.2
  refine ⟨D.1, ?_, ?_⟩
  · refine Int.le_of_mul_le_mul_right (a := ((2 ^ k : Nat) : Int)) ?_ p
    rw [d, Int.zero_mul]; exact Int.mul_nonneg h0 (Int.le_of_lt u)
  · refine Int.le_of_mul_le_mul_right (a := ((2 ^ k : Nat) : Int)) ?_ p
    rw [d]
    rw [Nat.pow_add, Int.natCast_mul] at h
    refine Int.le_trans (Int.mul_le_mul_of_nonneg_right h (Int.le_of_lt u)) (Int.le_of_eq ?_)
    exact Int.mul_right_comm _ _ _
theorem Dy.lo {x : UInt64} {n : Int} {k : Nat} (D : Dy x n k) (h : 1 ≤ n) : uu ≤ zv x * ((2 ^ k : Nat) : Int) := by
  rw [D.2]; calc uu = 1 * uu := (Int.one_mul _).symm
    _ ≤ n * uu := Int.mul_le_mul_of_nonneg_right h (Int.le_of_lt uu_pos)
end OwnB
theorem pn_com_example_pausanias_pausanias_query_StreetQueryInterestPinLaw : plainName "com/example/pausanias/pausanias/query/StreetQueryInterestPinLaw" = true := by first | (simp [plainName, overriddenIn]; done) | decide +kernel
theorem pn_java_lang_String : plainName "java/lang/String" = true := by first | (simp [plainName, overriddenIn]; done) | decide +kernel
theorem pn_java_lang_StringUTF16 : plainName "java/lang/StringUTF16" = true := by first | (simp [plainName, overriddenIn]; done) | decide +kernel
theorem pn_java_util_Set : plainName "java/util/Set" = true := by first | (simp [plainName, overriddenIn]; done) | decide +kernel
theorem pn_java_util_ImmutableCollections_Set12 : plainName "java/util/ImmutableCollections$Set12" = true := by first | (simp [plainName, overriddenIn]; done) | decide +kernel
theorem pn_java_util_ImmutableCollections_AbstractImmutableSet : plainName "java/util/ImmutableCollections$AbstractImmutableSet" = true := by first | (simp [plainName, overriddenIn]; done) | decide +kernel
theorem pn_java_util_ImmutableCollections_AbstractImmutableCollection : plainName "java/util/ImmutableCollections$AbstractImmutableCollection" = true := by first | (simp [plainName, overriddenIn]; done) | decide +kernel
theorem pn_java_util_AbstractCollection : plainName "java/util/AbstractCollection" = true := by first | (simp [plainName, overriddenIn]; done) | decide +kernel
theorem pn_java_util_Objects : plainName "java/util/Objects" = true := by first | (simp [plainName, overriddenIn]; done) | decide +kernel
theorem pn_com_example_pausanias_pausanias_query_StreetQuery : plainName "com/example/pausanias/pausanias/query/StreetQuery" = true := by first | (simp [plainName, overriddenIn]; done) | decide +kernel
theorem pn_java_lang_Record : plainName "java/lang/Record" = true := by first | (simp [plainName, overriddenIn]; done) | decide +kernel
theorem pn_com_example_pausanias_pausanias_query_Ranking : plainName "com/example/pausanias/pausanias/query/Ranking" = true := by first | (simp [plainName, overriddenIn]; done) | decide +kernel
theorem d1_0 : decode jdk_42_method_3_code 0 = .ok (.aload_n 0, 1) := by decide +kernel
theorem d1_1 : decode jdk_42_method_3_code 1 = .ok (.aload_n 1, 1) := by decide +kernel
theorem d1_2 : decode jdk_42_method_3_code 2 = .ok (.iconst 0, 1) := by decide +kernel
theorem d1_3 : decode jdk_42_method_3_code 3 = .ok (.aload_n 1, 1) := by decide +kernel
theorem d1_4 : decode jdk_42_method_3_code 4 = .ok (.arraylength, 1) := by decide +kernel
theorem d1_5 : decode jdk_42_method_3_code 5 = .ok (.aconst_null, 1) := by decide +kernel
theorem d1_6 : decode jdk_42_method_3_code 6 = .ok (.invokespecial 27, 3) := by decide +kernel
theorem d1_9 : decode jdk_42_method_3_code 9 = .ok (.return_, 1) := by decide +kernel
theorem d2_0 : decode jdk_42_method_149_code 0 = .ok (.aload_n 0, 1) := by decide +kernel
theorem d2_1 : decode jdk_42_method_149_code 1 = .ok (.invokespecial 1, 3) := by decide +kernel
theorem d2_4 : decode jdk_42_method_149_code 4 = .ok (.iload_n 3, 1) := by decide +kernel
theorem d2_5 : decode jdk_42_method_149_code 5 = .ok (.ifCond .ne 22, 3) := by decide +kernel
theorem d2_27 : decode jdk_42_method_149_code 27 = .ok (.getstatic 38, 3) := by decide +kernel
theorem d2_30 : decode jdk_42_method_149_code 30 = .ok (.ifCond .eq 28, 3) := by decide +kernel
theorem d2_33 : decode jdk_42_method_149_code 33 = .ok (.aload_n 1, 1) := by decide +kernel
theorem d2_34 : decode jdk_42_method_149_code 34 = .ok (.iload_n 2, 1) := by decide +kernel
theorem d2_35 : decode jdk_42_method_149_code 35 = .ok (.iload_n 3, 1) := by decide +kernel
theorem d2_36 : decode jdk_42_method_149_code 36 = .ok (.invokestatic 177, 3) := by decide +kernel
theorem d2_39 : decode jdk_42_method_149_code 39 = .ok (.astore 5, 2) := by decide +kernel
theorem d2_41 : decode jdk_42_method_149_code 41 = .ok (.aload_n 0, 1) := by decide +kernel
theorem d2_42 : decode jdk_42_method_149_code 42 = .ok (.aload 5, 2) := by decide +kernel
theorem d2_44 : decode jdk_42_method_149_code 44 = .ok (.iload_n 3, 1) := by decide +kernel
theorem d2_45 : decode jdk_42_method_149_code 45 = .ok (.invokestatic 47, 3) := by decide +kernel
theorem d2_48 : decode jdk_42_method_149_code 48 = .ok (.putfield 15, 3) := by decide +kernel
theorem d2_51 : decode jdk_42_method_149_code 51 = .ok (.aload_n 0, 1) := by decide +kernel
theorem d2_52 : decode jdk_42_method_149_code 52 = .ok (.aload 5, 2) := by decide +kernel
theorem d2_54 : decode jdk_42_method_149_code 54 = .ok (.putfield 9, 3) := by decide +kernel
theorem d2_57 : decode jdk_42_method_149_code 57 = .ok (.return_, 1) := by decide +kernel
theorem d4_0 : decode jdk_52_method_16_code 0 = .ok (.iload_n 2, 1) := by decide +kernel
theorem d4_1 : decode jdk_52_method_16_code 1 = .ok (.newarray .byte, 2) := by decide +kernel
theorem d4_3 : decode jdk_52_method_16_code 3 = .ok (.astore_n 3, 1) := by decide +kernel
theorem d4_4 : decode jdk_52_method_16_code 4 = .ok (.aload_n 0, 1) := by decide +kernel
theorem d4_5 : decode jdk_52_method_16_code 5 = .ok (.iload_n 1, 1) := by decide +kernel
theorem d4_6 : decode jdk_52_method_16_code 6 = .ok (.aload_n 3, 1) := by decide +kernel
theorem d4_7 : decode jdk_52_method_16_code 7 = .ok (.iconst 0, 1) := by decide +kernel
theorem d4_8 : decode jdk_52_method_16_code 8 = .ok (.iload_n 2, 1) := by decide +kernel
theorem d4_9 : decode jdk_52_method_16_code 9 = .ok (.invokestatic 115, 3) := by decide +kernel
theorem d4_12 : decode jdk_52_method_16_code 12 = .ok (.istore 4, 2) := by decide +kernel
theorem d4_14 : decode jdk_52_method_16_code 14 = .ok (.iload 4, 2) := by decide +kernel
theorem d4_16 : decode jdk_52_method_16_code 16 = .ok (.iload_n 2, 1) := by decide +kernel
theorem d4_17 : decode jdk_52_method_16_code 17 = .ok (.if_icmp .eq 40, 3) := by decide +kernel
theorem d4_57 : decode jdk_52_method_16_code 57 = .ok (.aload_n 3, 1) := by decide +kernel
theorem d4_58 : decode jdk_52_method_16_code 58 = .ok (.areturn, 1) := by decide +kernel
theorem d5_0 : decode jdk_52_method_21_code 0 = .ok (.iconst 0, 1) := by decide +kernel
theorem d5_1 : decode jdk_52_method_21_code 1 = .ok (.istore 5, 2) := by decide +kernel
theorem d5_3 : decode jdk_52_method_21_code 3 = .ok (.iload 5, 2) := by decide +kernel
theorem d5_5 : decode jdk_52_method_21_code 5 = .ok (.iload 4, 2) := by decide +kernel
theorem d5_7 : decode jdk_52_method_21_code 7 = .ok (.if_icmp .ge 37, 3) := by decide +kernel
theorem d5_10 : decode jdk_52_method_21_code 10 = .ok (.aload_n 0, 1) := by decide +kernel
theorem d5_11 : decode jdk_52_method_21_code 11 = .ok (.iload_n 1, 1) := by decide +kernel
theorem d5_12 : decode jdk_52_method_21_code 12 = .ok (.caload, 1) := by decide +kernel
theorem d5_13 : decode jdk_52_method_21_code 13 = .ok (.istore 6, 2) := by decide +kernel
theorem d5_15 : decode jdk_52_method_21_code 15 = .ok (.iload 6, 2) := by decide +kernel
theorem d5_17 : decode jdk_52_method_21_code 17 = .ok (.sipush 255, 3) := by decide +kernel
theorem d5_20 : decode jdk_52_method_21_code 20 = .ok (.if_icmp .le 6, 3) := by decide +kernel
theorem d5_26 : decode jdk_52_method_21_code 26 = .ok (.aload_n 2, 1) := by decide +kernel
theorem d5_27 : decode jdk_52_method_21_code 27 = .ok (.iload_n 3, 1) := by decide +kernel
theorem d5_28 : decode jdk_52_method_21_code 28 = .ok (.iload 6, 2) := by decide +kernel
theorem d5_30 : decode jdk_52_method_21_code 30 = .ok (.i2b, 1) := by decide +kernel
theorem d5_31 : decode jdk_52_method_21_code 31 = .ok (.bastore, 1) := by decide +kernel
theorem d5_32 : decode jdk_52_method_21_code 32 = .ok (.iinc 1 1, 3) := by decide +kernel
theorem d5_35 : decode jdk_52_method_21_code 35 = .ok (.iinc 3 1, 3) := by decide +kernel
theorem d5_38 : decode jdk_52_method_21_code 38 = .ok (.iinc 5 1, 3) := by decide +kernel
theorem d5_41 : decode jdk_52_method_21_code 41 = .ok (.goto (-38), 3) := by decide +kernel
theorem d5_44 : decode jdk_52_method_21_code 44 = .ok (.iload 4, 2) := by decide +kernel
theorem d5_46 : decode jdk_52_method_21_code 46 = .ok (.ireturn, 1) := by decide +kernel
theorem d6_0 : decode jdk_52_method_15_code 0 = .ok (.iload_n 1, 1) := by decide +kernel
theorem d6_1 : decode jdk_52_method_15_code 1 = .ok (.aload_n 0, 1) := by decide +kernel
theorem d6_2 : decode jdk_52_method_15_code 2 = .ok (.arraylength, 1) := by decide +kernel
theorem d6_3 : decode jdk_52_method_15_code 3 = .ok (.isub, 1) := by decide +kernel
theorem d6_4 : decode jdk_52_method_15_code 4 = .ok (.bipush 31, 2) := by decide +kernel
theorem d6_6 : decode jdk_52_method_15_code 6 = .ok (.iushr, 1) := by decide +kernel
theorem d6_7 : decode jdk_52_method_15_code 7 = .ok (.i2b, 1) := by decide +kernel
theorem d6_8 : decode jdk_52_method_15_code 8 = .ok (.ireturn, 1) := by decide +kernel
theorem d7_0 : decode jdk_96_method_18_code 0 = .ok (.new 15, 3) := by decide +kernel
theorem d7_3 : decode jdk_96_method_18_code 3 = .ok (.dup, 1) := by decide +kernel
theorem d7_4 : decode jdk_96_method_18_code 4 = .ok (.aload_n 0, 1) := by decide +kernel
theorem d7_5 : decode jdk_96_method_18_code 5 = .ok (.invokespecial 17, 3) := by decide +kernel
theorem d7_8 : decode jdk_96_method_18_code 8 = .ok (.areturn, 1) := by decide +kernel
theorem d8_0 : decode jdk_101_method_1_code 0 = .ok (.aload_n 0, 1) := by decide +kernel
theorem d8_1 : decode jdk_101_method_1_code 1 = .ok (.invokespecial 1, 3) := by decide +kernel
theorem d8_4 : decode jdk_101_method_1_code 4 = .ok (.aload_n 0, 1) := by decide +kernel
theorem d8_5 : decode jdk_101_method_1_code 5 = .ok (.aload_n 1, 1) := by decide +kernel
theorem d8_6 : decode jdk_101_method_1_code 6 = .ok (.invokestatic 7, 3) := by decide +kernel
theorem d8_9 : decode jdk_101_method_1_code 9 = .ok (.putfield 13, 3) := by decide +kernel
theorem d8_12 : decode jdk_101_method_1_code 12 = .ok (.aload_n 0, 1) := by decide +kernel
theorem d8_13 : decode jdk_101_method_1_code 13 = .ok (.getstatic 19, 3) := by decide +kernel
theorem d8_16 : decode jdk_101_method_1_code 16 = .ok (.putfield 24, 3) := by decide +kernel
theorem d8_19 : decode jdk_101_method_1_code 19 = .ok (.return_, 1) := by decide +kernel
theorem d9_0 : decode jdk_100_method_1_code 0 = .ok (.aload_n 0, 1) := by decide +kernel
theorem d9_1 : decode jdk_100_method_1_code 1 = .ok (.invokespecial 1, 3) := by decide +kernel
theorem d9_4 : decode jdk_100_method_1_code 4 = .ok (.return_, 1) := by decide +kernel
theorem d10_0 : decode jdk_47_method_1_code 0 = .ok (.aload_n 0, 1) := by decide +kernel
theorem d10_1 : decode jdk_47_method_1_code 1 = .ok (.invokespecial 1, 3) := by decide +kernel
theorem d10_4 : decode jdk_47_method_1_code 4 = .ok (.return_, 1) := by decide +kernel
theorem d11_0 : decode jdk_22_method_1_code 0 = .ok (.aload_n 0, 1) := by decide +kernel
theorem d11_1 : decode jdk_22_method_1_code 1 = .ok (.invokespecial 1, 3) := by decide +kernel
theorem d11_4 : decode jdk_22_method_1_code 4 = .ok (.return_, 1) := by decide +kernel
theorem d12_0 : decode jdk_31_method_10_code 0 = .ok (.aload_n 0, 1) := by decide +kernel
theorem d12_1 : decode jdk_31_method_10_code 1 = .ok (.ifnonnull 11, 3) := by decide +kernel
theorem d12_12 : decode jdk_31_method_10_code 12 = .ok (.aload_n 0, 1) := by decide +kernel
theorem d12_13 : decode jdk_31_method_10_code 13 = .ok (.areturn, 1) := by decide +kernel
theorem d13_0 : decode prog_40_method_1_code 0 = .ok (.aload_n 0, 1) := by decide +kernel
theorem d13_1 : decode prog_40_method_1_code 1 = .ok (.invokespecial 1, 3) := by decide +kernel
theorem d13_4 : decode prog_40_method_1_code 4 = .ok (.aload_n 1, 1) := by decide +kernel
theorem d13_5 : decode prog_40_method_1_code 5 = .ok (.invokestatic 7, 3) := by decide +kernel
theorem d13_8 : decode prog_40_method_1_code 8 = .ok (.astore_n 1, 1) := by decide +kernel
theorem d13_9 : decode prog_40_method_1_code 9 = .ok (.aload_n 1, 1) := by decide +kernel
theorem d13_10 : decode prog_40_method_1_code 10 = .ok (.invokeinterface 13 1, 5) := by decide +kernel
theorem d13_15 : decode prog_40_method_1_code 15 = .ok (.ifCond .eq 13, 3) := by decide +kernel
theorem d13_28 : decode prog_40_method_1_code 28 = .ok (.dload_n 2, 1) := by decide +kernel
theorem d13_29 : decode prog_40_method_1_code 29 = .ok (.dconst 0, 1) := by decide +kernel
theorem d13_30 : decode prog_40_method_1_code 30 = .ok (.dcmp .l, 1) := by decide +kernel
theorem d13_31 : decode prog_40_method_1_code 31 = .ok (.ifCond .le 11, 3) := by decide +kernel
theorem d13_34 : decode prog_40_method_1_code 34 = .ok (.dload_n 2, 1) := by decide +kernel
theorem d13_35 : decode prog_40_method_1_code 35 = .ok (.ldc2_w 26, 3) := by decide +kernel
theorem d13_38 : decode prog_40_method_1_code 38 = .ok (.dcmp .g, 1) := by decide +kernel
theorem d13_39 : decode prog_40_method_1_code 39 = .ok (.ifCond .lt 17, 3) := by decide +kernel
theorem d13_56 : decode prog_40_method_1_code 56 = .ok (.iload 4, 2) := by decide +kernel
theorem d13_58 : decode prog_40_method_1_code 58 = .ok (.invokestatic 32, 3) := by decide +kernel
theorem d13_61 : decode prog_40_method_1_code 61 = .ok (.aload_n 0, 1) := by decide +kernel
theorem d13_62 : decode prog_40_method_1_code 62 = .ok (.aload_n 1, 1) := by decide +kernel
theorem d13_63 : decode prog_40_method_1_code 63 = .ok (.putfield 38, 3) := by decide +kernel
theorem d13_66 : decode prog_40_method_1_code 66 = .ok (.aload_n 0, 1) := by decide +kernel
theorem d13_67 : decode prog_40_method_1_code 67 = .ok (.dload_n 2, 1) := by decide +kernel
theorem d13_68 : decode prog_40_method_1_code 68 = .ok (.putfield 44, 3) := by decide +kernel
theorem d13_71 : decode prog_40_method_1_code 71 = .ok (.aload_n 0, 1) := by decide +kernel
theorem d13_72 : decode prog_40_method_1_code 72 = .ok (.iload 4, 2) := by decide +kernel
theorem d13_74 : decode prog_40_method_1_code 74 = .ok (.putfield 48, 3) := by decide +kernel
theorem d13_77 : decode prog_40_method_1_code 77 = .ok (.return_, 1) := by decide +kernel
theorem d14_0 : decode jdk_30_method_1_code 0 = .ok (.aload_n 0, 1) := by decide +kernel
theorem d14_1 : decode jdk_30_method_1_code 1 = .ok (.invokespecial 1, 3) := by decide +kernel
theorem d14_4 : decode jdk_30_method_1_code 4 = .ok (.return_, 1) := by decide +kernel
theorem d15_0 : decode jdk_96_method_29_code 0 = .ok (.aload_n 0, 1) := by decide +kernel
theorem d15_1 : decode jdk_96_method_29_code 1 = .ok (.instanceof 31, 3) := by decide +kernel
theorem d15_4 : decode jdk_96_method_29_code 4 = .ok (.ifCond .eq 8, 3) := by decide +kernel
theorem d15_7 : decode jdk_96_method_29_code 7 = .ok (.aload_n 0, 1) := by decide +kernel
theorem d15_8 : decode jdk_96_method_29_code 8 = .ok (.checkcast 33, 3) := by decide +kernel
theorem d15_11 : decode jdk_96_method_29_code 11 = .ok (.areturn, 1) := by decide +kernel
theorem d16_0 : decode jdk_101_method_4_code 0 = .ok (.iconst 0, 1) := by decide +kernel
theorem d16_1 : decode jdk_101_method_4_code 1 = .ok (.ireturn, 1) := by decide +kernel
theorem d17_0 : decode prog_38_method_2_code 0 = .ok (.iload_n 0, 1) := by decide +kernel
theorem d17_1 : decode prog_38_method_2_code 1 = .ok (.iconst 1, 1) := by decide +kernel
theorem d17_2 : decode prog_38_method_2_code 2 = .ok (.if_icmp .ge 17, 3) := by decide +kernel
theorem d17_19 : decode prog_38_method_2_code 19 = .ok (.return_, 1) := by decide +kernel
theorem d18_0 : decode prog_40_method_3_code 0 = .ok (.lload_n 1, 1) := by decide +kernel
theorem d18_1 : decode prog_40_method_3_code 1 = .ok (.l2d, 1) := by decide +kernel
theorem d18_2 : decode prog_40_method_3_code 2 = .ok (.ldc2_w 58, 3) := by decide +kernel
theorem d18_5 : decode prog_40_method_3_code 5 = .ok (.aload_n 0, 1) := by decide +kernel
theorem d18_6 : decode prog_40_method_3_code 6 = .ok (.getfield 44, 3) := by decide +kernel
theorem d18_9 : decode prog_40_method_3_code 9 = .ok (.dmul, 1) := by decide +kernel
theorem d18_10 : decode prog_40_method_3_code 10 = .ok (.dload_n 3, 1) := by decide +kernel
theorem d18_11 : decode prog_40_method_3_code 11 = .ok (.dmul, 1) := by decide +kernel
theorem d18_12 : decode prog_40_method_3_code 12 = .ok (.ldc2_w 62, 3) := by decide +kernel
theorem d18_15 : decode prog_40_method_3_code 15 = .ok (.aload_n 0, 1) := by decide +kernel
theorem d18_16 : decode prog_40_method_3_code 16 = .ok (.getfield 44, 3) := by decide +kernel
theorem d18_19 : decode prog_40_method_3_code 19 = .ok (.dmul, 1) := by decide +kernel
theorem d18_20 : decode prog_40_method_3_code 20 = .ok (.aload_n 0, 1) := by decide +kernel
theorem d18_21 : decode prog_40_method_3_code 21 = .ok (.getfield 44, 3) := by decide +kernel
theorem d18_24 : decode prog_40_method_3_code 24 = .ok (.dmul, 1) := by decide +kernel
theorem d18_25 : decode prog_40_method_3_code 25 = .ok (.dadd, 1) := by decide +kernel
theorem d18_26 : decode prog_40_method_3_code 26 = .ok (.ddiv, 1) := by decide +kernel
theorem d18_27 : decode prog_40_method_3_code 27 = .ok (.dreturn, 1) := by decide +kernel
theorem pd_0 : parseMethodDescriptor "([CI[BII)I" = some ⟨[(.array .char), .int, (.array .byte), .int, .int], some .int⟩ := by decide +kernel
theorem pd_1 : parseMethodDescriptor "([CII)[B" = some ⟨[(.array .char), .int, .int], some (.array .byte)⟩ := by decide +kernel
theorem pd_2 : parseMethodDescriptor "([BI)B" = some ⟨[(.array .byte), .int], some .byte⟩ := by decide +kernel
theorem pd_3 : parseMethodDescriptor "([CIILjava/lang/Void;)V" = some ⟨[(.array .char), .int, .int, (.object "java/lang/Void")], none⟩ := by decide +kernel
theorem pd_4 : parseMethodDescriptor "()V" = some ⟨[], none⟩ := by decide +kernel
theorem pd_5 : parseMethodDescriptor "(Ljava/lang/Object;)Ljava/lang/Object;" = some ⟨[(.object "java/lang/Object")], some (.object "java/lang/Object")⟩ := by decide +kernel
theorem pd_6 : parseMethodDescriptor "(Ljava/lang/Object;)V" = some ⟨[(.object "java/lang/Object")], none⟩ := by decide +kernel
theorem pd_7 : parseMethodDescriptor "(Ljava/util/Collection;)Ljava/util/Set;" = some ⟨[(.object "java/util/Collection")], some (.object "java/util/Set")⟩ := by decide +kernel
theorem pd_8 : parseMethodDescriptor "()Z" = some ⟨[], some .boolean⟩ := by decide +kernel
theorem pd_9 : parseMethodDescriptor "(I)V" = some ⟨[.int], none⟩ := by decide +kernel
theorem pd_10 : parseMethodDescriptor "([C)V" = some ⟨[(.array .char)], none⟩ := by decide +kernel
theorem pd_11 : parseMethodDescriptor "(Ljava/lang/Object;)Ljava/util/Set;" = some ⟨[(.object "java/lang/Object")], some (.object "java/util/Set")⟩ := by decide +kernel
theorem pd_12 : parseMethodDescriptor "(Ljava/util/Set;DI)V" = some ⟨[(.object "java/util/Set"), .double, .int], none⟩ := by decide +kernel
theorem pd_13 : parseMethodDescriptor "(JD)D" = some ⟨[.long, .double], some .double⟩ := by decide +kernel

theorem own_c4611686018427387904 : Dy (4611686018427387904 : UInt64) (2) 0 := ⟨⟨false, 4503599627370496, -51, by decide +kernel⟩, by decide +kernel⟩
theorem own_c4614256656552045848 : Dy (4614256656552045848 : UInt64) (884279719003555) 48 := ⟨⟨false, 7074237752028440, -51, by decide +kernel⟩, by decide +kernel⟩
theorem own_c4614253070214989087 : Dy (4614253070214989087 : UInt64) (7070651414971679) 51 := ⟨⟨false, 7070651414971679, -51, by decide +kernel⟩, by decide +kernel⟩
theorem own_c4614275588213125939 : Dy (4614275588213125939 : UInt64) (7093169413108531) 51 := ⟨⟨false, 7093169413108531, -51, by decide +kernel⟩, by decide +kernel⟩
theorem own_c4634204016564240384 : Dy (4634204016564240384 : UInt64) (64) 0 := ⟨⟨false, 4503599627370496, -46, by decide +kernel⟩, by decide +kernel⟩
theorem own_c4625196817309499392 : Dy (4625196817309499392 : UInt64) (16) 0 := ⟨⟨false, 4503599627370496, -48, by decide +kernel⟩, by decide +kernel⟩
theorem own_c4967470388989657088 : Dy (4967470388989657088 : UInt64) (1208925819614629174706176) 0 := ⟨⟨false, 4503599627370496, 28, by decide +kernel⟩, by decide +kernel⟩
theorem own_c4890909195324358656 : Dy (4890909195324358656 : UInt64) (9223372036854775808) 0 := ⟨⟨false, 4503599627370496, 11, by decide +kernel⟩, by decide +kernel⟩
section OwnN
open Jvm.FP.Core (val64 zval zmag b64 one64 DFin DZero good_b64 val64_fits inUnits signed sgn roundRatio)
theorem own_rmono {s s' : Bool} {C C' : Nat} {Q Q' e0 : Int} (h0 : e0 ≤ b64.qmin) (h1 : e0 ≤ Q) (h2 : e0 ≤ Q') (hf : ∃ t c q, FP.Core.round b64 (.fin s C Q) = .fin t c q) (h : inUnits C Q e0 ≤ inUnits C' Q' e0) : zmag b64 (FP.Core.round b64 (.fin s C Q)) ≤ zmag b64 (FP.Core.round b64 (.fin s' C' Q')) := by
  have hf' : ∃ t c q, roundRatio b64 s C 1 Q = .fin t c q := hf
  show zmag b64 (roundRatio b64 s C 1 Q) ≤ zmag b64 (roundRatio b64 s' C' 1 Q')
  rw [own_zs s, own_zs s']
  exact own_mono (by decide) (by decide) h0 h1 h2 (own_fs hf') (by rw [Nat.mul_one, Nat.mul_one]; exact h)
theorem own_mul_mono {x y x' y' : UInt64} (hx : DFin x) (hy : DFin y) (hx' : DFin x') (hy' : DFin y') (hf : DFin (FP.dmul x y)) (h : zmag b64 (val64 x) * zmag b64 (val64 y) ≤ zmag b64 (val64 x') * zmag b64 (val64 y')) : zmag b64 (val64 (FP.dmul x y)) ≤ zmag b64 (val64 (FP.dmul x' y')) := by
  change zmag b64 (val64 (FP.Core.dmul x y)) ≤ zmag b64 (val64 (FP.Core.dmul x' y'))
  have hf : ∃ t c q, val64 (FP.Core.dmul x y) = .fin t c q := hf
  obtain ⟨s, c, q, ex⟩ := hx
  obtain ⟨t, d, r, ey⟩ := hy
  obtain ⟨s', c', q', ex'⟩ := hx'
  obtain ⟨t', d', r', ey'⟩ := hy'
  have fx := val64_fits x; have fy := val64_fits y; have fx' := val64_fits x'; have fy' := val64_fits y'
  rw [ex] at fx; rw [ey] at fy; rw [ex'] at fx'; rw [ey'] at fy'
  obtain ⟨e1, e2, e3⟩ := FP.Core.product_units fx fy
  obtain ⟨e1', e2', e3'⟩ := FP.Core.product_units fx' fy'
  have k : val64 (FP.Core.dmul x y) = FP.Core.round b64 (.fin (s != t) (c * d) (q + r)) := by rw [FP.Core.val64_dmul, ex, ey, e1]
  have k' : val64 (FP.Core.dmul x' y') = FP.Core.round b64 (.fin (s' != t') (c' * d') (q' + r')) := by rw [FP.Core.val64_dmul, ex', ey', e1']
  rw [ex, ey, ex', ey'] at h
  rw [k] at hf
  rw [k, k']
  exact own_rmono (e0 := 2 * b64.qmin) (by rw [own_qm]; decide) e2 e2' hf (by rw [e3, e3']; exact h)
theorem own_add_mono {x y x' y' : UInt64} (hx : DFin x) (hy : DFin y) (hx' : DFin x') (hy' : DFin y') (hf : DFin (FP.dadd x y)) (h0 : 0 ≤ zv x + zv y) (h : zv x + zv y ≤ zv x' + zv y') : zmag b64 (val64 (FP.dadd x y)) ≤ zmag b64 (val64 (FP.dadd x' y')) := by
  change zmag b64 (val64 (FP.Core.dadd x y)) ≤ zmag b64 (val64 (FP.Core.dadd x' y'))
  have hf : ∃ t c q, val64 (FP.Core.dadd x y) = .fin t c q := hf
  obtain ⟨s, c, q, ex⟩ := hx
  obtain ⟨t, d, r, ey⟩ := hy
  obtain ⟨s', c', q', ex'⟩ := hx'
  obtain ⟨t', d', r', ey'⟩ := hy'
  have fx := val64_fits x; have fy := val64_fits y; have fx' := val64_fits x'; have fy' := val64_fits y'
  rw [ex] at fx; rw [ey] at fy; rw [ex'] at fx'; rw [ey'] at fy'
  obtain ⟨sg, n, e, g1, g2, g3⟩ := FP.Core.sum_units fx fy
  obtain ⟨sg', n', e', g1', g2', g3'⟩ := FP.Core.sum_units fx' fy'
  have k : val64 (FP.Core.dadd x y) = FP.Core.round b64 (.fin sg n e) := by rw [FP.Core.val64_dadd, ex, ey, g1]
  have k' : val64 (FP.Core.dadd x' y') = FP.Core.round b64 (.fin sg' n' e') := by rw [FP.Core.val64_dadd, ex', ey', g1']
  unfold zv at h h0
  rw [ex, ey, ex', ey', ← g3, ← g3'] at h
  rw [ex, ey, ← g3] at h0
  rw [k] at hf
  rw [k, k']
  refine own_rmono (e0 := b64.qmin) (Int.le_refl _) g2 g2' hf ?_
  generalize inUnits n e b64.qmin = N at *
  generalize inUnits n' e' b64.qmin = N' at *
  cases sg <;> cases sg' <;> simp only [signed, if_true, Bool.false_eq_true, if_false] at h h0 <;> omega
theorem own_zn {x : UInt64} (h : 0 ≤ zv x) : zv x = ((zmag b64 (val64 x) : Nat) : Int) := by rw [← own_zabs x]; exact (Int.natAbs_of_nonneg h).symm
theorem own_mulz {x y x' y' : UInt64} {K : Nat} (hx : DFin x) (hy : DFin y) (hx' : DFin x') (hy' : DFin y') (px : 0 ≤ zv x) (py : 0 ≤ zv y) (px' : 0 ≤ zv x') (py' : 0 ≤ zv y') (B : Bn (FP.dmul x y) K) (B' : 0 ≤ zv (FP.dmul x' y')) (h : zv x * zv y ≤ zv x' * zv y') : zv (FP.dmul x y) ≤ zv (FP.dmul x' y') := by
  have e : ((zmag b64 (val64 x) * zmag b64 (val64 y) : Nat) : Int) ≤ ((zmag b64 (val64 x') * zmag b64 (val64 y') : Nat) : Int) := by
    rw [Int.natCast_mul, Int.natCast_mul, ← own_zn px, ← own_zn py, ← own_zn px', ← own_zn py']; exact h
  have q := own_mul_mono hx hy hx' hy' B.1 (Int.ofNat_le.mp e)
  rw [own_zn B.2.1, own_zn B']
  exact Int.ofNat_le.mpr q
theorem own_addz {x y x' y' : UInt64} {K : Nat} (hx : DFin x) (hy : DFin y) (hx' : DFin x') (hy' : DFin y') (B : Bn (FP.dadd x y) K) (B' : 0 ≤ zv (FP.dadd x' y')) (h0 : 0 ≤ zv x + zv y) (h : zv x + zv y ≤ zv x' + zv y') : zv (FP.dadd x y) ≤ zv (FP.dadd x' y') := by
  have q := own_add_mono hx hy hx' hy' B.1 h0 h
  rw [own_zn B.2.1, own_zn B']
  exact Int.ofNat_le.mpr q
theorem own_dle {x y : UInt64} (nx : val64 x ≠ .nan) (ny : val64 y ≠ .nan) (h : zv x ≤ zv y) : dle x y := by
  rcases Int.lt_or_eq_of_le h with q | q
  · exact Or.inl (FP.Core.dcmp_lt.mpr ⟨nx, ny, q⟩)
  · exact Or.inr (FP.Core.dcmp_eq.mpr ⟨nx, ny, q⟩)
end OwnN

theorem own_compact {s : State} {args : Array Value} (h0 : (Jvm.Cond.initializedFor "java/lang/String" "COMPACT_STRINGS" "Z").before args s = true) (h1 : (Jvm.Cond.isInt (.static "java/lang/String" "COMPACT_STRINGS" "Z")).before args s = true) (h2 : (Jvm.Cond.not (Jvm.Cond.eq (.static "java/lang/String" "COMPACT_STRINGS" "Z") (.int 0))).before args s = true) :
    ∃ z : Int32, ¬ (z = 0) ∧ Sta s s.heap "java/lang/String" "COMPACT_STRINGS" "Z" (.int z) := by
  obtain ⟨z, e⟩ := is_v (Cond.before_iff.mp h1)
  refine ⟨z, fun q => ?_, Sta.start e (Or.inl h0)⟩
  have n := not_v (Cond.before_iff.mp h2)
  have y := eq_i e (Term.int_eval 0) (by rw [q])
  exact absurd (y.symm.trans n) (by simp)
theorem own_empty {s : State} {args : Array Value} {C n d K : String} (h0 : (Jvm.Cond.initializedFor C n d).before args s = true) (hE : (Jvm.Cond.exactly (.static C n d) K).before args s = true) : ∃ a, Sta s s.heap C n d (.ref a) := by
  obtain ⟨a, c', cell, k, e1, -⟩ := Cond.exactly_spec hE
  exact ⟨a, Sta.start e1 (Or.inl h0)⟩
theorem own_ch (w : Int32) : ¬ ((255 : Int32) < nar .char ((w &&& (255 : Int32)).toUInt32.toUInt16.toUInt32.toInt32)) := by
  have m := c_mask w 255 8 (by decide) (by decide)
  have e : ((2 ^ 8 : Nat) : Int) = 256 := by decide
  rw [e] at m
  have a := c_i2c (w &&& 255)
  have b := c_i2c ((w &&& 255).toUInt32.toUInt16.toUInt32.toInt32)
  have e255 : (255 : Int32).toInt = 255 := by decide
  show ¬ ((255 : Int32) < ((w &&& 255).toUInt32.toUInt16.toUInt32.toInt32).toUInt32.toUInt16.toUInt32.toInt32)
  rw [Int32.lt_iff_toInt_lt]
  omega
theorem own_kk {w k : Int32} (q : (w &&& (255 : Int32)) + (1 : Int32) = k) : ¬ (k < (1 : Int32)) := by
  have m := c_mask w 255 8 (by decide) (by decide)
  have e : ((2 ^ 8 : Nat) : Int) = 256 := by decide
  rw [e] at m
  have a := c_iadd (w &&& 255) 1
  have e1 : (1 : Int32).toInt = 1 := by decide
  have r := rng32 k
  rw [q, e1] at a
  rw [Int32.lt_iff_toInt_lt, e1]
  omega
theorem own_ne (p : Int32) : 1 ≤ ((p &&& (65535 : Int32)) + (1 : Int32)).toInt ∧ ((p &&& (65535 : Int32)) + (1 : Int32)).toInt ≤ 65536 := by
  have m := c_mask p 65535 16 (by decide) (by decide)
  have e : ((2 ^ 16 : Nat) : Int) = 65536 := by decide
  rw [e] at m
  have a := c_iadd (p &&& 65535) 1
  have e1 : (1 : Int32).toInt = 1 := by decide
  have r := rng32 ((p &&& 65535) + 1)
  rw [e1] at a
  omega
theorem own_nl (p : Int32) : 0 ≤ (p &&& (1048575 : Int32)).toInt ∧ (p &&& (1048575 : Int32)).toInt ≤ 1048576 := by
  have m := c_mask p 1048575 20 (by decide) (by decide)
  have e : ((2 ^ 20 : Nat) : Int) = 1048576 := by decide
  rw [e] at m
  omega
theorem own_e6 {v l : UInt64} {n : Int} (q : FP.ddiv l (4634204016564240384 : UInt64) = v) (E : Dy l n 0) (h : 1 ≤ n ∧ n ≤ 65536) : Dy v n 6 := by
  rw [← q]
  exact E.div own_c4634204016564240384 (by omega) (by rw [show ((2 ^ (0 + 6) : Nat) : Int) = 64 from rfl, show ((2 ^ 0 : Nat) : Int) = 1 from rfl]; omega) (by omega) (by omega)
theorem own_l4 {v l : UInt64} {n : Int} (q : FP.ddiv l (4625196817309499392 : UInt64) = v) (E : Dy l n 0) (h : 0 ≤ n ∧ n ≤ 1048576) : Dy v n 4 := by
  rw [← q]
  exact E.div own_c4625196817309499392 (by omega) (by rw [show ((2 ^ (0 + 4) : Nat) : Int) = 16 from rfl, show ((2 ^ 0 : Nat) : Int) = 1 from rfl]; omega) (by omega) (by omega)
theorem own_posd {e : UInt64} {n : Int} (E : Dy e n 6) (h : 1 ≤ n ∧ n ≤ 65536) : dgt e (0 : UInt64) := by
  have z := own_z0
  exact FP.Core.dcmp_gt.mpr ⟨E.1.ne_nan, z.1.ne_nan, by have := E.pos (show 0 < n by omega); show zv 0 < zv e; rw [z.2]; exact this⟩
theorem own_ltinf {e : UInt64} {n : Int} (E : Dy e n 6) (h : 1 ≤ n ∧ n ≤ 65536) : dlt e (9218868437227405312 : UInt64) := by
  have hn : FP.Core.val64 (9218868437227405312 : UInt64) = .inf false := by decide +kernel
  refine FP.Core.dcmp_lt.mpr ⟨E.1.ne_nan, by rw [hn]; exact FP.Core.Datum.noConfusion, ?_⟩
  have p := own_zn (x := e) (Int.le_of_lt (E.pos (show 0 < n by omega)))
  have q := E.1.zval_lt
  show zv e < _
  rw [p, hn]
  show _ < ((FP.Core.b64.tails * 2 ^ (FP.Core.b64.exps - 2) : Nat) : Int)
  exact Int.ofNat_lt.mpr q
/-- the street's area by a constant c for pi -/
theorem own_den {c e l : UInt64} {n k : Int} (hc : Bn c 2) (hc1 : uu ≤ zv c) (E : Dy e n 6) (hn : 1 ≤ n ∧ n ≤ 65536) (L : Dy l k 4) (hk : 0 ≤ k ∧ k ≤ 1048576) :
    (NoNaN64 (FP.dmul (4611686018427387904 : UInt64) e) ∧ NoNaN64 (FP.dmul (FP.dmul (4611686018427387904 : UInt64) e) l) ∧ NoNaN64 (FP.dmul c e) ∧ NoNaN64 (FP.dmul (FP.dmul c e) e) ∧ NoNaN64 (FP.dadd (FP.dmul (FP.dmul (4611686018427387904 : UInt64) e) l) (FP.dmul (FP.dmul c e) e))) ∧ (Bn (FP.dadd (FP.dmul (FP.dmul (4611686018427387904 : UInt64) e) l) (FP.dmul (FP.dmul c e) e)) 28 ∧ uu ≤ zv (FP.dadd (FP.dmul (FP.dmul (4611686018427387904 : UInt64) e) l) (FP.dmul (FP.dmul c e) e)) * 4096) ∧ Bn (FP.dmul c e) 12 ∧ Bn (FP.dmul (FP.dmul c e) e) 22 ∧ Bn (FP.dmul (FP.dmul (4611686018427387904 : UInt64) e) l) 27 ∧ Bn e 10 := by
  have BE : Bn e 10 := E.bn (by omega) (by have : ((2 ^ (10 + 6) : Nat) : Int) = 65536 := (by decide); omega)
  have BL : Bn l 16 := L.bn (by omega) (by have : ((2 ^ (16 + 4) : Nat) : Int) = 1048576 := (by decide); omega)
  have B2 : Bn (4611686018427387904 : UInt64) 1 := own_c4611686018427387904.bn (by decide) (by decide)
  have a1 : Bn (FP.dmul (4611686018427387904 : UInt64) e) 11 := Bn.mul (K := 1) (J := 10) B2 BE (by decide)
  have a2 : Bn (FP.dmul (FP.dmul (4611686018427387904 : UInt64) e) l) 27 := Bn.mul (K := 11) (J := 16) a1 BL (by decide)
  have b1 : Bn (FP.dmul c e) 12 := Bn.mul (K := 2) (J := 10) hc BE (by decide)
  have b2 : Bn (FP.dmul (FP.dmul c e) e) 22 := Bn.mul (K := 12) (J := 10) b1 BE (by decide)
  have d : Bn (FP.dadd (FP.dmul (FP.dmul (4611686018427387904 : UInt64) e) l) (FP.dmul (FP.dmul c e) e)) 28 := Bn.add (K := 27) a2 (b2.mono (by decide)) (by decide)
  refine ⟨⟨a1.nn, a2.nn, b1.nn, b2.nn, d.nn⟩, ⟨d, ?_⟩, b1, b2, a2, BE⟩
  have lE : uu ≤ zv e * 64 := by have := E.lo hn.1; rwa [show ((2 ^ 6 : Nat) : Int) = 64 from rfl] at this
  have c1 : zv e ≤ zv (FP.dmul c e) := own_mul_ge hc.1 E.1 E.1.ne_nan (by rw [Int.mul_comm (zv c)]; exact Int.mul_le_mul_of_nonneg_left hc1 BE.2.1)
  obtain ⟨W, fW, eW⟩ := own_rep 1 12 (by decide) (by decide)
  rw [show ((2 ^ 12 : Nat) : Int) = 4096 from rfl, Int.one_mul] at eW
  have c2 : zv W ≤ zv (FP.dmul (FP.dmul c e) e) := by
    refine own_mul_ge b1.1 E.1 fW.ne_nan ?_
    have p1 : uu * uu ≤ (zv e * 64) * (zv e * 64) := Int.mul_le_mul lE lE (Int.le_of_lt uu_pos) (Int.le_trans (Int.le_of_lt uu_pos) lE)
    have p2 : zv e * zv e ≤ zv (FP.dmul c e) * zv e := Int.mul_le_mul_of_nonneg_right c1 BE.2.1
    have p3 : (zv e * 64) * (zv e * 64) = (zv e * zv e) * (64 * 64) := by generalize zv e = y; ac_rfl
    have p4 : zv W * uu * 4096 = uu * uu := by rw [Int.mul_right_comm, eW]
    rw [p3] at p1
    generalize zv W * uu = x at *
    generalize zv e * zv e = y at *
    generalize zv (FP.dmul c e) * zv e = t at *
    generalize uu * uu = u at *
    omega
  have c3 := own_add_ge a2.1 b2.1 fW.ne_nan (Int.le_trans c2 (by have := a2.2.1; omega))
  rw [← eW]
  omega
theorem own_denz {c c' e l : UInt64} {n k : Int} (hc : Bn c 2) (hc1 : uu ≤ zv c) (hc' : Bn c' 2) (hc1' : uu ≤ zv c') (h : zv c ≤ zv c') (E : Dy e n 6) (hn : 1 ≤ n ∧ n ≤ 65536) (L : Dy l k 4) (hk : 0 ≤ k ∧ k ≤ 1048576) : zv (FP.dadd (FP.dmul (FP.dmul (4611686018427387904 : UInt64) e) l) (FP.dmul (FP.dmul c e) e)) ≤ zv (FP.dadd (FP.dmul (FP.dmul (4611686018427387904 : UInt64) e) l) (FP.dmul (FP.dmul c' e) e)) := by
  obtain ⟨-, ⟨d, -⟩, b1, b2, a2, BE⟩ := own_den hc hc1 E hn L hk
  obtain ⟨-, ⟨d', -⟩, b1', b2', -, -⟩ := own_den hc' hc1' E hn L hk
  have m1 : zv (FP.dmul c e) ≤ zv (FP.dmul c' e) := own_mulz hc.1 E.1 hc'.1 E.1 hc.2.1 BE.2.1 hc'.2.1 BE.2.1 b1 b1'.2.1 (Int.mul_le_mul_of_nonneg_right h BE.2.1)
  have m2 : zv (FP.dmul (FP.dmul c e) e) ≤ zv (FP.dmul (FP.dmul c' e) e) := own_mulz b1.1 E.1 b1'.1 E.1 b1.2.1 BE.2.1 b1'.2.1 BE.2.1 b2 b2'.2.1 (Int.mul_le_mul_of_nonneg_right m1 BE.2.1)
  exact own_addz a2.1 b2.1 a2.1 b2'.1 d d'.2.1 (Int.add_nonneg a2.2.1 b2.2.1) (Int.add_le_add_left m2 _)
theorem own_mass (a : Int64) : FP.Core.zmag FP.Core.b64 (FP.Core.val64 (FP.l2d a)) ≤ 9223372036854775808 * FP.Core.one64 := by
  have V := own_c4890909195324358656
  have e : zv (4890909195324358656 : UInt64) = 9223372036854775808 * uu := by have s := V.2; rwa [show ((2 ^ 0 : Nat) : Int) = 1 from rfl, Int.mul_one] at s
  obtain ⟨W, fW, eW⟩ : ∃ W : UInt64, FP.Core.DFin W ∧ zv W = -9223372036854775808 * uu := ⟨(14114281232179134464 : UInt64), ⟨true, 4503599627370496, 11, by decide +kernel⟩, by decide +kernel⟩
  have u := uu_pos
  have lo := a.le_toInt; have hi := a.toInt_lt
  have h1 : zv (FP.l2d a) ≤ zv (4890909195324358656 : UInt64) := FP.Core.l2d_zval_le V.1.ne_nan (by show a.toInt * uu ≤ zv _; rw [e]; exact Int.mul_le_mul_of_nonneg_right (by omega) (Int.le_of_lt u))
  have h2 : zv W ≤ zv (FP.l2d a) := FP.Core.l2d_zval_ge fW.ne_nan (by show zv _ ≤ a.toInt * uu; rw [eW]; exact Int.mul_le_mul_of_nonneg_right (by omega) (Int.le_of_lt u))
  rw [e] at h1; rw [eW] at h2
  have z := own_zabs (FP.l2d a)
  have e' : uu = ((FP.Core.one64 : Nat) : Int) := rfl
  rw [e'] at h1 h2
  rw [← z]
  generalize zv (FP.l2d a) = x at *
  generalize FP.Core.one64 = w at *
  omega
theorem own_quot {m y y' : UInt64} (fm : FP.Core.DFin m) (hm : FP.Core.zmag FP.Core.b64 (FP.Core.val64 m) ≤ 9223372036854775808 * FP.Core.one64) (Y : FP.Core.DFin y) (Y' : FP.Core.DFin y') (l : uu ≤ zv y * 4096) (l' : uu ≤ zv y' * 4096) (h : zv y' ≤ zv y) :
    (FP.Core.zmag FP.Core.b64 (FP.Core.val64 (FP.ddiv m y)) ≤ FP.Core.zmag FP.Core.b64 (FP.Core.val64 (FP.ddiv m y'))) ∧ NoNaN64 (FP.ddiv m y) := by
  have u := uu_pos
  have p : 0 < zv y := by generalize zv y = a at *; omega
  have p' : 0 < zv y' := by generalize zv y' = a at *; omega
  have hz := own_notz Y p
  have hz' := own_notz Y' p'
  have nn := own_nn_div fm Y hz
  have V := own_c4967470388989657088
  have eV : zv (4967470388989657088 : UInt64) = 1208925819614629174706176 * uu := by have s := V.2; rwa [show ((2 ^ 0 : Nat) : Int) = 1 from rfl, Int.mul_one] at s
  have zV := own_zn (x := (4967470388989657088 : UInt64)) (by rw [eV]; omega)
  have zy := own_zn (Int.le_of_lt p)
  have zy' := own_zn (Int.le_of_lt p')
  have e' : uu = ((FP.Core.one64 : Nat) : Int) := rfl
  have f : FP.Core.DFin (FP.ddiv m y) := by
    refine own_fin_le nn V.1 ?_
    rw [own_zabs, own_zabs]
    refine own_div_mag_le fm Y hz V.1.ne_nan ?_
    rw [zV, e'] at eV
    rw [zy, e'] at l
    generalize FP.Core.zmag FP.Core.b64 (FP.Core.val64 m) = zm at *
    generalize FP.Core.zmag FP.Core.b64 (FP.Core.val64 y) = wy at *
    generalize FP.Core.zmag FP.Core.b64 (FP.Core.val64 (4967470388989657088 : UInt64)) = wv at *
    generalize FP.Core.one64 = w at *
    have a1 : zm ≤ 1208925819614629174706176 * wy := by omega
    have a2 : wv = 1208925819614629174706176 * w := by omega
    rw [a2, Nat.mul_right_comm]
    exact Nat.mul_le_mul_right w a1
  refine ⟨own_div_mono fm Y hz fm Y' hz' f ?_, Fl.val64_no.mpr nn⟩
  refine Nat.mul_le_mul_left _ ?_
  rw [zy, zy'] at h
  exact Int.ofNat_le.mp h
theorem own_sd {m y : UInt64} (fm : FP.Core.DFin m) (Y : FP.Core.DFin y) (l : uu ≤ zv y * 4096) : FP.Core.sgn (FP.Core.val64 (FP.ddiv m y)) = FP.Core.sgn (FP.Core.val64 m) := by
  have u := uu_pos
  have p : 0 < zv y := by generalize zv y = a at *; omega
  rw [own_sgn_div fm Y (own_notz Y p), (own_possg p).1]
  cases FP.Core.sgn (FP.Core.val64 m) <;> rfl
theorem own_qz {m y y' : UInt64} (fm : FP.Core.DFin m) (hm : FP.Core.zmag FP.Core.b64 (FP.Core.val64 m) ≤ 9223372036854775808 * FP.Core.one64) (Y : FP.Core.DFin y) (Y' : FP.Core.DFin y') (l : uu ≤ zv y * 4096) (l' : uu ≤ zv y' * 4096) (h : zv y' ≤ zv y) :
    (FP.Core.sgn (FP.Core.val64 m) = false → dle (FP.ddiv m y) (FP.ddiv m y')) ∧ (FP.Core.sgn (FP.Core.val64 m) = true → dle (FP.ddiv m y') (FP.ddiv m y)) := by
  obtain ⟨q, n⟩ := own_quot fm hm Y Y' l l' h
  have n' := (own_quot fm hm Y' Y' l' l' (Int.le_refl _)).2
  have s := own_sd fm Y l
  have s' := own_sd fm Y' l'
  have N := Fl.val64_no.mp n; have N' := Fl.val64_no.mp n'
  constructor
  · intro g
    refine own_dle N N' ?_
    unfold zv FP.Core.zval
    rw [s, s', g]
    simp only [FP.Core.signed, Bool.false_eq_true, if_false]
    exact Int.ofNat_le.mpr q
  · intro g
    refine own_dle N' N ?_
    unfold zv FP.Core.zval
    rw [s, s', g]
    simp only [FP.Core.signed, if_true]
    have := Int.ofNat_le.mpr q
    omega
theorem own_sgl (a : Int64) : (¬ a < (0 : Int64) → FP.Core.sgn (FP.Core.val64 (FP.l2d a)) = false) ∧ (a < (0 : Int64) → FP.Core.sgn (FP.Core.val64 (FP.l2d a)) = true) := by
  obtain ⟨c, q, e⟩ := FP.Core.l2d_shape a
  have e' : FP.Core.val64 (FP.l2d a) = .fin (decide (a.toInt < 0)) c q := e
  have z : (0 : Int64).toInt = 0 := by decide
  rw [e', Int64.lt_iff_toInt_lt, z]
  exact ⟨fun h => decide_eq_false h, fun h => decide_eq_true h⟩
theorem own_bnc {c : UInt64} {n : Int} {k : Nat} (E : Dy c n k) (h0 : 0 ≤ n) (h1 : n ≤ ((2 ^ (2 + k) : Nat) : Int)) (h2 : ((2 ^ k : Nat) : Int) ≤ n) : Bn c 2 ∧ uu ≤ zv c := by
  refine ⟨E.bn h0 h1, ?_⟩
  refine Int.le_of_mul_le_mul_right (a := ((2 ^ k : Nat) : Int)) ?_ (own_pk k)
  rw [E.2, Int.mul_comm]
  exact Int.mul_le_mul_of_nonneg_right h2 (Int.le_of_lt uu_pos)
theorem own_bLO : Bn (4614253070214989087 : UInt64) 2 ∧ uu ≤ zv (4614253070214989087 : UInt64) := own_bnc own_c4614253070214989087 (by decide +kernel) (by decide +kernel) (by decide +kernel)
theorem own_bPI : Bn (4614256656552045848 : UInt64) 2 ∧ uu ≤ zv (4614256656552045848 : UInt64) := own_bnc own_c4614256656552045848 (by decide +kernel) (by decide +kernel) (by decide +kernel)
theorem own_bHI : Bn (4614275588213125939 : UInt64) 2 ∧ uu ≤ zv (4614275588213125939 : UInt64) := own_bnc own_c4614275588213125939 (by decide +kernel) (by decide +kernel) (by decide +kernel)
theorem own_lp : zv (4614253070214989087 : UInt64) ≤ zv (4614256656552045848 : UInt64) := by decide +kernel
theorem own_ph : zv (4614256656552045848 : UInt64) ≤ zv (4614275588213125939 : UInt64) := by decide +kernel
theorem own_all {e l : UInt64} {n k : Int} {a : Int64} (E : Dy e n 6) (hn : 1 ≤ n ∧ n ≤ 65536) (L : Dy l k 4) (hk : 0 ≤ k ∧ k ≤ 1048576) :
    (¬ a < (0 : Int64) → dle (FP.ddiv (FP.l2d a) (FP.dadd (FP.dmul (FP.dmul (4611686018427387904 : UInt64) e) l) (FP.dmul (FP.dmul (4614275588213125939 : UInt64) e) e))) (FP.ddiv (FP.l2d a) (FP.dadd (FP.dmul (FP.dmul (4611686018427387904 : UInt64) e) l) (FP.dmul (FP.dmul (4614256656552045848 : UInt64) e) e))) ∧ dle (FP.ddiv (FP.l2d a) (FP.dadd (FP.dmul (FP.dmul (4611686018427387904 : UInt64) e) l) (FP.dmul (FP.dmul (4614256656552045848 : UInt64) e) e))) (FP.ddiv (FP.l2d a) (FP.dadd (FP.dmul (FP.dmul (4611686018427387904 : UInt64) e) l) (FP.dmul (FP.dmul (4614253070214989087 : UInt64) e) e)))) ∧ (a < (0 : Int64) → dle (FP.ddiv (FP.l2d a) (FP.dadd (FP.dmul (FP.dmul (4611686018427387904 : UInt64) e) l) (FP.dmul (FP.dmul (4614253070214989087 : UInt64) e) e))) (FP.ddiv (FP.l2d a) (FP.dadd (FP.dmul (FP.dmul (4611686018427387904 : UInt64) e) l) (FP.dmul (FP.dmul (4614256656552045848 : UInt64) e) e))) ∧ dle (FP.ddiv (FP.l2d a) (FP.dadd (FP.dmul (FP.dmul (4611686018427387904 : UInt64) e) l) (FP.dmul (FP.dmul (4614256656552045848 : UInt64) e) e))) (FP.ddiv (FP.l2d a) (FP.dadd (FP.dmul (FP.dmul (4611686018427387904 : UInt64) e) l) (FP.dmul (FP.dmul (4614275588213125939 : UInt64) e) e)))) := by
  obtain ⟨-, ⟨d1, l1⟩, -⟩ := own_den own_bLO.1 own_bLO.2 E hn L hk
  obtain ⟨-, ⟨d2, l2⟩, -⟩ := own_den own_bPI.1 own_bPI.2 E hn L hk
  obtain ⟨-, ⟨d3, l3⟩, -⟩ := own_den own_bHI.1 own_bHI.2 E hn L hk
  have z1 := own_denz own_bLO.1 own_bLO.2 own_bPI.1 own_bPI.2 own_lp E hn L hk
  have z2 := own_denz own_bPI.1 own_bPI.2 own_bHI.1 own_bHI.2 own_ph E hn L hk
  have fm : FP.Core.DFin (FP.l2d a) := FP.Core.l2d_fin a
  have q1 := own_qz fm (own_mass a) d2.1 d1.1 l2 l1 z1
  have q2 := own_qz fm (own_mass a) d3.1 d2.1 l3 l2 z2
  have s := own_sgl a
  exact ⟨fun h => ⟨q2.1 (s.1 h), q1.1 (s.1 h)⟩, fun h => ⟨q1.2 (s.2 h), q2.2 (s.2 h)⟩⟩
theorem own_nnq {c e l : UInt64} {n k : Int} {a : Int64} (hc : Bn c 2 ∧ uu ≤ zv c) (E : Dy e n 6) (hn : 1 ≤ n ∧ n ≤ 65536) (L : Dy l k 4) (hk : 0 ≤ k ∧ k ≤ 1048576) : NoNaN64 (FP.ddiv (FP.l2d a) (FP.dadd (FP.dmul (FP.dmul (4611686018427387904 : UInt64) e) l) (FP.dmul (FP.dmul c e) e))) := by
  obtain ⟨-, ⟨d, l1⟩, -⟩ := own_den hc.1 hc.2 E hn L hk
  exact (own_quot (FP.Core.l2d_fin a) (own_mass a) d.1 d.1 l1 l1 (Int.le_refl _)).2

theorem ef5 (m : MethodId) (x0 : Addr) (x2 : Addr) : entryFrame m #[(.ref x0), (.int (0 : Int32)), (.ref x2), (.int (0 : Int32)), (.int (1 : Int32))] 7 = mkF m 0 #[.val (.ref x0), .val (.int (0 : Int32)), .val (.ref x2), .val (.int (0 : Int32)), .val (.int (1 : Int32)), .unset, .unset] [] := by first | (simp [entryFrame, mkF, argsToLocals, Value.category]; done) | rfl
def Q5 (Z : State) (o0 : Addr) (o2 : Addr) (ch : Int32) (byt : Int32) (h0 : Heap) (n0 : Nat) (v : Option Value) (h : Heap) (L : List Loc) : Prop := v = some (.int (1 : Int32)) ∧ Fr n0 L ∧ Keep h0 h [o2] ∧ Ary tr Z h o2 .byte [(.int (nar .byte (ch.toInt8.toInt32)))]
set_option maxRecDepth 65536 in
set_option maxHeartbeats 40000000 in
theorem rm5 (l : Launch) (Z : State) (a0 : Array Value) (hw : ∀ d ∈ tables_1, d.before a0 Z = true) (ws : List Jvm.Cond) (o0 : Addr) (o2 : Addr) (ch : Int32) (byt : Int32) (h0 : Heap) (n0 : Nat) (Z0 : n0 ≤ h0.size) (V_o0 : Ary tr Z h0 o0 .char [(.int ch)]) (V_o2 : Ary tr Z h0 o2 .byte [(.int byt)]) (hle : (¬ ((255 : Int32) < ch))) (g_o2 : n0 ≤ o2) (ne_o0_o2 : o0 ≠ o2) :
    MetFree l (⟨"java/lang/StringUTF16", "compress", "([CI[BII)I"⟩ : MethodName) (head1 (Jvm.Cond.code (⟨"java/lang/StringUTF16", "compress", "([CI[BII)I"⟩ : MethodName) jdk_52_method_21_code 7 (some .int) :: ws) ({ frames := 0, cells := 0, slots := 0, locals := 0 } : Room)) (fun a U => a = #[(.ref o0), (.int (0 : Int32)), (.ref o2), (.int (0 : Int32)), (.int (1 : Int32))] ∧ Z.Warmed39 U.vm ∧ U.heap = h0) (fun _ _ _ _ _ => True) (fun _ U o U' => ∃ v L, o = .returned v ∧ Q5 Z o0 o2 ch byt h0 n0 v U'.heap L ∧ FrameEnd U o U' L ({ frames := 0, cells := 0, slots := 0, locals := 0 } : Room).cells ({ frames := 0, cells := 0, slots := 0, locals := 0 } : Room).slots) := by
  refine MetFree.of_bodySF (plainFor_of_name pn_java_lang_StringUTF16) hisR ?_
  intro p e s m args below meth c s₁ Bd hml0 hP hK
  obtain ⟨rfl, hZ, hh⟩ := hP
  have hx := Bd.exec
  have hby := Bd.bytes
  have hml : c.maxLocals = 7 := hml0
  have hown : s.vm.findClass "java/lang/StringUTF16" = some m.cls := findClass_of_methodNamed Bd.named
  have hnm := (name_of_methodNamed Bd.named Bd.method).1
  have X0 : Stand p l e ({ frames := 0, cells := 0, slots := 0, locals := 0 } : Room) s m #[(.ref o0), (.int (0 : Int32)), (.ref o2), (.int (0 : Int32)), (.int (1 : Int32))] below meth c s₁ [] 0 0 := Stand.of_body Bd
  have eH0 : s₁.heap = h0 := by rw [← hh, Bd.state]; rfl
  have N0 := Fr.nil n0
  have K0 := Keep.refl h0 [o2]
  show Gt p.tables e below (fun o U' => ∃ v L, o = .returned v ∧ Q5 Z o0 o2 ch byt h0 n0 v U'.heap L ∧ FrameEnd s o U' L ({ frames := 0, cells := 0, slots := 0, locals := 0 } : Room).cells ({ frames := 0, cells := 0, slots := 0, locals := 0 } : Room).slots) _
  refine own_cast (ef5 m o0 o2) ?_
  refine own_iconst X0 hx hby (v := (0 : Int32)) (by decide) d5_0 (pc' := 1) rfl ?_
  refine own_istore X0 hx hby (L' := #[.val (.ref o0), .val (.int (0 : Int32)), .val (.ref o2), .val (.int (0 : Int32)), .val (.int (1 : Int32)), .val (.int (0 : Int32)), .unset]) rfl d5_1 (pc' := 3) rfl ?_
  refine own_iload X0 hx hby rfl d5_3 (pc' := 5) rfl ?_
  refine own_iload X0 hx hby rfl d5_5 (pc' := 7) rfl ?_
  refine own_icF X0 hx hby d5_7 (by decide) (pc' := 10) rfl ?_
  refine own_aloadN X0 hx hby rfl rfl d5_10 (pc' := 11) rfl ?_
  refine own_iloadN X0 hx hby rfl d5_11 (pc' := 12) rfl ?_
  refine own_caload X0 hx hby hZ eH0 V_o0 (by decide) (v := (.int ch)) rfl d5_12 (pc' := 13) rfl ?_
  refine own_istore X0 hx hby (L' := #[.val (.ref o0), .val (.int (0 : Int32)), .val (.ref o2), .val (.int (0 : Int32)), .val (.int (1 : Int32)), .val (.int (0 : Int32)), .val (.int ch)]) rfl d5_13 (pc' := 15) rfl ?_
  refine own_iload X0 hx hby rfl d5_15 (pc' := 17) rfl ?_
  refine own_sipush X0 hx hby (v := (255 : Int32)) (by decide) d5_17 (pc' := 20) rfl ?_
  refine own_icT X0 hx hby d5_20 (own_ic_le_n hle) (by decide) (pc' := 26) (by decide) ?_
  refine own_aloadN X0 hx hby rfl rfl d5_26 (pc' := 27) rfl ?_
  refine own_iloadN X0 hx hby rfl d5_27 (pc' := 28) rfl ?_
  refine own_iload X0 hx hby rfl d5_28 (pc' := 30) rfl ?_
  refine own_i2b X0 hx hby rfl d5_30 (pc' := 31) rfl ?_
  refine own_bastore X0 hx hby hZ eH0 V_o2 (by decide) (n := 0) (by decide) (of_decide_eq_true rfl) d5_31 (pc' := 32) rfl (fun T1 h1 X1 eH1 W1 => ?_)
  replace V_o0 := V_o0.other W1 ne_o0_o2
  have N1 := Fr.snoc X1 N0 g_o2
  replace K0 := K0.wr W1 (Or.inl (by simp))
  replace Z0 := Nat.le_trans Z0 (Nat.le_of_eq W1.size.symm)
  replace V_o2 : Ary tr Z h1 o2 .byte [(.int (nar .byte (ch.toInt8.toInt32)))] := V_o2.set W1
  refine own_iinc X1 hx hby rfl (L' := #[.val (.ref o0), .val (.int (1 : Int32)), .val (.ref o2), .val (.int (0 : Int32)), .val (.int (1 : Int32)), .val (.int (0 : Int32)), .val (.int ch)]) rfl d5_32 (pc' := 35) rfl ?_
  refine own_iinc X1 hx hby rfl (L' := #[.val (.ref o0), .val (.int (1 : Int32)), .val (.ref o2), .val (.int (1 : Int32)), .val (.int (1 : Int32)), .val (.int (0 : Int32)), .val (.int ch)]) rfl d5_35 (pc' := 38) rfl ?_
  refine own_iinc X1 hx hby rfl (L' := #[.val (.ref o0), .val (.int (1 : Int32)), .val (.ref o2), .val (.int (1 : Int32)), .val (.int (1 : Int32)), .val (.int (1 : Int32)), .val (.int ch)]) rfl d5_38 (pc' := 41) rfl ?_
  refine own_goto X1 hx hby d5_41 (by decide) (pc' := 3) (by decide) ?_
  refine own_iload X1 hx hby rfl d5_3 (pc' := 5) rfl ?_
  refine own_iload X1 hx hby rfl d5_5 (pc' := 7) rfl ?_
  refine own_icT X1 hx hby d5_7 (by decide) (by decide) (pc' := 44) (by decide) ?_
  refine own_iload X1 hx hby rfl d5_44 (pc' := 46) rfl ?_
  exact own_retI X1 hx hby Bd.notSynchronized Bd.returns d5_46 (by decide) (by decide) eH1 ⟨rfl, N1, K0, V_o2⟩
theorem ef4 (m : MethodId) (x0 : Addr) : entryFrame m #[(.ref x0), (.int (0 : Int32)), (.int (1 : Int32))] 6 = mkF m 0 #[.val (.ref x0), .val (.int (0 : Int32)), .val (.int (1 : Int32)), .unset, .unset, .unset] [] := by first | (simp [entryFrame, mkF, argsToLocals, Value.category]; done) | rfl
def Q4 (Z : State) (o0 : Addr) (ch : Int32) (h0 : Heap) (n0 : Nat) (v : Option Value) (h : Heap) (L : List Loc) : Prop := ∃ b1 : Addr, v = some (.ref b1) ∧ Fr n0 L ∧ Keep h0 h [] ∧ h0.size ≤ b1 ∧ Exa Z h b1 "[B" ∧ Ary tr Z h b1 .byte [(.int (nar .byte (ch.toInt8.toInt32)))]
set_option maxRecDepth 65536 in
set_option maxHeartbeats 40000000 in
theorem rm4 (l : Launch) (Z : State) (a0 : Array Value) (hw : ∀ d ∈ tables_1, d.before a0 Z = true) (ws : List Jvm.Cond) (o0 : Addr) (ch : Int32) (h0 : Heap) (n0 : Nat) (Z0 : n0 ≤ h0.size) (V_o0 : Ary tr Z h0 o0 .char [(.int ch)]) (hle_9 : (¬ ((255 : Int32) < ch))) :
    MetFree l (⟨"java/lang/StringUTF16", "compress", "([CII)[B"⟩ : MethodName) (head1 (Jvm.Cond.code (⟨"java/lang/StringUTF16", "compress", "([CII)[B"⟩ : MethodName) jdk_52_method_16_code 6 (some (.array .byte)) :: ws) ({ frames := 1, cells := 1, slots := 1, locals := 18 } : Room)) (fun a U => a = #[(.ref o0), (.int (0 : Int32)), (.int (1 : Int32))] ∧ Z.Warmed39 U.vm ∧ U.heap = h0) (fun _ _ _ _ _ => True) (fun _ U o U' => ∃ v L, o = .returned v ∧ Q4 Z o0 ch h0 n0 v U'.heap L ∧ FrameEnd U o U' L ({ frames := 1, cells := 1, slots := 1, locals := 18 } : Room).cells ({ frames := 1, cells := 1, slots := 1, locals := 18 } : Room).slots) := by
  refine MetFree.of_bodySF (plainFor_of_name pn_java_lang_StringUTF16) hisR ?_
  intro p e s m args below meth c s₁ Bd hml0 hP hK
  obtain ⟨rfl, hZ, hh⟩ := hP
  have hx := Bd.exec
  have hby := Bd.bytes
  have hml : c.maxLocals = 6 := hml0
  have hown : s.vm.findClass "java/lang/StringUTF16" = some m.cls := findClass_of_methodNamed Bd.named
  have hnm := (name_of_methodNamed Bd.named Bd.method).1
  have X0 : Stand p l e ({ frames := 1, cells := 1, slots := 1, locals := 18 } : Room) s m #[(.ref o0), (.int (0 : Int32)), (.int (1 : Int32))] below meth c s₁ [] 0 0 := Stand.of_body Bd
  have eH0 : s₁.heap = h0 := by rw [← hh, Bd.state]; rfl
  have N0 := Fr.nil n0
  have K0 := Keep.refl h0 []
  show Gt p.tables e below (fun o U' => ∃ v L, o = .returned v ∧ Q4 Z o0 ch h0 n0 v U'.heap L ∧ FrameEnd s o U' L ({ frames := 1, cells := 1, slots := 1, locals := 18 } : Room).cells ({ frames := 1, cells := 1, slots := 1, locals := 18 } : Room).slots) _
  refine own_cast (ef4 m o0) ?_
  refine own_iloadN X0 hx hby rfl d4_0 (pc' := 1) rfl ?_
  refine own_newP X0 hx hby hZ (hw _ (List.mem_of_getElem? (i := 26) rfl)) eH0 d4_1 (pc' := 3) rfl (by decide) (N := 1) (by decide) (cap := 1) (by decide) (by decide) (by decide) (by decide) (ad := "[B") (by decide) (fun T1 h1 b1 X1 eH1 E1 g1 E_b1 V_b1 => ?_)
  have g_b1 : n0 ≤ b1 := g1 ▸ Z0
  have sz_b1 : h0.size ≤ b1 := g1 ▸ K0.1
  have ne_o0_b1 : o0 ≠ b1 := Nat.ne_of_lt (g1 ▸ V_o0.lt)
  replace V_o0 := V_o0.ext E1
  replace K0 := K0.ext E1
  replace Z0 := Nat.le_trans Z0 E1.1
  have V_b1 : Ary tr Z h1 b1 .byte [(.int (0 : Int32))] := V_b1
  refine own_astoreN X1 hx hby rfl (L' := #[.val (.ref o0), .val (.int (0 : Int32)), .val (.int (1 : Int32)), .val (.ref b1), .unset, .unset]) rfl d4_3 (pc' := 4) rfl ?_
  refine own_aloadN X1 hx hby rfl rfl d4_4 (pc' := 5) rfl ?_
  refine own_iloadN X1 hx hby rfl d4_5 (pc' := 6) rfl ?_
  refine own_aloadN X1 hx hby rfl rfl d4_6 (pc' := 7) rfl ?_
  refine own_iconst X1 hx hby (v := (0 : Int32)) (by decide) d4_7 (pc' := 8) rfl ?_
  refine own_iloadN X1 hx hby rfl d4_8 (pc' := 9) rfl ?_
  refine own_static X1 hx hby hZ (y := (⟨"java/lang/StringUTF16", "compress", "([CI[BII)I"⟩ : MethodName)) (rest := []) hown (hw _ (List.mem_of_getElem? (i := 27) rfl)) (hw _ (List.mem_of_getElem? (i := 28) rfl)) (hw _ (List.mem_of_getElem? (i := 29) rfl)) (hw _ (List.mem_of_getElem? (i := 24) rfl)) (by decide) (rm5 l Z a0 hw [] o0 b1 ch (0 : Int32) h1 n0 Z0 V_o0 V_b1 hle_9 g_b1 ne_o0_b1) eH1 (by rw [hml]; rfl) (argsL := [(.ref o0), (.int (0 : Int32)), (.ref b1), (.int (0 : Int32)), (.int (1 : Int32))]) rfl (lenOf pd_0 rfl) rfl d4_9 (pc' := 12) rfl (by decide) (W := 0) (Nat.le_of_eq rfl) (by decide) (by decide) (by decide) (fun T2 h2 Lc2 v2r X2 eH2 hQ2 => ?_)
  obtain ⟨rfl, Nq2, Kq2, gq2_0⟩ := hQ2
  have N2 := Fr.app N0 Nq2
  replace V_o0 := V_o0.keep Kq2 (ninS ne_o0_b1 nin0)
  replace E_b1 := E_b1.keep Kq2
  replace K0 := K0.trans Kq2 (allS (Or.inr sz_b1) all0)
  have V_b1 := gq2_0
  replace Z0 := Nat.le_trans Z0 Kq2.1
  refine own_istore X2 hx hby (L' := #[.val (.ref o0), .val (.int (0 : Int32)), .val (.int (1 : Int32)), .val (.ref b1), .val (.int (1 : Int32)), .unset]) rfl d4_12 (pc' := 14) rfl ?_
  refine own_iload X2 hx hby rfl d4_14 (pc' := 16) rfl ?_
  refine own_iloadN X2 hx hby rfl d4_16 (pc' := 17) rfl ?_
  refine own_icT X2 hx hby d4_17 (by decide) (by decide) (pc' := 57) (by decide) ?_
  refine own_aloadN X2 hx hby rfl rfl d4_57 (pc' := 58) rfl ?_
  exact own_retA X2 hx hby Bd.notSynchronized Bd.returns rfl rfl d4_58 (by decide) (by decide) eH2 ⟨b1, rfl, N2, K0, sz_b1, E_b1, V_b1⟩
theorem ef6 (m : MethodId) (x0 : Addr) : entryFrame m #[(.ref x0), (.int (1 : Int32))] 2 = mkF m 0 #[.val (.ref x0), .val (.int (1 : Int32))] [] := by first | (simp [entryFrame, mkF, argsToLocals, Value.category]; done) | rfl
def Q6 (Z : State) (o0 : Addr) (byt : Int32) (h0 : Heap) (n0 : Nat) (v : Option Value) (h : Heap) (L : List Loc) : Prop := v = some (.int (0 : Int32)) ∧ Fr n0 L ∧ h0 = h
set_option maxRecDepth 65536 in
set_option maxHeartbeats 40000000 in
theorem rm6 (l : Launch) (Z : State) (a0 : Array Value) (hw : ∀ d ∈ tables_1, d.before a0 Z = true) (ws : List Jvm.Cond) (o0 : Addr) (byt : Int32) (h0 : Heap) (n0 : Nat) (Z0 : n0 ≤ h0.size) (V_o0 : Ary tr Z h0 o0 .byte [(.int byt)]) :
    MetFree l (⟨"java/lang/StringUTF16", "coderFromArrayLen", "([BI)B"⟩ : MethodName) (head1 (Jvm.Cond.code (⟨"java/lang/StringUTF16", "coderFromArrayLen", "([BI)B"⟩ : MethodName) jdk_52_method_15_code 2 (some .byte) :: ws) ({ frames := 0, cells := 0, slots := 0, locals := 0 } : Room)) (fun a U => a = #[(.ref o0), (.int (1 : Int32))] ∧ Z.Warmed39 U.vm ∧ U.heap = h0) (fun _ _ _ _ _ => True) (fun _ U o U' => ∃ v L, o = .returned v ∧ Q6 Z o0 byt h0 n0 v U'.heap L ∧ FrameEnd U o U' L ({ frames := 0, cells := 0, slots := 0, locals := 0 } : Room).cells ({ frames := 0, cells := 0, slots := 0, locals := 0 } : Room).slots) := by
  refine MetFree.of_bodySF (plainFor_of_name pn_java_lang_StringUTF16) hisR ?_
  intro p e s m args below meth c s₁ Bd hml0 hP hK
  obtain ⟨rfl, hZ, hh⟩ := hP
  have hx := Bd.exec
  have hby := Bd.bytes
  have hml : c.maxLocals = 2 := hml0
  have hown : s.vm.findClass "java/lang/StringUTF16" = some m.cls := findClass_of_methodNamed Bd.named
  have hnm := (name_of_methodNamed Bd.named Bd.method).1
  have X0 : Stand p l e ({ frames := 0, cells := 0, slots := 0, locals := 0 } : Room) s m #[(.ref o0), (.int (1 : Int32))] below meth c s₁ [] 0 0 := Stand.of_body Bd
  have eH0 : s₁.heap = h0 := by rw [← hh, Bd.state]; rfl
  have N0 := Fr.nil n0
  show Gt p.tables e below (fun o U' => ∃ v L, o = .returned v ∧ Q6 Z o0 byt h0 n0 v U'.heap L ∧ FrameEnd s o U' L ({ frames := 0, cells := 0, slots := 0, locals := 0 } : Room).cells ({ frames := 0, cells := 0, slots := 0, locals := 0 } : Room).slots) _
  refine own_cast (ef6 m o0) ?_
  refine own_iloadN X0 hx hby rfl d6_0 (pc' := 1) rfl ?_
  refine own_aloadN X0 hx hby rfl rfl d6_1 (pc' := 2) rfl ?_
  refine own_alen X0 hx hby hZ eH0 V_o0 (z := (1 : Int32)) (by first | rfl | decide) d6_2 (pc' := 3) rfl ?_
  refine own_isub X0 hx hby (v := (0 : Int32)) (by decide) d6_3 (pc' := 4) rfl ?_
  refine own_bipush X0 hx hby (v := (31 : Int32)) (by decide) d6_4 (pc' := 6) rfl ?_
  refine own_iushr X0 hx hby (v := (0 : Int32)) (by decide) d6_6 (pc' := 7) rfl ?_
  refine own_i2b X0 hx hby (v := (0 : Int32)) (by decide) d6_7 (pc' := 8) rfl ?_
  exact own_retB X0 hx hby Bd.notSynchronized Bd.returns rfl d6_8 (by decide) (by decide) eH0 ⟨rfl, N0, rfl⟩
theorem ef2 (m : MethodId) (x0 : Addr) (x1 : Addr) : entryFrame m #[(.ref x0), (.ref x1), (.int (0 : Int32)), (.int (1 : Int32)), .null] 6 = mkF m 0 #[.val (.ref x0), .val (.ref x1), .val (.int (0 : Int32)), .val (.int (1 : Int32)), .val .null, .unset] [] := by first | (simp [entryFrame, mkF, argsToLocals, Value.category]; done) | rfl
def Q2 (Z : State) (o0 : Addr) (o1 : Addr) (coder_o0 : Int32) (u_value_o0 : Value) (ch : Int32) (st_COMPACT_STRINGS : Int32) (h0 : Heap) (n0 : Nat) (v : Option Value) (h : Heap) (L : List Loc) : Prop := ∃ b1_3 : Addr, v = none ∧ Fr n0 L ∧ Keep h0 h [o0] ∧ h0.size ≤ b1_3 ∧ Exa Z h o0 "java/lang/String" ∧ Fld Z h o0 "java/lang/String" "coder" "B" (.int (0 : Int32)) ∧ Fld Z h o0 "java/lang/String" "value" "[B" (.ref b1_3) ∧ Exa Z h b1_3 "[B" ∧ Ary tr Z h b1_3 .byte [(.int (nar .byte (ch.toInt8.toInt32)))]
set_option maxRecDepth 65536 in
set_option maxHeartbeats 40000000 in
theorem rm2 (l : Launch) (Z : State) (a0 : Array Value) (hw : ∀ d ∈ tables_1, d.before a0 Z = true) (ws : List Jvm.Cond) (o0 : Addr) (o1 : Addr) (coder_o0 : Int32) (u_value_o0 : Value) (ch : Int32) (st_COMPACT_STRINGS : Int32) (h0 : Heap) (n0 : Nat) (Z0 : n0 ≤ h0.size) (F_o0_coder : Fld Z h0 o0 "java/lang/String" "coder" "B" (.int coder_o0)) (F_o0_value : Fld Z h0 o0 "java/lang/String" "value" "[B" u_value_o0) (V_o1 : Ary tr Z h0 o1 .char [(.int ch)]) (E_o0 : Exa Z h0 o0 "java/lang/String") (S_COMPACT_STRINGS : Sta Z h0 "java/lang/String" "COMPACT_STRINGS" "Z" (.int st_COMPACT_STRINGS)) (hcs : (¬ (st_COMPACT_STRINGS = 0))) (hle_9_36 : (¬ ((255 : Int32) < ch))) (g_o0 : n0 ≤ o0) (ne_o1_o0 : o1 ≠ o0) :
    MetFree l (⟨"java/lang/String", "<init>", "([CIILjava/lang/Void;)V"⟩ : MethodName) (head1 (Jvm.Cond.code (⟨"java/lang/String", "<init>", "([CIILjava/lang/Void;)V"⟩ : MethodName) jdk_42_method_149_code 6 none :: ws) ({ frames := 2, cells := 1, slots := 1, locals := 35 } : Room)) (fun a U => a = #[(.ref o0), (.ref o1), (.int (0 : Int32)), (.int (1 : Int32)), .null] ∧ Z.Warmed39 U.vm ∧ U.heap = h0) (fun _ _ _ _ _ => True) (fun _ U o U' => ∃ v L, o = .returned v ∧ Q2 Z o0 o1 coder_o0 u_value_o0 ch st_COMPACT_STRINGS h0 n0 v U'.heap L ∧ FrameEnd U o U' L ({ frames := 2, cells := 1, slots := 1, locals := 35 } : Room).cells ({ frames := 2, cells := 1, slots := 1, locals := 35 } : Room).slots) := by
  refine MetFree.of_bodySF (plainFor_of_name pn_java_lang_String) hisR ?_
  intro p e s m args below meth c s₁ Bd hml0 hP hK
  obtain ⟨rfl, hZ, hh⟩ := hP
  have hx := Bd.exec
  have hby := Bd.bytes
  have hml : c.maxLocals = 6 := hml0
  have hown : s.vm.findClass "java/lang/String" = some m.cls := findClass_of_methodNamed Bd.named
  have hnm := (name_of_methodNamed Bd.named Bd.method).1
  have X0 : Stand p l e ({ frames := 2, cells := 1, slots := 1, locals := 35 } : Room) s m #[(.ref o0), (.ref o1), (.int (0 : Int32)), (.int (1 : Int32)), .null] below meth c s₁ [] 0 0 := Stand.of_body Bd
  have eH0 : s₁.heap = h0 := by rw [← hh, Bd.state]; rfl
  have N0 := Fr.nil n0
  have K0 := Keep.refl h0 [o0]
  show Gt p.tables e below (fun o U' => ∃ v L, o = .returned v ∧ Q2 Z o0 o1 coder_o0 u_value_o0 ch st_COMPACT_STRINGS h0 n0 v U'.heap L ∧ FrameEnd s o U' L ({ frames := 2, cells := 1, slots := 1, locals := 35 } : Room).cells ({ frames := 2, cells := 1, slots := 1, locals := 35 } : Room).slots) _
  refine own_cast (ef2 m o0 o1) ?_
  refine own_aloadN X0 hx hby rfl rfl d2_0 (pc' := 1) rfl ?_
  refine own_initO X0 hx hby hZ hown (hw _ (List.mem_of_getElem? (i := 18) rfl)) (hw _ (List.mem_of_getElem? (i := 19) rfl)) (hw _ (List.mem_of_getElem? (i := 20) rfl)) eH0 (by rw [hml]; rfl) d2_1 (pc' := 4) rfl (by decide) (W := 0) (Nat.le_of_eq rfl) (by decide) (fun T1 X1 eH1 => ?_)
  refine own_iloadN X1 hx hby rfl d2_4 (pc' := 5) rfl ?_
  refine own_ifT X1 hx hby d2_5 (by decide) (by decide) (pc' := 27) (by decide) ?_
  refine own_getS X1 hx hby hZ hown (host := "") (Or.inl (hw _ (List.mem_of_getElem? (i := 21) rfl))) Via.refl eH1 S_COMPACT_STRINGS d2_27 (pc' := 30) rfl (fun T2 X2 eH2 => ?_)
  refine own_ifF X2 hx hby d2_30 (own_i0_eq_n hcs) (pc' := 33) rfl ?_
  refine own_aloadN X2 hx hby rfl rfl d2_33 (pc' := 34) rfl ?_
  refine own_iloadN X2 hx hby rfl d2_34 (pc' := 35) rfl ?_
  refine own_iloadN X2 hx hby rfl d2_35 (pc' := 36) rfl ?_
  refine own_static X2 hx hby hZ (y := (⟨"java/lang/StringUTF16", "compress", "([CII)[B"⟩ : MethodName)) (rest := []) hown (hw _ (List.mem_of_getElem? (i := 22) rfl)) (hw _ (List.mem_of_getElem? (i := 23) rfl)) (hw _ (List.mem_of_getElem? (i := 25) rfl)) (hw _ (List.mem_of_getElem? (i := 24) rfl)) (by decide) (rm4 l Z a0 hw [] o1 ch h0 n0 Z0 V_o1 hle_9_36) eH2 (by rw [hml]; rfl) (argsL := [(.ref o1), (.int (0 : Int32)), (.int (1 : Int32))]) rfl (lenOf pd_1 rfl) rfl d2_36 (pc' := 39) rfl (by decide) (W := 0) (Nat.le_of_eq rfl) (by decide) (by decide) (by decide) (fun T3 h3 Lc3 v3r X3 eH3 hQ3 => ?_)
  obtain ⟨b1_3, rfl, Nq3, Kq3, gq3_0, gq3_1, gq3_2⟩ := hQ3
  have N3 := Fr.app N0 Nq3
  have g_b1_3 : n0 ≤ b1_3 := Nat.le_trans Z0 gq3_0
  have sz_b1_3 : h0.size ≤ b1_3 := Nat.le_trans K0.1 gq3_0
  have ne_o0_b1_3 : o0 ≠ b1_3 := Nat.ne_of_lt (Nat.lt_of_lt_of_le E_o0.lt gq3_0)
  have ne_o1_b1_3 : o1 ≠ b1_3 := Nat.ne_of_lt (Nat.lt_of_lt_of_le V_o1.lt gq3_0)
  replace S_COMPACT_STRINGS := own_skn S_COMPACT_STRINGS Kq3 own_sk0
  replace E_o0 := E_o0.keep Kq3
  replace F_o0_coder := F_o0_coder.keep Kq3 nin0
  replace F_o0_value := F_o0_value.keep Kq3 nin0
  replace V_o1 := V_o1.keep Kq3 nin0
  replace K0 := K0.trans Kq3 all0
  have E_b1_3 := gq3_1
  have V_b1_3 := gq3_2
  replace Z0 := Nat.le_trans Z0 Kq3.1
  refine own_astore X3 hx hby rfl (L' := #[.val (.ref o0), .val (.ref o1), .val (.int (0 : Int32)), .val (.int (1 : Int32)), .val .null, .val (.ref b1_3)]) rfl d2_39 (pc' := 41) rfl ?_
  refine own_aloadN X3 hx hby rfl rfl d2_41 (pc' := 42) rfl ?_
  refine own_aload X3 hx hby rfl rfl d2_42 (pc' := 44) rfl ?_
  refine own_iloadN X3 hx hby rfl d2_44 (pc' := 45) rfl ?_
  refine own_static X3 hx hby hZ (y := (⟨"java/lang/StringUTF16", "coderFromArrayLen", "([BI)B"⟩ : MethodName)) (rest := [(.ref o0)]) hown (hw _ (List.mem_of_getElem? (i := 30) rfl)) (hw _ (List.mem_of_getElem? (i := 31) rfl)) (hw _ (List.mem_of_getElem? (i := 32) rfl)) (hw _ (List.mem_of_getElem? (i := 24) rfl)) (by decide) (rm6 l Z a0 hw [] b1_3 (nar .byte (ch.toInt8.toInt32)) h3 n0 Z0 V_b1_3) eH3 (by rw [hml]; rfl) (argsL := [(.ref b1_3), (.int (1 : Int32))]) rfl (lenOf pd_2 rfl) rfl d2_45 (pc' := 48) rfl (by decide) (W := 1) (Nat.le_of_eq rfl) (by decide) (by decide) (by decide) (fun T4 h4 Lc4 v4r X4 eH4 hQ4 => ?_)
  obtain ⟨rfl, Nq4, rfl⟩ := hQ4
  have N4 := Fr.app N3 Nq4
  refine own_putF X4 hx hby hZ hown (host := "") (Or.inl (hw _ (List.mem_of_getElem? (i := 33) rfl))) Via.refl eH4 F_o0_coder E_o0 (Or.inr ⟨(hw _ (List.mem_of_getElem? (i := 34) rfl)), rfl, hnm⟩) (hw _ (List.mem_of_getElem? (i := 9) rfl)) (ty := .byte) (by decide) rfl rfl d2_48 (pc' := 51) rfl (fun T5 h5 X5 eH5 W5 => ?_)
  replace E_o0 := E_o0.wr W5
  replace F_o0_coder := F_o0_coder.same W5
  replace F_o0_value := F_o0_value.other W5 (Or.inr (slot_ne (Or.inr (hw _ (List.mem_of_getElem? (i := 36) rfl))) (Or.inr (hw _ (List.mem_of_getElem? (i := 34) rfl))) (by decide) (t := (.array .byte)) (t' := .byte) (by decide) (by decide)))
  replace V_o1 := V_o1.other W5 ne_o1_o0
  replace E_b1_3 := E_b1_3.wr W5
  replace V_b1_3 := V_b1_3.other W5 (Ne.symm ne_o0_b1_3)
  replace S_COMPACT_STRINGS := S_COMPACT_STRINGS.wr W5
  have N5 := Fr.snoc X5 N4 g_o0
  replace K0 := K0.wr W5 (Or.inl (by simp))
  replace Z0 := Nat.le_trans Z0 (Nat.le_of_eq W5.size.symm)
  refine own_aloadN X5 hx hby rfl rfl d2_51 (pc' := 52) rfl ?_
  refine own_aload X5 hx hby rfl rfl d2_52 (pc' := 54) rfl ?_
  refine own_putF X5 hx hby hZ hown (host := "") (Or.inl (hw _ (List.mem_of_getElem? (i := 35) rfl))) Via.refl eH5 F_o0_value E_o0 (Or.inr ⟨(hw _ (List.mem_of_getElem? (i := 36) rfl)), rfl, hnm⟩) (hw _ (List.mem_of_getElem? (i := 9) rfl)) (ty := (.array .byte)) (by decide) rfl rfl d2_54 (pc' := 57) rfl (fun T6 h6 X6 eH6 W6 => ?_)
  replace E_o0 := E_o0.wr W6
  replace F_o0_coder := F_o0_coder.other W6 (Or.inr (slot_ne (Or.inr (hw _ (List.mem_of_getElem? (i := 34) rfl))) (Or.inr (hw _ (List.mem_of_getElem? (i := 36) rfl))) (by decide) (t := .byte) (t' := (.array .byte)) (by decide) (by decide)))
  replace F_o0_value := F_o0_value.same W6
  replace V_o1 := V_o1.other W6 ne_o1_o0
  replace E_b1_3 := E_b1_3.wr W6
  replace V_b1_3 := V_b1_3.other W6 (Ne.symm ne_o0_b1_3)
  replace S_COMPACT_STRINGS := S_COMPACT_STRINGS.wr W6
  have N6 := Fr.snoc X6 N5 g_o0
  replace K0 := K0.wr W6 (Or.inl (by simp))
  replace Z0 := Nat.le_trans Z0 (Nat.le_of_eq W6.size.symm)
  exact own_retV X6 hx hby Bd.notSynchronized Bd.returns d2_57 (by decide) (by decide) eH6 ⟨b1_3, rfl, N6, K0, sz_b1_3, E_o0, F_o0_coder, F_o0_value, E_b1_3, V_b1_3⟩
theorem ef1 (m : MethodId) (x0 : Addr) (x1 : Addr) : entryFrame m #[(.ref x0), (.ref x1)] 2 = mkF m 0 #[.val (.ref x0), .val (.ref x1)] [] := by first | (simp [entryFrame, mkF, argsToLocals, Value.category]; done) | rfl
def Q1 (Z : State) (o0 : Addr) (o1 : Addr) (coder_o0 : Int32) (u_value_o0 : Value) (ch : Int32) (st_COMPACT_STRINGS : Int32) (h0 : Heap) (n0 : Nat) (v : Option Value) (h : Heap) (L : List Loc) : Prop := ∃ b1_3_1 : Addr, v = none ∧ Fr n0 L ∧ Keep h0 h [o0] ∧ h0.size ≤ b1_3_1 ∧ Exa Z h o0 "java/lang/String" ∧ Fld Z h o0 "java/lang/String" "coder" "B" (.int (0 : Int32)) ∧ Fld Z h o0 "java/lang/String" "value" "[B" (.ref b1_3_1) ∧ Exa Z h b1_3_1 "[B" ∧ Ary tr Z h b1_3_1 .byte [(.int (nar .byte (ch.toInt8.toInt32)))]
set_option maxRecDepth 65536 in
set_option maxHeartbeats 40000000 in
theorem rm1 (l : Launch) (Z : State) (a0 : Array Value) (hw : ∀ d ∈ tables_1, d.before a0 Z = true) (ws : List Jvm.Cond) (o0 : Addr) (o1 : Addr) (coder_o0 : Int32) (u_value_o0 : Value) (ch : Int32) (st_COMPACT_STRINGS : Int32) (h0 : Heap) (n0 : Nat) (Z0 : n0 ≤ h0.size) (F_o0_coder : Fld Z h0 o0 "java/lang/String" "coder" "B" (.int coder_o0)) (F_o0_value : Fld Z h0 o0 "java/lang/String" "value" "[B" u_value_o0) (V_o1 : Ary tr Z h0 o1 .char [(.int ch)]) (E_o0 : Exa Z h0 o0 "java/lang/String") (S_COMPACT_STRINGS : Sta Z h0 "java/lang/String" "COMPACT_STRINGS" "Z" (.int st_COMPACT_STRINGS)) (hcs_6 : (¬ (st_COMPACT_STRINGS = 0))) (hle_9_36_6 : (¬ ((255 : Int32) < ch))) (g_o0 : n0 ≤ o0) (ne_o1_o0 : o1 ≠ o0) :
    MetFree l (⟨"java/lang/String", "<init>", "([C)V"⟩ : MethodName) (head1 (Jvm.Cond.code (⟨"java/lang/String", "<init>", "([C)V"⟩ : MethodName) jdk_42_method_3_code 2 none :: ws) ({ frames := 3, cells := 1, slots := 1, locals := 52 } : Room)) (fun a U => a = #[(.ref o0), (.ref o1)] ∧ Z.Warmed39 U.vm ∧ U.heap = h0) (fun _ _ _ _ _ => True) (fun _ U o U' => ∃ v L, o = .returned v ∧ Q1 Z o0 o1 coder_o0 u_value_o0 ch st_COMPACT_STRINGS h0 n0 v U'.heap L ∧ FrameEnd U o U' L ({ frames := 3, cells := 1, slots := 1, locals := 52 } : Room).cells ({ frames := 3, cells := 1, slots := 1, locals := 52 } : Room).slots) := by
  refine MetFree.of_bodySF (plainFor_of_name pn_java_lang_String) hisR ?_
  intro p e s m args below meth c s₁ Bd hml0 hP hK
  obtain ⟨rfl, hZ, hh⟩ := hP
  have hx := Bd.exec
  have hby := Bd.bytes
  have hml : c.maxLocals = 2 := hml0
  have hown : s.vm.findClass "java/lang/String" = some m.cls := findClass_of_methodNamed Bd.named
  have hnm := (name_of_methodNamed Bd.named Bd.method).1
  have X0 : Stand p l e ({ frames := 3, cells := 1, slots := 1, locals := 52 } : Room) s m #[(.ref o0), (.ref o1)] below meth c s₁ [] 0 0 := Stand.of_body Bd
  have eH0 : s₁.heap = h0 := by rw [← hh, Bd.state]; rfl
  have N0 := Fr.nil n0
  have K0 := Keep.refl h0 [o0]
  show Gt p.tables e below (fun o U' => ∃ v L, o = .returned v ∧ Q1 Z o0 o1 coder_o0 u_value_o0 ch st_COMPACT_STRINGS h0 n0 v U'.heap L ∧ FrameEnd s o U' L ({ frames := 3, cells := 1, slots := 1, locals := 52 } : Room).cells ({ frames := 3, cells := 1, slots := 1, locals := 52 } : Room).slots) _
  refine own_cast (ef1 m o0 o1) ?_
  refine own_aloadN X0 hx hby rfl rfl d1_0 (pc' := 1) rfl ?_
  refine own_aloadN X0 hx hby rfl rfl d1_1 (pc' := 2) rfl ?_
  refine own_iconst X0 hx hby (v := (0 : Int32)) (by decide) d1_2 (pc' := 3) rfl ?_
  refine own_aloadN X0 hx hby rfl rfl d1_3 (pc' := 4) rfl ?_
  refine own_alen X0 hx hby hZ eH0 V_o1 (z := (1 : Int32)) (by first | rfl | decide) d1_4 (pc' := 5) rfl ?_
  refine own_aconst X0 hx hby d1_5 (pc' := 6) rfl ?_
  refine own_special X0 hx hby hZ (y := (⟨"java/lang/String", "<init>", "([CIILjava/lang/Void;)V"⟩ : MethodName)) (rest := []) rfl hown (hw _ (List.mem_of_getElem? (i := 14) rfl)) (hw _ (List.mem_of_getElem? (i := 15) rfl)) rfl (hw _ (List.mem_of_getElem? (i := 17) rfl)) (hw _ (List.mem_of_getElem? (i := 10) rfl)) (by decide) (rm2 l Z a0 hw [] o0 o1 coder_o0 u_value_o0 ch st_COMPACT_STRINGS h0 n0 Z0 F_o0_coder F_o0_value V_o1 E_o0 S_COMPACT_STRINGS hcs_6 hle_9_36_6 g_o0 ne_o1_o0) eH0 (by rw [hml]; rfl) (a := o0) (argsL := [(.ref o1), (.int (0 : Int32)), (.int (1 : Int32)), .null]) rfl (lenOf pd_3 rfl) rfl d1_6 (pc' := 9) rfl (by decide) (W := 0) (Nat.le_of_eq rfl) (by decide) (by decide) (by decide) (fun T1 h1 Lc1 v1r X1 eH1 hQ1 => ?_)
  obtain ⟨b1_3_1, rfl, Nq1, Kq1, gq1_0, gq1_1, gq1_2, gq1_3, gq1_4, gq1_5⟩ := hQ1
  have N1 := Fr.app N0 Nq1
  have g_b1_3_1 : n0 ≤ b1_3_1 := Nat.le_trans Z0 gq1_0
  have sz_b1_3_1 : h0.size ≤ b1_3_1 := Nat.le_trans K0.1 gq1_0
  have ne_o0_b1_3_1 : o0 ≠ b1_3_1 := Nat.ne_of_lt (Nat.lt_of_lt_of_le E_o0.lt gq1_0)
  have ne_o1_b1_3_1 : o1 ≠ b1_3_1 := Nat.ne_of_lt (Nat.lt_of_lt_of_le V_o1.lt gq1_0)
  replace S_COMPACT_STRINGS := own_skn S_COMPACT_STRINGS Kq1 (own_skS E_o0 own_sk0)
  replace E_o0 := E_o0.keep Kq1
  replace V_o1 := V_o1.keep Kq1 (ninS ne_o1_o0 nin0)
  replace K0 := K0.trans Kq1 (allS (Or.inl (by simp)) all0)
  have E_o0 := gq1_1
  have F_o0_coder := gq1_2
  have F_o0_value := gq1_3
  have E_b1_3_1 := gq1_4
  have V_b1_3_1 := gq1_5
  replace Z0 := Nat.le_trans Z0 Kq1.1
  exact own_retV X1 hx hby Bd.notSynchronized Bd.returns d1_9 (by decide) (by decide) eH1 ⟨b1_3_1, rfl, N1, K0, sz_b1_3_1, E_o0, F_o0_coder, F_o0_value, E_b1_3_1, V_b1_3_1⟩
theorem ef11 (m : MethodId) (x0 : Addr) : entryFrame m #[(.ref x0)] 1 = mkF m 0 #[.val (.ref x0)] [] := by first | (simp [entryFrame, mkF, argsToLocals, Value.category]; done) | rfl
def Q11 (Z : State) (o0 : Addr) (h0 : Heap) (n0 : Nat) (v : Option Value) (h : Heap) (L : List Loc) : Prop := v = none ∧ Fr n0 L ∧ h0 = h
set_option maxRecDepth 65536 in
set_option maxHeartbeats 40000000 in
theorem rm11 (l : Launch) (Z : State) (a0 : Array Value) (hw : ∀ d ∈ tables_1, d.before a0 Z = true) (ws : List Jvm.Cond) (o0 : Addr) (h0 : Heap) (n0 : Nat) (Z0 : n0 ≤ h0.size) :
    MetFree l (⟨"java/util/AbstractCollection", "<init>", "()V"⟩ : MethodName) (head1 (Jvm.Cond.code (⟨"java/util/AbstractCollection", "<init>", "()V"⟩ : MethodName) jdk_22_method_1_code 1 none :: ws) ({ frames := 1, cells := 0, slots := 0, locals := 12 } : Room)) (fun a U => a = #[(.ref o0)] ∧ Z.Warmed39 U.vm ∧ U.heap = h0) (fun _ _ _ _ _ => True) (fun _ U o U' => ∃ v L, o = .returned v ∧ Q11 Z o0 h0 n0 v U'.heap L ∧ FrameEnd U o U' L ({ frames := 1, cells := 0, slots := 0, locals := 12 } : Room).cells ({ frames := 1, cells := 0, slots := 0, locals := 12 } : Room).slots) := by
  refine MetFree.of_bodySF (plainFor_of_name pn_java_util_AbstractCollection) hisR ?_
  intro p e s m args below meth c s₁ Bd hml0 hP hK
  obtain ⟨rfl, hZ, hh⟩ := hP
  have hx := Bd.exec
  have hby := Bd.bytes
  have hml : c.maxLocals = 1 := hml0
  have hown : s.vm.findClass "java/util/AbstractCollection" = some m.cls := findClass_of_methodNamed Bd.named
  have hnm := (name_of_methodNamed Bd.named Bd.method).1
  have X0 : Stand p l e ({ frames := 1, cells := 0, slots := 0, locals := 12 } : Room) s m #[(.ref o0)] below meth c s₁ [] 0 0 := Stand.of_body Bd
  have eH0 : s₁.heap = h0 := by rw [← hh, Bd.state]; rfl
  have N0 := Fr.nil n0
  show Gt p.tables e below (fun o U' => ∃ v L, o = .returned v ∧ Q11 Z o0 h0 n0 v U'.heap L ∧ FrameEnd s o U' L ({ frames := 1, cells := 0, slots := 0, locals := 12 } : Room).cells ({ frames := 1, cells := 0, slots := 0, locals := 12 } : Room).slots) _
  refine own_cast (ef11 m o0) ?_
  refine own_aloadN X0 hx hby rfl rfl d11_0 (pc' := 1) rfl ?_
  refine own_initO X0 hx hby hZ hown (hw _ (List.mem_of_getElem? (i := 66) rfl)) (hw _ (List.mem_of_getElem? (i := 19) rfl)) (hw _ (List.mem_of_getElem? (i := 20) rfl)) eH0 (by rw [hml]; rfl) d11_1 (pc' := 4) rfl (by decide) (W := 0) (Nat.le_of_eq rfl) (by decide) (fun T1 X1 eH1 => ?_)
  exact own_retV X1 hx hby Bd.notSynchronized Bd.returns d11_4 (by decide) (by decide) eH1 ⟨rfl, N0, rfl⟩
theorem ef10 (m : MethodId) (x0 : Addr) : entryFrame m #[(.ref x0)] 1 = mkF m 0 #[.val (.ref x0)] [] := by first | (simp [entryFrame, mkF, argsToLocals, Value.category]; done) | rfl
def Q10 (Z : State) (o0 : Addr) (h0 : Heap) (n0 : Nat) (v : Option Value) (h : Heap) (L : List Loc) : Prop := v = none ∧ Fr n0 L ∧ h0 = h
set_option maxRecDepth 65536 in
set_option maxHeartbeats 40000000 in
theorem rm10 (l : Launch) (Z : State) (a0 : Array Value) (hw : ∀ d ∈ tables_1, d.before a0 Z = true) (ws : List Jvm.Cond) (o0 : Addr) (h0 : Heap) (n0 : Nat) (Z0 : n0 ≤ h0.size) :
    MetFree l (⟨"java/util/ImmutableCollections$AbstractImmutableCollection", "<init>", "()V"⟩ : MethodName) (head1 (Jvm.Cond.code (⟨"java/util/ImmutableCollections$AbstractImmutableCollection", "<init>", "()V"⟩ : MethodName) jdk_47_method_1_code 1 none :: ws) ({ frames := 2, cells := 0, slots := 0, locals := 24 } : Room)) (fun a U => a = #[(.ref o0)] ∧ Z.Warmed39 U.vm ∧ U.heap = h0) (fun _ _ _ _ _ => True) (fun _ U o U' => ∃ v L, o = .returned v ∧ Q10 Z o0 h0 n0 v U'.heap L ∧ FrameEnd U o U' L ({ frames := 2, cells := 0, slots := 0, locals := 24 } : Room).cells ({ frames := 2, cells := 0, slots := 0, locals := 24 } : Room).slots) := by
  refine MetFree.of_bodySF (plainFor_of_name pn_java_util_ImmutableCollections_AbstractImmutableCollection) hisR ?_
  intro p e s m args below meth c s₁ Bd hml0 hP hK
  obtain ⟨rfl, hZ, hh⟩ := hP
  have hx := Bd.exec
  have hby := Bd.bytes
  have hml : c.maxLocals = 1 := hml0
  have hown : s.vm.findClass "java/util/ImmutableCollections$AbstractImmutableCollection" = some m.cls := findClass_of_methodNamed Bd.named
  have hnm := (name_of_methodNamed Bd.named Bd.method).1
  have X0 : Stand p l e ({ frames := 2, cells := 0, slots := 0, locals := 24 } : Room) s m #[(.ref o0)] below meth c s₁ [] 0 0 := Stand.of_body Bd
  have eH0 : s₁.heap = h0 := by rw [← hh, Bd.state]; rfl
  have N0 := Fr.nil n0
  show Gt p.tables e below (fun o U' => ∃ v L, o = .returned v ∧ Q10 Z o0 h0 n0 v U'.heap L ∧ FrameEnd s o U' L ({ frames := 2, cells := 0, slots := 0, locals := 24 } : Room).cells ({ frames := 2, cells := 0, slots := 0, locals := 24 } : Room).slots) _
  refine own_cast (ef10 m o0) ?_
  refine own_aloadN X0 hx hby rfl rfl d10_0 (pc' := 1) rfl ?_
  refine own_special X0 hx hby hZ (y := (⟨"java/util/AbstractCollection", "<init>", "()V"⟩ : MethodName)) (rest := []) rfl hown (hw _ (List.mem_of_getElem? (i := 60) rfl)) (hw _ (List.mem_of_getElem? (i := 61) rfl)) rfl (hw _ (List.mem_of_getElem? (i := 65) rfl)) (hw _ (List.mem_of_getElem? (i := 64) rfl)) (by decide) (rm11 l Z a0 hw [] o0 h0 n0 Z0) eH0 (by rw [hml]; rfl) (a := o0) (argsL := []) rfl (lenOf pd_4 rfl) rfl d10_1 (pc' := 4) rfl (by decide) (W := 0) (Nat.le_of_eq rfl) (by decide) (by decide) (by decide) (fun T1 h1 Lc1 v1r X1 eH1 hQ1 => ?_)
  obtain ⟨rfl, Nq1, rfl⟩ := hQ1
  have N1 := Fr.app N0 Nq1
  exact own_retV X1 hx hby Bd.notSynchronized Bd.returns d10_4 (by decide) (by decide) eH1 ⟨rfl, N1, rfl⟩
theorem ef9 (m : MethodId) (x0 : Addr) : entryFrame m #[(.ref x0)] 1 = mkF m 0 #[.val (.ref x0)] [] := by first | (simp [entryFrame, mkF, argsToLocals, Value.category]; done) | rfl
def Q9 (Z : State) (o0 : Addr) (h0 : Heap) (n0 : Nat) (v : Option Value) (h : Heap) (L : List Loc) : Prop := v = none ∧ Fr n0 L ∧ h0 = h
set_option maxRecDepth 65536 in
set_option maxHeartbeats 40000000 in
theorem rm9 (l : Launch) (Z : State) (a0 : Array Value) (hw : ∀ d ∈ tables_1, d.before a0 Z = true) (ws : List Jvm.Cond) (o0 : Addr) (h0 : Heap) (n0 : Nat) (Z0 : n0 ≤ h0.size) :
    MetFree l (⟨"java/util/ImmutableCollections$AbstractImmutableSet", "<init>", "()V"⟩ : MethodName) (head1 (Jvm.Cond.code (⟨"java/util/ImmutableCollections$AbstractImmutableSet", "<init>", "()V"⟩ : MethodName) jdk_100_method_1_code 1 none :: ws) ({ frames := 3, cells := 0, slots := 0, locals := 36 } : Room)) (fun a U => a = #[(.ref o0)] ∧ Z.Warmed39 U.vm ∧ U.heap = h0) (fun _ _ _ _ _ => True) (fun _ U o U' => ∃ v L, o = .returned v ∧ Q9 Z o0 h0 n0 v U'.heap L ∧ FrameEnd U o U' L ({ frames := 3, cells := 0, slots := 0, locals := 36 } : Room).cells ({ frames := 3, cells := 0, slots := 0, locals := 36 } : Room).slots) := by
  refine MetFree.of_bodySF (plainFor_of_name pn_java_util_ImmutableCollections_AbstractImmutableSet) hisR ?_
  intro p e s m args below meth c s₁ Bd hml0 hP hK
  obtain ⟨rfl, hZ, hh⟩ := hP
  have hx := Bd.exec
  have hby := Bd.bytes
  have hml : c.maxLocals = 1 := hml0
  have hown : s.vm.findClass "java/util/ImmutableCollections$AbstractImmutableSet" = some m.cls := findClass_of_methodNamed Bd.named
  have hnm := (name_of_methodNamed Bd.named Bd.method).1
  have X0 : Stand p l e ({ frames := 3, cells := 0, slots := 0, locals := 36 } : Room) s m #[(.ref o0)] below meth c s₁ [] 0 0 := Stand.of_body Bd
  have eH0 : s₁.heap = h0 := by rw [← hh, Bd.state]; rfl
  have N0 := Fr.nil n0
  show Gt p.tables e below (fun o U' => ∃ v L, o = .returned v ∧ Q9 Z o0 h0 n0 v U'.heap L ∧ FrameEnd s o U' L ({ frames := 3, cells := 0, slots := 0, locals := 36 } : Room).cells ({ frames := 3, cells := 0, slots := 0, locals := 36 } : Room).slots) _
  refine own_cast (ef9 m o0) ?_
  refine own_aloadN X0 hx hby rfl rfl d9_0 (pc' := 1) rfl ?_
  refine own_special X0 hx hby hZ (y := (⟨"java/util/ImmutableCollections$AbstractImmutableCollection", "<init>", "()V"⟩ : MethodName)) (rest := []) rfl hown (hw _ (List.mem_of_getElem? (i := 54) rfl)) (hw _ (List.mem_of_getElem? (i := 55) rfl)) rfl (hw _ (List.mem_of_getElem? (i := 59) rfl)) (hw _ (List.mem_of_getElem? (i := 58) rfl)) (by decide) (rm10 l Z a0 hw [] o0 h0 n0 Z0) eH0 (by rw [hml]; rfl) (a := o0) (argsL := []) rfl (lenOf pd_4 rfl) rfl d9_1 (pc' := 4) rfl (by decide) (W := 0) (Nat.le_of_eq rfl) (by decide) (by decide) (by decide) (fun T1 h1 Lc1 v1r X1 eH1 hQ1 => ?_)
  obtain ⟨rfl, Nq1, rfl⟩ := hQ1
  have N1 := Fr.app N0 Nq1
  exact own_retV X1 hx hby Bd.notSynchronized Bd.returns d9_4 (by decide) (by decide) eH1 ⟨rfl, N1, rfl⟩
theorem ef14 (m : MethodId) (x0 : Addr) : entryFrame m #[(.ref x0)] 1 = mkF m 0 #[.val (.ref x0)] [] := by first | (simp [entryFrame, mkF, argsToLocals, Value.category]; done) | rfl
def Q14 (Z : State) (o0 : Addr) (h0 : Heap) (n0 : Nat) (v : Option Value) (h : Heap) (L : List Loc) : Prop := v = none ∧ Fr n0 L ∧ h0 = h
set_option maxRecDepth 65536 in
set_option maxHeartbeats 40000000 in
theorem rm14 (l : Launch) (Z : State) (a0 : Array Value) (hw : ∀ d ∈ tables_1, d.before a0 Z = true) (ws : List Jvm.Cond) (o0 : Addr) (h0 : Heap) (n0 : Nat) (Z0 : n0 ≤ h0.size) :
    MetFree l (⟨"java/lang/Record", "<init>", "()V"⟩ : MethodName) (head1 (Jvm.Cond.code (⟨"java/lang/Record", "<init>", "()V"⟩ : MethodName) jdk_30_method_1_code 1 none :: ws) ({ frames := 1, cells := 0, slots := 0, locals := 12 } : Room)) (fun a U => a = #[(.ref o0)] ∧ Z.Warmed39 U.vm ∧ U.heap = h0) (fun _ _ _ _ _ => True) (fun _ U o U' => ∃ v L, o = .returned v ∧ Q14 Z o0 h0 n0 v U'.heap L ∧ FrameEnd U o U' L ({ frames := 1, cells := 0, slots := 0, locals := 12 } : Room).cells ({ frames := 1, cells := 0, slots := 0, locals := 12 } : Room).slots) := by
  refine MetFree.of_bodySF (plainFor_of_name pn_java_lang_Record) hisR ?_
  intro p e s m args below meth c s₁ Bd hml0 hP hK
  obtain ⟨rfl, hZ, hh⟩ := hP
  have hx := Bd.exec
  have hby := Bd.bytes
  have hml : c.maxLocals = 1 := hml0
  have hown : s.vm.findClass "java/lang/Record" = some m.cls := findClass_of_methodNamed Bd.named
  have hnm := (name_of_methodNamed Bd.named Bd.method).1
  have X0 : Stand p l e ({ frames := 1, cells := 0, slots := 0, locals := 12 } : Room) s m #[(.ref o0)] below meth c s₁ [] 0 0 := Stand.of_body Bd
  have eH0 : s₁.heap = h0 := by rw [← hh, Bd.state]; rfl
  have N0 := Fr.nil n0
  show Gt p.tables e below (fun o U' => ∃ v L, o = .returned v ∧ Q14 Z o0 h0 n0 v U'.heap L ∧ FrameEnd s o U' L ({ frames := 1, cells := 0, slots := 0, locals := 12 } : Room).cells ({ frames := 1, cells := 0, slots := 0, locals := 12 } : Room).slots) _
  refine own_cast (ef14 m o0) ?_
  refine own_aloadN X0 hx hby rfl rfl d14_0 (pc' := 1) rfl ?_
  refine own_initO X0 hx hby hZ hown (hw _ (List.mem_of_getElem? (i := 85) rfl)) (hw _ (List.mem_of_getElem? (i := 19) rfl)) (hw _ (List.mem_of_getElem? (i := 20) rfl)) eH0 (by rw [hml]; rfl) d14_1 (pc' := 4) rfl (by decide) (W := 0) (Nat.le_of_eq rfl) (by decide) (fun T1 X1 eH1 => ?_)
  exact own_retV X1 hx hby Bd.notSynchronized Bd.returns d14_4 (by decide) (by decide) eH1 ⟨rfl, N0, rfl⟩
theorem ef12 (m : MethodId) (x0 : Addr) : entryFrame m #[(.ref x0)] 1 = mkF m 0 #[.val (.ref x0)] [] := by first | (simp [entryFrame, mkF, argsToLocals, Value.category]; done) | rfl
def Q12 (Z : State) (o0 : Addr) (h0 : Heap) (n0 : Nat) (v : Option Value) (h : Heap) (L : List Loc) : Prop := v = some (.ref o0) ∧ Fr n0 L ∧ h0 = h
set_option maxRecDepth 65536 in
set_option maxHeartbeats 40000000 in
theorem rm12 (l : Launch) (Z : State) (a0 : Array Value) (hw : ∀ d ∈ tables_1, d.before a0 Z = true) (ws : List Jvm.Cond) (o0 : Addr) (h0 : Heap) (n0 : Nat) (Z0 : n0 ≤ h0.size) :
    MetFree l (⟨"java/util/Objects", "requireNonNull", "(Ljava/lang/Object;)Ljava/lang/Object;"⟩ : MethodName) (head1 (Jvm.Cond.code (⟨"java/util/Objects", "requireNonNull", "(Ljava/lang/Object;)Ljava/lang/Object;"⟩ : MethodName) jdk_31_method_10_code 1 (some (.object "java/lang/Object")) :: ws) ({ frames := 0, cells := 0, slots := 0, locals := 0 } : Room)) (fun a U => a = #[(.ref o0)] ∧ Z.Warmed39 U.vm ∧ U.heap = h0) (fun _ _ _ _ _ => True) (fun _ U o U' => ∃ v L, o = .returned v ∧ Q12 Z o0 h0 n0 v U'.heap L ∧ FrameEnd U o U' L ({ frames := 0, cells := 0, slots := 0, locals := 0 } : Room).cells ({ frames := 0, cells := 0, slots := 0, locals := 0 } : Room).slots) := by
  refine MetFree.of_bodySF (plainFor_of_name pn_java_util_Objects) hisR ?_
  intro p e s m args below meth c s₁ Bd hml0 hP hK
  obtain ⟨rfl, hZ, hh⟩ := hP
  have hx := Bd.exec
  have hby := Bd.bytes
  have hml : c.maxLocals = 1 := hml0
  have hown : s.vm.findClass "java/util/Objects" = some m.cls := findClass_of_methodNamed Bd.named
  have hnm := (name_of_methodNamed Bd.named Bd.method).1
  have X0 : Stand p l e ({ frames := 0, cells := 0, slots := 0, locals := 0 } : Room) s m #[(.ref o0)] below meth c s₁ [] 0 0 := Stand.of_body Bd
  have eH0 : s₁.heap = h0 := by rw [← hh, Bd.state]; rfl
  have N0 := Fr.nil n0
  show Gt p.tables e below (fun o U' => ∃ v L, o = .returned v ∧ Q12 Z o0 h0 n0 v U'.heap L ∧ FrameEnd s o U' L ({ frames := 0, cells := 0, slots := 0, locals := 0 } : Room).cells ({ frames := 0, cells := 0, slots := 0, locals := 0 } : Room).slots) _
  refine own_cast (ef12 m o0) ?_
  refine own_aloadN X0 hx hby rfl rfl d12_0 (pc' := 1) rfl ?_
  refine own_ifnonnullT X0 hx hby d12_1 (by decide) (pc' := 12) (by decide) ?_
  refine own_aloadN X0 hx hby rfl rfl d12_12 (pc' := 13) rfl ?_
  exact own_retA X0 hx hby Bd.notSynchronized Bd.returns rfl rfl d12_13 (by decide) (by decide) eH0 ⟨rfl, N0, rfl⟩
theorem ef8 (m : MethodId) (x0 : Addr) (x1 : Addr) : entryFrame m #[(.ref x0), (.ref x1)] 2 = mkF m 0 #[.val (.ref x0), .val (.ref x1)] [] := by first | (simp [entryFrame, mkF, argsToLocals, Value.category]; done) | rfl
def Q8 (Z : State) (o0 : Addr) (o1 : Addr) (u_e0_o0 : Value) (u_e1_o0 : Value) (st_EMPTY : Addr) (h0 : Heap) (n0 : Nat) (v : Option Value) (h : Heap) (L : List Loc) : Prop := v = none ∧ Fr n0 L ∧ Keep h0 h [o0] ∧ Exa Z h o0 "java/util/ImmutableCollections$Set12" ∧ Fld Z h o0 "java/util/ImmutableCollections$Set12" "e0" "Ljava/lang/Object;" (.ref o1) ∧ Fld Z h o0 "java/util/ImmutableCollections$Set12" "e1" "Ljava/lang/Object;" (.ref st_EMPTY)
set_option maxRecDepth 65536 in
set_option maxHeartbeats 40000000 in
theorem rm8 (l : Launch) (Z : State) (a0 : Array Value) (hw : ∀ d ∈ tables_1, d.before a0 Z = true) (ws : List Jvm.Cond) (o0 : Addr) (o1 : Addr) (u_e0_o0 : Value) (u_e1_o0 : Value) (st_EMPTY : Addr) (h0 : Heap) (n0 : Nat) (Z0 : n0 ≤ h0.size) (F_o0_e0 : Fld Z h0 o0 "java/util/ImmutableCollections$Set12" "e0" "Ljava/lang/Object;" u_e0_o0) (F_o0_e1 : Fld Z h0 o0 "java/util/ImmutableCollections$Set12" "e1" "Ljava/lang/Object;" u_e1_o0) (S_EMPTY : Sta Z h0 "java/util/ImmutableCollections" "EMPTY" "Ljava/lang/Object;" (.ref st_EMPTY)) (E_o0 : Exa Z h0 o0 "java/util/ImmutableCollections$Set12") (g_o0 : n0 ≤ o0) :
    MetFree l (⟨"java/util/ImmutableCollections$Set12", "<init>", "(Ljava/lang/Object;)V"⟩ : MethodName) (head1 (Jvm.Cond.code (⟨"java/util/ImmutableCollections$Set12", "<init>", "(Ljava/lang/Object;)V"⟩ : MethodName) jdk_101_method_1_code 2 none :: ws) ({ frames := 4, cells := 0, slots := 0, locals := 48 } : Room)) (fun a U => a = #[(.ref o0), (.ref o1)] ∧ Z.Warmed39 U.vm ∧ U.heap = h0) (fun _ _ _ _ _ => True) (fun _ U o U' => ∃ v L, o = .returned v ∧ Q8 Z o0 o1 u_e0_o0 u_e1_o0 st_EMPTY h0 n0 v U'.heap L ∧ FrameEnd U o U' L ({ frames := 4, cells := 0, slots := 0, locals := 48 } : Room).cells ({ frames := 4, cells := 0, slots := 0, locals := 48 } : Room).slots) := by
  refine MetFree.of_bodySF (plainFor_of_name pn_java_util_ImmutableCollections_Set12) hisR ?_
  intro p e s m args below meth c s₁ Bd hml0 hP hK
  obtain ⟨rfl, hZ, hh⟩ := hP
  have hx := Bd.exec
  have hby := Bd.bytes
  have hml : c.maxLocals = 2 := hml0
  have hown : s.vm.findClass "java/util/ImmutableCollections$Set12" = some m.cls := findClass_of_methodNamed Bd.named
  have hnm := (name_of_methodNamed Bd.named Bd.method).1
  have X0 : Stand p l e ({ frames := 4, cells := 0, slots := 0, locals := 48 } : Room) s m #[(.ref o0), (.ref o1)] below meth c s₁ [] 0 0 := Stand.of_body Bd
  have eH0 : s₁.heap = h0 := by rw [← hh, Bd.state]; rfl
  have N0 := Fr.nil n0
  have K0 := Keep.refl h0 [o0]
  show Gt p.tables e below (fun o U' => ∃ v L, o = .returned v ∧ Q8 Z o0 o1 u_e0_o0 u_e1_o0 st_EMPTY h0 n0 v U'.heap L ∧ FrameEnd s o U' L ({ frames := 4, cells := 0, slots := 0, locals := 48 } : Room).cells ({ frames := 4, cells := 0, slots := 0, locals := 48 } : Room).slots) _
  refine own_cast (ef8 m o0 o1) ?_
  refine own_aloadN X0 hx hby rfl rfl d8_0 (pc' := 1) rfl ?_
  refine own_special X0 hx hby hZ (y := (⟨"java/util/ImmutableCollections$AbstractImmutableSet", "<init>", "()V"⟩ : MethodName)) (rest := []) rfl hown (hw _ (List.mem_of_getElem? (i := 48) rfl)) (hw _ (List.mem_of_getElem? (i := 49) rfl)) rfl (hw _ (List.mem_of_getElem? (i := 53) rfl)) (hw _ (List.mem_of_getElem? (i := 52) rfl)) (by decide) (rm9 l Z a0 hw [] o0 h0 n0 Z0) eH0 (by rw [hml]; rfl) (a := o0) (argsL := []) rfl (lenOf pd_4 rfl) rfl d8_1 (pc' := 4) rfl (by decide) (W := 0) (Nat.le_of_eq rfl) (by decide) (by decide) (by decide) (fun T1 h1 Lc1 v1r X1 eH1 hQ1 => ?_)
  obtain ⟨rfl, Nq1, rfl⟩ := hQ1
  have N1 := Fr.app N0 Nq1
  refine own_aloadN X1 hx hby rfl rfl d8_4 (pc' := 5) rfl ?_
  refine own_aloadN X1 hx hby rfl rfl d8_5 (pc' := 6) rfl ?_
  refine own_static X1 hx hby hZ (y := (⟨"java/util/Objects", "requireNonNull", "(Ljava/lang/Object;)Ljava/lang/Object;"⟩ : MethodName)) (rest := [(.ref o0)]) hown (hw _ (List.mem_of_getElem? (i := 67) rfl)) (hw _ (List.mem_of_getElem? (i := 68) rfl)) (hw _ (List.mem_of_getElem? (i := 70) rfl)) (hw _ (List.mem_of_getElem? (i := 69) rfl)) (by decide) (rm12 l Z a0 hw [] o1 h0 n0 Z0) eH1 (by rw [hml]; rfl) (argsL := [(.ref o1)]) rfl (lenOf pd_5 rfl) rfl d8_6 (pc' := 9) rfl (by decide) (W := 1) (Nat.le_of_eq rfl) (by decide) (by decide) (by decide) (fun T2 h2 Lc2 v2r X2 eH2 hQ2 => ?_)
  obtain ⟨rfl, Nq2, rfl⟩ := hQ2
  have N2 := Fr.app N1 Nq2
  refine own_putF X2 hx hby hZ hown (host := "") (Or.inl (hw _ (List.mem_of_getElem? (i := 71) rfl))) Via.refl eH2 F_o0_e0 E_o0 (Or.inr ⟨(hw _ (List.mem_of_getElem? (i := 72) rfl)), rfl, hnm⟩) (hw _ (List.mem_of_getElem? (i := 42) rfl)) (ty := (.object "java/lang/Object")) (by decide) rfl rfl d8_9 (pc' := 12) rfl (fun T3 h3 X3 eH3 W3 => ?_)
  replace E_o0 := E_o0.wr W3
  replace F_o0_e0 := F_o0_e0.same W3
  replace F_o0_e1 := F_o0_e1.other W3 (Or.inr (slot_ne (Or.inr (hw _ (List.mem_of_getElem? (i := 76) rfl))) (Or.inr (hw _ (List.mem_of_getElem? (i := 72) rfl))) (by decide) (t := (.object "java/lang/Object")) (t' := (.object "java/lang/Object")) (by decide) (by decide)))
  replace S_EMPTY := S_EMPTY.wr W3
  have N3 := Fr.snoc X3 N2 g_o0
  replace K0 := K0.wr W3 (Or.inl (by simp))
  replace Z0 := Nat.le_trans Z0 (Nat.le_of_eq W3.size.symm)
  refine own_aloadN X3 hx hby rfl rfl d8_12 (pc' := 13) rfl ?_
  refine own_getS X3 hx hby hZ hown (Or.inr (hw _ (List.mem_of_getElem? (i := 73) rfl))) Via.refl eH3 S_EMPTY d8_13 (pc' := 16) rfl (fun T4 X4 eH4 => ?_)
  refine own_putF X4 hx hby hZ hown (host := "") (Or.inl (hw _ (List.mem_of_getElem? (i := 75) rfl))) Via.refl eH4 F_o0_e1 E_o0 (Or.inr ⟨(hw _ (List.mem_of_getElem? (i := 76) rfl)), rfl, hnm⟩) (hw _ (List.mem_of_getElem? (i := 42) rfl)) (ty := (.object "java/lang/Object")) (by decide) rfl rfl d8_16 (pc' := 19) rfl (fun T5 h5 X5 eH5 W5 => ?_)
  replace E_o0 := E_o0.wr W5
  replace F_o0_e0 := F_o0_e0.other W5 (Or.inr (slot_ne (Or.inr (hw _ (List.mem_of_getElem? (i := 72) rfl))) (Or.inr (hw _ (List.mem_of_getElem? (i := 76) rfl))) (by decide) (t := (.object "java/lang/Object")) (t' := (.object "java/lang/Object")) (by decide) (by decide)))
  replace F_o0_e1 := F_o0_e1.same W5
  replace S_EMPTY := S_EMPTY.wr W5
  have N5 := Fr.snoc X5 N3 g_o0
  replace K0 := K0.wr W5 (Or.inl (by simp))
  replace Z0 := Nat.le_trans Z0 (Nat.le_of_eq W5.size.symm)
  exact own_retV X5 hx hby Bd.notSynchronized Bd.returns d8_19 (by decide) (by decide) eH5 ⟨rfl, N5, K0, E_o0, F_o0_e0, F_o0_e1⟩
theorem ef7 (m : MethodId) (x0 : Addr) : entryFrame m #[(.ref x0)] 1 = mkF m 0 #[.val (.ref x0)] [] := by first | (simp [entryFrame, mkF, argsToLocals, Value.category]; done) | rfl
def Q7 (Z : State) (o0 : Addr) (st_EMPTY : Addr) (h0 : Heap) (n0 : Nat) (v : Option Value) (h : Heap) (L : List Loc) : Prop := ∃ b1 : Addr, v = some (.ref b1) ∧ Fr n0 L ∧ Keep h0 h [] ∧ h0.size ≤ b1 ∧ Exa Z h b1 "java/util/ImmutableCollections$Set12" ∧ Fld Z h b1 "java/util/ImmutableCollections$Set12" "e0" "Ljava/lang/Object;" (.ref o0) ∧ Fld Z h b1 "java/util/ImmutableCollections$Set12" "e1" "Ljava/lang/Object;" (.ref st_EMPTY)
set_option maxRecDepth 65536 in
set_option maxHeartbeats 40000000 in
theorem rm7 (l : Launch) (Z : State) (a0 : Array Value) (hw : ∀ d ∈ tables_1, d.before a0 Z = true) (ws : List Jvm.Cond) (o0 : Addr) (st_EMPTY : Addr) (h0 : Heap) (n0 : Nat) (Z0 : n0 ≤ h0.size) (S_EMPTY : Sta Z h0 "java/util/ImmutableCollections" "EMPTY" "Ljava/lang/Object;" (.ref st_EMPTY)) :
    MetFree l (⟨"java/util/Set", "of", "(Ljava/lang/Object;)Ljava/util/Set;"⟩ : MethodName) (head1 (Jvm.Cond.code (⟨"java/util/Set", "of", "(Ljava/lang/Object;)Ljava/util/Set;"⟩ : MethodName) jdk_96_method_18_code 1 (some (.object "java/util/Set")) :: ws) ({ frames := 5, cells := 1, slots := 2, locals := 62 } : Room)) (fun a U => a = #[(.ref o0)] ∧ Z.Warmed39 U.vm ∧ U.heap = h0) (fun _ _ _ _ _ => True) (fun _ U o U' => ∃ v L, o = .returned v ∧ Q7 Z o0 st_EMPTY h0 n0 v U'.heap L ∧ FrameEnd U o U' L ({ frames := 5, cells := 1, slots := 2, locals := 62 } : Room).cells ({ frames := 5, cells := 1, slots := 2, locals := 62 } : Room).slots) := by
  refine MetFree.of_bodySF (plainFor_of_name pn_java_util_Set) hisR ?_
  intro p e s m args below meth c s₁ Bd hml0 hP hK
  obtain ⟨rfl, hZ, hh⟩ := hP
  have hx := Bd.exec
  have hby := Bd.bytes
  have hml : c.maxLocals = 1 := hml0
  have hown : s.vm.findClass "java/util/Set" = some m.cls := findClass_of_methodNamed Bd.named
  have hnm := (name_of_methodNamed Bd.named Bd.method).1
  have X0 : Stand p l e ({ frames := 5, cells := 1, slots := 2, locals := 62 } : Room) s m #[(.ref o0)] below meth c s₁ [] 0 0 := Stand.of_body Bd
  have eH0 : s₁.heap = h0 := by rw [← hh, Bd.state]; rfl
  have N0 := Fr.nil n0
  have K0 := Keep.refl h0 []
  show Gt p.tables e below (fun o U' => ∃ v L, o = .returned v ∧ Q7 Z o0 st_EMPTY h0 n0 v U'.heap L ∧ FrameEnd s o U' L ({ frames := 5, cells := 1, slots := 2, locals := 62 } : Room).cells ({ frames := 5, cells := 1, slots := 2, locals := 62 } : Room).slots) _
  refine own_cast (ef7 m o0) ?_
  refine own_newO X0 hx hby hZ hown (hw _ (List.mem_of_getElem? (i := 41) rfl)) (hw _ (List.mem_of_getElem? (i := 42) rfl)) (hw _ (List.mem_of_getElem? (i := 43) rfl)) eH0 d7_0 (pc' := 3) rfl (by decide) (by decide) (fun T1 h1 b1 X1 eH1 E1 g1 E_b1 D1 => ?_)
  have g_b1 : n0 ≤ b1 := g1 ▸ Z0
  have sz_b1 : h0.size ≤ b1 := g1 ▸ K0.1
  replace S_EMPTY := S_EMPTY.ext E1
  replace K0 := K0.ext E1
  replace Z0 := Nat.le_trans Z0 E1.1
  have F_b1_e0 : Fld Z h1 b1 "java/util/ImmutableCollections$Set12" "e0" "Ljava/lang/Object;" .null := D1 (Or.inr (hw _ (List.mem_of_getElem? (i := 72) rfl))) (ty := (.object "java/lang/Object")) (by decide)
  have F_b1_e1 : Fld Z h1 b1 "java/util/ImmutableCollections$Set12" "e1" "Ljava/lang/Object;" .null := D1 (Or.inr (hw _ (List.mem_of_getElem? (i := 76) rfl))) (ty := (.object "java/lang/Object")) (by decide)
  refine own_dup X1 hx hby rfl d7_3 (pc' := 4) rfl ?_
  refine own_aloadN X1 hx hby rfl rfl d7_4 (pc' := 5) rfl ?_
  refine own_special X1 hx hby hZ (y := (⟨"java/util/ImmutableCollections$Set12", "<init>", "(Ljava/lang/Object;)V"⟩ : MethodName)) (rest := [(.ref b1)]) rfl hown (hw _ (List.mem_of_getElem? (i := 44) rfl)) (hw _ (List.mem_of_getElem? (i := 45) rfl)) rfl (hw _ (List.mem_of_getElem? (i := 47) rfl)) (hw _ (List.mem_of_getElem? (i := 43) rfl)) (by decide) (rm8 l Z a0 hw [] b1 o0 .null .null st_EMPTY h1 n0 Z0 F_b1_e0 F_b1_e1 S_EMPTY E_b1 g_b1) eH1 (by rw [hml]; rfl) (a := b1) (argsL := [(.ref o0)]) rfl (lenOf pd_6 rfl) rfl d7_5 (pc' := 8) rfl (by decide) (W := 1) (Nat.le_of_eq rfl) (by decide) (by decide) (by decide) (fun T2 h2 Lc2 v2r X2 eH2 hQ2 => ?_)
  obtain ⟨rfl, Nq2, Kq2, gq2_0, gq2_1, gq2_2⟩ := hQ2
  have N2 := Fr.app N0 Nq2
  replace S_EMPTY := own_skn S_EMPTY Kq2 (own_skS E_b1 own_sk0)
  replace E_b1 := E_b1.keep Kq2
  replace K0 := K0.trans Kq2 (allS (Or.inr sz_b1) all0)
  have E_b1 := gq2_0
  have F_b1_e0 := gq2_1
  have F_b1_e1 := gq2_2
  replace Z0 := Nat.le_trans Z0 Kq2.1
  exact own_retA X2 hx hby Bd.notSynchronized Bd.returns rfl rfl d7_8 (by decide) (by decide) eH2 ⟨b1, rfl, N2, K0, sz_b1, E_b1, F_b1_e0, F_b1_e1⟩
theorem ef15 (m : MethodId) (x0 : Addr) : entryFrame m #[(.ref x0)] 1 = mkF m 0 #[.val (.ref x0)] [] := by first | (simp [entryFrame, mkF, argsToLocals, Value.category]; done) | rfl
def Q15 (Z : State) (o0 : Addr) (h0 : Heap) (n0 : Nat) (v : Option Value) (h : Heap) (L : List Loc) : Prop := v = some (.ref o0) ∧ Fr n0 L ∧ h0 = h
set_option maxRecDepth 65536 in
set_option maxHeartbeats 40000000 in
theorem rm15 (l : Launch) (Z : State) (a0 : Array Value) (hw : ∀ d ∈ tables_1, d.before a0 Z = true) (ws : List Jvm.Cond) (o0 : Addr) (h0 : Heap) (n0 : Nat) (Z0 : n0 ≤ h0.size) (E_o0 : Exa Z h0 o0 "java/util/ImmutableCollections$Set12") :
    MetFree l (⟨"java/util/Set", "copyOf", "(Ljava/util/Collection;)Ljava/util/Set;"⟩ : MethodName) (head1 (Jvm.Cond.code (⟨"java/util/Set", "copyOf", "(Ljava/util/Collection;)Ljava/util/Set;"⟩ : MethodName) jdk_96_method_29_code 1 (some (.object "java/util/Set")) :: ws) ({ frames := 0, cells := 0, slots := 0, locals := 0 } : Room)) (fun a U => a = #[(.ref o0)] ∧ Z.Warmed39 U.vm ∧ U.heap = h0) (fun _ _ _ _ _ => True) (fun _ U o U' => ∃ v L, o = .returned v ∧ Q15 Z o0 h0 n0 v U'.heap L ∧ FrameEnd U o U' L ({ frames := 0, cells := 0, slots := 0, locals := 0 } : Room).cells ({ frames := 0, cells := 0, slots := 0, locals := 0 } : Room).slots) := by
  refine MetFree.of_bodySF (plainFor_of_name pn_java_util_Set) hisR ?_
  intro p e s m args below meth c s₁ Bd hml0 hP hK
  obtain ⟨rfl, hZ, hh⟩ := hP
  have hx := Bd.exec
  have hby := Bd.bytes
  have hml : c.maxLocals = 1 := hml0
  have hown : s.vm.findClass "java/util/Set" = some m.cls := findClass_of_methodNamed Bd.named
  have hnm := (name_of_methodNamed Bd.named Bd.method).1
  have X0 : Stand p l e ({ frames := 0, cells := 0, slots := 0, locals := 0 } : Room) s m #[(.ref o0)] below meth c s₁ [] 0 0 := Stand.of_body Bd
  have eH0 : s₁.heap = h0 := by rw [← hh, Bd.state]; rfl
  have N0 := Fr.nil n0
  show Gt p.tables e below (fun o U' => ∃ v L, o = .returned v ∧ Q15 Z o0 h0 n0 v U'.heap L ∧ FrameEnd s o U' L ({ frames := 0, cells := 0, slots := 0, locals := 0 } : Room).cells ({ frames := 0, cells := 0, slots := 0, locals := 0 } : Room).slots) _
  refine own_cast (ef15 m o0) ?_
  refine own_aloadN X0 hx hby rfl rfl d15_0 (pc' := 1) rfl ?_
  refine own_instY X0 hx hby hZ hown (hw _ (List.mem_of_getElem? (i := 89) rfl)) eH0 (Ins.of_exa E_o0 (hw _ (List.mem_of_getElem? (i := 51) rfl))) d15_1 (pc' := 4) rfl (fun T1 X1 eH1 => ?_)
  refine own_ifF X1 hx hby d15_4 (by decide) (pc' := 7) rfl ?_
  refine own_aloadN X1 hx hby rfl rfl d15_7 (pc' := 8) rfl ?_
  refine own_castY X1 hx hby hZ hown (hw _ (List.mem_of_getElem? (i := 90) rfl)) eH1 (Ins.of_exa E_o0 (hw _ (List.mem_of_getElem? (i := 91) rfl))) d15_8 (pc' := 11) rfl (fun T2 X2 eH2 => ?_)
  exact own_retA X2 hx hby Bd.notSynchronized Bd.returns rfl rfl d15_11 (by decide) (by decide) eH2 ⟨rfl, N0, rfl⟩
theorem ef16 (m : MethodId) (x0 : Addr) : entryFrame m #[(.ref x0)] 1 = mkF m 0 #[.val (.ref x0)] [] := by first | (simp [entryFrame, mkF, argsToLocals, Value.category]; done) | rfl
def Q16 (Z : State) (o0 : Addr) (h0 : Heap) (n0 : Nat) (v : Option Value) (h : Heap) (L : List Loc) : Prop := v = some (.int (0 : Int32)) ∧ Fr n0 L ∧ h0 = h
set_option maxRecDepth 65536 in
set_option maxHeartbeats 40000000 in
theorem rm16 (l : Launch) (Z : State) (a0 : Array Value) (hw : ∀ d ∈ tables_1, d.before a0 Z = true) (ws : List Jvm.Cond) (o0 : Addr) (h0 : Heap) (n0 : Nat) (Z0 : n0 ≤ h0.size) :
    MetFree l (⟨"java/util/ImmutableCollections$Set12", "isEmpty", "()Z"⟩ : MethodName) (head1 (Jvm.Cond.code (⟨"java/util/ImmutableCollections$Set12", "isEmpty", "()Z"⟩ : MethodName) jdk_101_method_4_code 1 (some .boolean) :: ws) ({ frames := 0, cells := 0, slots := 0, locals := 0 } : Room)) (fun a U => a = #[(.ref o0)] ∧ Z.Warmed39 U.vm ∧ U.heap = h0) (fun _ _ _ _ _ => True) (fun _ U o U' => ∃ v L, o = .returned v ∧ Q16 Z o0 h0 n0 v U'.heap L ∧ FrameEnd U o U' L ({ frames := 0, cells := 0, slots := 0, locals := 0 } : Room).cells ({ frames := 0, cells := 0, slots := 0, locals := 0 } : Room).slots) := by
  refine MetFree.of_bodySF (plainFor_of_name pn_java_util_ImmutableCollections_Set12) hisR ?_
  intro p e s m args below meth c s₁ Bd hml0 hP hK
  obtain ⟨rfl, hZ, hh⟩ := hP
  have hx := Bd.exec
  have hby := Bd.bytes
  have hml : c.maxLocals = 1 := hml0
  have hown : s.vm.findClass "java/util/ImmutableCollections$Set12" = some m.cls := findClass_of_methodNamed Bd.named
  have hnm := (name_of_methodNamed Bd.named Bd.method).1
  have X0 : Stand p l e ({ frames := 0, cells := 0, slots := 0, locals := 0 } : Room) s m #[(.ref o0)] below meth c s₁ [] 0 0 := Stand.of_body Bd
  have eH0 : s₁.heap = h0 := by rw [← hh, Bd.state]; rfl
  have N0 := Fr.nil n0
  show Gt p.tables e below (fun o U' => ∃ v L, o = .returned v ∧ Q16 Z o0 h0 n0 v U'.heap L ∧ FrameEnd s o U' L ({ frames := 0, cells := 0, slots := 0, locals := 0 } : Room).cells ({ frames := 0, cells := 0, slots := 0, locals := 0 } : Room).slots) _
  refine own_cast (ef16 m o0) ?_
  refine own_iconst X0 hx hby (v := (0 : Int32)) (by decide) d16_0 (pc' := 1) rfl ?_
  exact own_retZ X0 hx hby Bd.notSynchronized Bd.returns (Or.inl rfl) d16_1 (by decide) (by decide) eH0 ⟨rfl, N0, rfl⟩
theorem ef17 (m : MethodId) (x0 : Int32) : entryFrame m #[(.int x0)] 1 = mkF m 0 #[.val (.int x0)] [] := by first | (simp [entryFrame, mkF, argsToLocals, Value.category]; done) | rfl
def Q17 (Z : State) (p0 : Int32) (h0 : Heap) (n0 : Nat) (v : Option Value) (h : Heap) (L : List Loc) : Prop := v = none ∧ Fr n0 L ∧ h0 = h
set_option maxRecDepth 65536 in
set_option maxHeartbeats 40000000 in
theorem rm17 (l : Launch) (Z : State) (a0 : Array Value) (hw : ∀ d ∈ tables_1, d.before a0 Z = true) (ws : List Jvm.Cond) (p0 : Int32) (h0 : Heap) (n0 : Nat) (Z0 : n0 ≤ h0.size) (hk : (¬ (p0 < (1 : Int32)))) :
    MetFree l (⟨"com/example/pausanias/pausanias/query/Ranking", "requireK", "(I)V"⟩ : MethodName) (head1 (Jvm.Cond.code (⟨"com/example/pausanias/pausanias/query/Ranking", "requireK", "(I)V"⟩ : MethodName) prog_38_method_2_code 1 none :: ws) ({ frames := 0, cells := 0, slots := 0, locals := 0 } : Room)) (fun a U => a = #[(.int p0)] ∧ Z.Warmed39 U.vm ∧ U.heap = h0) (fun _ _ _ _ _ => True) (fun _ U o U' => ∃ v L, o = .returned v ∧ Q17 Z p0 h0 n0 v U'.heap L ∧ FrameEnd U o U' L ({ frames := 0, cells := 0, slots := 0, locals := 0 } : Room).cells ({ frames := 0, cells := 0, slots := 0, locals := 0 } : Room).slots) := by
  refine MetFree.of_bodySF (plainFor_of_name pn_com_example_pausanias_pausanias_query_Ranking) hisR ?_
  intro p e s m args below meth c s₁ Bd hml0 hP hK
  obtain ⟨rfl, hZ, hh⟩ := hP
  have hx := Bd.exec
  have hby := Bd.bytes
  have hml : c.maxLocals = 1 := hml0
  have hown : s.vm.findClass "com/example/pausanias/pausanias/query/Ranking" = some m.cls := findClass_of_methodNamed Bd.named
  have hnm := (name_of_methodNamed Bd.named Bd.method).1
  have X0 : Stand p l e ({ frames := 0, cells := 0, slots := 0, locals := 0 } : Room) s m #[(.int p0)] below meth c s₁ [] 0 0 := Stand.of_body Bd
  have eH0 : s₁.heap = h0 := by rw [← hh, Bd.state]; rfl
  have N0 := Fr.nil n0
  show Gt p.tables e below (fun o U' => ∃ v L, o = .returned v ∧ Q17 Z p0 h0 n0 v U'.heap L ∧ FrameEnd s o U' L ({ frames := 0, cells := 0, slots := 0, locals := 0 } : Room).cells ({ frames := 0, cells := 0, slots := 0, locals := 0 } : Room).slots) _
  refine own_cast (ef17 m p0) ?_
  refine own_iloadN X0 hx hby rfl d17_0 (pc' := 1) rfl ?_
  refine own_iconst X0 hx hby (v := (1 : Int32)) (by decide) d17_1 (pc' := 2) rfl ?_
  refine own_icT X0 hx hby d17_2 (own_ic_ge_n hk) (by decide) (pc' := 19) (by decide) ?_
  exact own_retV X0 hx hby Bd.notSynchronized Bd.returns d17_19 (by decide) (by decide) eH0 ⟨rfl, N0, rfl⟩
theorem ef13 (m : MethodId) (x0 : Addr) (x1 : Addr) (x2 : UInt64) (x3 : Int32) : entryFrame m #[(.ref x0), (.ref x1), (.double x2), (.int x3)] 5 = mkF m 0 #[.val (.ref x0), .val (.ref x1), .val (.double x2), .second, .val (.int x3)] [] := by first | (simp [entryFrame, mkF, argsToLocals, Value.category]; done) | rfl
def Q13 (Z : State) (o0 : Addr) (o1 : Addr) (f2 : UInt64) (p3 : Int32) (u_keywords_o0 : Value) (epsilon_o0 : UInt64) (k_o0 : Int32) (h0 : Heap) (n0 : Nat) (v : Option Value) (h : Heap) (L : List Loc) : Prop := v = none ∧ Fr n0 L ∧ Keep h0 h [o0] ∧ Exa Z h o0 "com/example/pausanias/pausanias/query/StreetQuery" ∧ Fld Z h o0 "com/example/pausanias/pausanias/query/StreetQuery" "keywords" "Ljava/util/Set;" (.ref o1) ∧ Fld Z h o0 "com/example/pausanias/pausanias/query/StreetQuery" "epsilon" "D" (.double f2) ∧ Fld Z h o0 "com/example/pausanias/pausanias/query/StreetQuery" "k" "I" (.int p3)
set_option maxRecDepth 65536 in
set_option maxHeartbeats 40000000 in
theorem rm13 (l : Launch) (Z : State) (a0 : Array Value) (hw : ∀ d ∈ tables_1, d.before a0 Z = true) (ws : List Jvm.Cond) (o0 : Addr) (o1 : Addr) (f2 : UInt64) (p3 : Int32) (u_keywords_o0 : Value) (epsilon_o0 : UInt64) (k_o0 : Int32) (h0 : Heap) (n0 : Nat) (Z0 : n0 ≤ h0.size) (F_o0_keywords : Fld Z h0 o0 "com/example/pausanias/pausanias/query/StreetQuery" "keywords" "Ljava/util/Set;" u_keywords_o0) (F_o0_epsilon : Fld Z h0 o0 "com/example/pausanias/pausanias/query/StreetQuery" "epsilon" "D" (.double epsilon_o0)) (F_o0_k : Fld Z h0 o0 "com/example/pausanias/pausanias/query/StreetQuery" "k" "I" (.int k_o0)) (E_o1 : Exa Z h0 o1 "java/util/ImmutableCollections$Set12") (hpos : (dgt f2 (0 : UInt64))) (hinf : (dlt f2 (9218868437227405312 : UInt64))) (hk_58 : (¬ (p3 < (1 : Int32)))) (E_o0 : Exa Z h0 o0 "com/example/pausanias/pausanias/query/StreetQuery") (g_o0 : n0 ≤ o0) :
    MetFree l (⟨"com/example/pausanias/pausanias/query/StreetQuery", "<init>", "(Ljava/util/Set;DI)V"⟩ : MethodName) (head1 (Jvm.Cond.code (⟨"com/example/pausanias/pausanias/query/StreetQuery", "<init>", "(Ljava/util/Set;DI)V"⟩ : MethodName) prog_40_method_1_code 5 none :: ws) ({ frames := 2, cells := 0, slots := 0, locals := 24 } : Room)) (fun a U => a = #[(.ref o0), (.ref o1), (.double f2), (.int p3)] ∧ Z.Warmed39 U.vm ∧ U.heap = h0) (fun _ _ _ _ _ => True) (fun _ U o U' => ∃ v L, o = .returned v ∧ Q13 Z o0 o1 f2 p3 u_keywords_o0 epsilon_o0 k_o0 h0 n0 v U'.heap L ∧ FrameEnd U o U' L ({ frames := 2, cells := 0, slots := 0, locals := 24 } : Room).cells ({ frames := 2, cells := 0, slots := 0, locals := 24 } : Room).slots) := by
  refine MetFree.of_bodySF (plainFor_of_name pn_com_example_pausanias_pausanias_query_StreetQuery) hisR ?_
  intro p e s m args below meth c s₁ Bd hml0 hP hK
  obtain ⟨rfl, hZ, hh⟩ := hP
  have hx := Bd.exec
  have hby := Bd.bytes
  have hml : c.maxLocals = 5 := hml0
  have hown : s.vm.findClass "com/example/pausanias/pausanias/query/StreetQuery" = some m.cls := findClass_of_methodNamed Bd.named
  have hnm := (name_of_methodNamed Bd.named Bd.method).1
  have X0 : Stand p l e ({ frames := 2, cells := 0, slots := 0, locals := 24 } : Room) s m #[(.ref o0), (.ref o1), (.double f2), (.int p3)] below meth c s₁ [] 0 0 := Stand.of_body Bd
  have eH0 : s₁.heap = h0 := by rw [← hh, Bd.state]; rfl
  have N0 := Fr.nil n0
  have K0 := Keep.refl h0 [o0]
  show Gt p.tables e below (fun o U' => ∃ v L, o = .returned v ∧ Q13 Z o0 o1 f2 p3 u_keywords_o0 epsilon_o0 k_o0 h0 n0 v U'.heap L ∧ FrameEnd s o U' L ({ frames := 2, cells := 0, slots := 0, locals := 24 } : Room).cells ({ frames := 2, cells := 0, slots := 0, locals := 24 } : Room).slots) _
  refine own_cast (ef13 m o0 o1 f2 p3) ?_
  refine own_aloadN X0 hx hby rfl rfl d13_0 (pc' := 1) rfl ?_
  refine own_special X0 hx hby hZ (y := (⟨"java/lang/Record", "<init>", "()V"⟩ : MethodName)) (rest := []) rfl hown (hw _ (List.mem_of_getElem? (i := 80) rfl)) (hw _ (List.mem_of_getElem? (i := 81) rfl)) rfl (hw _ (List.mem_of_getElem? (i := 84) rfl)) (hw _ (List.mem_of_getElem? (i := 83) rfl)) (by decide) (rm14 l Z a0 hw [] o0 h0 n0 Z0) eH0 (by rw [hml]; rfl) (a := o0) (argsL := []) rfl (lenOf pd_4 rfl) rfl d13_1 (pc' := 4) rfl (by decide) (W := 0) (Nat.le_of_eq rfl) (by decide) (by decide) (by decide) (fun T1 h1 Lc1 v1r X1 eH1 hQ1 => ?_)
  obtain ⟨rfl, Nq1, rfl⟩ := hQ1
  have N1 := Fr.app N0 Nq1
  refine own_aloadN X1 hx hby rfl rfl d13_4 (pc' := 5) rfl ?_
  refine own_static X1 hx hby hZ (y := (⟨"java/util/Set", "copyOf", "(Ljava/util/Collection;)Ljava/util/Set;"⟩ : MethodName)) (rest := []) hown (hw _ (List.mem_of_getElem? (i := 86) rfl)) (hw _ (List.mem_of_getElem? (i := 87) rfl)) (hw _ (List.mem_of_getElem? (i := 88) rfl)) (hw _ (List.mem_of_getElem? (i := 39) rfl)) (by decide) (rm15 l Z a0 hw [] o1 h0 n0 Z0 E_o1) eH1 (by rw [hml]; rfl) (argsL := [(.ref o1)]) rfl (lenOf pd_7 rfl) rfl d13_5 (pc' := 8) rfl (by decide) (W := 0) (Nat.le_of_eq rfl) (by decide) (by decide) (by decide) (fun T2 h2 Lc2 v2r X2 eH2 hQ2 => ?_)
  obtain ⟨rfl, Nq2, rfl⟩ := hQ2
  have N2 := Fr.app N1 Nq2
  refine own_astoreN X2 hx hby rfl (L' := #[.val (.ref o0), .val (.ref o1), .val (.double f2), .second, .val (.int p3)]) rfl d13_8 (pc' := 9) rfl ?_
  refine own_aloadN X2 hx hby rfl rfl d13_9 (pc' := 10) rfl ?_
  refine own_iface X2 hx hby hZ (y := (⟨"java/util/ImmutableCollections$Set12", "isEmpty", "()Z"⟩ : MethodName)) (y' := (⟨"java/util/Set", "isEmpty", "()Z"⟩ : MethodName)) (C := "java/util/ImmutableCollections$Set12") (rest := []) hown (hw _ (List.mem_of_getElem? (i := 92) rfl)) (hw _ (List.mem_of_getElem? (i := 93) rfl)) (hw _ (List.mem_of_getElem? (i := 94) rfl)) (hw _ (List.mem_of_getElem? (i := 95) rfl)) (hw _ (List.mem_of_getElem? (i := 96) rfl)) (hw _ (List.mem_of_getElem? (i := 97) rfl)) (hw _ (List.mem_of_getElem? (i := 98) rfl)) (hw _ (List.mem_of_getElem? (i := 91) rfl)) (hw _ (List.mem_of_getElem? (i := 99) rfl)) (hw _ (List.mem_of_getElem? (i := 43) rfl)) (by decide) (rm16 l Z a0 hw [] o1 h0 n0 Z0) eH2 (by rw [hml]; rfl) (a := o1) E_o1 (argsL := []) rfl (lenOf pd_8 rfl) rfl d13_10 (pc' := 15) rfl (by decide) (W := 0) (Nat.le_of_eq rfl) (by decide) (by decide) (by decide) (fun T3 h3 Lc3 v3r X3 eH3 hQ3 => ?_)
  obtain ⟨rfl, Nq3, rfl⟩ := hQ3
  have N3 := Fr.app N2 Nq3
  refine own_ifT X3 hx hby d13_15 (by decide) (by decide) (pc' := 28) (by decide) ?_
  refine own_dloadN X3 hx hby rfl d13_28 (pc' := 29) rfl ?_
  refine own_dconst0 X3 hx hby (v := (0 : UInt64)) (by decide) d13_29 (pc' := 30) rfl ?_
  refine own_dcmp X3 hx hby rfl d13_30 (pc' := 31) rfl ?_
  refine own_ifF X3 hx hby d13_31 (own_dl_le_p hpos) (pc' := 34) rfl ?_
  refine own_dloadN X3 hx hby rfl d13_34 (pc' := 35) rfl ?_
  refine own_ldc2D X3 hx hby hZ hown (hw _ (List.mem_of_getElem? (i := 100) rfl)) d13_35 (pc' := 38) rfl ?_
  refine own_dcmp X3 hx hby rfl d13_38 (pc' := 39) rfl ?_
  refine own_ifT X3 hx hby d13_39 (own_dg_lt_p hinf) (by decide) (pc' := 56) (by decide) ?_
  refine own_iload X3 hx hby rfl d13_56 (pc' := 58) rfl ?_
  refine own_static X3 hx hby hZ (y := (⟨"com/example/pausanias/pausanias/query/Ranking", "requireK", "(I)V"⟩ : MethodName)) (rest := []) hown (hw _ (List.mem_of_getElem? (i := 101) rfl)) (hw _ (List.mem_of_getElem? (i := 102) rfl)) (hw _ (List.mem_of_getElem? (i := 104) rfl)) (hw _ (List.mem_of_getElem? (i := 103) rfl)) (by decide) (rm17 l Z a0 hw [] p3 h0 n0 Z0 hk_58) eH3 (by rw [hml]; rfl) (argsL := [(.int p3)]) rfl (lenOf pd_9 rfl) rfl d13_58 (pc' := 61) rfl (by decide) (W := 0) (Nat.le_of_eq rfl) (by decide) (by decide) (by decide) (fun T4 h4 Lc4 v4r X4 eH4 hQ4 => ?_)
  obtain ⟨rfl, Nq4, rfl⟩ := hQ4
  have N4 := Fr.app N3 Nq4
  refine own_aloadN X4 hx hby rfl rfl d13_61 (pc' := 62) rfl ?_
  refine own_aloadN X4 hx hby rfl rfl d13_62 (pc' := 63) rfl ?_
  refine own_putF X4 hx hby hZ hown (host := "") (Or.inl (hw _ (List.mem_of_getElem? (i := 105) rfl))) Via.refl eH4 F_o0_keywords E_o0 (Or.inr ⟨(hw _ (List.mem_of_getElem? (i := 106) rfl)), rfl, hnm⟩) (hw _ (List.mem_of_getElem? (i := 6) rfl)) (ty := (.object "java/util/Set")) (by decide) rfl rfl d13_63 (pc' := 66) rfl (fun T5 h5 X5 eH5 W5 => ?_)
  replace E_o0 := E_o0.wr W5
  replace F_o0_keywords := F_o0_keywords.same W5
  replace F_o0_epsilon := F_o0_epsilon.other W5 (Or.inr (slot_ne (Or.inr (hw _ (List.mem_of_getElem? (i := 108) rfl))) (Or.inr (hw _ (List.mem_of_getElem? (i := 106) rfl))) (by decide) (t := .double) (t' := (.object "java/util/Set")) (by decide) (by decide)))
  replace F_o0_k := F_o0_k.other W5 (Or.inr (slot_ne (Or.inr (hw _ (List.mem_of_getElem? (i := 110) rfl))) (Or.inr (hw _ (List.mem_of_getElem? (i := 106) rfl))) (by decide) (t := .int) (t' := (.object "java/util/Set")) (by decide) (by decide)))
  replace E_o1 := E_o1.wr W5
  have N5 := Fr.snoc X5 N4 g_o0
  replace K0 := K0.wr W5 (Or.inl (by simp))
  replace Z0 := Nat.le_trans Z0 (Nat.le_of_eq W5.size.symm)
  refine own_aloadN X5 hx hby rfl rfl d13_66 (pc' := 67) rfl ?_
  refine own_dloadN X5 hx hby rfl d13_67 (pc' := 68) rfl ?_
  refine own_putF X5 hx hby hZ hown (host := "") (Or.inl (hw _ (List.mem_of_getElem? (i := 107) rfl))) Via.refl eH5 F_o0_epsilon E_o0 (Or.inr ⟨(hw _ (List.mem_of_getElem? (i := 108) rfl)), rfl, hnm⟩) (hw _ (List.mem_of_getElem? (i := 6) rfl)) (ty := .double) (by decide) rfl rfl d13_68 (pc' := 71) rfl (fun T6 h6 X6 eH6 W6 => ?_)
  replace E_o0 := E_o0.wr W6
  replace F_o0_keywords := F_o0_keywords.other W6 (Or.inr (slot_ne (Or.inr (hw _ (List.mem_of_getElem? (i := 106) rfl))) (Or.inr (hw _ (List.mem_of_getElem? (i := 108) rfl))) (by decide) (t := (.object "java/util/Set")) (t' := .double) (by decide) (by decide)))
  replace F_o0_epsilon := F_o0_epsilon.same W6
  replace F_o0_k := F_o0_k.other W6 (Or.inr (slot_ne (Or.inr (hw _ (List.mem_of_getElem? (i := 110) rfl))) (Or.inr (hw _ (List.mem_of_getElem? (i := 108) rfl))) (by decide) (t := .int) (t' := .double) (by decide) (by decide)))
  replace E_o1 := E_o1.wr W6
  have N6 := Fr.snoc X6 N5 g_o0
  replace K0 := K0.wr W6 (Or.inl (by simp))
  replace Z0 := Nat.le_trans Z0 (Nat.le_of_eq W6.size.symm)
  refine own_aloadN X6 hx hby rfl rfl d13_71 (pc' := 72) rfl ?_
  refine own_iload X6 hx hby rfl d13_72 (pc' := 74) rfl ?_
  refine own_putF X6 hx hby hZ hown (host := "") (Or.inl (hw _ (List.mem_of_getElem? (i := 109) rfl))) Via.refl eH6 F_o0_k E_o0 (Or.inr ⟨(hw _ (List.mem_of_getElem? (i := 110) rfl)), rfl, hnm⟩) (hw _ (List.mem_of_getElem? (i := 6) rfl)) (ty := .int) (by decide) rfl rfl d13_74 (pc' := 77) rfl (fun T7 h7 X7 eH7 W7 => ?_)
  replace E_o0 := E_o0.wr W7
  replace F_o0_keywords := F_o0_keywords.other W7 (Or.inr (slot_ne (Or.inr (hw _ (List.mem_of_getElem? (i := 106) rfl))) (Or.inr (hw _ (List.mem_of_getElem? (i := 110) rfl))) (by decide) (t := (.object "java/util/Set")) (t' := .int) (by decide) (by decide)))
  replace F_o0_epsilon := F_o0_epsilon.other W7 (Or.inr (slot_ne (Or.inr (hw _ (List.mem_of_getElem? (i := 108) rfl))) (Or.inr (hw _ (List.mem_of_getElem? (i := 110) rfl))) (by decide) (t := .double) (t' := .int) (by decide) (by decide)))
  replace F_o0_k := F_o0_k.same W7
  replace E_o1 := E_o1.wr W7
  have N7 := Fr.snoc X7 N6 g_o0
  replace K0 := K0.wr W7 (Or.inl (by simp))
  replace Z0 := Nat.le_trans Z0 (Nat.le_of_eq W7.size.symm)
  exact own_retV X7 hx hby Bd.notSynchronized Bd.returns d13_77 (by decide) (by decide) eH7 ⟨rfl, N7, K0, E_o0, F_o0_keywords, F_o0_epsilon, F_o0_k⟩
theorem ef18 (m : MethodId) (x0 : Addr) (x1 : Int64) (x2 : UInt64) : entryFrame m #[(.ref x0), (.long x1), (.double x2)] 5 = mkF m 0 #[.val (.ref x0), .val (.long x1), .second, .val (.double x2), .second] [] := by first | (simp [entryFrame, mkF, argsToLocals, Value.category]; done) | rfl
def Q18 (Z : State) (o0 : Addr) (p1 : Int64) (f2 : UInt64) (epsilon_o0 : UInt64) (h0 : Heap) (n0 : Nat) (v : Option Value) (h : Heap) (L : List Loc) : Prop := v = some (.double (FP.ddiv (FP.l2d p1) (FP.dadd (FP.dmul (FP.dmul (4611686018427387904 : UInt64) epsilon_o0) f2) (FP.dmul (FP.dmul (4614256656552045848 : UInt64) epsilon_o0) epsilon_o0)))) ∧ Fr n0 L ∧ h0 = h
set_option maxRecDepth 65536 in
set_option maxHeartbeats 40000000 in
theorem rm18 (l : Launch) (Z : State) (a0 : Array Value) (hw : ∀ d ∈ tables_1, d.before a0 Z = true) (ws : List Jvm.Cond) (o0 : Addr) (p1 : Int64) (f2 : UInt64) (epsilon_o0 : UInt64) (h0 : Heap) (n0 : Nat) (Z0 : n0 ≤ h0.size) (F_o0_epsilon : Fld Z h0 o0 "com/example/pausanias/pausanias/query/StreetQuery" "epsilon" "D" (.double epsilon_o0)) (hn9_1 : (NoNaN64 (FP.dmul (4611686018427387904 : UInt64) epsilon_o0))) (hn11_1 : (NoNaN64 (FP.dmul (FP.dmul (4611686018427387904 : UInt64) epsilon_o0) f2))) (hn19_1 : (NoNaN64 (FP.dmul (4614256656552045848 : UInt64) epsilon_o0))) (hn24_1 : (NoNaN64 (FP.dmul (FP.dmul (4614256656552045848 : UInt64) epsilon_o0) epsilon_o0))) (hn25_1 : (NoNaN64 (FP.dadd (FP.dmul (FP.dmul (4611686018427387904 : UInt64) epsilon_o0) f2) (FP.dmul (FP.dmul (4614256656552045848 : UInt64) epsilon_o0) epsilon_o0)))) (hn26_1 : (NoNaN64 (FP.ddiv (FP.l2d p1) (FP.dadd (FP.dmul (FP.dmul (4611686018427387904 : UInt64) epsilon_o0) f2) (FP.dmul (FP.dmul (4614256656552045848 : UInt64) epsilon_o0) epsilon_o0))))) :
    MetFree l (⟨"com/example/pausanias/pausanias/query/StreetQuery", "interest", "(JD)D"⟩ : MethodName) (head1 (Jvm.Cond.code (⟨"com/example/pausanias/pausanias/query/StreetQuery", "interest", "(JD)D"⟩ : MethodName) prog_40_method_3_code 5 (some .double) :: ws) ({ frames := 0, cells := 0, slots := 0, locals := 0 } : Room)) (fun a U => a = #[(.ref o0), (.long p1), (.double f2)] ∧ Z.Warmed39 U.vm ∧ U.heap = h0) (fun _ _ _ _ _ => True) (fun _ U o U' => ∃ v L, o = .returned v ∧ Q18 Z o0 p1 f2 epsilon_o0 h0 n0 v U'.heap L ∧ FrameEnd U o U' L ({ frames := 0, cells := 0, slots := 0, locals := 0 } : Room).cells ({ frames := 0, cells := 0, slots := 0, locals := 0 } : Room).slots) := by
  refine MetFree.of_bodySF (plainFor_of_name pn_com_example_pausanias_pausanias_query_StreetQuery) hisR ?_
  intro p e s m args below meth c s₁ Bd hml0 hP hK
  obtain ⟨rfl, hZ, hh⟩ := hP
  have hx := Bd.exec
  have hby := Bd.bytes
  have hml : c.maxLocals = 5 := hml0
  have hown : s.vm.findClass "com/example/pausanias/pausanias/query/StreetQuery" = some m.cls := findClass_of_methodNamed Bd.named
  have hnm := (name_of_methodNamed Bd.named Bd.method).1
  have X0 : Stand p l e ({ frames := 0, cells := 0, slots := 0, locals := 0 } : Room) s m #[(.ref o0), (.long p1), (.double f2)] below meth c s₁ [] 0 0 := Stand.of_body Bd
  have eH0 : s₁.heap = h0 := by rw [← hh, Bd.state]; rfl
  have N0 := Fr.nil n0
  show Gt p.tables e below (fun o U' => ∃ v L, o = .returned v ∧ Q18 Z o0 p1 f2 epsilon_o0 h0 n0 v U'.heap L ∧ FrameEnd s o U' L ({ frames := 0, cells := 0, slots := 0, locals := 0 } : Room).cells ({ frames := 0, cells := 0, slots := 0, locals := 0 } : Room).slots) _
  refine own_cast (ef18 m o0 p1 f2) ?_
  refine own_lloadN X0 hx hby rfl d18_0 (pc' := 1) rfl ?_
  refine own_l2d X0 hx hby rfl d18_1 (pc' := 2) rfl ?_
  refine own_ldc2D X0 hx hby hZ hown (hw _ (List.mem_of_getElem? (i := 116) rfl)) d18_2 (pc' := 5) rfl ?_
  refine own_aloadN X0 hx hby rfl rfl d18_5 (pc' := 6) rfl ?_
  refine own_getF X0 hx hby hZ hown (host := "") (Or.inl (hw _ (List.mem_of_getElem? (i := 107) rfl))) Via.refl eH0 F_o0_epsilon d18_6 (pc' := 9) rfl (fun T1 X1 eH1 => ?_)
  refine own_dmul X1 hx hby hn9_1 rfl d18_9 (pc' := 10) rfl ?_
  refine own_dloadN X1 hx hby rfl d18_10 (pc' := 11) rfl ?_
  refine own_dmul X1 hx hby hn11_1 rfl d18_11 (pc' := 12) rfl ?_
  refine own_ldc2D X1 hx hby hZ hown (hw _ (List.mem_of_getElem? (i := 117) rfl)) d18_12 (pc' := 15) rfl ?_
  refine own_aloadN X1 hx hby rfl rfl d18_15 (pc' := 16) rfl ?_
  refine own_getF X1 hx hby hZ hown (host := "") (Or.inl (hw _ (List.mem_of_getElem? (i := 107) rfl))) Via.refl eH1 F_o0_epsilon d18_16 (pc' := 19) rfl (fun T2 X2 eH2 => ?_)
  refine own_dmul X2 hx hby hn19_1 rfl d18_19 (pc' := 20) rfl ?_
  refine own_aloadN X2 hx hby rfl rfl d18_20 (pc' := 21) rfl ?_
  refine own_getF X2 hx hby hZ hown (host := "") (Or.inl (hw _ (List.mem_of_getElem? (i := 107) rfl))) Via.refl eH2 F_o0_epsilon d18_21 (pc' := 24) rfl (fun T3 X3 eH3 => ?_)
  refine own_dmul X3 hx hby hn24_1 rfl d18_24 (pc' := 25) rfl ?_
  refine own_dadd X3 hx hby hn25_1 rfl d18_25 (pc' := 26) rfl ?_
  refine own_ddiv X3 hx hby hn26_1 rfl d18_26 (pc' := 27) rfl ?_
  exact own_retD X3 hx hby Bd.notSynchronized Bd.returns d18_27 (by decide) (by decide) eH3 ⟨rfl, N0, rfl⟩
theorem ef0 (m : MethodId) (x0 : Int64) (x1 : Int32) (x2 : Int32) (x3 : Int32) : entryFrame m #[(.long x0), (.int x1), (.int x2), (.int x3)] maxLocals = mkF m 0 #[.val (.long x0), .second, .val (.int x1), .val (.int x2), .val (.int x3), .unset, .unset, .unset, .unset, .unset, .unset, .unset, .unset, .unset, .unset, .unset, .unset, .unset, .unset, .unset, .unset, .unset, .unset, .unset] [] := by first | (simp [entryFrame, mkF, argsToLocals, Value.category, maxLocals]; done) | rfl
def Q0 (Z : State) (p0 : Int64) (p1 : Int32) (p2 : Int32) (p3 : Int32) (st_COMPACT_STRINGS : Int32) (st_EMPTY : Addr) (h0 : Heap) (n0 : Nat) (v : Option Value) (h : Heap) (L : List Loc) : Prop := v = some (.int 1) ∧ Fr n0 L
set_option maxRecDepth 65536 in
set_option maxHeartbeats 40000000 in
theorem rm0 (l : Launch) (Z : State) (a0 : Array Value) (hw : ∀ d ∈ tables_1, d.before a0 Z = true) (ws : List Jvm.Cond) (p0 : Int64) (p1 : Int32) (p2 : Int32) (p3 : Int32) (st_COMPACT_STRINGS : Int32) (st_EMPTY : Addr) (h0 : Heap) (n0 : Nat) (Z0 : n0 ≤ h0.size) (S_COMPACT_STRINGS : Sta Z h0 "java/lang/String" "COMPACT_STRINGS" "Z" (.int st_COMPACT_STRINGS)) (hcs : (¬ (st_COMPACT_STRINGS = 0))) (S_EMPTY : Sta Z h0 "java/util/ImmutableCollections" "EMPTY" "Ljava/lang/Object;" (.ref st_EMPTY)) :
    MetFree l x (head1 (Jvm.Cond.code x code maxLocals ret :: ws) room_1) (fun a U => a = #[(.long p0), (.int p1), (.int p2), (.int p3)] ∧ Z.Warmed39 U.vm ∧ U.heap = h0) (fun _ _ _ _ _ => True) (fun _ U o U' => ∃ v L, o = .returned v ∧ Q0 Z p0 p1 p2 p3 st_COMPACT_STRINGS st_EMPTY h0 n0 v U'.heap L ∧ FrameEnd U o U' L 24 128) := by
  refine MetFree.of_bodySF (plainFor_of_name pn_com_example_pausanias_pausanias_query_StreetQueryInterestPinLaw) hisR ?_
  intro p e s m args below meth c s₁ Bd hml0 hP hK
  obtain ⟨rfl, hZ, hh⟩ := hP
  have hx := Bd.exec
  have hby := Bd.bytes
  have hml : c.maxLocals = 24 := hml0
  have hown : s.vm.findClass "com/example/pausanias/pausanias/query/StreetQueryInterestPinLaw" = some m.cls := findClass_of_methodNamed Bd.named
  have hnm := (name_of_methodNamed Bd.named Bd.method).1
  have X0 : Stand p l e room_1 s m #[(.long p0), (.int p1), (.int p2), (.int p3)] below meth c s₁ [] 0 0 := Stand.of_body Bd
  have eH0 : s₁.heap = h0 := by rw [← hh, Bd.state]; rfl
  have N0 := Fr.nil n0
  show Gt p.tables e below (fun o U' => ∃ v L, o = .returned v ∧ Q0 Z p0 p1 p2 p3 st_COMPACT_STRINGS st_EMPTY h0 n0 v U'.heap L ∧ FrameEnd s o U' L 24 128) _
  refine own_cast (ef0 m p0 p1 p2 p3) ?_
  refine own_iloadN X0 hx hby rfl at_0 (pc' := 1) rfl ?_
  refine own_ldcI X0 hx hby hZ hown (hw _ (List.mem_of_getElem? (i := 0) rfl)) at_1 (pc' := 3) rfl ?_
  refine own_iand X0 hx hby rfl at_3 (pc' := 4) rfl ?_
  refine own_iconst X0 hx hby (v := (1 : Int32)) (by decide) at_4 (pc' := 5) rfl ?_
  refine own_iadd X0 hx hby rfl at_5 (pc' := 6) rfl ?_
  obtain ⟨v1, q_v1⟩ : ∃ z : UInt64, (FP.i2d ((p1 &&& (65535 : Int32)) + (1 : Int32))) = z := ⟨_, rfl⟩
  have D_v1 : Dy v1 ((p1 &&& (65535 : Int32)) + (1 : Int32)).toInt 0 := q_v1 ▸ dy_i2d ((p1 &&& (65535 : Int32)) + (1 : Int32))
  refine own_i2d X0 hx hby q_v1 at_6 (pc' := 7) rfl ?_
  refine own_ldc2D X0 hx hby hZ hown (hw _ (List.mem_of_getElem? (i := 1) rfl)) at_7 (pc' := 10) rfl ?_
  obtain ⟨v2, q_v2⟩ : ∃ z : UInt64, (FP.ddiv v1 (4634204016564240384 : UInt64)) = z := ⟨_, rfl⟩
  have D_v2 := own_e6 q_v2 D_v1 (own_ne p1)
  have nn_v2 := D_v2.nn
  refine own_ddiv X0 hx hby (by rw [q_v2]; exact nn_v2) q_v2 at_10 (pc' := 11) rfl ?_
  refine own_dstore X0 hx hby (L' := #[.val (.long p0), .second, .val (.int p1), .val (.int p2), .val (.int p3), .val (.double v2), .second, .unset, .unset, .unset, .unset, .unset, .unset, .unset, .unset, .unset, .unset, .unset, .unset, .unset, .unset, .unset, .unset, .unset]) rfl at_11 (pc' := 13) rfl ?_
  refine own_iloadN X0 hx hby rfl at_13 (pc' := 14) rfl ?_
  refine own_ldcI X0 hx hby hZ hown (hw _ (List.mem_of_getElem? (i := 2) rfl)) at_14 (pc' := 16) rfl ?_
  refine own_iand X0 hx hby rfl at_16 (pc' := 17) rfl ?_
  obtain ⟨v3, q_v3⟩ : ∃ z : UInt64, (FP.i2d (p2 &&& (1048575 : Int32))) = z := ⟨_, rfl⟩
  have D_v3 : Dy v3 (p2 &&& (1048575 : Int32)).toInt 0 := q_v3 ▸ dy_i2d (p2 &&& (1048575 : Int32))
  refine own_i2d X0 hx hby q_v3 at_17 (pc' := 18) rfl ?_
  refine own_ldc2D X0 hx hby hZ hown (hw _ (List.mem_of_getElem? (i := 3) rfl)) at_18 (pc' := 21) rfl ?_
  obtain ⟨v4, q_v4⟩ : ∃ z : UInt64, (FP.ddiv v3 (4625196817309499392 : UInt64)) = z := ⟨_, rfl⟩
  have D_v4 := own_l4 q_v4 D_v3 (own_nl p2)
  have nn_v4 := D_v4.nn
  refine own_ddiv X0 hx hby (by rw [q_v4]; exact nn_v4) q_v4 at_21 (pc' := 22) rfl ?_
  refine own_dstore X0 hx hby (L' := #[.val (.long p0), .second, .val (.int p1), .val (.int p2), .val (.int p3), .val (.double v2), .second, .val (.double v4), .second, .unset, .unset, .unset, .unset, .unset, .unset, .unset, .unset, .unset, .unset, .unset, .unset, .unset, .unset, .unset]) rfl at_22 (pc' := 24) rfl ?_
  refine own_iconst X0 hx hby (v := (1 : Int32)) (by decide) at_24 (pc' := 25) rfl ?_
  refine own_newP X0 hx hby hZ (hw _ (List.mem_of_getElem? (i := 4) rfl)) eH0 at_25 (pc' := 27) rfl (by decide) (N := 1) (by decide) (cap := 1) (by decide) (by decide) (by decide) (by decide) (ad := "[C") (by decide) (fun T5 h5 b5 X5 eH5 E5 g5 E_b5 V_b5 => ?_)
  have g_b5 : n0 ≤ b5 := g5 ▸ Z0
  replace S_COMPACT_STRINGS := S_COMPACT_STRINGS.ext E5
  replace S_EMPTY := S_EMPTY.ext E5
  replace Z0 := Nat.le_trans Z0 E5.1
  have V_b5 : Ary tr Z h5 b5 .char [(.int (0 : Int32))] := V_b5
  refine own_dup X5 hx hby rfl at_27 (pc' := 28) rfl ?_
  refine own_iconst X5 hx hby (v := (0 : Int32)) (by decide) at_28 (pc' := 29) rfl ?_
  refine own_iload X5 hx hby rfl at_29 (pc' := 31) rfl ?_
  refine own_sipush X5 hx hby (v := (255 : Int32)) (by decide) at_31 (pc' := 34) rfl ?_
  refine own_iand X5 hx hby rfl at_34 (pc' := 35) rfl ?_
  refine own_i2c X5 hx hby rfl at_35 (pc' := 36) rfl ?_
  refine own_castore X5 hx hby hZ eH5 V_b5 (by decide) (n := 0) (by decide) (of_decide_eq_true rfl) at_36 (pc' := 37) rfl (fun T6 h6 X6 eH6 W6 => ?_)
  replace E_b5 := E_b5.wr W6
  replace S_COMPACT_STRINGS := S_COMPACT_STRINGS.wr W6
  replace S_EMPTY := S_EMPTY.wr W6
  have N6 := Fr.snoc X6 N0 g_b5
  replace Z0 := Nat.le_trans Z0 (Nat.le_of_eq W6.size.symm)
  replace V_b5 : Ary tr Z h6 b5 .char [(.int (nar .char ((p3 &&& (255 : Int32)).toUInt32.toUInt16.toUInt32.toInt32)))] := V_b5.set W6
  refine own_astore X6 hx hby rfl (L' := #[.val (.long p0), .second, .val (.int p1), .val (.int p2), .val (.int p3), .val (.double v2), .second, .val (.double v4), .second, .val (.ref b5), .unset, .unset, .unset, .unset, .unset, .unset, .unset, .unset, .unset, .unset, .unset, .unset, .unset, .unset]) rfl at_37 (pc' := 39) rfl ?_
  refine own_iload X6 hx hby rfl at_39 (pc' := 41) rfl ?_
  refine own_bipush X6 hx hby (v := (8 : Int32)) (by decide) at_41 (pc' := 43) rfl ?_
  refine own_iushr X6 hx hby rfl at_43 (pc' := 44) rfl ?_
  refine own_sipush X6 hx hby (v := (255 : Int32)) (by decide) at_44 (pc' := 47) rfl ?_
  refine own_iand X6 hx hby rfl at_47 (pc' := 48) rfl ?_
  refine own_iconst X6 hx hby (v := (1 : Int32)) (by decide) at_48 (pc' := 49) rfl ?_
  refine own_iadd X6 hx hby rfl at_49 (pc' := 50) rfl ?_
  generalize q_n7 : ((((p3.toUInt32 >>> ((8 : Int32) &&& 31).toUInt32).toInt32) &&& (255 : Int32)) + (1 : Int32)) = n7
  refine own_istore X6 hx hby (L' := #[.val (.long p0), .second, .val (.int p1), .val (.int p2), .val (.int p3), .val (.double v2), .second, .val (.double v4), .second, .val (.ref b5), .val (.int n7), .unset, .unset, .unset, .unset, .unset, .unset, .unset, .unset, .unset, .unset, .unset, .unset, .unset]) rfl at_50 (pc' := 52) rfl ?_
  refine own_newO X6 hx hby hZ hown (hw _ (List.mem_of_getElem? (i := 5) rfl)) (hw _ (List.mem_of_getElem? (i := 6) rfl)) (hw _ (List.mem_of_getElem? (i := 7) rfl)) eH6 at_52 (pc' := 55) rfl (by decide) (by decide) (fun T8 h8 b8 X8 eH8 E8 g8 E_b8 D8 => ?_)
  have g_b8 : n0 ≤ b8 := g8 ▸ Z0
  have ne_b5_b8 : b5 ≠ b8 := Nat.ne_of_lt (g8 ▸ E_b5.lt)
  replace E_b5 := E_b5.ext E8
  replace V_b5 := V_b5.ext E8
  replace S_COMPACT_STRINGS := S_COMPACT_STRINGS.ext E8
  replace S_EMPTY := S_EMPTY.ext E8
  replace Z0 := Nat.le_trans Z0 E8.1
  have F_b8_keywords : Fld Z h8 b8 "com/example/pausanias/pausanias/query/StreetQuery" "keywords" "Ljava/util/Set;" .null := D8 (Or.inr (hw _ (List.mem_of_getElem? (i := 106) rfl))) (ty := (.object "java/util/Set")) (by decide)
  have F_b8_epsilon : Fld Z h8 b8 "com/example/pausanias/pausanias/query/StreetQuery" "epsilon" "D" (.double (0 : UInt64)) := D8 (Or.inr (hw _ (List.mem_of_getElem? (i := 108) rfl))) (ty := .double) (by decide)
  have F_b8_k : Fld Z h8 b8 "com/example/pausanias/pausanias/query/StreetQuery" "k" "I" (.int (0 : Int32)) := D8 (Or.inr (hw _ (List.mem_of_getElem? (i := 110) rfl))) (ty := .int) (by decide)
  refine own_dup X8 hx hby rfl at_55 (pc' := 56) rfl ?_
  refine own_newO X8 hx hby hZ hown (hw _ (List.mem_of_getElem? (i := 8) rfl)) (hw _ (List.mem_of_getElem? (i := 9) rfl)) (hw _ (List.mem_of_getElem? (i := 10) rfl)) eH8 at_56 (pc' := 59) rfl (by decide) (by decide) (fun T9 h9 b9 X9 eH9 E9 g9 E_b9 D9 => ?_)
  have g_b9 : n0 ≤ b9 := g9 ▸ Z0
  have ne_b5_b9 : b5 ≠ b9 := Nat.ne_of_lt (g9 ▸ E_b5.lt)
  have ne_b8_b9 : b8 ≠ b9 := Nat.ne_of_lt (g9 ▸ E_b8.lt)
  replace E_b5 := E_b5.ext E9
  replace V_b5 := V_b5.ext E9
  replace E_b8 := E_b8.ext E9
  replace F_b8_keywords := F_b8_keywords.ext E9
  replace F_b8_epsilon := F_b8_epsilon.ext E9
  replace F_b8_k := F_b8_k.ext E9
  replace S_COMPACT_STRINGS := S_COMPACT_STRINGS.ext E9
  replace S_EMPTY := S_EMPTY.ext E9
  replace Z0 := Nat.le_trans Z0 E9.1
  have F_b9_coder : Fld Z h9 b9 "java/lang/String" "coder" "B" (.int (0 : Int32)) := D9 (Or.inr (hw _ (List.mem_of_getElem? (i := 34) rfl))) (ty := .byte) (by decide)
  have F_b9_value : Fld Z h9 b9 "java/lang/String" "value" "[B" .null := D9 (Or.inr (hw _ (List.mem_of_getElem? (i := 36) rfl))) (ty := (.array .byte)) (by decide)
  refine own_dup X9 hx hby rfl at_59 (pc' := 60) rfl ?_
  refine own_aload X9 hx hby rfl rfl at_60 (pc' := 62) rfl ?_
  refine own_special X9 hx hby hZ (y := (⟨"java/lang/String", "<init>", "([C)V"⟩ : MethodName)) (rest := [(.ref b9), (.ref b8), (.ref b8)]) rfl hown (hw _ (List.mem_of_getElem? (i := 11) rfl)) (hw _ (List.mem_of_getElem? (i := 12) rfl)) rfl (hw _ (List.mem_of_getElem? (i := 13) rfl)) (hw _ (List.mem_of_getElem? (i := 10) rfl)) (by decide) (rm1 l Z a0 hw [] b9 b5 (0 : Int32) .null (nar .char ((p3 &&& (255 : Int32)).toUInt32.toUInt16.toUInt32.toInt32)) st_COMPACT_STRINGS h9 n0 Z0 F_b9_coder F_b9_value V_b5 E_b9 S_COMPACT_STRINGS hcs (own_ch p3) g_b9 ne_b5_b9) eH9 (by rw [hml]; rfl) (a := b9) (argsL := [(.ref b5)]) rfl (lenOf pd_10 rfl) rfl at_62 (pc' := 65) rfl (by decide) (W := 3) (Nat.le_of_eq rfl) (by decide) (by decide) (by decide) (fun T10 h10 Lc10 v10r X10 eH10 hQ10 => ?_)
  obtain ⟨b1_3_1_10, rfl, Nq10, Kq10, gq10_0, gq10_1, gq10_2, gq10_3, gq10_4, gq10_5⟩ := hQ10
  have N10 := Fr.app N6 Nq10
  have g_b1_3_1_10 : n0 ≤ b1_3_1_10 := Nat.le_trans Z0 gq10_0
  have ne_b5_b1_3_1_10 : b5 ≠ b1_3_1_10 := Nat.ne_of_lt (Nat.lt_of_lt_of_le E_b5.lt gq10_0)
  have ne_b8_b1_3_1_10 : b8 ≠ b1_3_1_10 := Nat.ne_of_lt (Nat.lt_of_lt_of_le E_b8.lt gq10_0)
  have ne_b9_b1_3_1_10 : b9 ≠ b1_3_1_10 := Nat.ne_of_lt (Nat.lt_of_lt_of_le E_b9.lt gq10_0)
  replace S_COMPACT_STRINGS := own_skn S_COMPACT_STRINGS Kq10 (own_skS E_b9 own_sk0)
  replace S_EMPTY := own_skn S_EMPTY Kq10 (own_skS E_b9 own_sk0)
  replace E_b5 := E_b5.keep Kq10
  replace V_b5 := V_b5.keep Kq10 (ninS ne_b5_b9 nin0)
  replace E_b8 := E_b8.keep Kq10
  replace F_b8_keywords := F_b8_keywords.keep Kq10 (ninS ne_b8_b9 nin0)
  replace F_b8_epsilon := F_b8_epsilon.keep Kq10 (ninS ne_b8_b9 nin0)
  replace F_b8_k := F_b8_k.keep Kq10 (ninS ne_b8_b9 nin0)
  replace E_b9 := E_b9.keep Kq10
  have E_b9 := gq10_1
  have F_b9_coder := gq10_2
  have F_b9_value := gq10_3
  have E_b1_3_1_10 := gq10_4
  have V_b1_3_1_10 := gq10_5
  replace Z0 := Nat.le_trans Z0 Kq10.1
  refine own_static X10 hx hby hZ (y := (⟨"java/util/Set", "of", "(Ljava/lang/Object;)Ljava/util/Set;"⟩ : MethodName)) (rest := [(.ref b8), (.ref b8)]) hown (hw _ (List.mem_of_getElem? (i := 37) rfl)) (hw _ (List.mem_of_getElem? (i := 38) rfl)) (hw _ (List.mem_of_getElem? (i := 40) rfl)) (hw _ (List.mem_of_getElem? (i := 39) rfl)) (by decide) (rm7 l Z a0 hw [] b9 st_EMPTY h10 n0 Z0 S_EMPTY) eH10 (by rw [hml]; rfl) (argsL := [(.ref b9)]) rfl (lenOf pd_11 rfl) rfl at_65 (pc' := 68) rfl (by decide) (W := 2) (Nat.le_of_eq rfl) (by decide) (by decide) (by decide) (fun T11 h11 Lc11 v11r X11 eH11 hQ11 => ?_)
  obtain ⟨b1_11, rfl, Nq11, Kq11, gq11_0, gq11_1, gq11_2, gq11_3⟩ := hQ11
  have N11 := Fr.app N10 Nq11
  have g_b1_11 : n0 ≤ b1_11 := Nat.le_trans Z0 gq11_0
  have ne_b5_b1_11 : b5 ≠ b1_11 := Nat.ne_of_lt (Nat.lt_of_lt_of_le E_b5.lt gq11_0)
  have ne_b8_b1_11 : b8 ≠ b1_11 := Nat.ne_of_lt (Nat.lt_of_lt_of_le E_b8.lt gq11_0)
  have ne_b9_b1_11 : b9 ≠ b1_11 := Nat.ne_of_lt (Nat.lt_of_lt_of_le E_b9.lt gq11_0)
  have ne_b1_3_1_10_b1_11 : b1_3_1_10 ≠ b1_11 := Nat.ne_of_lt (Nat.lt_of_lt_of_le E_b1_3_1_10.lt gq11_0)
  replace S_COMPACT_STRINGS := own_skn S_COMPACT_STRINGS Kq11 own_sk0
  replace S_EMPTY := own_skn S_EMPTY Kq11 own_sk0
  replace E_b5 := E_b5.keep Kq11
  replace V_b5 := V_b5.keep Kq11 nin0
  replace E_b8 := E_b8.keep Kq11
  replace F_b8_keywords := F_b8_keywords.keep Kq11 nin0
  replace F_b8_epsilon := F_b8_epsilon.keep Kq11 nin0
  replace F_b8_k := F_b8_k.keep Kq11 nin0
  replace E_b9 := E_b9.keep Kq11
  replace F_b9_coder := F_b9_coder.keep Kq11 nin0
  replace F_b9_value := F_b9_value.keep Kq11 nin0
  replace E_b1_3_1_10 := E_b1_3_1_10.keep Kq11
  replace V_b1_3_1_10 := V_b1_3_1_10.keep Kq11 nin0
  have E_b1_11 := gq11_1
  have F_b1_11_e0 := gq11_2
  have F_b1_11_e1 := gq11_3
  replace Z0 := Nat.le_trans Z0 Kq11.1
  as_aux_lemma =>
    refine own_dload X11 hx hby rfl at_68 (pc' := 70) rfl ?_
    refine own_iload X11 hx hby rfl at_70 (pc' := 72) rfl ?_
    refine own_special X11 hx hby hZ (y := (⟨"com/example/pausanias/pausanias/query/StreetQuery", "<init>", "(Ljava/util/Set;DI)V"⟩ : MethodName)) (rest := [(.ref b8)]) rfl hown (hw _ (List.mem_of_getElem? (i := 77) rfl)) (hw _ (List.mem_of_getElem? (i := 78) rfl)) rfl (hw _ (List.mem_of_getElem? (i := 79) rfl)) (hw _ (List.mem_of_getElem? (i := 7) rfl)) (by decide) (rm13 l Z a0 hw [] b8 b1_11 v2 n7 .null (0 : UInt64) (0 : Int32) h11 n0 Z0 F_b8_keywords F_b8_epsilon F_b8_k E_b1_11 (own_posd D_v2 (own_ne p1)) (own_ltinf D_v2 (own_ne p1)) (own_kk q_n7) E_b8 g_b8) eH11 (by rw [hml]; rfl) (a := b8) (argsL := [(.ref b1_11), (.double v2), (.int n7)]) rfl (lenOf pd_12 rfl) rfl at_72 (pc' := 75) rfl (by decide) (W := 1) (Nat.le_of_eq rfl) (by decide) (by decide) (by decide) (fun T12 h12 Lc12 v12r X12 eH12 hQ12 => ?_)
    obtain ⟨rfl, Nq12, Kq12, gq12_0, gq12_1, gq12_2, gq12_3⟩ := hQ12
    have N12 := Fr.app N11 Nq12
    replace S_COMPACT_STRINGS := own_skn S_COMPACT_STRINGS Kq12 (own_skS E_b8 own_sk0)
    replace S_EMPTY := own_skn S_EMPTY Kq12 (own_skS E_b8 own_sk0)
    replace E_b5 := E_b5.keep Kq12
    replace V_b5 := V_b5.keep Kq12 (ninS ne_b5_b8 nin0)
    replace E_b8 := E_b8.keep Kq12
    replace E_b9 := E_b9.keep Kq12
    replace F_b9_coder := F_b9_coder.keep Kq12 (ninS (Ne.symm ne_b8_b9) nin0)
    replace F_b9_value := F_b9_value.keep Kq12 (ninS (Ne.symm ne_b8_b9) nin0)
    replace E_b1_3_1_10 := E_b1_3_1_10.keep Kq12
    replace V_b1_3_1_10 := V_b1_3_1_10.keep Kq12 (ninS (Ne.symm ne_b8_b1_3_1_10) nin0)
    replace E_b1_11 := E_b1_11.keep Kq12
    replace F_b1_11_e0 := F_b1_11_e0.keep Kq12 (ninS (Ne.symm ne_b8_b1_11) nin0)
    replace F_b1_11_e1 := F_b1_11_e1.keep Kq12 (ninS (Ne.symm ne_b8_b1_11) nin0)
    have E_b8 := gq12_0
    have F_b8_keywords := gq12_1
    have F_b8_epsilon := gq12_2
    have F_b8_k := gq12_3
    replace Z0 := Nat.le_trans Z0 Kq12.1
    refine own_astore X12 hx hby rfl (L' := #[.val (.long p0), .second, .val (.int p1), .val (.int p2), .val (.int p3), .val (.double v2), .second, .val (.double v4), .second, .val (.ref b5), .val (.int n7), .val (.ref b8), .unset, .unset, .unset, .unset, .unset, .unset, .unset, .unset, .unset, .unset, .unset, .unset]) rfl at_75 (pc' := 77) rfl ?_
    refine own_aload X12 hx hby rfl rfl at_77 (pc' := 79) rfl ?_
    refine own_lloadN X12 hx hby rfl at_79 (pc' := 80) rfl ?_
    refine own_dload X12 hx hby rfl at_80 (pc' := 82) rfl ?_
    have DLO := own_den own_bLO.1 own_bLO.2 D_v2 (own_ne p1) D_v4 (own_nl p2)
    have DPI := own_den own_bPI.1 own_bPI.2 D_v2 (own_ne p1) D_v4 (own_nl p2)
    have DHI := own_den own_bHI.1 own_bHI.2 D_v2 (own_ne p1) D_v4 (own_nl p2)
    have DALL := own_all (a := p0) D_v2 (own_ne p1) D_v4 (own_nl p2)
    refine own_virtual X12 hx hby hZ (y := (⟨"com/example/pausanias/pausanias/query/StreetQuery", "interest", "(JD)D"⟩ : MethodName)) (y' := (⟨"com/example/pausanias/pausanias/query/StreetQuery", "interest", "(JD)D"⟩ : MethodName)) (C := "com/example/pausanias/pausanias/query/StreetQuery") (rest := []) hown (hw _ (List.mem_of_getElem? (i := 111) rfl)) (hw _ (List.mem_of_getElem? (i := 112) rfl)) (notFace_of_selects (args := #[]) (mvT hZ (hw _ (List.mem_of_getElem? (i := 114) rfl)))) (hw _ (List.mem_of_getElem? (i := 114) rfl)) (hw _ (List.mem_of_getElem? (i := 113) rfl)) (hw _ (List.mem_of_getElem? (i := 115) rfl)) (hw _ (List.mem_of_getElem? (i := 7) rfl)) (by decide) (rm18 l Z a0 hw [] b8 p0 v4 v2 h12 n0 Z0 F_b8_epsilon DPI.1.1 DPI.1.2.1 DPI.1.2.2.1 DPI.1.2.2.2.1 DPI.1.2.2.2.2 (own_nnq own_bPI D_v2 (own_ne p1) D_v4 (own_nl p2))) eH12 (by rw [hml]; rfl) (a := b8) E_b8 (argsL := [(.long p0), (.double v4)]) rfl (lenOf pd_13 rfl) rfl at_82 (pc' := 85) rfl (by decide) (W := 0) (Nat.le_of_eq rfl) (by decide) (by decide) (by decide) (fun T13 h13 Lc13 v13r X13 eH13 hQ13 => ?_)
    obtain ⟨rfl, Nq13, rfl⟩ := hQ13
    have N13 := Fr.app N12 Nq13
    dsimp only [Option.toList, List.cons_append, List.nil_append]
    generalize q_r14 : (FP.ddiv (FP.l2d p0) (FP.dadd (FP.dmul (FP.dmul (4611686018427387904 : UInt64) v2) v4) (FP.dmul (FP.dmul (4614256656552045848 : UInt64) v2) v2))) = r14
    refine own_dstore X13 hx hby (L' := #[.val (.long p0), .second, .val (.int p1), .val (.int p2), .val (.int p3), .val (.double v2), .second, .val (.double v4), .second, .val (.ref b5), .val (.int n7), .val (.ref b8), .val (.double r14), .second, .unset, .unset, .unset, .unset, .unset, .unset, .unset, .unset, .unset, .unset]) rfl at_85 (pc' := 87) rfl ?_
    refine own_lloadN X13 hx hby rfl at_87 (pc' := 88) rfl ?_
    obtain ⟨v15, q_v15⟩ : ∃ z : UInt64, (FP.l2d p0) = z := ⟨_, rfl⟩
    refine own_l2d X13 hx hby q_v15 at_88 (pc' := 89) rfl ?_
    refine own_dstore X13 hx hby (L' := #[.val (.long p0), .second, .val (.int p1), .val (.int p2), .val (.int p3), .val (.double v2), .second, .val (.double v4), .second, .val (.ref b5), .val (.int n7), .val (.ref b8), .val (.double r14), .second, .val (.double v15), .second, .unset, .unset, .unset, .unset, .unset, .unset, .unset, .unset]) rfl at_89 (pc' := 91) rfl ?_
    refine own_ldc2D X13 hx hby hZ hown (hw _ (List.mem_of_getElem? (i := 118) rfl)) at_91 (pc' := 94) rfl ?_
    refine own_dload X13 hx hby rfl at_94 (pc' := 96) rfl ?_
    obtain ⟨v16, q_v16⟩ : ∃ z : UInt64, (FP.dmul (4611686018427387904 : UInt64) v2) = z := ⟨_, rfl⟩
    have nn_v16 : NoNaN64 v16 := by rw [← q_v16]; exact DLO.1.1
    refine own_dmul X13 hx hby (by rw [q_v16]; exact nn_v16) q_v16 at_96 (pc' := 97) rfl ?_
    refine own_dload X13 hx hby rfl at_97 (pc' := 99) rfl ?_
    obtain ⟨v17, q_v17⟩ : ∃ z : UInt64, (FP.dmul v16 v4) = z := ⟨_, rfl⟩
    have nn_v17 : NoNaN64 v17 := by rw [← q_v17, ← q_v16]; exact DLO.1.2.1
    refine own_dmul X13 hx hby (by rw [q_v17]; exact nn_v17) q_v17 at_99 (pc' := 100) rfl ?_
    refine own_ldc2D X13 hx hby hZ hown (hw _ (List.mem_of_getElem? (i := 119) rfl)) at_100 (pc' := 103) rfl ?_
    refine own_dload X13 hx hby rfl at_103 (pc' := 105) rfl ?_
    obtain ⟨v18, q_v18⟩ : ∃ z : UInt64, (FP.dmul (4614253070214989087 : UInt64) v2) = z := ⟨_, rfl⟩
    have nn_v18 : NoNaN64 v18 := by rw [← q_v18]; exact DLO.1.2.2.1
    refine own_dmul X13 hx hby (by rw [q_v18]; exact nn_v18) q_v18 at_105 (pc' := 106) rfl ?_
    refine own_dload X13 hx hby rfl at_106 (pc' := 108) rfl ?_
    obtain ⟨v19, q_v19⟩ : ∃ z : UInt64, (FP.dmul v18 v2) = z := ⟨_, rfl⟩
    have nn_v19 : NoNaN64 v19 := by rw [← q_v19, ← q_v18]; exact DLO.1.2.2.2.1
    refine own_dmul X13 hx hby (by rw [q_v19]; exact nn_v19) q_v19 at_108 (pc' := 109) rfl ?_
    obtain ⟨v20, q_v20⟩ : ∃ z : UInt64, (FP.dadd v17 v19) = z := ⟨_, rfl⟩
    have nn_v20 : NoNaN64 v20 := by rw [← q_v20, ← q_v17, ← q_v16, ← q_v19, ← q_v18]; exact DLO.1.2.2.2.2
    refine own_dadd X13 hx hby (by rw [q_v20]; exact nn_v20) q_v20 at_109 (pc' := 110) rfl ?_
    refine own_dstore X13 hx hby (L' := #[.val (.long p0), .second, .val (.int p1), .val (.int p2), .val (.int p3), .val (.double v2), .second, .val (.double v4), .second, .val (.ref b5), .val (.int n7), .val (.ref b8), .val (.double r14), .second, .val (.double v15), .second, .val (.double v20), .second, .unset, .unset, .unset, .unset, .unset, .unset]) rfl at_110 (pc' := 112) rfl ?_
    refine own_ldc2D X13 hx hby hZ hown (hw _ (List.mem_of_getElem? (i := 118) rfl)) at_112 (pc' := 115) rfl ?_
    refine own_dload X13 hx hby rfl at_115 (pc' := 117) rfl ?_
    obtain ⟨v21, q_v21⟩ : ∃ z : UInt64, (FP.dmul (4611686018427387904 : UInt64) v2) = z := ⟨_, rfl⟩
    have nn_v21 : NoNaN64 v21 := by rw [← q_v21]; exact DHI.1.1
    refine own_dmul X13 hx hby (by rw [q_v21]; exact nn_v21) q_v21 at_117 (pc' := 118) rfl ?_
    refine own_dload X13 hx hby rfl at_118 (pc' := 120) rfl ?_
    obtain ⟨v22, q_v22⟩ : ∃ z : UInt64, (FP.dmul v21 v4) = z := ⟨_, rfl⟩
    have nn_v22 : NoNaN64 v22 := by rw [← q_v22, ← q_v21]; exact DHI.1.2.1
    refine own_dmul X13 hx hby (by rw [q_v22]; exact nn_v22) q_v22 at_120 (pc' := 121) rfl ?_
    refine own_ldc2D X13 hx hby hZ hown (hw _ (List.mem_of_getElem? (i := 120) rfl)) at_121 (pc' := 124) rfl ?_
    refine own_dload X13 hx hby rfl at_124 (pc' := 126) rfl ?_
    obtain ⟨v23, q_v23⟩ : ∃ z : UInt64, (FP.dmul (4614275588213125939 : UInt64) v2) = z := ⟨_, rfl⟩
    have nn_v23 : NoNaN64 v23 := by rw [← q_v23]; exact DHI.1.2.2.1
    refine own_dmul X13 hx hby (by rw [q_v23]; exact nn_v23) q_v23 at_126 (pc' := 127) rfl ?_
    refine own_dload X13 hx hby rfl at_127 (pc' := 129) rfl ?_
    obtain ⟨v24, q_v24⟩ : ∃ z : UInt64, (FP.dmul v23 v2) = z := ⟨_, rfl⟩
    have nn_v24 : NoNaN64 v24 := by rw [← q_v24, ← q_v23]; exact DHI.1.2.2.2.1
    refine own_dmul X13 hx hby (by rw [q_v24]; exact nn_v24) q_v24 at_129 (pc' := 130) rfl ?_
    obtain ⟨v25, q_v25⟩ : ∃ z : UInt64, (FP.dadd v22 v24) = z := ⟨_, rfl⟩
    have nn_v25 : NoNaN64 v25 := by rw [← q_v25, ← q_v22, ← q_v21, ← q_v24, ← q_v23]; exact DHI.1.2.2.2.2
    refine own_dadd X13 hx hby (by rw [q_v25]; exact nn_v25) q_v25 at_130 (pc' := 131) rfl ?_
    refine own_dstore X13 hx hby (L' := #[.val (.long p0), .second, .val (.int p1), .val (.int p2), .val (.int p3), .val (.double v2), .second, .val (.double v4), .second, .val (.ref b5), .val (.int n7), .val (.ref b8), .val (.double r14), .second, .val (.double v15), .second, .val (.double v20), .second, .val (.double v25), .second, .unset, .unset, .unset, .unset]) rfl at_131 (pc' := 133) rfl ?_
    refine own_dload X13 hx hby rfl at_133 (pc' := 135) rfl ?_
    refine own_dload X13 hx hby rfl at_135 (pc' := 137) rfl ?_
    obtain ⟨v26, q_v26⟩ : ∃ z : UInt64, (FP.ddiv v15 v25) = z := ⟨_, rfl⟩
    have nn_v26 : NoNaN64 v26 := by rw [← q_v26, ← q_v25, ← q_v22, ← q_v21, ← q_v24, ← q_v23, ← q_v15]; exact own_nnq own_bHI D_v2 (own_ne p1) D_v4 (own_nl p2)
    refine own_ddiv X13 hx hby (by rw [q_v26]; exact nn_v26) q_v26 at_137 (pc' := 138) rfl ?_
    refine own_dstore X13 hx hby (L' := #[.val (.long p0), .second, .val (.int p1), .val (.int p2), .val (.int p3), .val (.double v2), .second, .val (.double v4), .second, .val (.ref b5), .val (.int n7), .val (.ref b8), .val (.double r14), .second, .val (.double v15), .second, .val (.double v20), .second, .val (.double v25), .second, .val (.double v26), .second, .unset, .unset]) rfl at_138 (pc' := 140) rfl ?_
    refine own_dload X13 hx hby rfl at_140 (pc' := 142) rfl ?_
    refine own_dload X13 hx hby rfl at_142 (pc' := 144) rfl ?_
    obtain ⟨v27, q_v27⟩ : ∃ z : UInt64, (FP.ddiv v15 v20) = z := ⟨_, rfl⟩
    have nn_v27 : NoNaN64 v27 := by rw [← q_v27, ← q_v20, ← q_v17, ← q_v16, ← q_v19, ← q_v18, ← q_v15]; exact own_nnq own_bLO D_v2 (own_ne p1) D_v4 (own_nl p2)
    refine own_ddiv X13 hx hby (by rw [q_v27]; exact nn_v27) q_v27 at_144 (pc' := 145) rfl ?_
    refine own_dstore X13 hx hby (L' := #[.val (.long p0), .second, .val (.int p1), .val (.int p2), .val (.int p3), .val (.double v2), .second, .val (.double v4), .second, .val (.ref b5), .val (.int n7), .val (.ref b8), .val (.double r14), .second, .val (.double v15), .second, .val (.double v20), .second, .val (.double v25), .second, .val (.double v26), .second, .val (.double v27), .second]) rfl at_145 (pc' := 147) rfl ?_
    refine own_lloadN X13 hx hby rfl at_147 (pc' := 148) rfl ?_
    refine own_lconst X13 hx hby (v := (0 : Int64)) (by decide) at_148 (pc' := 149) rfl ?_
    refine own_lcmp X13 hx hby rfl at_149 (pc' := 150) rfl ?_
    by_cases hc28 : p0 < (0 : Int64)
    · refine own_ifT X13 hx hby at_150 (own_lc_lt_p hc28) (by decide) (pc' := 175) (by decide) ?_
      refine own_dload X13 hx hby rfl at_175 (pc' := 177) rfl ?_
      refine own_dload X13 hx hby rfl at_177 (pc' := 179) rfl ?_
      refine own_dcmp X13 hx hby rfl at_179 (pc' := 180) rfl ?_
      have hk29 : dle v27 r14 := by rw [← q_v27, ← q_v20, ← q_v17, ← q_v16, ← q_v19, ← q_v18, ← q_r14, ← q_v15]; exact (DALL.2 hc28).1
      refine own_ifF X13 hx hby at_180 (own_dg_gt_p hk29) (pc' := 183) rfl ?_
      refine own_dload X13 hx hby rfl at_183 (pc' := 185) rfl ?_
      refine own_dload X13 hx hby rfl at_185 (pc' := 187) rfl ?_
      refine own_dcmp X13 hx hby rfl at_187 (pc' := 188) rfl ?_
      have hk30 : dle r14 v26 := by rw [← q_r14, ← q_v26, ← q_v25, ← q_v22, ← q_v21, ← q_v24, ← q_v23, ← q_v15]; exact (DALL.2 hc28).2
      refine own_ifF X13 hx hby at_188 (own_dg_gt_p hk30) (pc' := 191) rfl ?_
      refine own_iconst X13 hx hby (v := (1 : Int32)) (by decide) at_191 (pc' := 192) rfl ?_
      refine own_goto X13 hx hby at_192 (by decide) (pc' := 196) (by decide) ?_
      exact own_retZ X13 hx hby Bd.notSynchronized Bd.returns (Or.inr rfl) at_196 (by decide) (by decide) eH13 ⟨rfl, N13⟩
    · refine own_ifF X13 hx hby at_150 (own_lc_lt_n hc28) (pc' := 153) rfl ?_
      refine own_dload X13 hx hby rfl at_153 (pc' := 155) rfl ?_
      refine own_dload X13 hx hby rfl at_155 (pc' := 157) rfl ?_
      refine own_dcmp X13 hx hby rfl at_157 (pc' := 158) rfl ?_
      have hk31 : dle v26 r14 := by rw [← q_v26, ← q_v25, ← q_v22, ← q_v21, ← q_v24, ← q_v23, ← q_r14, ← q_v15]; exact (DALL.1 hc28).1
      refine own_ifF X13 hx hby at_158 (own_dg_gt_p hk31) (pc' := 161) rfl ?_
      as_aux_lemma =>
        refine own_dload X13 hx hby rfl at_161 (pc' := 163) rfl ?_
        refine own_dload X13 hx hby rfl at_163 (pc' := 165) rfl ?_
        refine own_dcmp X13 hx hby rfl at_165 (pc' := 166) rfl ?_
        have hk32 : dle r14 v27 := by rw [← q_r14, ← q_v27, ← q_v20, ← q_v17, ← q_v16, ← q_v19, ← q_v18, ← q_v15]; exact (DALL.1 hc28).2
        refine own_ifF X13 hx hby at_166 (own_dg_gt_p hk32) (pc' := 169) rfl ?_
        refine own_iconst X13 hx hby (v := (1 : Int32)) (by decide) at_169 (pc' := 170) rfl ?_
        refine own_goto X13 hx hby at_170 (by decide) (pc' := 174) (by decide) ?_
        exact own_retZ X13 hx hby Bd.notSynchronized Bd.returns (Or.inr rfl) at_174 (by decide) (by decide) eH13 ⟨rfl, N13⟩
set_option maxRecDepth 65536 in
set_option maxHeartbeats 40000000 in
theorem comes_1 {Post : Tables → Env → Array Value → State → Outcome → State → Prop} (hpost : ∀ tb e args s v u, (limb_1_1.after args s (.returned v) u = true ∧ limb_1_2.after args s (.returned v) u = true ∧ True) → FrameEnd s (.returned v) u (Jvm.fieldLocs frame_1_writes args s ++ Jvm.arrayLocs frame_1_arrays args s ++ Jvm.staticLocs frame_1_statics s) 24 128 → Post tb e args s (.returned v) u) :
    ArmFor flags0 classFile x code maxLocals ret World_1 tables_1 room_1 Calls_1 rest_1 Pre_1 Post := by
  intro l hfl _ _ p e ha hc hk s m args below hf hA hF happ hP
  obtain ⟨hcalls, hrest, hpre⟩ := hP
  obtain ⟨-, -, -, hnamed, -, -, -, hat⟩ := (Spec.applies_iff hf).mp happ
  obtain ⟨hg, hn⟩ := and_e (Cond.before_iff.mp (show (Jvm.Cond.and given_1 narrow_1).before args s = true from hpre))
  obtain ⟨gg1, gg2⟩ := and_e hg
  obtain ⟨gg3, gg4⟩ := and_e gg2
  obtain ⟨gg5, gg6⟩ := and_e gg4
  obtain ⟨gg7, gg8⟩ := and_e gg6
  obtain ⟨w0, w1, w2, w3, rfl⟩ : ∃ w0 w1 w2 w3 : Value, args = #[w0, w1, w2, w3] := by
    have hs : args.size = 4 := by simpa [Cond.value, given_1] using gg1
    obtain ⟨L⟩ := args
    match L, hs with
    | [w0, w1, w2, w3], _ => exact ⟨w0, w1, w2, w3, rfl⟩
  have hw := fun d (hd : d ∈ tables_1) => atoms_spec (ws := Jvm.Cond.code x code maxLocals ret :: tables_1) hat d (List.mem_cons_of_mem _ hd)
  have hfit : Fit s := fun {y c} hc i hi => by
    obtain ⟨ha, rfl⟩ := Array.getElem?_eq_some_iff.mp hc
    have q := List.all_eq_true.mp ((Array.all_eq_true_iff_forall_mem.mp hF) _ (Array.getElem_mem ha)) i (List.mem_range.mpr hi)
    simpa [Array.getElem?_eq_getElem hi] using q
  obtain ⟨hsets, hown0⟩ := atoms_of _ (rest_1_c_eq ▸ (show rest_1_c.before _ s = true from hrest))
  have hr0 := Cond.before_iff.mp hown0
  obtain ⟨i0, ei0⟩ := isL_v gg3
  obtain rfl : w0 = (.long i0) := Option.some.inj ei0
  obtain ⟨i1, ei1⟩ := is_v gg5
  obtain rfl : w1 = (.int i1) := Option.some.inj ei1
  obtain ⟨i2, ei2⟩ := is_v gg7
  obtain rfl : w2 = (.int i2) := Option.some.inj ei2
  obtain ⟨i3, ei3⟩ := is_v gg8
  obtain rfl : w3 = (.int i3) := Option.some.inj ei3
  obtain ⟨zcs, hzcs, sCS⟩ := own_compact (hsets _ (List.mem_of_getElem? (i := 0) rfl)) (hsets _ (List.mem_of_getElem? (i := 1) rfl)) (hsets _ (List.mem_of_getElem? (i := 2) rfl))
  obtain ⟨aEM, sEM⟩ := own_empty (hsets _ (List.mem_of_getElem? (i := 10) rfl)) (hsets _ (List.mem_of_getElem? (i := 11) rfl))
  obtain ⟨n, o, h1, h2, h3, _, L, rfl, ⟨rfl, N⟩, hq⟩ := rm0 l s _ hw tables_1 i0 i1 i2 i3 zcs aEM s.heap s.heap.size (Nat.le_refl _) sCS hzcs sEM p e ha hc hk s m _ below hf ((Spec.applies_iff_loose hf).mp happ).1 ⟨rfl, State.Warmed39.refl s, rfl⟩ trivial
  refine ⟨n, _, h1, h2, h3, hpost _ _ _ _ _ _ ⟨Cond.after_iff.mpr rfl, Cond.after_iff.mpr (eq_i res_at (Term.int_eval (1)) rfl), trivial⟩ ⟨hq.1, hq.2.1, (hq.2.2.sift fun y hy => Or.inr (N y hy)).mono (by decide) (by decide)⟩⟩
theorem main_1_1 : Claimed_1_1 := comes_1 fun _ _ _ _ _ _ h hF => ⟨h.1, hF⟩
theorem main_1_2 : Claimed_1_2 := comes_1 fun _ _ _ _ _ _ h hF => ⟨h.2.1, hF⟩
end Jvm.Pilot.@@N@@
namespace Jvm.Pilot.@@N@@
open Jvm Jvm.ClassFile Sem Op Lib Jvm.Free Jvm.Stand Jvm.Pilot.@@N@@.Jvm.D
/-! MADE BY PROGRAM (witnessworld.py) out of the Statement's table words and the real class files: 36 classes; the members and pool entries that the words name. The judged class is class 1, her method 1. -/
namespace start1
open Jvm.ClassFile
def u (s : String) : CpInfo := .utf8 (stringToUtf16 s)
/-- a pool by its gaps: so many unusable entries, then the entry; so many at the end -/
def gap : Nat → List CpInfo → List CpInfo
  | 0, r => r
  | n + 1, r => .unusable :: gap n r
def poolList (es : List (Nat × CpInfo)) (last : Nat) : List CpInfo := es.foldr (fun e r => gap e.1 (e.2 :: r)) (gap last [])
def pool (es : List (Nat × CpInfo)) (last : Nat) : Array CpInfo := ⟨poolList es last⟩
def fileOf (pool : Array CpInfo) (this : Nat) (attrs : Array Attribute := #[]) (ms : Array MethodInfo := #[]) (fl : Nat := 33) (sup : Nat := 0) (ifs : Array Nat := #[]) (fds : Array FieldInfo := #[]) : ClassFile where
  minorVersion := 0
  majorVersion := 65
  constantPool := pool
  accessFlags := fl
  thisClass := this
  superClass := sup
  interfaces := ifs
  fields := fds
  methods := ms
  attributes := attrs
def plain (name : String) (sup : Option ClassId) : Class where
  name := name
  kind := .ordinary
  loader := none
  accessFlags := 33
  super := sup
  interfaces := #[]
  cf := none
  fields := #[]
  methods := #[]
  instanceTypes := #[]
  staticTypes := #[]
  resolved := #[]
  callSites := []
  init := .initialized
  statics := none
  mirror := none

def pool0 : Array CpInfo := pool [(5, u "<init>"), (0, u "()V"), (1, .class_ 10), (1, u "java/lang/Object")] 113

def k0c0 : Code := { maxStack := 0, maxLocals := 1, code := object_method_1_code, exceptionTable := #[], attributes := #[] }
def k0m0 : Method := { name := "<init>", desc := "()V", sig := { parameters := [], returnType := none }, accessFlags := 1, code := some k0c0 }
/-- java/lang/Object -/
def k0 : Class := { plain "java/lang/Object" none with
  accessFlags := 33
  interfaces := #[]
  cf := some (fileOf pool0 8 #[] #[{ accessFlags := 1, nameIndex := 5, descriptorIndex := 6, attributes := #[] }] 33 0 #[] #[])
  fields := #[]
  methods := #[k0m0]
  instanceTypes := #[]
  staticTypes := #[]
  resolved := Array.replicate 124 none
  statics := none }

def pool1 : Array CpInfo := pool [(2, .class_ 4), (1, u "java/lang/Object"), (0, u "<init>"), (0, u "()V"), (0, .integer 65535), (0, .double 4634204016564240384), (1, .integer 1048575), (0, .double 4625196817309499392), (1, .class_ 14), (0, u "com/example/pausanias/pausanias/query/StreetQuery"), (0, .class_ 16), (0, u "java/lang/String"), (0, .methodref 15 18), (0, .nameAndType 5 19), (0, u "([C)V"), (0, .interfaceMethodref 21 22), (0, .class_ 23), (0, .nameAndType 24 25), (0, u "java/util/Set"), (0, u "of"), (0, u "(Ljava/lang/Object;)Ljava/util/Set;"), (0, .methodref 13 27), (0, .nameAndType 5 28), (0, u "(Ljava/util/Set;DI)V"), (0, .methodref 13 30), (0, .nameAndType 31 32), (0, u "interest"), (0, u "(JD)D"), (0, .double 4611686018427387904), (1, .double 4614253070214989087), (1, .double 4614275588213125939), (1, .class_ 40), (0, u "com/example/pausanias/pausanias/query/StreetQueryInterestPinLaw"), (2, u "law"), (0, u "(JIII)Z")] 5

def k1m0 : Method := { name := "<init>", desc := "()V", sig := { parameters := [], returnType := none }, accessFlags := 1, code := none }
def k1c1 : Code := { maxStack := 6, maxLocals := 24, code := code, exceptionTable := #[], attributes := #[] }
def k1m1 : Method := { name := "law", desc := "(JIII)Z", sig := { parameters := [.long, .int, .int, .int], returnType := some .boolean }, accessFlags := 9, code := some k1c1 }
/-- com/example/pausanias/pausanias/query/StreetQueryInterestPinLaw -/
def k1 : Class := { plain "com/example/pausanias/pausanias/query/StreetQueryInterestPinLaw" (some 0) with
  accessFlags := 49
  interfaces := #[]
  cf := some (fileOf pool1 39 #[] #[{ accessFlags := 1, nameIndex := 5, descriptorIndex := 6, attributes := #[] }, { accessFlags := 9, nameIndex := 43, descriptorIndex := 44, attributes := #[] }] 49 2 #[] #[])
  fields := #[]
  methods := #[k1m0, k1m1]
  instanceTypes := #[]
  staticTypes := #[]
  resolved := Array.replicate 50 none
  statics := none }

def pool2 : Array CpInfo := pool [(1, .methodref 2 3), (0, .class_ 4), (0, .nameAndType 5 6), (0, u "java/lang/Object"), (0, u "<init>"), (0, u "()V"), (0, .class_ 8), (0, u "java/lang/Record")] 13

def k2c0 : Code := { maxStack := 1, maxLocals := 1, code := jdk_30_method_1_code, exceptionTable := #[], attributes := #[] }
def k2m0 : Method := { name := "<init>", desc := "()V", sig := { parameters := [], returnType := none }, accessFlags := 4, code := some k2c0 }
/-- java/lang/Record -/
def k2 : Class := { plain "java/lang/Record" (some 0) with
  accessFlags := 1057
  interfaces := #[]
  cf := some (fileOf pool2 7 #[] #[{ accessFlags := 4, nameIndex := 5, descriptorIndex := 6, attributes := #[] }] 1057 2 #[] #[])
  fields := #[]
  methods := #[k2m0]
  instanceTypes := #[]
  staticTypes := #[]
  resolved := Array.replicate 22 none
  statics := none }

def pool3 : Array CpInfo := pool [(1, .methodref 2 3), (0, .class_ 4), (0, .nameAndType 5 6), (0, u "java/lang/Record"), (0, u "<init>"), (0, u "()V"), (0, .interfaceMethodref 8 9), (0, .class_ 10), (0, .nameAndType 11 12), (0, u "java/util/Set"), (0, u "copyOf"), (0, u "(Ljava/util/Collection;)Ljava/util/Set;"), (0, .interfaceMethodref 8 14), (0, .nameAndType 15 16), (0, u "isEmpty"), (0, u "()Z"), (9, .double 9218868437227405312), (5, .methodref 33 34), (0, .class_ 35), (0, .nameAndType 36 37), (0, u "com/example/pausanias/pausanias/query/Ranking"), (0, u "requireK"), (0, u "(I)V"), (0, .fieldref 39 40), (0, .class_ 41), (0, .nameAndType 42 43), (0, u "com/example/pausanias/pausanias/query/StreetQuery"), (0, u "keywords"), (0, u "Ljava/util/Set;"), (0, .fieldref 39 45), (0, .nameAndType 46 47), (0, u "epsilon"), (0, u "D"), (0, .fieldref 39 49), (0, .nameAndType 50 51), (0, u "k"), (0, u "I"), (6, .double 4611686018427387904), (3, .double 4614256656552045848), (15, u "(Ljava/util/Set;DI)V"), (8, u "interest"), (0, u "(JD)D")] 36

def k3c0 : Code := { maxStack := 4, maxLocals := 5, code := prog_40_method_1_code, exceptionTable := #[], attributes := #[] }
def k3m0 : Method := { name := "<init>", desc := "(Ljava/util/Set;DI)V", sig := { parameters := [(.object "java/util/Set"), .double, .int], returnType := none }, accessFlags := 1, code := some k3c0 }
def k3c1 : Code := { maxStack := 8, maxLocals := 5, code := prog_40_method_3_code, exceptionTable := #[], attributes := #[] }
def k3m1 : Method := { name := "interest", desc := "(JD)D", sig := { parameters := [.long, .double], returnType := some .double }, accessFlags := 1, code := some k3c1 }
/-- com/example/pausanias/pausanias/query/StreetQuery -/
def k3 : Class := { plain "com/example/pausanias/pausanias/query/StreetQuery" (some 2) with
  accessFlags := 49
  interfaces := #[]
  cf := some (fileOf pool3 39 #[] #[{ accessFlags := 1, nameIndex := 5, descriptorIndex := 78, attributes := #[] }, { accessFlags := 1, nameIndex := 87, descriptorIndex := 88, attributes := #[] }] 49 2 #[] #[{ accessFlags := 18, nameIndex := 42, descriptorIndex := 43, attributes := #[] }, { accessFlags := 18, nameIndex := 46, descriptorIndex := 47, attributes := #[] }, { accessFlags := 18, nameIndex := 50, descriptorIndex := 51, attributes := #[] }])
  fields := #[{ name := "keywords", type := (.object "java/util/Set"), accessFlags := 18, slot := 0, constantValue := 0 }, { name := "epsilon", type := .double, accessFlags := 18, slot := 1, constantValue := 0 }, { name := "k", type := .int, accessFlags := 18, slot := 2, constantValue := 0 }]
  methods := #[k3m0, k3m1]
  instanceTypes := #[(.object "java/util/Set"), .double, .int]
  staticTypes := #[]
  resolved := Array.replicate 125 none
  statics := none }

def pool4 : Array CpInfo := pool [(1, .class_ 2), (0, u "java/io/Serializable"), (0, .class_ 4), (0, u "java/lang/Object")] 2

/-- java/io/Serializable -/
def k4 : Class := { plain "java/io/Serializable" (some 0) with
  accessFlags := 1537
  interfaces := #[]
  cf := some (fileOf pool4 1 #[] #[] 1537 3 #[] #[])
  fields := #[]
  methods := #[]
  instanceTypes := #[]
  staticTypes := #[]
  resolved := Array.replicate 7 none
  statics := none }

def pool5 : Array CpInfo := pool [(1, .class_ 2), (0, u "java/lang/Comparable"), (0, .class_ 4), (0, u "java/lang/Object")] 7

/-- java/lang/Comparable -/
def k5 : Class := { plain "java/lang/Comparable" (some 0) with
  accessFlags := 1537
  interfaces := #[]
  cf := some (fileOf pool5 1 #[] #[] 1537 3 #[] #[])
  fields := #[]
  methods := #[]
  instanceTypes := #[]
  staticTypes := #[]
  resolved := Array.replicate 12 none
  statics := none }

def pool6 : Array CpInfo := pool [(2, .class_ 4), (1, u "java/lang/CharSequence"), (42, .class_ 48), (0, u "java/lang/CharSequence$1CodePointIterator"), (10, .class_ 60), (0, u "java/lang/CharSequence$1CharIterator"), (5, .class_ 67), (0, u "java/lang/Object")] 63

/-- java/lang/CharSequence -/
def k6 : Class := { plain "java/lang/CharSequence" (some 0) with
  accessFlags := 1537
  interfaces := #[]
  cf := some (fileOf pool6 2 #[.nestMembers #[47, 59]] #[] 1537 66 #[] #[])
  fields := #[]
  methods := #[]
  instanceTypes := #[]
  staticTypes := #[]
  resolved := Array.replicate 131 none
  statics := none }

def pool7 : Array CpInfo := pool [(1, .class_ 2), (0, u "java/lang/constant/Constable"), (0, .class_ 4), (0, u "java/lang/Object")] 6

/-- java/lang/constant/Constable -/
def k7 : Class := { plain "java/lang/constant/Constable" (some 0) with
  accessFlags := 1537
  interfaces := #[]
  cf := some (fileOf pool7 1 #[] #[] 1537 3 #[] #[])
  fields := #[]
  methods := #[]
  instanceTypes := #[]
  staticTypes := #[]
  resolved := Array.replicate 11 none
  statics := none }

def pool8 : Array CpInfo := pool [(1, .class_ 2), (0, u "java/lang/constant/ConstantDesc"), (0, .class_ 4), (0, u "java/lang/Object")] 32

/-- java/lang/constant/ConstantDesc -/
def k8 : Class := { plain "java/lang/constant/ConstantDesc" (some 0) with
  accessFlags := 1537
  interfaces := #[]
  cf := some (fileOf pool8 1 #[] #[] 1537 3 #[] #[])
  fields := #[]
  methods := #[]
  instanceTypes := #[]
  staticTypes := #[]
  resolved := Array.replicate 37 none
  statics := none }

def pool9 : Array CpInfo := pool [(1, .methodref 2 3), (0, .class_ 4), (0, .nameAndType 5 6), (0, u "java/lang/Object"), (0, u "<init>"), (0, u "()V"), (2, .fieldref 10 11), (0, .class_ 12), (0, .nameAndType 13 14), (0, u "java/lang/String"), (0, u "value"), (0, u "[B"), (0, .fieldref 10 16), (0, .nameAndType 17 18), (0, u "coder"), (0, u "B"), (2, u "hash"), (0, u "I"), (2, u "hashIsZero"), (0, u "Z"), (0, .methodref 10 28), (0, .nameAndType 5 29), (0, u "([CIILjava/lang/Void;)V"), (8, .fieldref 10 39), (0, .nameAndType 40 26), (0, u "COMPACT_STRINGS"), (1, .class_ 44), (1, u "java/lang/StringUTF16"), (0, u "compress"), (1, .methodref 42 48), (0, .nameAndType 49 50), (0, u "coderFromArrayLen"), (0, u "([BI)B"), (126, .methodref 42 178), (0, .nameAndType 45 179), (0, u "([CII)[B"), (395, .class_ 576), (0, u "java/lang/CharSequence"), (22, u "CASE_INSENSITIVE_ORDER"), (0, u "Ljava/util/Comparator;"), (409, u "([C)V"), (90, u "serialPersistentFields"), (0, u "[Ljava/io/ObjectStreamField;"), (0, .class_ 1104), (0, u "java/lang/String$CaseInsensitiveComparator"), (1, .class_ 1107), (0, u "java/io/Serializable"), (0, .class_ 1109), (0, u "java/lang/Comparable"), (0, .class_ 1111), (0, u "java/lang/constant/Constable"), (0, .class_ 1113), (0, u "java/lang/constant/ConstantDesc"), (2, u "serialVersionUID"), (0, u "J"), (3, u "REPL"), (0, u "C"), (2, u "LATIN1"), (1, u "UTF16")] 323

def k9m0 : Method := { name := "<init>", desc := "()V", sig := { parameters := [], returnType := none }, accessFlags := 1, code := none }
def k9c1 : Code := { maxStack := 5, maxLocals := 2, code := jdk_42_method_3_code, exceptionTable := #[], attributes := #[] }
def k9m1 : Method := { name := "<init>", desc := "([C)V", sig := { parameters := [(.array .char)], returnType := none }, accessFlags := 1, code := some k9c1 }
def k9c2 : Code := { maxStack := 4, maxLocals := 6, code := jdk_42_method_149_code, exceptionTable := #[], attributes := #[] }
def k9m2 : Method := { name := "<init>", desc := "([CIILjava/lang/Void;)V", sig := { parameters := [(.array .char), .int, .int, (.object "java/lang/Void")], returnType := none }, accessFlags := 2, code := some k9c2 }
/-- java/lang/String -/
def k9 : Class := { plain "java/lang/String" (some 0) with
  accessFlags := 49
  interfaces := #[4, 5, 6, 7, 8]
  cf := some (fileOf pool9 10 #[.nestMembers #[1103]] #[{ accessFlags := 1, nameIndex := 5, descriptorIndex := 6, attributes := #[] }, { accessFlags := 1, nameIndex := 5, descriptorIndex := 1010, attributes := #[] }, { accessFlags := 2, nameIndex := 5, descriptorIndex := 29, attributes := #[] }] 49 2 #[1106, 1108, 575, 1110, 1112] #[{ accessFlags := 18, nameIndex := 13, descriptorIndex := 14, attributes := #[] }, { accessFlags := 18, nameIndex := 17, descriptorIndex := 18, attributes := #[] }, { accessFlags := 2, nameIndex := 21, descriptorIndex := 22, attributes := #[] }, { accessFlags := 2, nameIndex := 25, descriptorIndex := 26, attributes := #[] }, { accessFlags := 26, nameIndex := 1116, descriptorIndex := 1117, attributes := #[] }, { accessFlags := 24, nameIndex := 40, descriptorIndex := 26, attributes := #[] }, { accessFlags := 26, nameIndex := 1101, descriptorIndex := 1102, attributes := #[] }, { accessFlags := 26, nameIndex := 1121, descriptorIndex := 1122, attributes := #[] }, { accessFlags := 25, nameIndex := 599, descriptorIndex := 600, attributes := #[] }, { accessFlags := 24, nameIndex := 1125, descriptorIndex := 18, attributes := #[] }, { accessFlags := 24, nameIndex := 1127, descriptorIndex := 18, attributes := #[] }])
  fields := #[{ name := "value", type := (.array .byte), accessFlags := 18, slot := 0, constantValue := 0 }, { name := "coder", type := .byte, accessFlags := 18, slot := 1, constantValue := 0 }, { name := "hash", type := .int, accessFlags := 2, slot := 2, constantValue := 0 }, { name := "hashIsZero", type := .boolean, accessFlags := 2, slot := 3, constantValue := 0 }, { name := "serialVersionUID", type := .long, accessFlags := 26, slot := 0, constantValue := 0 }, { name := "COMPACT_STRINGS", type := .boolean, accessFlags := 24, slot := 1, constantValue := 0 }, { name := "serialPersistentFields", type := (.array (.object "java/io/ObjectStreamField")), accessFlags := 26, slot := 2, constantValue := 0 }, { name := "REPL", type := .char, accessFlags := 26, slot := 3, constantValue := 0 }, { name := "CASE_INSENSITIVE_ORDER", type := (.object "java/util/Comparator"), accessFlags := 25, slot := 4, constantValue := 0 }, { name := "LATIN1", type := .byte, accessFlags := 24, slot := 5, constantValue := 0 }, { name := "UTF16", type := .byte, accessFlags := 24, slot := 6, constantValue := 0 }]
  methods := #[k9m0, k9m1, k9m2]
  instanceTypes := #[(.array .byte), .byte, .int, .boolean]
  staticTypes := #[.long, .boolean, (.array (.object "java/io/ObjectStreamField")), .char, (.object "java/util/Comparator"), .byte, .byte]
  resolved := Array.replicate 1451 none
  statics := some 0 }

def pool10 : Array CpInfo := pool [(6, .class_ 8), (1, u "java/lang/Object"), (0, u "<init>"), (0, u "()V"), (1, .class_ 14), (1, u "java/lang/StringUTF16"), (31, u "$assertionsDisabled"), (0, u "Z"), (13, u "HI_BYTE_SHIFT"), (0, u "I"), (2, u "LO_BYTE_SHIFT"), (49, .methodref 12 116), (0, .nameAndType 117 118), (0, u "compress"), (0, u "([CI[BII)I"), (3, u "([CII)[B"), (138, u "coderFromArrayLen"), (0, u "([BI)B"), (106, .class_ 371), (1, u "java/lang/StringUTF16$LinesSpliterator"), (58, u "MAX_LENGTH"), (196, .class_ 628), (0, u "java/lang/StringUTF16$CodePointsSpliterator"), (0, .class_ 630), (0, u "java/lang/StringUTF16$CharsSpliterator")] 4

def k10m0 : Method := { name := "<init>", desc := "()V", sig := { parameters := [], returnType := none }, accessFlags := 0, code := none }
def k10c1 : Code := { maxStack := 2, maxLocals := 2, code := jdk_52_method_15_code, exceptionTable := #[], attributes := #[] }
def k10m1 : Method := { name := "coderFromArrayLen", desc := "([BI)B", sig := { parameters := [(.array .byte), .int], returnType := some .byte }, accessFlags := 8, code := some k10c1 }
def k10c2 : Code := { maxStack := 5, maxLocals := 6, code := jdk_52_method_16_code, exceptionTable := #[], attributes := #[] }
def k10m2 : Method := { name := "compress", desc := "([CII)[B", sig := { parameters := [(.array .char), .int, .int], returnType := some (.array .byte) }, accessFlags := 9, code := some k10c2 }
def k10c3 : Code := { maxStack := 3, maxLocals := 7, code := jdk_52_method_21_code, exceptionTable := #[], attributes := #[] }
def k10m3 : Method := { name := "compress", desc := "([CI[BII)I", sig := { parameters := [(.array .char), .int, (.array .byte), .int, .int], returnType := some .int }, accessFlags := 9, code := some k10c3 }
/-- java/lang/StringUTF16 -/
def k10 : Class := { plain "java/lang/StringUTF16" (some 0) with
  accessFlags := 48
  interfaces := #[]
  cf := some (fileOf pool10 12 #[.nestMembers #[627, 629, 369]] #[{ accessFlags := 0, nameIndex := 9, descriptorIndex := 10, attributes := #[] }, { accessFlags := 8, nameIndex := 261, descriptorIndex := 262, attributes := #[] }, { accessFlags := 9, nameIndex := 117, descriptorIndex := 122, attributes := #[] }, { accessFlags := 9, nameIndex := 117, descriptorIndex := 118, attributes := #[] }] 48 6 #[] #[{ accessFlags := 26, nameIndex := 61, descriptorIndex := 62, attributes := #[] }, { accessFlags := 26, nameIndex := 65, descriptorIndex := 62, attributes := #[] }, { accessFlags := 24, nameIndex := 430, descriptorIndex := 62, attributes := #[] }, { accessFlags := 4120, nameIndex := 46, descriptorIndex := 47, attributes := #[] }])
  fields := #[{ name := "HI_BYTE_SHIFT", type := .int, accessFlags := 26, slot := 0, constantValue := 0 }, { name := "LO_BYTE_SHIFT", type := .int, accessFlags := 26, slot := 1, constantValue := 0 }, { name := "MAX_LENGTH", type := .int, accessFlags := 24, slot := 2, constantValue := 0 }, { name := "$assertionsDisabled", type := .boolean, accessFlags := 4120, slot := 3, constantValue := 0 }]
  methods := #[k10m0, k10m1, k10m2, k10m3]
  instanceTypes := #[]
  staticTypes := #[.int, .int, .int, .boolean]
  resolved := Array.replicate 635 none
  statics := none }

def pool11 : Array CpInfo := pool [(8, .class_ 10), (1, u "java/lang/Iterable"), (24, .class_ 36), (0, u "java/lang/Object")] 25

/-- java/lang/Iterable -/
def k11 : Class := { plain "java/lang/Iterable" (some 0) with
  accessFlags := 1537
  interfaces := #[]
  cf := some (fileOf pool11 8 #[] #[] 1537 35 #[] #[])
  fields := #[]
  methods := #[]
  instanceTypes := #[]
  staticTypes := #[]
  resolved := Array.replicate 62 none
  statics := none }

def pool12 : Array CpInfo := pool [(10, .class_ 12), (1, u "java/util/Collection"), (47, .class_ 61), (0, u "java/lang/Object"), (0, .class_ 63), (0, u "java/lang/Iterable")] 51

/-- java/util/Collection -/
def k12 : Class := { plain "java/util/Collection" (some 0) with
  accessFlags := 1537
  interfaces := #[11]
  cf := some (fileOf pool12 10 #[] #[] 1537 60 #[62] #[])
  fields := #[]
  methods := #[]
  instanceTypes := #[]
  staticTypes := #[]
  resolved := Array.replicate 115 none
  statics := none }

def pool13 : Array CpInfo := pool [(15, .class_ 16), (0, u "java/util/ImmutableCollections$Set12"), (0, .methodref 15 18), (0, .nameAndType 19 20), (0, u "<init>"), (0, u "(Ljava/lang/Object;)V"), (5, .class_ 27), (0, u "java/lang/Object"), (3, .class_ 32), (0, u "java/util/ImmutableCollections$AbstractImmutableSet"), (0, .class_ 34), (0, u "java/util/Set"), (1, .class_ 38), (1, u "java/util/Collection"), (0, u "isEmpty"), (0, u "()Z"), (2, u "of"), (47, u "(Ljava/lang/Object;)Ljava/util/Set;"), (39, u "copyOf"), (0, u "(Ljava/util/Collection;)Ljava/util/Set;")] 11

def k13m0 : Method := { name := "isEmpty", desc := "()Z", sig := { parameters := [], returnType := some .boolean }, accessFlags := 1025, code := none }
def k13c1 : Code := { maxStack := 3, maxLocals := 1, code := jdk_96_method_18_code, exceptionTable := #[], attributes := #[] }
def k13m1 : Method := { name := "of", desc := "(Ljava/lang/Object;)Ljava/util/Set;", sig := { parameters := [(.object "java/lang/Object")], returnType := some (.object "java/util/Set") }, accessFlags := 9, code := some k13c1 }
def k13c2 : Code := { maxStack := 3, maxLocals := 1, code := jdk_96_method_29_code, exceptionTable := #[], attributes := #[] }
def k13m2 : Method := { name := "copyOf", desc := "(Ljava/util/Collection;)Ljava/util/Set;", sig := { parameters := [(.object "java/util/Collection")], returnType := some (.object "java/util/Set") }, accessFlags := 9, code := some k13c2 }
/-- java/util/Set -/
def k13 : Class := { plain "java/util/Set" (some 0) with
  accessFlags := 1537
  interfaces := #[12]
  cf := some (fileOf pool13 33 #[] #[{ accessFlags := 1025, nameIndex := 39, descriptorIndex := 40, attributes := #[] }, { accessFlags := 9, nameIndex := 43, descriptorIndex := 91, attributes := #[] }, { accessFlags := 9, nameIndex := 131, descriptorIndex := 132, attributes := #[] }] 1537 26 #[36] #[])
  fields := #[]
  methods := #[k13m0, k13m1, k13m2]
  instanceTypes := #[]
  staticTypes := #[]
  resolved := Array.replicate 144 none
  statics := none }

def pool14 : Array CpInfo := pool [(1, .methodref 2 3), (0, .class_ 4), (0, .nameAndType 5 6), (0, u "java/lang/Object"), (0, u "<init>"), (0, u "()V"), (1, .class_ 10), (1, u "java/util/AbstractCollection"), (66, .class_ 78), (0, u "java/util/Collection")] 81

def k14c0 : Code := { maxStack := 1, maxLocals := 1, code := jdk_22_method_1_code, exceptionTable := #[], attributes := #[] }
def k14m0 : Method := { name := "<init>", desc := "()V", sig := { parameters := [], returnType := none }, accessFlags := 4, code := some k14c0 }
/-- java/util/AbstractCollection -/
def k14 : Class := { plain "java/util/AbstractCollection" (some 0) with
  accessFlags := 1057
  interfaces := #[12]
  cf := some (fileOf pool14 8 #[] #[{ accessFlags := 4, nameIndex := 5, descriptorIndex := 6, attributes := #[] }] 1057 2 #[77] #[])
  fields := #[]
  methods := #[k14m0]
  instanceTypes := #[]
  staticTypes := #[]
  resolved := Array.replicate 160 none
  statics := none }

def pool15 : Array CpInfo := pool [(1, .methodref 2 3), (0, .class_ 4), (0, .nameAndType 5 6), (0, u "java/util/AbstractCollection"), (0, u "<init>"), (0, u "()V"), (1, .class_ 10), (1, u "java/util/ImmutableCollections"), (2, .class_ 14), (0, u "java/util/ImmutableCollections$AbstractImmutableCollection")] 41

def k15c0 : Code := { maxStack := 1, maxLocals := 1, code := jdk_47_method_1_code, exceptionTable := #[], attributes := #[] }
def k15m0 : Method := { name := "<init>", desc := "()V", sig := { parameters := [], returnType := none }, accessFlags := 0, code := some k15c0 }
/-- java/util/ImmutableCollections$AbstractImmutableCollection -/
def k15 : Class := { plain "java/util/ImmutableCollections$AbstractImmutableCollection" (some 14) with
  accessFlags := 1056
  interfaces := #[]
  cf := some (fileOf pool15 13 #[.nestHost 8] #[{ accessFlags := 0, nameIndex := 5, descriptorIndex := 6, attributes := #[] }] 1056 2 #[] #[])
  fields := #[]
  methods := #[k15m0]
  instanceTypes := #[]
  staticTypes := #[]
  resolved := Array.replicate 56 none
  statics := none }

def pool16 : Array CpInfo := pool [(1, .methodref 2 3), (0, .class_ 4), (0, .nameAndType 5 6), (0, u "java/util/ImmutableCollections$AbstractImmutableCollection"), (0, u "<init>"), (0, u "()V"), (0, .class_ 8), (0, u "java/util/Set"), (7, .class_ 17), (0, u "java/util/ImmutableCollections$AbstractImmutableSet"), (43, .class_ 62), (0, u "java/util/ImmutableCollections")] 3

def k16c0 : Code := { maxStack := 1, maxLocals := 1, code := jdk_100_method_1_code, exceptionTable := #[], attributes := #[] }
def k16m0 : Method := { name := "<init>", desc := "()V", sig := { parameters := [], returnType := none }, accessFlags := 0, code := some k16c0 }
/-- java/util/ImmutableCollections$AbstractImmutableSet -/
def k16 : Class := { plain "java/util/ImmutableCollections$AbstractImmutableSet" (some 15) with
  accessFlags := 1056
  interfaces := #[13]
  cf := some (fileOf pool16 16 #[.nestHost 61] #[{ accessFlags := 0, nameIndex := 5, descriptorIndex := 6, attributes := #[] }] 1056 2 #[7] #[])
  fields := #[]
  methods := #[k16m0]
  instanceTypes := #[]
  staticTypes := #[]
  resolved := Array.replicate 66 none
  statics := none }

def pool17 : Array CpInfo := pool [(1, .methodref 2 3), (0, .class_ 4), (0, .nameAndType 5 6), (0, u "java/util/ImmutableCollections$AbstractImmutableSet"), (0, u "<init>"), (0, u "()V"), (0, .methodref 8 9), (0, .class_ 10), (0, .nameAndType 11 12), (0, u "java/util/Objects"), (0, u "requireNonNull"), (0, u "(Ljava/lang/Object;)Ljava/lang/Object;"), (0, .fieldref 14 15), (0, .class_ 16), (0, .nameAndType 17 18), (0, u "java/util/ImmutableCollections$Set12"), (0, u "e0"), (0, u "Ljava/lang/Object;"), (0, .fieldref 20 21), (0, .class_ 22), (0, .nameAndType 23 18), (0, u "java/util/ImmutableCollections"), (0, u "EMPTY"), (0, .fieldref 14 25), (0, .nameAndType 26 18), (0, u "e1"), (70, .class_ 98), (0, u "java/io/Serializable"), (4, u "(Ljava/lang/Object;)V"), (11, u "isEmpty"), (0, u "()Z")] 32

def k17c0 : Code := { maxStack := 2, maxLocals := 2, code := jdk_101_method_1_code, exceptionTable := #[], attributes := #[] }
def k17m0 : Method := { name := "<init>", desc := "(Ljava/lang/Object;)V", sig := { parameters := [(.object "java/lang/Object")], returnType := none }, accessFlags := 0, code := some k17c0 }
def k17c1 : Code := { maxStack := 1, maxLocals := 1, code := jdk_101_method_4_code, exceptionTable := #[], attributes := #[] }
def k17m1 : Method := { name := "isEmpty", desc := "()Z", sig := { parameters := [], returnType := some .boolean }, accessFlags := 1, code := some k17c1 }
/-- java/util/ImmutableCollections$Set12 -/
def k17 : Class := { plain "java/util/ImmutableCollections$Set12" (some 16) with
  accessFlags := 48
  interfaces := #[4]
  cf := some (fileOf pool17 14 #[.nestHost 20] #[{ accessFlags := 0, nameIndex := 5, descriptorIndex := 103, attributes := #[] }, { accessFlags := 1, nameIndex := 115, descriptorIndex := 116, attributes := #[] }] 48 2 #[97] #[{ accessFlags := 18, nameIndex := 17, descriptorIndex := 18, attributes := #[] }, { accessFlags := 18, nameIndex := 26, descriptorIndex := 18, attributes := #[] }])
  fields := #[{ name := "e0", type := (.object "java/lang/Object"), accessFlags := 18, slot := 0, constantValue := 0 }, { name := "e1", type := (.object "java/lang/Object"), accessFlags := 18, slot := 1, constantValue := 0 }]
  methods := #[k17m0, k17m1]
  instanceTypes := #[(.object "java/lang/Object"), (.object "java/lang/Object")]
  staticTypes := #[]
  resolved := Array.replicate 149 none
  statics := none }

def pool18 : Array CpInfo := pool [(2, .class_ 4), (1, u "java/lang/Object"), (0, u "<init>"), (0, u "()V"), (35, .class_ 44), (1, u "java/util/Objects"), (0, u "requireNonNull"), (0, u "(Ljava/lang/Object;)Ljava/lang/Object;")] 137

def k18m0 : Method := { name := "<init>", desc := "()V", sig := { parameters := [], returnType := none }, accessFlags := 2, code := none }
def k18c1 : Code := { maxStack := 2, maxLocals := 1, code := jdk_31_method_10_code, exceptionTable := #[], attributes := #[] }
def k18m1 : Method := { name := "requireNonNull", desc := "(Ljava/lang/Object;)Ljava/lang/Object;", sig := { parameters := [(.object "java/lang/Object")], returnType := some (.object "java/lang/Object") }, accessFlags := 9, code := some k18c1 }
/-- java/util/Objects -/
def k18 : Class := { plain "java/util/Objects" (some 0) with
  accessFlags := 49
  interfaces := #[]
  cf := some (fileOf pool18 42 #[] #[{ accessFlags := 2, nameIndex := 5, descriptorIndex := 6, attributes := #[] }, { accessFlags := 9, nameIndex := 45, descriptorIndex := 46, attributes := #[] }] 49 2 #[] #[])
  fields := #[]
  methods := #[k18m0, k18m1]
  instanceTypes := #[]
  staticTypes := #[]
  resolved := Array.replicate 184 none
  statics := none }

def pool19 : Array CpInfo := pool [(2, .class_ 4), (1, u "java/lang/Object"), (0, u "<init>"), (0, u "()V"), (3, .class_ 11), (0, u "java/util/ImmutableCollections$List12"), (0, .class_ 13), (0, u "java/util/ImmutableCollections$ListN"), (3, u "Z"), (29, .class_ 49), (1, u "java/util/ImmutableCollections"), (0, u "$assertionsDisabled"), (5, u "[Ljava/lang/Object;"), (5, u "EMPTY_LIST"), (0, u "Ljava/util/ImmutableCollections$ListN;"), (8, u "EMPTY_LIST_NULLS"), (22, u "SALT32L"), (0, u "J"), (2, u "REVERSE"), (6, u "archivedObjects"), (2, u "EMPTY"), (0, u "Ljava/lang/Object;"), (0, .class_ 112), (0, u "java/util/ImmutableCollections$SetN"), (5, u "EMPTY_SET"), (0, u "Ljava/util/ImmutableCollections$SetN;"), (0, .class_ 121), (0, u "java/util/ImmutableCollections$MapN"), (3, u "EMPTY_MAP"), (0, u "Ljava/util/ImmutableCollections$MapN;"), (4, u "EXPAND_FACTOR"), (0, u "I"), (36, .class_ 170), (0, u "java/util/ImmutableCollections$MapN$MapNIterator"), (0, .class_ 172), (0, u "java/util/ImmutableCollections$MapN$1"), (0, .class_ 174), (0, u "java/util/ImmutableCollections$Map1"), (0, .class_ 176), (0, u "java/util/ImmutableCollections$AbstractImmutableMap"), (0, .class_ 178), (0, u "java/util/ImmutableCollections$SetN$SetNIterator"), (0, .class_ 180), (0, u "java/util/ImmutableCollections$Set12"), (0, .class_ 182), (0, u "java/util/ImmutableCollections$Set12$1"), (0, .class_ 184), (0, u "java/util/ImmutableCollections$AbstractImmutableSet"), (0, .class_ 186), (0, u "java/util/ImmutableCollections$SubList"), (0, .class_ 188), (0, u "java/util/ImmutableCollections$ListItr"), (0, .class_ 190), (0, u "java/util/ImmutableCollections$AbstractImmutableList"), (0, .class_ 192), (0, u "java/util/ImmutableCollections$AbstractImmutableCollection"), (0, .class_ 194), (0, u "java/util/ImmutableCollections$Access"), (0, .class_ 196), (0, u "java/util/ImmutableCollections$Access$1")] 16

def k19m0 : Method := { name := "<init>", desc := "()V", sig := { parameters := [], returnType := none }, accessFlags := 2, code := none }
/-- java/util/ImmutableCollections -/
def k19 : Class := { plain "java/util/ImmutableCollections" (some 0) with
  accessFlags := 32
  interfaces := #[]
  cf := some (fileOf pool19 47 #[.nestMembers #[120, 169, 171, 173, 175, 111, 177, 179, 181, 183, 12, 10, 185, 187, 189, 191, 193, 195]] #[{ accessFlags := 2, nameIndex := 5, descriptorIndex := 6, attributes := #[] }] 32 2 #[] #[{ accessFlags := 26, nameIndex := 95, descriptorIndex := 96, attributes := #[] }, { accessFlags := 26, nameIndex := 99, descriptorIndex := 17, attributes := #[] }, { accessFlags := 10, nameIndex := 106, descriptorIndex := 56, attributes := #[] }, { accessFlags := 26, nameIndex := 109, descriptorIndex := 110, attributes := #[] }, { accessFlags := 24, nameIndex := 62, descriptorIndex := 63, attributes := #[] }, { accessFlags := 24, nameIndex := 72, descriptorIndex := 63, attributes := #[] }, { accessFlags := 24, nameIndex := 118, descriptorIndex := 119, attributes := #[] }, { accessFlags := 24, nameIndex := 125, descriptorIndex := 126, attributes := #[] }, { accessFlags := 24, nameIndex := 131, descriptorIndex := 132, attributes := #[] }, { accessFlags := 4120, nameIndex := 50, descriptorIndex := 17, attributes := #[] }])
  fields := #[{ name := "SALT32L", type := .long, accessFlags := 26, slot := 0, constantValue := 0 }, { name := "REVERSE", type := .boolean, accessFlags := 26, slot := 1, constantValue := 0 }, { name := "archivedObjects", type := (.array (.object "java/lang/Object")), accessFlags := 10, slot := 2, constantValue := 0 }, { name := "EMPTY", type := (.object "java/lang/Object"), accessFlags := 26, slot := 3, constantValue := 0 }, { name := "EMPTY_LIST", type := (.object "java/util/ImmutableCollections$ListN"), accessFlags := 24, slot := 4, constantValue := 0 }, { name := "EMPTY_LIST_NULLS", type := (.object "java/util/ImmutableCollections$ListN"), accessFlags := 24, slot := 5, constantValue := 0 }, { name := "EMPTY_SET", type := (.object "java/util/ImmutableCollections$SetN"), accessFlags := 24, slot := 6, constantValue := 0 }, { name := "EMPTY_MAP", type := (.object "java/util/ImmutableCollections$MapN"), accessFlags := 24, slot := 7, constantValue := 0 }, { name := "EXPAND_FACTOR", type := .int, accessFlags := 24, slot := 8, constantValue := 0 }, { name := "$assertionsDisabled", type := .boolean, accessFlags := 4120, slot := 9, constantValue := 0 }]
  methods := #[k19m0]
  instanceTypes := #[]
  staticTypes := #[.long, .boolean, (.array (.object "java/lang/Object")), (.object "java/lang/Object"), (.object "java/util/ImmutableCollections$ListN"), (.object "java/util/ImmutableCollections$ListN"), (.object "java/util/ImmutableCollections$SetN"), (.object "java/util/ImmutableCollections$MapN"), .int, .boolean]
  resolved := Array.replicate 213 none
  statics := some 1 }

def pool20 : Array CpInfo := pool [(2, .class_ 4), (1, u "java/lang/Object"), (0, u "<init>"), (0, u "()V"), (77, .class_ 86), (1, u "com/example/pausanias/pausanias/query/Ranking"), (11, u "ORDER"), (0, u "Ljava/util/Comparator;"), (82, u "DECIMALS"), (0, u "I"), (2, u "STEP"), (0, u "D"), (6, u "requireK"), (0, u "(I)V")] 72

def k20m0 : Method := { name := "<init>", desc := "()V", sig := { parameters := [], returnType := none }, accessFlags := 2, code := none }
def k20c1 : Code := { maxStack := 3, maxLocals := 1, code := prog_38_method_2_code, exceptionTable := #[], attributes := #[] }
def k20m1 : Method := { name := "requireK", desc := "(I)V", sig := { parameters := [.int], returnType := none }, accessFlags := 8, code := some k20c1 }
/-- com/example/pausanias/pausanias/query/Ranking -/
def k20 : Class := { plain "com/example/pausanias/pausanias/query/Ranking" (some 0) with
  accessFlags := 33
  interfaces := #[]
  cf := some (fileOf pool20 84 #[] #[{ accessFlags := 2, nameIndex := 5, descriptorIndex := 6, attributes := #[] }, { accessFlags := 8, nameIndex := 194, descriptorIndex := 195, attributes := #[] }] 33 2 #[] #[{ accessFlags := 26, nameIndex := 182, descriptorIndex := 183, attributes := #[] }, { accessFlags := 26, nameIndex := 186, descriptorIndex := 187, attributes := #[] }, { accessFlags := 25, nameIndex := 98, descriptorIndex := 99, attributes := #[] }])
  fields := #[{ name := "DECIMALS", type := .int, accessFlags := 26, slot := 0, constantValue := 0 }, { name := "STEP", type := .double, accessFlags := 26, slot := 1, constantValue := 0 }, { name := "ORDER", type := (.object "java/util/Comparator"), accessFlags := 25, slot := 2, constantValue := 0 }]
  methods := #[k20m0, k20m1]
  instanceTypes := #[]
  staticTypes := #[.int, .double, (.object "java/util/Comparator")]
  resolved := Array.replicate 268 none
  statics := none }

def pool21 : Array CpInfo := pool [(4, .class_ 6), (1, u "java/lang/Object"), (0, u "<init>"), (0, u "()V"), (5, .class_ 16), (1, u "java/lang/StringLatin1"), (104, u "$assertionsDisabled"), (0, u "Z"), (98, .class_ 223), (1, u "java/lang/StringLatin1$LinesSpliterator"), (166, .class_ 391), (0, u "java/lang/StringLatin1$CharsSpliterator")] 3

def k21m0 : Method := { name := "<init>", desc := "()V", sig := { parameters := [], returnType := none }, accessFlags := 0, code := none }
/-- java/lang/StringLatin1 -/
def k21 : Class := { plain "java/lang/StringLatin1" (some 0) with
  accessFlags := 48
  interfaces := #[]
  cf := some (fileOf pool21 14 #[.nestMembers #[390, 221]] #[{ accessFlags := 0, nameIndex := 7, descriptorIndex := 8, attributes := #[] }] 48 4 #[] #[{ accessFlags := 4120, nameIndex := 121, descriptorIndex := 122, attributes := #[] }])
  fields := #[{ name := "$assertionsDisabled", type := .boolean, accessFlags := 4120, slot := 0, constantValue := 0 }]
  methods := #[k21m0]
  instanceTypes := #[]
  staticTypes := #[.boolean]
  resolved := Array.replicate 395 none
  statics := none }

def pool22 : Array CpInfo := pool [(2, .class_ 4), (1, u "java/lang/Object"), (0, u "<init>"), (0, u "()V"), (17, .class_ 26), (1, u "jdk/internal/util/Preconditions"), (28, .class_ 56), (0, u "jdk/internal/util/Preconditions$4"), (57, .class_ 115), (0, u "jdk/internal/util/Preconditions$1"), (7, u "SIOOBE_FORMATTER"), (0, u "Ljava/util/function/BiFunction;"), (0, .class_ 126), (0, u "jdk/internal/util/Preconditions$2"), (3, u "AIOOBE_FORMATTER"), (0, .class_ 132), (0, u "jdk/internal/util/Preconditions$3"), (3, u "IOOBE_FORMATTER")] 57

def k22m0 : Method := { name := "<init>", desc := "()V", sig := { parameters := [], returnType := none }, accessFlags := 1, code := none }
/-- jdk/internal/util/Preconditions -/
def k22 : Class := { plain "jdk/internal/util/Preconditions" (some 0) with
  accessFlags := 33
  interfaces := #[]
  cf := some (fileOf pool22 24 #[.nestMembers #[55, 131, 125, 114]] #[{ accessFlags := 1, nameIndex := 5, descriptorIndex := 6, attributes := #[] }] 33 2 #[] #[{ accessFlags := 25, nameIndex := 123, descriptorIndex := 124, attributes := #[] }, { accessFlags := 25, nameIndex := 130, descriptorIndex := 124, attributes := #[] }, { accessFlags := 25, nameIndex := 136, descriptorIndex := 124, attributes := #[] }])
  fields := #[{ name := "SIOOBE_FORMATTER", type := (.object "java/util/function/BiFunction"), accessFlags := 25, slot := 0, constantValue := 0 }, { name := "AIOOBE_FORMATTER", type := (.object "java/util/function/BiFunction"), accessFlags := 25, slot := 1, constantValue := 0 }, { name := "IOOBE_FORMATTER", type := (.object "java/util/function/BiFunction"), accessFlags := 25, slot := 2, constantValue := 0 }]
  methods := #[k22m0]
  instanceTypes := #[]
  staticTypes := #[(.object "java/util/function/BiFunction"), (.object "java/util/function/BiFunction"), (.object "java/util/function/BiFunction")]
  resolved := Array.replicate 194 none
  statics := some 2 }

def pool23 : Array CpInfo := pool [(9, u "<init>"), (6, .class_ 18), (1, u "java/lang/Object"), (0, u "()V"), (1, .class_ 23), (1, u "jdk/internal/util/ArraysSupport"), (0, u "LOG2_ARRAY_LONG_INDEX_SCALE"), (0, u "I"), (2, u "U"), (0, u "Ljdk/internal/misc/Unsafe;"), (8, u "BIG_ENDIAN"), (0, u "Z"), (8, u "LOG2_BYTE_BIT_SIZE"), (4, u "LOG2_ARRAY_INT_INDEX_SCALE"), (54, u "JLA"), (0, u "Ljdk/internal/access/JavaLangAccess;"), (11, u "LOG2_ARRAY_BOOLEAN_INDEX_SCALE"), (9, u "LOG2_ARRAY_BYTE_INDEX_SCALE"), (5, u "LOG2_ARRAY_CHAR_INDEX_SCALE"), (5, u "LOG2_ARRAY_SHORT_INDEX_SCALE"), (18, u "LOG2_ARRAY_FLOAT_INDEX_SCALE"), (24, u "LOG2_ARRAY_DOUBLE_INDEX_SCALE"), (89, u "T_BOOLEAN"), (2, u "T_CHAR"), (1, u "T_FLOAT"), (1, u "T_DOUBLE"), (1, u "T_BYTE"), (1, u "T_SHORT"), (1, u "T_INT"), (1, u "T_LONG"), (1, u "SOFT_MAX_ARRAY_LENGTH")] 83

def k23m0 : Method := { name := "<init>", desc := "()V", sig := { parameters := [], returnType := none }, accessFlags := 2, code := none }
/-- jdk/internal/util/ArraysSupport -/
def k23 : Class := { plain "jdk/internal/util/ArraysSupport" (some 0) with
  accessFlags := 33
  interfaces := #[]
  cf := some (fileOf pool23 21 #[] #[{ accessFlags := 2, nameIndex := 9, descriptorIndex := 19, attributes := #[] }] 33 16 #[] #[{ accessFlags := 24, nameIndex := 28, descriptorIndex := 29, attributes := #[] }, { accessFlags := 26, nameIndex := 38, descriptorIndex := 39, attributes := #[] }, { accessFlags := 25, nameIndex := 121, descriptorIndex := 25, attributes := #[] }, { accessFlags := 25, nameIndex := 131, descriptorIndex := 25, attributes := #[] }, { accessFlags := 25, nameIndex := 137, descriptorIndex := 25, attributes := #[] }, { accessFlags := 25, nameIndex := 143, descriptorIndex := 25, attributes := #[] }, { accessFlags := 25, nameIndex := 53, descriptorIndex := 25, attributes := #[] }, { accessFlags := 25, nameIndex := 24, descriptorIndex := 25, attributes := #[] }, { accessFlags := 25, nameIndex := 162, descriptorIndex := 25, attributes := #[] }, { accessFlags := 25, nameIndex := 187, descriptorIndex := 25, attributes := #[] }, { accessFlags := 26, nameIndex := 48, descriptorIndex := 25, attributes := #[] }, { accessFlags := 25, nameIndex := 277, descriptorIndex := 25, attributes := #[] }, { accessFlags := 25, nameIndex := 280, descriptorIndex := 25, attributes := #[] }, { accessFlags := 25, nameIndex := 282, descriptorIndex := 25, attributes := #[] }, { accessFlags := 25, nameIndex := 284, descriptorIndex := 25, attributes := #[] }, { accessFlags := 25, nameIndex := 286, descriptorIndex := 25, attributes := #[] }, { accessFlags := 25, nameIndex := 288, descriptorIndex := 25, attributes := #[] }, { accessFlags := 25, nameIndex := 290, descriptorIndex := 25, attributes := #[] }, { accessFlags := 25, nameIndex := 292, descriptorIndex := 25, attributes := #[] }, { accessFlags := 26, nameIndex := 108, descriptorIndex := 109, attributes := #[] }, { accessFlags := 25, nameIndex := 294, descriptorIndex := 25, attributes := #[] }])
  fields := #[{ name := "U", type := (.object "jdk/internal/misc/Unsafe"), accessFlags := 24, slot := 0, constantValue := 0 }, { name := "BIG_ENDIAN", type := .boolean, accessFlags := 26, slot := 1, constantValue := 0 }, { name := "LOG2_ARRAY_BOOLEAN_INDEX_SCALE", type := .int, accessFlags := 25, slot := 2, constantValue := 0 }, { name := "LOG2_ARRAY_BYTE_INDEX_SCALE", type := .int, accessFlags := 25, slot := 3, constantValue := 0 }, { name := "LOG2_ARRAY_CHAR_INDEX_SCALE", type := .int, accessFlags := 25, slot := 4, constantValue := 0 }, { name := "LOG2_ARRAY_SHORT_INDEX_SCALE", type := .int, accessFlags := 25, slot := 5, constantValue := 0 }, { name := "LOG2_ARRAY_INT_INDEX_SCALE", type := .int, accessFlags := 25, slot := 6, constantValue := 0 }, { name := "LOG2_ARRAY_LONG_INDEX_SCALE", type := .int, accessFlags := 25, slot := 7, constantValue := 0 }, { name := "LOG2_ARRAY_FLOAT_INDEX_SCALE", type := .int, accessFlags := 25, slot := 8, constantValue := 0 }, { name := "LOG2_ARRAY_DOUBLE_INDEX_SCALE", type := .int, accessFlags := 25, slot := 9, constantValue := 0 }, { name := "LOG2_BYTE_BIT_SIZE", type := .int, accessFlags := 26, slot := 10, constantValue := 0 }, { name := "T_BOOLEAN", type := .int, accessFlags := 25, slot := 11, constantValue := 0 }, { name := "T_CHAR", type := .int, accessFlags := 25, slot := 12, constantValue := 0 }, { name := "T_FLOAT", type := .int, accessFlags := 25, slot := 13, constantValue := 0 }, { name := "T_DOUBLE", type := .int, accessFlags := 25, slot := 14, constantValue := 0 }, { name := "T_BYTE", type := .int, accessFlags := 25, slot := 15, constantValue := 0 }, { name := "T_SHORT", type := .int, accessFlags := 25, slot := 16, constantValue := 0 }, { name := "T_INT", type := .int, accessFlags := 25, slot := 17, constantValue := 0 }, { name := "T_LONG", type := .int, accessFlags := 25, slot := 18, constantValue := 0 }, { name := "JLA", type := (.object "jdk/internal/access/JavaLangAccess"), accessFlags := 26, slot := 19, constantValue := 0 }, { name := "SOFT_MAX_ARRAY_LENGTH", type := .int, accessFlags := 25, slot := 20, constantValue := 0 }]
  methods := #[k23m0]
  instanceTypes := #[]
  staticTypes := #[(.object "jdk/internal/misc/Unsafe"), .boolean, .int, .int, .int, .int, .int, .int, .int, .int, .int, .int, .int, .int, .int, .int, .int, .int, .int, (.object "jdk/internal/access/JavaLangAccess"), .int]
  resolved := Array.replicate 378 none
  statics := none }

def pool24 : Array CpInfo := pool [(8, .class_ 10), (1, u "java/util/SequencedCollection"), (15, .class_ 27), (0, u "java/lang/Object"), (0, .class_ 29), (0, u "java/util/Collection")] 27

/-- java/util/SequencedCollection -/
def k24 : Class := { plain "java/util/SequencedCollection" (some 0) with
  accessFlags := 1537
  interfaces := #[12]
  cf := some (fileOf pool24 8 #[] #[] 1537 26 #[28] #[])
  fields := #[]
  methods := #[]
  instanceTypes := #[]
  staticTypes := #[]
  resolved := Array.replicate 57 none
  statics := none }

def pool25 : Array CpInfo := pool [(8, .class_ 10), (1, u "java/util/List"), (92, .class_ 104), (0, u "java/lang/Object"), (15, .class_ 121), (0, u "java/util/SequencedCollection")] 129

/-- java/util/List -/
def k25 : Class := { plain "java/util/List" (some 0) with
  accessFlags := 1537
  interfaces := #[24]
  cf := some (fileOf pool25 8 #[] #[] 1537 103 #[120] #[])
  fields := #[]
  methods := #[]
  instanceTypes := #[]
  staticTypes := #[]
  resolved := Array.replicate 251 none
  statics := none }

def pool26 : Array CpInfo := pool [(1, .class_ 2), (0, u "java/util/RandomAccess"), (0, .class_ 4), (0, u "java/lang/Object")] 2

/-- java/util/RandomAccess -/
def k26 : Class := { plain "java/util/RandomAccess" (some 0) with
  accessFlags := 1537
  interfaces := #[]
  cf := some (fileOf pool26 1 #[] #[] 1537 3 #[] #[])
  fields := #[]
  methods := #[]
  instanceTypes := #[]
  staticTypes := #[]
  resolved := Array.replicate 7 none
  statics := none }

def pool27 : Array CpInfo := pool [(2, .class_ 4), (1, u "java/util/ImmutableCollections$AbstractImmutableCollection"), (0, u "<init>"), (0, u "()V"), (1, .class_ 10), (1, u "java/util/ImmutableCollections"), (3, .class_ 16), (1, u "java/util/ImmutableCollections$AbstractImmutableList"), (60, .class_ 78), (0, u "java/util/List"), (45, .class_ 125), (0, u "java/util/RandomAccess")] 70

def k27m0 : Method := { name := "<init>", desc := "()V", sig := { parameters := [], returnType := none }, accessFlags := 0, code := none }
/-- java/util/ImmutableCollections$AbstractImmutableList -/
def k27 : Class := { plain "java/util/ImmutableCollections$AbstractImmutableList" (some 15) with
  accessFlags := 1056
  interfaces := #[25, 26]
  cf := some (fileOf pool27 14 #[.nestHost 8] #[{ accessFlags := 0, nameIndex := 5, descriptorIndex := 6, attributes := #[] }] 1056 2 #[77, 124] #[])
  fields := #[]
  methods := #[k27m0]
  instanceTypes := #[]
  staticTypes := #[]
  resolved := Array.replicate 196 none
  statics := none }

def pool28 : Array CpInfo := pool [(2, .class_ 4), (1, u "java/util/ImmutableCollections$AbstractImmutableList"), (3, .class_ 10), (1, u "java/util/ImmutableCollections$ListN"), (0, u "elements"), (0, u "[Ljava/lang/Object;"), (2, u "allowNulls"), (0, u "Z"), (42, .class_ 60), (0, u "java/io/Serializable"), (53, .class_ 115), (0, u "java/util/ImmutableCollections")] 3

/-- java/util/ImmutableCollections$ListN -/
def k28 : Class := { plain "java/util/ImmutableCollections$ListN" (some 27) with
  accessFlags := 48
  interfaces := #[4]
  cf := some (fileOf pool28 8 #[.nestHost 114] #[] 48 2 #[59] #[{ accessFlags := 18, nameIndex := 11, descriptorIndex := 12, attributes := #[] }, { accessFlags := 18, nameIndex := 15, descriptorIndex := 16, attributes := #[] }])
  fields := #[{ name := "elements", type := (.array (.object "java/lang/Object")), accessFlags := 18, slot := 0, constantValue := 0 }, { name := "allowNulls", type := .boolean, accessFlags := 18, slot := 1, constantValue := 0 }]
  methods := #[]
  instanceTypes := #[(.array (.object "java/lang/Object")), .boolean]
  staticTypes := #[]
  resolved := Array.replicate 119 none
  statics := none }

def pool29 : Array CpInfo := pool [(1, u "java/lang/Cloneable"), (0, .class_ 1), (0, u "java/lang/Object"), (0, .class_ 3)] 3

/-- java/lang/Cloneable -/
def k29 : Class := { plain "java/lang/Cloneable" (some 0) with
  accessFlags := 1537
  interfaces := #[]
  cf := some (fileOf pool29 2 #[] #[] 1537 4 #[] #[])
  fields := #[]
  methods := #[]
  instanceTypes := #[]
  staticTypes := #[]
  resolved := Array.replicate 8 none
  statics := none }

/-- the primitive byte -/
def k30 : Class := { plain "byte" none with kind := .primitive 'B', accessFlags := 0x411 }
/-- [B -/
def k31 : Class := { plain "[B" (some 0) with kind := .array 30 .byte, interfaces := #[29, 4], accessFlags := 1041 }

/-- the primitive char -/
def k32 : Class := { plain "char" none with kind := .primitive 'C', accessFlags := 0x411 }
/-- [C -/
def k33 : Class := { plain "[C" (some 0) with kind := .array 32 .char, interfaces := #[29, 4], accessFlags := 1041 }

/-- the primitive int -/
def k34 : Class := { plain "int" none with kind := .primitive 'I', accessFlags := 0x411 }
/-- [I -/
def k35 : Class := { plain "[I" (some 0) with kind := .array 34 .int, interfaces := #[29, 4], accessFlags := 1041 }

def heap : Heap := #[{ cls := 9, slots := #[.long 0, .int 1, .null, .int 0, .null, .int 0, .int 0], vm := .statics 9 },
  { cls := 19, slots := #[.long 0, .int 0, .null, .ref 3, .ref 4, .null, .null, .null, .int 0, .int 1], vm := .statics 19 },
  { cls := 22, slots := #[.null, .null, .null], vm := .statics 22 },
  { cls := 0, slots := #[], vm := .none },
  { cls := 28, slots := #[.null, .int 0], vm := .none }]
def classes : Array Class := #[k0, k1, k2, k3, k4, k5, k6, k7, k8, k9, k10, k11, k12, k13, k14, k15, k16, k17, k18, k19, k20, k21, k22, k23, k24, k25, k26, k27, k28, k29, k30, k31, k32, k33, k34, k35]
def interned : List (Array UInt16 × Addr) := []
def slotsUsed : Nat := 22
def theMethod : MethodId := ⟨1, 1⟩
def args0 : Array Value := #[.long 5, .int 7, .int 9, .int 2]
def aboutOver (below : List Frame) : State where
  vm := { classes := classes, interned := interned.toArray }
  heap := heap
  slotsUsed := slotsUsed
  threads := #[{ frames := .invoking theMethod args0 :: below }]
def below0 : List Frame := [.native { method := ⟨0, 0⟩, args := #[] }]
def about1 : State := aboutOver below0
def p0 : Program := .bare "" "" ""
def e0 : Env := launch0.env 0 0 0
theorem w_frames : about1.frames = Frame.invoking theMethod args0 :: below0 := rfl
set_option maxRecDepth 65536 in
theorem w_args : argsFit about1.vm theMethod args0 = true := by decide +kernel
set_option maxRecDepth 65536 in
theorem w_heap : heapFits about1 = true := by decide +kernel
set_option maxRecDepth 65536 in
theorem w_runnable : about1.curStatus? = some .runnable := by decide +kernel
set_option maxRecDepth 65536 in
theorem w_alone : about1.alone = true := by decide +kernel
set_option maxRecDepth 65536 in
theorem w_named : about1.methodNamed? x = some theMethod := by decide +kernel
set_option maxRecDepth 65536 in
theorem w_hears : about1.hears theMethod below0 = true := by decide +kernel
set_option maxRecDepth 65536 in
theorem w_ripe : about1.ripe theMethod args0 below0 = true := by decide +kernel
theorem w_running : about1.status = .running := rfl
set_option maxRecDepth 65536 in
theorem w_room : about1.hasRoom e0.platform room_1 = true :=
  launch0.hasRoom_least _ room_1 (by decide +kernel) (by decide +kernel) (by decide +kernel) (by decide +kernel) (by decide +kernel) (by decide +kernel)
theorem allAtoms_all (ts : List Jvm.Cond) (a : Array Jvm.Value) (st : Jvm.State) : (allAtoms ts).before a st = ts.all (fun c => c.before a st) := by
  induction ts with
  | nil => rfl
  | cons c t ih =>
    show (Jvm.Cond.and c (allAtoms t)).before a st = _
    rw [Jvm.Cond.before_and, ih, List.all_cons]
def words1 : List Jvm.Cond := Jvm.Cond.code x code maxLocals ret :: tables_1
/-- a 'code' word, met by the world's own term for the bytes: nothing is compared byte by byte -/
theorem code_word {y : MethodName} {bytes : ByteArray} {mx : Nat} {rt : Option FieldType} {a : Array Value} {s : State} {m : MethodId} {meth : Method} {c : Code} (h1 : s.methodNamed? y = some m) (h2 : s.vm.method? m = some meth) (h3 : meth.code = some c) (h4 : c.code = bytes)
    (h5 : (c.maxLocals == mx && c.exceptionTable.isEmpty && decide (c.maxStack ≤ mostOperands) && decide (meth.sig.returnType = rt) && !meth.locks && decide (parseMethodDescriptor y.desc = some meth.sig)) = true) : (Jvm.Cond.code y bytes mx rt).before a s = true := by
  simp only [Bool.and_eq_true, beq_iff_eq, Bool.not_eq_true', decide_eq_true_eq] at h5
  obtain ⟨⟨⟨⟨⟨g1, g2⟩, g3⟩, g4⟩, g5⟩, g6⟩ := h5
  simp [Cond.before, Cond.holds, Cond.value, h1, h2, h3, h4, g1, g2, g3, g4, g5, g6]
def isCode : Jvm.Cond → Bool
  | .code _ _ _ _ => true
  | _ => false
theorem all_split {L : List Jvm.Cond} {P : Jvm.Cond → Bool} (h1 : L.all (fun c => isCode c || P c) = true) (h2 : ∀ c ∈ L.filter isCode, P c = true) : L.all P = true := by
  refine List.all_eq_true.mpr fun c hc => ?_
  have h := List.all_eq_true.mp h1 c hc
  rcases Bool.eq_false_or_eq_true (isCode c) with hi | hi
  · exact h2 c (List.mem_filter.mpr ⟨hc, hi⟩)
  · simpa [hi] using h
set_option maxRecDepth 65536 in
theorem w_c0 : (Jvm.Cond.code x code maxLocals ret).before args0 about1 = true := code_word (m := ⟨1, 1⟩) (meth := k1m1) (c := k1c1) (by decide +kernel) rfl rfl rfl (by decide +kernel)
set_option maxRecDepth 65536 in
theorem w_c1 : (Jvm.Cond.code ({ cls := "java/lang/String", name := "<init>", desc := "([C)V" } : Jvm.MethodName) jdk_42_method_3_code (2 : Nat) (Option.none : Option Jvm.ClassFile.FieldType)).before args0 about1 = true := code_word (m := ⟨9, 1⟩) (meth := k9m1) (c := k9c1) (by decide +kernel) rfl rfl rfl (by decide +kernel)
set_option maxRecDepth 65536 in
theorem w_c2 : (Jvm.Cond.code ({ cls := "java/lang/String", name := "<init>", desc := "([CIILjava/lang/Void;)V" } : Jvm.MethodName) jdk_42_method_149_code (6 : Nat) (Option.none : Option Jvm.ClassFile.FieldType)).before args0 about1 = true := code_word (m := ⟨9, 2⟩) (meth := k9m2) (c := k9c2) (by decide +kernel) rfl rfl rfl (by decide +kernel)
set_option maxRecDepth 65536 in
theorem w_c3 : (Jvm.Cond.code ({ cls := "java/lang/Object", name := "<init>", desc := "()V" } : Jvm.MethodName) object_method_1_code (1 : Nat) (Option.none : Option Jvm.ClassFile.FieldType)).before args0 about1 = true := code_word (m := ⟨0, 0⟩) (meth := k0m0) (c := k0c0) (by decide +kernel) rfl rfl rfl (by decide +kernel)
set_option maxRecDepth 65536 in
theorem w_c4 : (Jvm.Cond.code ({ cls := "java/lang/StringUTF16", name := "compress", desc := "([CII)[B" } : Jvm.MethodName) jdk_52_method_16_code (6 : Nat) (Option.some (Jvm.ClassFile.FieldType.array Jvm.ClassFile.FieldType.byte))).before args0 about1 = true := code_word (m := ⟨10, 2⟩) (meth := k10m2) (c := k10c2) (by decide +kernel) rfl rfl rfl (by decide +kernel)
set_option maxRecDepth 65536 in
theorem w_c5 : (Jvm.Cond.code ({ cls := "java/lang/StringUTF16", name := "compress", desc := "([CI[BII)I" } : Jvm.MethodName) jdk_52_method_21_code (7 : Nat) (Option.some Jvm.ClassFile.FieldType.int)).before args0 about1 = true := code_word (m := ⟨10, 3⟩) (meth := k10m3) (c := k10c3) (by decide +kernel) rfl rfl rfl (by decide +kernel)
set_option maxRecDepth 65536 in
theorem w_c6 : (Jvm.Cond.code ({ cls := "java/lang/StringUTF16", name := "coderFromArrayLen", desc := "([BI)B" } : Jvm.MethodName) jdk_52_method_15_code (2 : Nat) (Option.some Jvm.ClassFile.FieldType.byte)).before args0 about1 = true := code_word (m := ⟨10, 1⟩) (meth := k10m1) (c := k10c1) (by decide +kernel) rfl rfl rfl (by decide +kernel)
set_option maxRecDepth 65536 in
theorem w_c7 : (Jvm.Cond.code ({ cls := "java/util/Set", name := "of", desc := "(Ljava/lang/Object;)Ljava/util/Set;" } : Jvm.MethodName) jdk_96_method_18_code (1 : Nat) (Option.some (Jvm.ClassFile.FieldType.object "java/util/Set"))).before args0 about1 = true := code_word (m := ⟨13, 1⟩) (meth := k13m1) (c := k13c1) (by decide +kernel) rfl rfl rfl (by decide +kernel)
set_option maxRecDepth 65536 in
theorem w_c8 : (Jvm.Cond.code ({ cls := "java/util/ImmutableCollections$Set12", name := "<init>", desc := "(Ljava/lang/Object;)V" } : Jvm.MethodName) jdk_101_method_1_code (2 : Nat) (Option.none : Option Jvm.ClassFile.FieldType)).before args0 about1 = true := code_word (m := ⟨17, 0⟩) (meth := k17m0) (c := k17c0) (by decide +kernel) rfl rfl rfl (by decide +kernel)
set_option maxRecDepth 65536 in
theorem w_c9 : (Jvm.Cond.code ({ cls := "java/util/ImmutableCollections$AbstractImmutableSet", name := "<init>", desc := "()V" } : Jvm.MethodName) jdk_100_method_1_code (1 : Nat) (Option.none : Option Jvm.ClassFile.FieldType)).before args0 about1 = true := code_word (m := ⟨16, 0⟩) (meth := k16m0) (c := k16c0) (by decide +kernel) rfl rfl rfl (by decide +kernel)
set_option maxRecDepth 65536 in
theorem w_c10 : (Jvm.Cond.code ({ cls := "java/util/ImmutableCollections$AbstractImmutableCollection", name := "<init>", desc := "()V" } : Jvm.MethodName) jdk_47_method_1_code (1 : Nat) (Option.none : Option Jvm.ClassFile.FieldType)).before args0 about1 = true := code_word (m := ⟨15, 0⟩) (meth := k15m0) (c := k15c0) (by decide +kernel) rfl rfl rfl (by decide +kernel)
set_option maxRecDepth 65536 in
theorem w_c11 : (Jvm.Cond.code ({ cls := "java/util/AbstractCollection", name := "<init>", desc := "()V" } : Jvm.MethodName) jdk_22_method_1_code (1 : Nat) (Option.none : Option Jvm.ClassFile.FieldType)).before args0 about1 = true := code_word (m := ⟨14, 0⟩) (meth := k14m0) (c := k14c0) (by decide +kernel) rfl rfl rfl (by decide +kernel)
set_option maxRecDepth 65536 in
theorem w_c12 : (Jvm.Cond.code ({ cls := "java/util/Objects", name := "requireNonNull", desc := "(Ljava/lang/Object;)Ljava/lang/Object;" } : Jvm.MethodName) jdk_31_method_10_code (1 : Nat) (Option.some (Jvm.ClassFile.FieldType.object "java/lang/Object"))).before args0 about1 = true := code_word (m := ⟨18, 1⟩) (meth := k18m1) (c := k18c1) (by decide +kernel) rfl rfl rfl (by decide +kernel)
set_option maxRecDepth 65536 in
theorem w_c13 : (Jvm.Cond.code ({ cls := "com/example/pausanias/pausanias/query/StreetQuery", name := "<init>", desc := "(Ljava/util/Set;DI)V" } : Jvm.MethodName) prog_40_method_1_code (5 : Nat) (Option.none : Option Jvm.ClassFile.FieldType)).before args0 about1 = true := code_word (m := ⟨3, 0⟩) (meth := k3m0) (c := k3c0) (by decide +kernel) rfl rfl rfl (by decide +kernel)
set_option maxRecDepth 65536 in
theorem w_c14 : (Jvm.Cond.code ({ cls := "java/lang/Record", name := "<init>", desc := "()V" } : Jvm.MethodName) jdk_30_method_1_code (1 : Nat) (Option.none : Option Jvm.ClassFile.FieldType)).before args0 about1 = true := code_word (m := ⟨2, 0⟩) (meth := k2m0) (c := k2c0) (by decide +kernel) rfl rfl rfl (by decide +kernel)
set_option maxRecDepth 65536 in
theorem w_c15 : (Jvm.Cond.code ({ cls := "java/util/Set", name := "copyOf", desc := "(Ljava/util/Collection;)Ljava/util/Set;" } : Jvm.MethodName) jdk_96_method_29_code (1 : Nat) (Option.some (Jvm.ClassFile.FieldType.object "java/util/Set"))).before args0 about1 = true := code_word (m := ⟨13, 2⟩) (meth := k13m2) (c := k13c2) (by decide +kernel) rfl rfl rfl (by decide +kernel)
set_option maxRecDepth 65536 in
theorem w_c16 : (Jvm.Cond.code ({ cls := "java/util/ImmutableCollections$Set12", name := "isEmpty", desc := "()Z" } : Jvm.MethodName) jdk_101_method_4_code (1 : Nat) (Option.some Jvm.ClassFile.FieldType.boolean)).before args0 about1 = true := code_word (m := ⟨17, 1⟩) (meth := k17m1) (c := k17c1) (by decide +kernel) rfl rfl rfl (by decide +kernel)
set_option maxRecDepth 65536 in
theorem w_c17 : (Jvm.Cond.code ({ cls := "com/example/pausanias/pausanias/query/Ranking", name := "requireK", desc := "(I)V" } : Jvm.MethodName) prog_38_method_2_code (1 : Nat) (Option.none : Option Jvm.ClassFile.FieldType)).before args0 about1 = true := code_word (m := ⟨20, 1⟩) (meth := k20m1) (c := k20c1) (by decide +kernel) rfl rfl rfl (by decide +kernel)
set_option maxRecDepth 65536 in
theorem w_c18 : (Jvm.Cond.code ({ cls := "com/example/pausanias/pausanias/query/StreetQuery", name := "interest", desc := "(JD)D" } : Jvm.MethodName) prog_40_method_3_code (5 : Nat) (Option.some Jvm.ClassFile.FieldType.double)).before args0 about1 = true := code_word (m := ⟨3, 1⟩) (meth := k3m1) (c := k3c1) (by decide +kernel) rfl rfl rfl (by decide +kernel)
def codes1 : List Jvm.Cond := [Jvm.Cond.code x code maxLocals ret, Jvm.Cond.code ({ cls := "java/lang/String", name := "<init>", desc := "([C)V" } : Jvm.MethodName) jdk_42_method_3_code (2 : Nat) (Option.none : Option Jvm.ClassFile.FieldType), Jvm.Cond.code ({ cls := "java/lang/String", name := "<init>", desc := "([CIILjava/lang/Void;)V" } : Jvm.MethodName) jdk_42_method_149_code (6 : Nat) (Option.none : Option Jvm.ClassFile.FieldType), Jvm.Cond.code ({ cls := "java/lang/Object", name := "<init>", desc := "()V" } : Jvm.MethodName) object_method_1_code (1 : Nat) (Option.none : Option Jvm.ClassFile.FieldType), Jvm.Cond.code ({ cls := "java/lang/StringUTF16", name := "compress", desc := "([CII)[B" } : Jvm.MethodName) jdk_52_method_16_code (6 : Nat) (Option.some (Jvm.ClassFile.FieldType.array Jvm.ClassFile.FieldType.byte)), Jvm.Cond.code ({ cls := "java/lang/StringUTF16", name := "compress", desc := "([CI[BII)I" } : Jvm.MethodName) jdk_52_method_21_code (7 : Nat) (Option.some Jvm.ClassFile.FieldType.int), Jvm.Cond.code ({ cls := "java/lang/StringUTF16", name := "coderFromArrayLen", desc := "([BI)B" } : Jvm.MethodName) jdk_52_method_15_code (2 : Nat) (Option.some Jvm.ClassFile.FieldType.byte), Jvm.Cond.code ({ cls := "java/util/Set", name := "of", desc := "(Ljava/lang/Object;)Ljava/util/Set;" } : Jvm.MethodName) jdk_96_method_18_code (1 : Nat) (Option.some (Jvm.ClassFile.FieldType.object "java/util/Set")), Jvm.Cond.code ({ cls := "java/util/ImmutableCollections$Set12", name := "<init>", desc := "(Ljava/lang/Object;)V" } : Jvm.MethodName) jdk_101_method_1_code (2 : Nat) (Option.none : Option Jvm.ClassFile.FieldType), Jvm.Cond.code ({ cls := "java/util/ImmutableCollections$AbstractImmutableSet", name := "<init>", desc := "()V" } : Jvm.MethodName) jdk_100_method_1_code (1 : Nat) (Option.none : Option Jvm.ClassFile.FieldType), Jvm.Cond.code ({ cls := "java/util/ImmutableCollections$AbstractImmutableCollection", name := "<init>", desc := "()V" } : Jvm.MethodName) jdk_47_method_1_code (1 : Nat) (Option.none : Option Jvm.ClassFile.FieldType), Jvm.Cond.code ({ cls := "java/util/AbstractCollection", name := "<init>", desc := "()V" } : Jvm.MethodName) jdk_22_method_1_code (1 : Nat) (Option.none : Option Jvm.ClassFile.FieldType), Jvm.Cond.code ({ cls := "java/util/Objects", name := "requireNonNull", desc := "(Ljava/lang/Object;)Ljava/lang/Object;" } : Jvm.MethodName) jdk_31_method_10_code (1 : Nat) (Option.some (Jvm.ClassFile.FieldType.object "java/lang/Object")), Jvm.Cond.code ({ cls := "com/example/pausanias/pausanias/query/StreetQuery", name := "<init>", desc := "(Ljava/util/Set;DI)V" } : Jvm.MethodName) prog_40_method_1_code (5 : Nat) (Option.none : Option Jvm.ClassFile.FieldType), Jvm.Cond.code ({ cls := "java/lang/Record", name := "<init>", desc := "()V" } : Jvm.MethodName) jdk_30_method_1_code (1 : Nat) (Option.none : Option Jvm.ClassFile.FieldType), Jvm.Cond.code ({ cls := "java/util/Set", name := "copyOf", desc := "(Ljava/util/Collection;)Ljava/util/Set;" } : Jvm.MethodName) jdk_96_method_29_code (1 : Nat) (Option.some (Jvm.ClassFile.FieldType.object "java/util/Set")), Jvm.Cond.code ({ cls := "java/util/ImmutableCollections$Set12", name := "isEmpty", desc := "()Z" } : Jvm.MethodName) jdk_101_method_4_code (1 : Nat) (Option.some Jvm.ClassFile.FieldType.boolean), Jvm.Cond.code ({ cls := "com/example/pausanias/pausanias/query/Ranking", name := "requireK", desc := "(I)V" } : Jvm.MethodName) prog_38_method_2_code (1 : Nat) (Option.none : Option Jvm.ClassFile.FieldType), Jvm.Cond.code ({ cls := "com/example/pausanias/pausanias/query/StreetQuery", name := "interest", desc := "(JD)D" } : Jvm.MethodName) prog_40_method_3_code (5 : Nat) (Option.some Jvm.ClassFile.FieldType.double)]
set_option maxRecDepth 65536 in
theorem codes_eq : words1.filter isCode = codes1 := rfl
theorem w_codes : ∀ c ∈ words1.filter isCode, c.before args0 about1 = true := by
  rw [codes_eq]
  intro c hc
  simp only [codes1, List.mem_cons, List.not_mem_nil, or_false] at hc
  rcases hc with rfl | rfl | rfl | rfl | rfl | rfl | rfl | rfl | rfl | rfl | rfl | rfl | rfl | rfl | rfl | rfl | rfl | rfl | rfl
  · exact w_c0
  · exact w_c1
  · exact w_c2
  · exact w_c3
  · exact w_c4
  · exact w_c5
  · exact w_c6
  · exact w_c7
  · exact w_c8
  · exact w_c9
  · exact w_c10
  · exact w_c11
  · exact w_c12
  · exact w_c13
  · exact w_c14
  · exact w_c15
  · exact w_c16
  · exact w_c17
  · exact w_c18
set_option maxRecDepth 65536 in
theorem w_t1 : (words1.take 24).all (fun c => isCode c || c.before args0 about1) = true := by decide +kernel
set_option maxRecDepth 65536 in
theorem w_t2 : ((words1.drop 24).take 24).all (fun c => isCode c || c.before args0 about1) = true := by decide +kernel
set_option maxRecDepth 65536 in
theorem w_t3 : (((words1.drop 24).drop 24).take 24).all (fun c => isCode c || c.before args0 about1) = true := by decide +kernel
set_option maxRecDepth 65536 in
theorem w_t4 : ((((words1.drop 24).drop 24).drop 24).take 24).all (fun c => isCode c || c.before args0 about1) = true := by decide +kernel
set_option maxRecDepth 65536 in
theorem w_t5 : (((((words1.drop 24).drop 24).drop 24).drop 24).take 24).all (fun c => isCode c || c.before args0 about1) = true := by decide +kernel
set_option maxRecDepth 65536 in
theorem w_t6 : (((((words1.drop 24).drop 24).drop 24).drop 24).drop 24).all (fun c => isCode c || c.before args0 about1) = true := by decide +kernel
theorem w_tables : (allAtoms (Jvm.Cond.code x code maxLocals ret :: tables_1)).before args0 about1 = true := by
  rw [allAtoms_all]
  show words1.all (fun c => c.before args0 about1) = true
  refine all_split ?_ w_codes
  rw [← List.take_append_drop 24 words1, List.all_append, w_t1, ← List.take_append_drop 24 (words1.drop 24), List.all_append, w_t2, ← List.take_append_drop 24 ((words1.drop 24).drop 24), List.all_append, w_t3, ← List.take_append_drop 24 (((words1.drop 24).drop 24).drop 24), List.all_append, w_t4, ← List.take_append_drop 24 ((((words1.drop 24).drop 24).drop 24).drop 24), List.all_append, w_t5, w_t6]
  rfl
set_option maxRecDepth 65536 in
theorem w_rest : rest_1_c.before args0 about1 = true := by decide +kernel
set_option maxRecDepth 65536 in
theorem w_case : (Jvm.Cond.and given_1 narrow_1).before args0 about1 = true := by decide +kernel
theorem w_applies : (headSpec (Jvm.Cond.code x code maxLocals ret :: tables_1) room_1).applies x e0.platform about1 = true :=
  (Spec.applies_iff w_frames).mpr ⟨w_running, w_runnable, w_alone, w_named, w_hears, w_ripe, w_room, w_tables⟩
theorem atStart : AtStart classFile x code maxLocals ret World_1 tables_1 room_1 Calls_1 rest_1 Pre_1 launch0 p0 e0 about1 theMethod args0 below0 :=
  ⟨lists_1, trivial, launch0.admits_env _ _ _, launch0.least_env, fairChoices_fair.cas, fairChoices_fair.clock, w_frames, w_args, w_heap, w_applies, trivial, w_rest, w_case⟩
end start1
theorem witness_1 : WitnessClaimed_1 := ⟨start1.p0, start1.e0, start1.about1, start1.theMethod, start1.args0, start1.below0, start1.atStart⟩
end Jvm.Pilot.@@N@@
