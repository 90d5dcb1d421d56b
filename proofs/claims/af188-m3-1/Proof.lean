import JvmDerived
import JvmDerived.Pilot.@@N@@Statement
import JvmDerived.Pilot.@@N@@Code
set_option linter.unusedVariables false
set_option linter.unusedSimpArgs false
namespace Jvm.Pilot.@@N@@
open Jvm Jvm.ClassFile Sem Op Lib Jvm.Free Jvm.Stand Jvm.LawKit Jvm.RoadKit Jvm.Free.Fl Bundle Jvm.Pilot.@@N@@.Jvm.D
section OwnG
variable {p : Program} {l : Launch} {e : Env} {R : Room} {s : State} {m : MethodId} {args : Array Value} {below : List Frame} {meth : Method} {c : Code} {T : State} {locs : List Loc} {cells slots : Nat} {Z : State} {a0 : Array Value} {h : Heap} {B : ByteArray} {pc pc' : Nat} {L L' : Array Slot} {rest : List Value} {F : Outcome → State → Prop}
def Gt (tb : Tables) (e : Env) (below : List Frame) (F : Outcome → State → Prop) (S : State) : Prop := ∃ s₂ o, Steps tb e below S s₂ ∧ s₂.status = .running ∧ Ended s₂ below o ∧ F o s₂
theorem Gt.go {tb : Tables} {S S' : State} (k : Gt tb e below F S') (q : ∀ t, Steps tb e below S' t → Steps tb e below S t) : Gt tb e below F S := by
  obtain ⟨a, o, h1, h2⟩ := k; exact ⟨a, o, q _ h1, h2⟩
theorem own_join {tb : Tables} {S S' : State} (q : ∀ F', Gt tb e below F' S' → Gt tb e below F' S) (k : Gt tb e below F S') : Gt tb e below F S := q F k
theorem own_cast {tb : Tables} {g g' : JFrame} (q : g = g') (k : Gt tb e below F (T.setTop g')) : Gt tb e below F (T.setTop g) := q ▸ k
theorem own_iadd (X : Stand p l e R s m args below meth c T locs cells slots) (hx : p.tables.exec = Jvm.exec) (hby : c.code = B) {x y v : Int32} (hv : x + y = v) (hd : decode B pc = .ok (.iadd, 1)) (hp : pc + 1 = pc') (k : Gt p.tables e below F (T.setTop (mkF m pc' L (.int v :: rest)))) : Gt p.tables e below F (T.setTop (mkF m pc L (.int y :: .int x :: rest))) := by
  subst hp; exact (by subst hv; exact k.go fun t q => XS.iadd X.here hx rfl (hb hby hd) rfl q)
theorem own_isub (X : Stand p l e R s m args below meth c T locs cells slots) (hx : p.tables.exec = Jvm.exec) (hby : c.code = B) {x y v : Int32} (hv : x - y = v) (hd : decode B pc = .ok (.isub, 1)) (hp : pc + 1 = pc') (k : Gt p.tables e below F (T.setTop (mkF m pc' L (.int v :: rest)))) : Gt p.tables e below F (T.setTop (mkF m pc L (.int y :: .int x :: rest))) := by
  subst hp; exact (by subst hv; exact k.go fun t q => XS.isub X.here hx rfl (hb hby hd) rfl q)
theorem own_imul (X : Stand p l e R s m args below meth c T locs cells slots) (hx : p.tables.exec = Jvm.exec) (hby : c.code = B) {x y v : Int32} (hv : x * y = v) (hd : decode B pc = .ok (.imul, 1)) (hp : pc + 1 = pc') (k : Gt p.tables e below F (T.setTop (mkF m pc' L (.int v :: rest)))) : Gt p.tables e below F (T.setTop (mkF m pc L (.int y :: .int x :: rest))) := by
  subst hp; exact (by subst hv; exact k.go fun t q => XS.imul X.here hx rfl (hb hby hd) rfl q)
theorem own_iand (X : Stand p l e R s m args below meth c T locs cells slots) (hx : p.tables.exec = Jvm.exec) (hby : c.code = B) {x y v : Int32} (hv : x &&& y = v) (hd : decode B pc = .ok (.iand, 1)) (hp : pc + 1 = pc') (k : Gt p.tables e below F (T.setTop (mkF m pc' L (.int v :: rest)))) : Gt p.tables e below F (T.setTop (mkF m pc L (.int y :: .int x :: rest))) := by
  subst hp; exact (by subst hv; exact k.go fun t q => XS.iand X.here hx rfl (hb hby hd) rfl q)
theorem own_ior (X : Stand p l e R s m args below meth c T locs cells slots) (hx : p.tables.exec = Jvm.exec) (hby : c.code = B) {x y v : Int32} (hv : x ||| y = v) (hd : decode B pc = .ok (.ior, 1)) (hp : pc + 1 = pc') (k : Gt p.tables e below F (T.setTop (mkF m pc' L (.int v :: rest)))) : Gt p.tables e below F (T.setTop (mkF m pc L (.int y :: .int x :: rest))) := by
  subst hp; exact (by subst hv; exact k.go fun t q => XS.ior X.here hx rfl (hb hby hd) rfl q)
theorem own_ixor (X : Stand p l e R s m args below meth c T locs cells slots) (hx : p.tables.exec = Jvm.exec) (hby : c.code = B) {x y v : Int32} (hv : x ^^^ y = v) (hd : decode B pc = .ok (.ixor, 1)) (hp : pc + 1 = pc') (k : Gt p.tables e below F (T.setTop (mkF m pc' L (.int v :: rest)))) : Gt p.tables e below F (T.setTop (mkF m pc L (.int y :: .int x :: rest))) := by
  subst hp; exact (by subst hv; exact k.go fun t q => XS.ixor X.here hx rfl (hb hby hd) rfl q)
theorem own_ishl (X : Stand p l e R s m args below meth c T locs cells slots) (hx : p.tables.exec = Jvm.exec) (hby : c.code = B) {x y v : Int32} (hv : x <<< (y &&& 31) = v) (hd : decode B pc = .ok (.ishl, 1)) (hp : pc + 1 = pc') (k : Gt p.tables e below F (T.setTop (mkF m pc' L (.int v :: rest)))) : Gt p.tables e below F (T.setTop (mkF m pc L (.int y :: .int x :: rest))) := by
  subst hp; exact (by subst hv; exact k.go fun t q => XS.ishl X.here hx rfl (hb hby hd) rfl q)
theorem own_ishr (X : Stand p l e R s m args below meth c T locs cells slots) (hx : p.tables.exec = Jvm.exec) (hby : c.code = B) {x y v : Int32} (hv : x >>> (y &&& 31) = v) (hd : decode B pc = .ok (.ishr, 1)) (hp : pc + 1 = pc') (k : Gt p.tables e below F (T.setTop (mkF m pc' L (.int v :: rest)))) : Gt p.tables e below F (T.setTop (mkF m pc L (.int y :: .int x :: rest))) := by
  subst hp; exact (by subst hv; exact k.go fun t q => XS.ishr X.here hx rfl (hb hby hd) rfl q)
theorem own_iushr (X : Stand p l e R s m args below meth c T locs cells slots) (hx : p.tables.exec = Jvm.exec) (hby : c.code = B) {x y v : Int32} (hv : (x.toUInt32 >>> (y &&& 31).toUInt32).toInt32 = v) (hd : decode B pc = .ok (.iushr, 1)) (hp : pc + 1 = pc') (k : Gt p.tables e below F (T.setTop (mkF m pc' L (.int v :: rest)))) : Gt p.tables e below F (T.setTop (mkF m pc L (.int y :: .int x :: rest))) := by
  subst hp; exact (by subst hv; exact k.go fun t q => XS.iushr X.here hx rfl (hb hby hd) rfl q)
theorem own_ladd (X : Stand p l e R s m args below meth c T locs cells slots) (hx : p.tables.exec = Jvm.exec) (hby : c.code = B) {x y v : Int64} (hv : x + y = v) (hd : decode B pc = .ok (.ladd, 1)) (hp : pc + 1 = pc') (k : Gt p.tables e below F (T.setTop (mkF m pc' L (.long v :: rest)))) : Gt p.tables e below F (T.setTop (mkF m pc L (.long y :: .long x :: rest))) := by
  subst hp; exact (by subst hv; exact k.go fun t q => XS.ladd X.here hx rfl (hb hby hd) rfl q)
theorem own_lsub (X : Stand p l e R s m args below meth c T locs cells slots) (hx : p.tables.exec = Jvm.exec) (hby : c.code = B) {x y v : Int64} (hv : x - y = v) (hd : decode B pc = .ok (.lsub, 1)) (hp : pc + 1 = pc') (k : Gt p.tables e below F (T.setTop (mkF m pc' L (.long v :: rest)))) : Gt p.tables e below F (T.setTop (mkF m pc L (.long y :: .long x :: rest))) := by
  subst hp; exact (by subst hv; exact k.go fun t q => XS.lsub X.here hx rfl (hb hby hd) rfl q)
theorem own_lmul (X : Stand p l e R s m args below meth c T locs cells slots) (hx : p.tables.exec = Jvm.exec) (hby : c.code = B) {x y v : Int64} (hv : x * y = v) (hd : decode B pc = .ok (.lmul, 1)) (hp : pc + 1 = pc') (k : Gt p.tables e below F (T.setTop (mkF m pc' L (.long v :: rest)))) : Gt p.tables e below F (T.setTop (mkF m pc L (.long y :: .long x :: rest))) := by
  subst hp; exact (by subst hv; exact k.go fun t q => XS.lmul X.here hx rfl (hb hby hd) rfl q)
theorem own_land (X : Stand p l e R s m args below meth c T locs cells slots) (hx : p.tables.exec = Jvm.exec) (hby : c.code = B) {x y v : Int64} (hv : x &&& y = v) (hd : decode B pc = .ok (.land, 1)) (hp : pc + 1 = pc') (k : Gt p.tables e below F (T.setTop (mkF m pc' L (.long v :: rest)))) : Gt p.tables e below F (T.setTop (mkF m pc L (.long y :: .long x :: rest))) := by
  subst hp; exact (by subst hv; exact k.go fun t q => XS.land X.here hx rfl (hb hby hd) rfl q)
theorem own_lor (X : Stand p l e R s m args below meth c T locs cells slots) (hx : p.tables.exec = Jvm.exec) (hby : c.code = B) {x y v : Int64} (hv : x ||| y = v) (hd : decode B pc = .ok (.lor, 1)) (hp : pc + 1 = pc') (k : Gt p.tables e below F (T.setTop (mkF m pc' L (.long v :: rest)))) : Gt p.tables e below F (T.setTop (mkF m pc L (.long y :: .long x :: rest))) := by
  subst hp; exact (by subst hv; exact k.go fun t q => XS.lor X.here hx rfl (hb hby hd) rfl q)
theorem own_lxor (X : Stand p l e R s m args below meth c T locs cells slots) (hx : p.tables.exec = Jvm.exec) (hby : c.code = B) {x y v : Int64} (hv : x ^^^ y = v) (hd : decode B pc = .ok (.lxor, 1)) (hp : pc + 1 = pc') (k : Gt p.tables e below F (T.setTop (mkF m pc' L (.long v :: rest)))) : Gt p.tables e below F (T.setTop (mkF m pc L (.long y :: .long x :: rest))) := by
  subst hp; exact (by subst hv; exact k.go fun t q => XS.lxor X.here hx rfl (hb hby hd) rfl q)
theorem own_lshl (X : Stand p l e R s m args below meth c T locs cells slots) (hx : p.tables.exec = Jvm.exec) (hby : c.code = B) {x v : Int64} {y : Int32} (hv : x <<< (y &&& 0x3f).toInt64 = v) (hd : decode B pc = .ok (.lshl, 1)) (hp : pc + 1 = pc') (k : Gt p.tables e below F (T.setTop (mkF m pc' L (.long v :: rest)))) : Gt p.tables e below F (T.setTop (mkF m pc L (.int y :: .long x :: rest))) := by
  subst hp; exact (by subst hv; exact k.go fun t q => XS.lshl X.here hx rfl (hb hby hd) rfl q)
theorem own_lshr (X : Stand p l e R s m args below meth c T locs cells slots) (hx : p.tables.exec = Jvm.exec) (hby : c.code = B) {x v : Int64} {y : Int32} (hv : x >>> (y &&& 0x3f).toInt64 = v) (hd : decode B pc = .ok (.lshr, 1)) (hp : pc + 1 = pc') (k : Gt p.tables e below F (T.setTop (mkF m pc' L (.long v :: rest)))) : Gt p.tables e below F (T.setTop (mkF m pc L (.int y :: .long x :: rest))) := by
  subst hp; exact (by subst hv; exact k.go fun t q => XS.lshr X.here hx rfl (hb hby hd) rfl q)
theorem own_lushr (X : Stand p l e R s m args below meth c T locs cells slots) (hx : p.tables.exec = Jvm.exec) (hby : c.code = B) {x v : Int64} {y : Int32} (hv : (x.toUInt64 >>> (y &&& 0x3f).toInt64.toUInt64).toInt64 = v) (hd : decode B pc = .ok (.lushr, 1)) (hp : pc + 1 = pc') (k : Gt p.tables e below F (T.setTop (mkF m pc' L (.long v :: rest)))) : Gt p.tables e below F (T.setTop (mkF m pc L (.int y :: .long x :: rest))) := by
  subst hp; exact (by subst hv; exact k.go fun t q => XS.lushr X.here hx rfl (hb hby hd) rfl q)
theorem own_idiv (X : Stand p l e R s m args below meth c T locs cells slots) (hx : p.tables.exec = Jvm.exec) (hby : c.code = B) {x y v : Int32} (hy : y ≠ 0) (hv : x / y = v) (hd : decode B pc = .ok (.idiv, 1)) (hp : pc + 1 = pc') (k : Gt p.tables e below F (T.setTop (mkF m pc' L (.int v :: rest)))) : Gt p.tables e below F (T.setTop (mkF m pc L (.int y :: .int x :: rest))) := by
  subst hp; exact (by subst hv; exact k.go fun t q => XS.idiv X.here hx rfl (hb hby hd) rfl hy q)
theorem own_irem (X : Stand p l e R s m args below meth c T locs cells slots) (hx : p.tables.exec = Jvm.exec) (hby : c.code = B) {x y v : Int32} (hy : y ≠ 0) (hv : x % y = v) (hd : decode B pc = .ok (.irem, 1)) (hp : pc + 1 = pc') (k : Gt p.tables e below F (T.setTop (mkF m pc' L (.int v :: rest)))) : Gt p.tables e below F (T.setTop (mkF m pc L (.int y :: .int x :: rest))) := by
  subst hp; exact (by subst hv; exact k.go fun t q => iremM X hx rfl (hb hby hd) rfl hy q)
theorem own_ldiv (X : Stand p l e R s m args below meth c T locs cells slots) (hx : p.tables.exec = Jvm.exec) (hby : c.code = B) {x y v : Int64} (hy : y ≠ 0) (hv : x / y = v) (hd : decode B pc = .ok (.ldiv, 1)) (hp : pc + 1 = pc') (k : Gt p.tables e below F (T.setTop (mkF m pc' L (.long v :: rest)))) : Gt p.tables e below F (T.setTop (mkF m pc L (.long y :: .long x :: rest))) := by
  subst hp; exact (by subst hv; exact k.go fun t q => XS.ldiv X.here hx rfl (hb hby hd) rfl hy q)
theorem own_lrem (X : Stand p l e R s m args below meth c T locs cells slots) (hx : p.tables.exec = Jvm.exec) (hby : c.code = B) {x y v : Int64} (hy : y ≠ 0) (hv : x % y = v) (hd : decode B pc = .ok (.lrem, 1)) (hp : pc + 1 = pc') (k : Gt p.tables e below F (T.setTop (mkF m pc' L (.long v :: rest)))) : Gt p.tables e below F (T.setTop (mkF m pc L (.long y :: .long x :: rest))) := by
  subst hp; exact (by subst hv; rw [← lrem_mod] at k; exact k.go fun t q => XS.lrem X.here hx rfl (hb hby hd) rfl hy q)
theorem own_lcmp (X : Stand p l e R s m args below meth c T locs cells slots) (hx : p.tables.exec = Jvm.exec) (hby : c.code = B) {x y : Int64} {v : Int32} (hv : (if x > y then 1 else if x = y then 0 else -1 : Int32) = v) (hd : decode B pc = .ok (.lcmp, 1)) (hp : pc + 1 = pc') (k : Gt p.tables e below F (T.setTop (mkF m pc' L (.int v :: rest)))) : Gt p.tables e below F (T.setTop (mkF m pc L (.long y :: .long x :: rest))) := by
  subst hp; exact (by subst hv; exact k.go fun t q => XS.lcmp X.here hx rfl (hb hby hd) rfl q)
theorem own_ineg (X : Stand p l e R s m args below meth c T locs cells slots) (hx : p.tables.exec = Jvm.exec) (hby : c.code = B) {x v : Int32} (hv : -x = v) (hd : decode B pc = .ok (.ineg, 1)) (hp : pc + 1 = pc') (k : Gt p.tables e below F (T.setTop (mkF m pc' L (.int v :: rest)))) : Gt p.tables e below F (T.setTop (mkF m pc L (.int x :: rest))) := by
  subst hp; exact (by subst hv; exact k.go fun t q => XS.ineg X.here hx rfl (hb hby hd) rfl q)
theorem own_lneg (X : Stand p l e R s m args below meth c T locs cells slots) (hx : p.tables.exec = Jvm.exec) (hby : c.code = B) {x v : Int64} (hv : -x = v) (hd : decode B pc = .ok (.lneg, 1)) (hp : pc + 1 = pc') (k : Gt p.tables e below F (T.setTop (mkF m pc' L (.long v :: rest)))) : Gt p.tables e below F (T.setTop (mkF m pc L (.long x :: rest))) := by
  subst hp; exact (by subst hv; exact k.go fun t q => XS.lneg X.here hx rfl (hb hby hd) rfl q)
theorem own_i2b (X : Stand p l e R s m args below meth c T locs cells slots) (hx : p.tables.exec = Jvm.exec) (hby : c.code = B) {x v : Int32} (hv : x.toInt8.toInt32 = v) (hd : decode B pc = .ok (.i2b, 1)) (hp : pc + 1 = pc') (k : Gt p.tables e below F (T.setTop (mkF m pc' L (.int v :: rest)))) : Gt p.tables e below F (T.setTop (mkF m pc L (.int x :: rest))) := by
  subst hp; exact (by subst hv; exact k.go fun t q => XS.i2b X.here hx rfl (hb hby hd) rfl q)
theorem own_i2c (X : Stand p l e R s m args below meth c T locs cells slots) (hx : p.tables.exec = Jvm.exec) (hby : c.code = B) {x v : Int32} (hv : x.toUInt32.toUInt16.toUInt32.toInt32 = v) (hd : decode B pc = .ok (.i2c, 1)) (hp : pc + 1 = pc') (k : Gt p.tables e below F (T.setTop (mkF m pc' L (.int v :: rest)))) : Gt p.tables e below F (T.setTop (mkF m pc L (.int x :: rest))) := by
  subst hp; exact (by subst hv; exact k.go fun t q => XS.i2c X.here hx rfl (hb hby hd) rfl q)
theorem own_i2s (X : Stand p l e R s m args below meth c T locs cells slots) (hx : p.tables.exec = Jvm.exec) (hby : c.code = B) {x v : Int32} (hv : x.toInt16.toInt32 = v) (hd : decode B pc = .ok (.i2s, 1)) (hp : pc + 1 = pc') (k : Gt p.tables e below F (T.setTop (mkF m pc' L (.int v :: rest)))) : Gt p.tables e below F (T.setTop (mkF m pc L (.int x :: rest))) := by
  subst hp; exact (by subst hv; exact k.go fun t q => XS.i2s X.here hx rfl (hb hby hd) rfl q)
theorem own_i2l (X : Stand p l e R s m args below meth c T locs cells slots) (hx : p.tables.exec = Jvm.exec) (hby : c.code = B) {x : Int32} {v : Int64} (hv : x.toInt64 = v) (hd : decode B pc = .ok (.i2l, 1)) (hp : pc + 1 = pc') (k : Gt p.tables e below F (T.setTop (mkF m pc' L (.long v :: rest)))) : Gt p.tables e below F (T.setTop (mkF m pc L (.int x :: rest))) := by
  subst hp; exact (by subst hv; exact k.go fun t q => XS.i2l X.here hx rfl (hb hby hd) rfl q)
theorem own_l2i (X : Stand p l e R s m args below meth c T locs cells slots) (hx : p.tables.exec = Jvm.exec) (hby : c.code = B) {x : Int64} {v : Int32} (hv : x.toInt32 = v) (hd : decode B pc = .ok (.l2i, 1)) (hp : pc + 1 = pc') (k : Gt p.tables e below F (T.setTop (mkF m pc' L (.int v :: rest)))) : Gt p.tables e below F (T.setTop (mkF m pc L (.long x :: rest))) := by
  subst hp; exact (by subst hv; exact k.go fun t q => XS.l2i X.here hx rfl (hb hby hd) rfl q)
theorem own_iload (X : Stand p l e R s m args below meth c T locs cells slots) (hx : p.tables.exec = Jvm.exec) (hby : c.code = B) {i : Nat} {v : Int32} (hl : L[i]? = some (.val (.int v))) (hd : decode B pc = .ok (.iload i, 2)) (hp : pc + 2 = pc') (k : Gt p.tables e below F (T.setTop (mkF m pc' L (.int v :: rest)))) : Gt p.tables e below F (T.setTop (mkF m pc L rest)) := by
  subst hp; exact k.go fun t q => XS.iload X.here hx rfl (hb hby hd) hl q
theorem own_iloadN (X : Stand p l e R s m args below meth c T locs cells slots) (hx : p.tables.exec = Jvm.exec) (hby : c.code = B) {i : Fin 4} {v : Int32} (hl : L[i.val]? = some (.val (.int v))) (hd : decode B pc = .ok (.iload_n i, 1)) (hp : pc + 1 = pc') (k : Gt p.tables e below F (T.setTop (mkF m pc' L (.int v :: rest)))) : Gt p.tables e below F (T.setTop (mkF m pc L rest)) := by
  subst hp; exact k.go fun t q => XS.iloadN X.here hx rfl (hb hby hd) hl q
theorem own_lload (X : Stand p l e R s m args below meth c T locs cells slots) (hx : p.tables.exec = Jvm.exec) (hby : c.code = B) {i : Nat} {v : Int64} (hl : L[i]? = some (.val (.long v))) (hd : decode B pc = .ok (.lload i, 2)) (hp : pc + 2 = pc') (k : Gt p.tables e below F (T.setTop (mkF m pc' L (.long v :: rest)))) : Gt p.tables e below F (T.setTop (mkF m pc L rest)) := by
  subst hp; exact k.go fun t q => XS.lload X.here hx rfl (hb hby hd) hl q
theorem own_lloadN (X : Stand p l e R s m args below meth c T locs cells slots) (hx : p.tables.exec = Jvm.exec) (hby : c.code = B) {i : Fin 4} {v : Int64} (hl : L[i.val]? = some (.val (.long v))) (hd : decode B pc = .ok (.lload_n i, 1)) (hp : pc + 1 = pc') (k : Gt p.tables e below F (T.setTop (mkF m pc' L (.long v :: rest)))) : Gt p.tables e below F (T.setTop (mkF m pc L rest)) := by
  subst hp; exact k.go fun t q => XS.lloadN X.here hx rfl (hb hby hd) hl q
theorem own_dload (X : Stand p l e R s m args below meth c T locs cells slots) (hx : p.tables.exec = Jvm.exec) (hby : c.code = B) {i : Nat} {v : UInt64} (hl : L[i]? = some (.val (.double v))) (hd : decode B pc = .ok (.dload i, 2)) (hp : pc + 2 = pc') (k : Gt p.tables e below F (T.setTop (mkF m pc' L (.double v :: rest)))) : Gt p.tables e below F (T.setTop (mkF m pc L rest)) := by
  subst hp; exact k.go fun t q => XS.dload X.here hx rfl (hb hby hd) hl q
theorem own_dloadN (X : Stand p l e R s m args below meth c T locs cells slots) (hx : p.tables.exec = Jvm.exec) (hby : c.code = B) {i : Fin 4} {v : UInt64} (hl : L[i.val]? = some (.val (.double v))) (hd : decode B pc = .ok (.dload_n i, 1)) (hp : pc + 1 = pc') (k : Gt p.tables e below F (T.setTop (mkF m pc' L (.double v :: rest)))) : Gt p.tables e below F (T.setTop (mkF m pc L rest)) := by
  subst hp; exact k.go fun t q => XS.dloadN X.here hx rfl (hb hby hd) hl q
theorem own_aload (X : Stand p l e R s m args below meth c T locs cells slots) (hx : p.tables.exec = Jvm.exec) (hby : c.code = B) {i : Nat} {v : Value} (hl : L[i]? = some (.val v)) (hr : v.isRef = true) (hd : decode B pc = .ok (.aload i, 2)) (hp : pc + 2 = pc') (k : Gt p.tables e below F (T.setTop (mkF m pc' L (v :: rest)))) : Gt p.tables e below F (T.setTop (mkF m pc L rest)) := by
  subst hp; exact k.go fun t q => XS.aload X.here hx rfl (hb hby hd) hl hr q
theorem own_aloadN (X : Stand p l e R s m args below meth c T locs cells slots) (hx : p.tables.exec = Jvm.exec) (hby : c.code = B) {i : Fin 4} {v : Value} (hl : L[i.val]? = some (.val v)) (hr : v.isRef = true) (hd : decode B pc = .ok (.aload_n i, 1)) (hp : pc + 1 = pc') (k : Gt p.tables e below F (T.setTop (mkF m pc' L (v :: rest)))) : Gt p.tables e below F (T.setTop (mkF m pc L rest)) := by
  subst hp; exact k.go fun t q => XS.aloadN X.here hx rfl (hb hby hd) hl hr q
theorem own_istore (X : Stand p l e R s m args below meth c T locs cells slots) (hx : p.tables.exec = Jvm.exec) (hby : c.code = B) {i : Nat} {v : Int32} (hl : storeLocals L i (.int v) = some L') (hd : decode B pc = .ok (.istore i, 2)) (hp : pc + 2 = pc') (k : Gt p.tables e below F (T.setTop (mkF m pc' L' rest))) : Gt p.tables e below F (T.setTop (mkF m pc L (.int v :: rest))) := by
  subst hp; exact k.go fun t q => XS.istore X.here hx rfl (hb hby hd) rfl hl q
theorem own_istoreN (X : Stand p l e R s m args below meth c T locs cells slots) (hx : p.tables.exec = Jvm.exec) (hby : c.code = B) {i : Fin 4} {v : Int32} (hl : storeLocals L i.val (.int v) = some L') (hd : decode B pc = .ok (.istore_n i, 1)) (hp : pc + 1 = pc') (k : Gt p.tables e below F (T.setTop (mkF m pc' L' rest))) : Gt p.tables e below F (T.setTop (mkF m pc L (.int v :: rest))) := by
  subst hp; exact k.go fun t q => XS.istoreN X.here hx rfl (hb hby hd) rfl hl q
theorem own_lstore (X : Stand p l e R s m args below meth c T locs cells slots) (hx : p.tables.exec = Jvm.exec) (hby : c.code = B) {i : Nat} {v : Int64} (hl : storeLocals L i (.long v) = some L') (hd : decode B pc = .ok (.lstore i, 2)) (hp : pc + 2 = pc') (k : Gt p.tables e below F (T.setTop (mkF m pc' L' rest))) : Gt p.tables e below F (T.setTop (mkF m pc L (.long v :: rest))) := by
  subst hp; exact k.go fun t q => XS.lstore X.here hx rfl (hb hby hd) rfl hl q
theorem own_lstoreN (X : Stand p l e R s m args below meth c T locs cells slots) (hx : p.tables.exec = Jvm.exec) (hby : c.code = B) {i : Fin 4} {v : Int64} (hl : storeLocals L i.val (.long v) = some L') (hd : decode B pc = .ok (.lstore_n i, 1)) (hp : pc + 1 = pc') (k : Gt p.tables e below F (T.setTop (mkF m pc' L' rest))) : Gt p.tables e below F (T.setTop (mkF m pc L (.long v :: rest))) := by
  subst hp; exact k.go fun t q => XS.lstoreN X.here hx rfl (hb hby hd) rfl hl q
theorem own_dstore (X : Stand p l e R s m args below meth c T locs cells slots) (hx : p.tables.exec = Jvm.exec) (hby : c.code = B) {i : Nat} {v : UInt64} (hl : storeLocals L i (.double v) = some L') (hd : decode B pc = .ok (.dstore i, 2)) (hp : pc + 2 = pc') (k : Gt p.tables e below F (T.setTop (mkF m pc' L' rest))) : Gt p.tables e below F (T.setTop (mkF m pc L (.double v :: rest))) := by
  subst hp; exact k.go fun t q => XS.dstore X.here hx rfl (hb hby hd) rfl hl q
theorem own_dstoreN (X : Stand p l e R s m args below meth c T locs cells slots) (hx : p.tables.exec = Jvm.exec) (hby : c.code = B) {i : Fin 4} {v : UInt64} (hl : storeLocals L i.val (.double v) = some L') (hd : decode B pc = .ok (.dstore_n i, 1)) (hp : pc + 1 = pc') (k : Gt p.tables e below F (T.setTop (mkF m pc' L' rest))) : Gt p.tables e below F (T.setTop (mkF m pc L (.double v :: rest))) := by
  subst hp; exact k.go fun t q => XS.dstoreN X.here hx rfl (hb hby hd) rfl hl q
theorem own_astore (X : Stand p l e R s m args below meth c T locs cells slots) (hx : p.tables.exec = Jvm.exec) (hby : c.code = B) {i : Nat} {v : Value} (hr : v.isRef = true) (hl : storeLocals L i v = some L') (hd : decode B pc = .ok (.astore i, 2)) (hp : pc + 2 = pc') (k : Gt p.tables e below F (T.setTop (mkF m pc' L' rest))) : Gt p.tables e below F (T.setTop (mkF m pc L (v :: rest))) := by
  subst hp; exact k.go fun t q => XS.astore X.here hx rfl (hb hby hd) rfl hr hl q
theorem own_astoreN (X : Stand p l e R s m args below meth c T locs cells slots) (hx : p.tables.exec = Jvm.exec) (hby : c.code = B) {i : Fin 4} {v : Value} (hr : v.isRef = true) (hl : storeLocals L i.val v = some L') (hd : decode B pc = .ok (.astore_n i, 1)) (hp : pc + 1 = pc') (k : Gt p.tables e below F (T.setTop (mkF m pc' L' rest))) : Gt p.tables e below F (T.setTop (mkF m pc L (v :: rest))) := by
  subst hp; exact k.go fun t q => XS.astoreN X.here hx rfl (hb hby hd) rfl hr hl q
theorem own_iinc (X : Stand p l e R s m args below meth c T locs cells slots) (hx : p.tables.exec = Jvm.exec) (hby : c.code = B) {i : Nat} {cst : Int} {x : Int32} (hl : L[i]? = some (.val (.int x))) (hl' : storeLocals L i (.int (x + Int32.ofInt cst)) = some L') (hd : decode B pc = .ok (.iinc i cst, 3)) (hp : pc + 3 = pc') (k : Gt p.tables e below F (T.setTop (mkF m pc' L' rest))) : Gt p.tables e below F (T.setTop (mkF m pc L rest)) := by
  subst hp; exact k.go fun t q => XS.iinc X.here hx rfl (hb hby hd) hl hl' q
theorem own_iconst (X : Stand p l e R s m args below meth c T locs cells slots) (hx : p.tables.exec = Jvm.exec) (hby : c.code = B) {i : Int} {v : Int32} (hv : Int32.ofInt i = v) (hd : decode B pc = .ok (.iconst i, 1)) (hp : pc + 1 = pc') (k : Gt p.tables e below F (T.setTop (mkF m pc' L (.int v :: rest)))) : Gt p.tables e below F (T.setTop (mkF m pc L rest)) := by
  subst hp; exact (by subst hv; exact k.go fun t q => XS.iconst X.here hx rfl (hb hby hd) q)
theorem own_bipush (X : Stand p l e R s m args below meth c T locs cells slots) (hx : p.tables.exec = Jvm.exec) (hby : c.code = B) {i : Int} {v : Int32} (hv : (Int8.ofInt i).toInt32 = v) (hd : decode B pc = .ok (.bipush i, 2)) (hp : pc + 2 = pc') (k : Gt p.tables e below F (T.setTop (mkF m pc' L (.int v :: rest)))) : Gt p.tables e below F (T.setTop (mkF m pc L rest)) := by
  subst hp; exact (by subst hv; exact k.go fun t q => XS.bipush X.here hx rfl (hb hby hd) q)
theorem own_sipush (X : Stand p l e R s m args below meth c T locs cells slots) (hx : p.tables.exec = Jvm.exec) (hby : c.code = B) {i : Int} {v : Int32} (hv : (Int16.ofInt i).toInt32 = v) (hd : decode B pc = .ok (.sipush i, 3)) (hp : pc + 3 = pc') (k : Gt p.tables e below F (T.setTop (mkF m pc' L (.int v :: rest)))) : Gt p.tables e below F (T.setTop (mkF m pc L rest)) := by
  subst hp; exact (by subst hv; exact k.go fun t q => XS.sipush X.here hx rfl (hb hby hd) q)
theorem own_lconst (X : Stand p l e R s m args below meth c T locs cells slots) (hx : p.tables.exec = Jvm.exec) (hby : c.code = B) {i : Fin 2} {v : Int64} (hv : Int64.ofNat i = v) (hd : decode B pc = .ok (.lconst i, 1)) (hp : pc + 1 = pc') (k : Gt p.tables e below F (T.setTop (mkF m pc' L (.long v :: rest)))) : Gt p.tables e below F (T.setTop (mkF m pc L rest)) := by
  subst hp; exact (by subst hv; exact k.go fun t q => XS.lconst X.here hx rfl (hb hby hd) q)
theorem own_aconst (X : Stand p l e R s m args below meth c T locs cells slots) (hx : p.tables.exec = Jvm.exec) (hby : c.code = B)  (hd : decode B pc = .ok (.aconst_null, 1)) (hp : pc + 1 = pc') (k : Gt p.tables e below F (T.setTop (mkF m pc' L (.null :: rest)))) : Gt p.tables e below F (T.setTop (mkF m pc L rest)) := by
  subst hp; exact k.go fun t q => XS.aconstNull X.here hx rfl (hb hby hd) q
theorem own_dconst0 (X : Stand p l e R s m args below meth c T locs cells slots) (hx : p.tables.exec = Jvm.exec) (hby : c.code = B) {v : UInt64} (hv : FP.dconst0 = v) (hd : decode B pc = .ok (.dconst 0, 1)) (hp : pc + 1 = pc') (k : Gt p.tables e below F (T.setTop (mkF m pc' L (.double v :: rest)))) : Gt p.tables e below F (T.setTop (mkF m pc L rest)) := by
  subst hp; exact k.go fun t q => XS.dconst0 X.here hx rfl (hb hby hd) hv q
theorem own_dconst1 (X : Stand p l e R s m args below meth c T locs cells slots) (hx : p.tables.exec = Jvm.exec) (hby : c.code = B) {v : UInt64} (hv : FP.dconst1 = v) (hd : decode B pc = .ok (.dconst 1, 1)) (hp : pc + 1 = pc') (k : Gt p.tables e below F (T.setTop (mkF m pc' L (.double v :: rest)))) : Gt p.tables e below F (T.setTop (mkF m pc L rest)) := by
  subst hp; exact k.go fun t q => XS.dconst1 X.here hx rfl (hb hby hd) hv q
theorem own_dadd (X : Stand p l e R s m args below meth c T locs cells slots) (hx : p.tables.exec = Jvm.exec) (hby : c.code = B) {x y v : UInt64} (hn : NoNaN64 (FP.dadd x y)) (hv : FP.dadd x y = v) (hd : decode B pc = .ok (.dadd, 1)) (hp : pc + 1 = pc') (k : Gt p.tables e below F (T.setTop (mkF m pc' L (.double v :: rest)))) : Gt p.tables e below F (T.setTop (mkF m pc L (.double y :: .double x :: rest))) := by
  subst hp; exact k.go fun t q => XS.daddS X.here hx rfl (hb hby hd) rfl hn hv q
theorem own_dsub (X : Stand p l e R s m args below meth c T locs cells slots) (hx : p.tables.exec = Jvm.exec) (hby : c.code = B) {x y v : UInt64} (hn : NoNaN64 (FP.dsub x y)) (hv : FP.dsub x y = v) (hd : decode B pc = .ok (.dsub, 1)) (hp : pc + 1 = pc') (k : Gt p.tables e below F (T.setTop (mkF m pc' L (.double v :: rest)))) : Gt p.tables e below F (T.setTop (mkF m pc L (.double y :: .double x :: rest))) := by
  subst hp; exact k.go fun t q => XS.dsubS X.here hx rfl (hb hby hd) rfl hn hv q
theorem own_dmul (X : Stand p l e R s m args below meth c T locs cells slots) (hx : p.tables.exec = Jvm.exec) (hby : c.code = B) {x y v : UInt64} (hn : NoNaN64 (FP.dmul x y)) (hv : FP.dmul x y = v) (hd : decode B pc = .ok (.dmul, 1)) (hp : pc + 1 = pc') (k : Gt p.tables e below F (T.setTop (mkF m pc' L (.double v :: rest)))) : Gt p.tables e below F (T.setTop (mkF m pc L (.double y :: .double x :: rest))) := by
  subst hp; exact k.go fun t q => XS.dmulS X.here hx rfl (hb hby hd) rfl hn hv q
theorem own_ddiv (X : Stand p l e R s m args below meth c T locs cells slots) (hx : p.tables.exec = Jvm.exec) (hby : c.code = B) {x y v : UInt64} (hn : NoNaN64 (FP.ddiv x y)) (hv : FP.ddiv x y = v) (hd : decode B pc = .ok (.ddiv, 1)) (hp : pc + 1 = pc') (k : Gt p.tables e below F (T.setTop (mkF m pc' L (.double v :: rest)))) : Gt p.tables e below F (T.setTop (mkF m pc L (.double y :: .double x :: rest))) := by
  subst hp; exact k.go fun t q => XS.ddivS X.here hx rfl (hb hby hd) rfl hn hv q
theorem own_dneg (X : Stand p l e R s m args below meth c T locs cells slots) (hx : p.tables.exec = Jvm.exec) (hby : c.code = B) {x v : UInt64} (hv : FP.dneg x = v) (hd : decode B pc = .ok (.dneg, 1)) (hp : pc + 1 = pc') (k : Gt p.tables e below F (T.setTop (mkF m pc' L (.double v :: rest)))) : Gt p.tables e below F (T.setTop (mkF m pc L (.double x :: rest))) := by
  subst hp; exact k.go fun t q => XS.dnegS X.here hx rfl (hb hby hd) rfl hv q
theorem own_dcmp (X : Stand p l e R s m args below meth c T locs cells slots) (hx : p.tables.exec = Jvm.exec) (hby : c.code = B) {o : CmpOp} {x y : UInt64} {v : Int32} (hv : cmpValue (FP.dcmp x y) o = v) (hd : decode B pc = .ok (.dcmp o, 1)) (hp : pc + 1 = pc') (k : Gt p.tables e below F (T.setTop (mkF m pc' L (.int v :: rest)))) : Gt p.tables e below F (T.setTop (mkF m pc L (.double y :: .double x :: rest))) := by
  subst hp; exact k.go fun t q => XS.dcmpS X.here hx rfl (hb hby hd) rfl hv q
theorem own_i2d (X : Stand p l e R s m args below meth c T locs cells slots) (hx : p.tables.exec = Jvm.exec) (hby : c.code = B) {x : Int32} {v : UInt64} (hv : FP.i2d x = v) (hd : decode B pc = .ok (.i2d, 1)) (hp : pc + 1 = pc') (k : Gt p.tables e below F (T.setTop (mkF m pc' L (.double v :: rest)))) : Gt p.tables e below F (T.setTop (mkF m pc L (.int x :: rest))) := by
  subst hp; exact k.go fun t q => XS.i2dS X.here hx rfl (hb hby hd) rfl hv q
theorem own_l2d (X : Stand p l e R s m args below meth c T locs cells slots) (hx : p.tables.exec = Jvm.exec) (hby : c.code = B) {x : Int64} {v : UInt64} (hv : FP.l2d x = v) (hd : decode B pc = .ok (.l2d, 1)) (hp : pc + 1 = pc') (k : Gt p.tables e below F (T.setTop (mkF m pc' L (.double v :: rest)))) : Gt p.tables e below F (T.setTop (mkF m pc L (.long x :: rest))) := by
  subst hp; exact k.go fun t q => XS.l2dS X.here hx rfl (hb hby hd) rfl hv q
theorem own_dup (X : Stand p l e R s m args below meth c T locs cells slots) (hx : p.tables.exec = Jvm.exec) (hby : c.code = B) {x : Value} (hc : x.category = 1) (hd : decode B pc = .ok (.dup, 1)) (hp : pc + 1 = pc') (k : Gt p.tables e below F (T.setTop (mkF m pc' L (x :: x :: rest)))) : Gt p.tables e below F (T.setTop (mkF m pc L (x :: rest))) := by
  subst hp; exact k.go fun t q => XS.dup X.here hx rfl (hb hby hd) rfl hc q
theorem own_pop (X : Stand p l e R s m args below meth c T locs cells slots) (hx : p.tables.exec = Jvm.exec) (hby : c.code = B) {x : Value} (hc : x.category = 1) (hd : decode B pc = .ok (.pop, 1)) (hp : pc + 1 = pc') (k : Gt p.tables e below F (T.setTop (mkF m pc' L rest))) : Gt p.tables e below F (T.setTop (mkF m pc L (x :: rest))) := by
  subst hp; exact k.go fun t q => XS.pop X.here hx rfl (hb hby hd) rfl hc q
theorem own_dupX1 (X : Stand p l e R s m args below meth c T locs cells slots) (hx : p.tables.exec = Jvm.exec) (hby : c.code = B) {x y : Value} (hc : x.category = 1) (hc' : y.category = 1) (hd : decode B pc = .ok (.dup_x1, 1)) (hp : pc + 1 = pc') (k : Gt p.tables e below F (T.setTop (mkF m pc' L (x :: y :: x :: rest)))) : Gt p.tables e below F (T.setTop (mkF m pc L (x :: y :: rest))) := by
  subst hp; exact k.go fun t q => XS.dupX1 X.here hx rfl (hb hby hd) rfl hc hc' q
theorem own_dup2 (X : Stand p l e R s m args below meth c T locs cells slots) (hx : p.tables.exec = Jvm.exec) (hby : c.code = B) {x y : Value} (hc : x.category = 1) (hc' : y.category = 1) (hd : decode B pc = .ok (.dup2, 1)) (hp : pc + 1 = pc') (k : Gt p.tables e below F (T.setTop (mkF m pc' L (x :: y :: x :: y :: rest)))) : Gt p.tables e below F (T.setTop (mkF m pc L (x :: y :: rest))) := by
  subst hp; exact k.go fun t q => Jvm.Free.XT.dup2 X.here hx rfl (hb hby hd) rfl hc hc' q
theorem own_goto (X : Stand p l e R s m args below meth c T locs cells slots) (hx : p.tables.exec = Jvm.exec) (hby : c.code = B) {o : Int} (hd : decode B pc = .ok (.goto o, 3)) (ho : 0 ≤ (pc : Int) + o) (hp : ((pc : Int) + o).toNat = pc') (k : Gt p.tables e below F (T.setTop (mkF m pc' L rest))) : Gt p.tables e below F (T.setTop (mkF m pc L rest)) :=
  k.go fun t q => XS.goto X.here hx rfl rfl (hb hby hd) ho hp q
theorem own_ifT (X : Stand p l e R s m args below meth c T locs cells slots) (hx : p.tables.exec = Jvm.exec) (hby : c.code = B) {cd : ClassFile.Cond} {x : Int32} {o : Int} (hd : decode B pc = .ok (.ifCond cd o, 3)) (hc : ifCond.holds cd x = true) (ho : 0 ≤ (pc : Int) + o) (hp : ((pc : Int) + o).toNat = pc') (k : Gt p.tables e below F (T.setTop (mkF m pc' L rest))) : Gt p.tables e below F (T.setTop (mkF m pc L (.int x :: rest))) :=
  k.go fun t q => XS.ifYes X.here hx rfl rfl (hb hby hd) rfl hc ho hp q
theorem own_ifF (X : Stand p l e R s m args below meth c T locs cells slots) (hx : p.tables.exec = Jvm.exec) (hby : c.code = B) {cd : ClassFile.Cond} {x : Int32} {o : Int} (hd : decode B pc = .ok (.ifCond cd o, 3)) (hc : ifCond.holds cd x = false) (hp : pc + 3 = pc') (k : Gt p.tables e below F (T.setTop (mkF m pc' L rest))) : Gt p.tables e below F (T.setTop (mkF m pc L (.int x :: rest))) := by
  subst hp; exact k.go fun t q => XS.ifNo X.here hx rfl (hb hby hd) rfl hc q
theorem own_icT (X : Stand p l e R s m args below meth c T locs cells slots) (hx : p.tables.exec = Jvm.exec) (hby : c.code = B) {cd : ClassFile.Cond} {x y : Int32} {o : Int} (hd : decode B pc = .ok (.if_icmp cd o, 3)) (hc : if_icmp.holds cd x y = true) (ho : 0 ≤ (pc : Int) + o) (hp : ((pc : Int) + o).toNat = pc') (k : Gt p.tables e below F (T.setTop (mkF m pc' L rest))) : Gt p.tables e below F (T.setTop (mkF m pc L (.int y :: .int x :: rest))) :=
  k.go fun t q => XS.icmpYes X.here hx rfl rfl (hb hby hd) rfl hc ho hp q
theorem own_icF (X : Stand p l e R s m args below meth c T locs cells slots) (hx : p.tables.exec = Jvm.exec) (hby : c.code = B) {cd : ClassFile.Cond} {x y : Int32} {o : Int} (hd : decode B pc = .ok (.if_icmp cd o, 3)) (hc : if_icmp.holds cd x y = false) (hp : pc + 3 = pc') (k : Gt p.tables e below F (T.setTop (mkF m pc' L rest))) : Gt p.tables e below F (T.setTop (mkF m pc L (.int y :: .int x :: rest))) := by
  subst hp; exact k.go fun t q => XS.icmpNo X.here hx rfl (hb hby hd) rfl hc q
theorem own_ifnullT (X : Stand p l e R s m args below meth c T locs cells slots) (hx : p.tables.exec = Jvm.exec) (hby : c.code = B) {o : Int} (hd : decode B pc = .ok (.ifnull o, 3)) (ho : 0 ≤ (pc : Int) + o) (hp : ((pc : Int) + o).toNat = pc') (k : Gt p.tables e below F (T.setTop (mkF m pc' L rest))) : Gt p.tables e below F (T.setTop (mkF m pc L (.null :: rest))) :=
  k.go fun t q => XS.ifnullYes X.here hx rfl rfl (hb hby hd) rfl ho hp q
theorem own_ifnullF (X : Stand p l e R s m args below meth c T locs cells slots) (hx : p.tables.exec = Jvm.exec) (hby : c.code = B) {o : Int} {b : Addr} (hd : decode B pc = .ok (.ifnull o, 3)) (hp : pc + 3 = pc') (k : Gt p.tables e below F (T.setTop (mkF m pc' L rest))) : Gt p.tables e below F (T.setTop (mkF m pc L (.ref b :: rest))) := by
  subst hp; exact k.go fun t q => XS.ifnullNo X.here hx rfl (hb hby hd) rfl q
theorem own_ifnonnullT (X : Stand p l e R s m args below meth c T locs cells slots) (hx : p.tables.exec = Jvm.exec) (hby : c.code = B) {o : Int} {b : Addr} (hd : decode B pc = .ok (.ifnonnull o, 3)) (ho : 0 ≤ (pc : Int) + o) (hp : ((pc : Int) + o).toNat = pc') (k : Gt p.tables e below F (T.setTop (mkF m pc' L rest))) : Gt p.tables e below F (T.setTop (mkF m pc L (.ref b :: rest))) :=
  k.go fun t q => XS.ifnonnullYes X.here hx rfl rfl (hb hby hd) rfl ho hp q
theorem own_ifnonnullF (X : Stand p l e R s m args below meth c T locs cells slots) (hx : p.tables.exec = Jvm.exec) (hby : c.code = B) {o : Int} (hd : decode B pc = .ok (.ifnonnull o, 3)) (hp : pc + 3 = pc') (k : Gt p.tables e below F (T.setTop (mkF m pc' L rest))) : Gt p.tables e below F (T.setTop (mkF m pc L (.null :: rest))) := by
  subst hp; exact k.go fun t q => XS.ifnonnullNo X.here hx rfl (hb hby hd) rfl q
theorem own_acmp (X : Stand p l e R s m args below meth c T locs cells slots) (hx : p.tables.exec = Jvm.exec) (hby : c.code = B) {cd : ACond} {x y : Value} (h1 : x.isRef = true) (h2 : y.isRef = true) {o : Int} {same : Bool} (hd : decode B pc = .ok (.if_acmp cd o, 3)) (hq : decide (x = y) = same) (ho : 0 ≤ (pc : Int) + o) (hp : pc' = if acV cd same = true then ((pc : Int) + o).toNat else pc + 3) (k : Gt p.tables e below F (T.setTop (mkF m pc' L rest))) : Gt p.tables e below F (T.setTop (mkF m pc L (y :: x :: rest))) :=
  k.go fun t q => Jvm.RoadKit.acmp X hx rfl h1 h2 rfl (hb hby hd) rfl hq ho hp q
theorem own_ldcI (X : Stand p l e R s m args below meth c T locs cells slots) (hx : p.tables.exec = Jvm.exec) (hby : c.code = B) (hZ : Z.Warmed39 s.vm) {own : String} {i : Nat} {v : Int32} (hown : s.vm.findClass own = some m.cls) (w : (Jvm.Cond.constant own i v).before a0 Z = true) (hd : decode B pc = .ok (.ldc i, 2)) (hp : pc + 2 = pc') (k : Gt p.tables e below F (T.setTop (mkF m pc' L (.int v :: rest)))) : Gt p.tables e below F (T.setTop (mkF m pc L rest)) := by
  subst hp; exact k.go (X.ldcInt hx hown (mvT hZ w) (g := mkF m pc L rest) rfl (hb hby hd))
theorem own_ldc2L (X : Stand p l e R s m args below meth c T locs cells slots) (hx : p.tables.exec = Jvm.exec) (hby : c.code = B) (hZ : Z.Warmed39 s.vm) {own : String} {i : Nat} {v : Int64} (hown : s.vm.findClass own = some m.cls) (w : (Jvm.Cond.constantLong own i v).before a0 Z = true) (hd : decode B pc = .ok (.ldc2_w i, 3)) (hp : pc + 3 = pc') (k : Gt p.tables e below F (T.setTop (mkF m pc' L (.long v :: rest)))) : Gt p.tables e below F (T.setTop (mkF m pc L rest)) := by
  subst hp; exact k.go (X.ldc2Long hx hown (mvT hZ w) (g := mkF m pc L rest) rfl (hb hby hd))
theorem own_ldc2D (X : Stand p l e R s m args below meth c T locs cells slots) (hx : p.tables.exec = Jvm.exec) (hby : c.code = B) (hZ : Z.Warmed39 s.vm) {own : String} {i : Nat} {v : UInt64} (hown : s.vm.findClass own = some m.cls) (w : (Jvm.Cond.constantDouble own i v).before a0 Z = true) (hd : decode B pc = .ok (.ldc2_w i, 3)) (hp : pc + 3 = pc') (k : Gt p.tables e below F (T.setTop (mkF m pc' L (.double v :: rest)))) : Gt p.tables e below F (T.setTop (mkF m pc L rest)) := by
  subst hp; exact k.go (X.ldc2DoubleC hx hown (mvT hZ w) (g := mkF m pc L rest) rfl (hb hby hd))
theorem own_getF (X : Stand p l e R s m args below meth c T locs cells slots) (hx : p.tables.exec = Jvm.exec) (hby : c.code = B) (hZ : Z.Warmed39 s.vm) {own R0 O n d host : String} {index : Nat} (hown : s.vm.findClass own = some m.cls) (w : (Jvm.Cond.fieldLink own index R0 n d).before a0 Z = true ∨ (Jvm.Cond.fieldLinkNest own index R0 n d host).before a0 Z = true) (via : Via Z R0 O n d) (eT : T.heap = h) {a : Addr} {v : Value} (Ff : Fld Z h a O n d v) (hd : decode B pc = .ok (.getfield index, 3)) (hp : pc + 3 = pc') (k : ∀ T', Stand p l e R s m args below meth c T' locs cells slots → T'.heap = h → Gt p.tables e below F (T'.setTop (mkF m pc' L (v :: rest)))) : Gt p.tables e below F (T.setTop (mkF m pc L (.ref a :: rest))) := by
  subst hp; obtain ⟨T', X', e', st⟩ := getF X hx hZ hown w via eT Ff (g := mkF m pc L (.ref a :: rest)) rfl rfl (hb hby hd); exact (k T' X' e').go st
theorem own_getS (X : Stand p l e R s m args below meth c T locs cells slots) (hx : p.tables.exec = Jvm.exec) (hby : c.code = B) (hZ : Z.Warmed39 s.vm) {own R0 O n d host : String} {index : Nat} (hown : s.vm.findClass own = some m.cls) (w : (Jvm.Cond.fieldLink own index R0 n d).before a0 Z = true ∨ (Jvm.Cond.fieldLinkNest own index R0 n d host).before a0 Z = true) (via : Via Z R0 O n d) (eT : T.heap = h) {v : Value} (Ff : Sta Z h O n d v) (hd : decode B pc = .ok (.getstatic index, 3)) (hp : pc + 3 = pc') (k : ∀ T', Stand p l e R s m args below meth c T' locs cells slots → T'.heap = h → Gt p.tables e below F (T'.setTop (mkF m pc' L (v :: rest)))) : Gt p.tables e below F (T.setTop (mkF m pc L rest)) := by
  subst hp; obtain ⟨T', X', e', st⟩ := getS2 X hx hZ hown w via eT Ff (g := mkF m pc L rest) rfl (hb hby hd); exact (k T' X' e').go st
theorem own_putF (X : Stand p l e R s m args below meth c T locs cells slots) (hx : p.tables.exec = Jvm.exec) (hby : c.code = B) (hZ : Z.Warmed39 s.vm) {own R0 O n d host C : String} {index kk : Nat} {ty : FieldType} (hown : s.vm.findClass own = some m.cls) (w : (Jvm.Cond.fieldLink own index R0 n d).before a0 Z = true ∨ (Jvm.Cond.fieldLinkNest own index R0 n d host).before a0 Z = true) (via : Via Z R0 O n d) (eT : T.heap = h) {a : Addr} {v old : Value} (Ff : Fld Z h a O n d old) (E : Exa Z h a C) (La : (Jvm.Cond.lays C O n d).before a0 Z = true ∨ ((Jvm.Cond.laysFinal C O n d).before a0 Z = true ∧ own = O ∧ meth.name = "<init>")) (wi : (Jvm.Cond.instantiable C kk).before a0 Z = true) (hty : parseFieldDescriptor d = some ty) (hn : narrow ty v = v) (hf : fits ty v = true) (hd : decode B pc = .ok (.putfield index, 3)) (hp : pc + 3 = pc') (k : ∀ T' h', Stand p l e R s m args below meth c T' (locs ++ [⟨a, Jvm.RoadKit.slotOf Z O n d⟩]) cells slots → T'.heap = h' → Wr h h' a (Jvm.RoadKit.slotOf Z O n d) v → Gt p.tables e below F (T'.setTop (mkF m pc' L rest))) : Gt p.tables e below F (T.setTop (mkF m pc L (v :: .ref a :: rest))) := by
  subst hp; obtain ⟨T', h', X', e', W, st⟩ := putF X hx hZ hown w via eT Ff E La wi hty hn hf (g := mkF m pc L (v :: .ref a :: rest)) rfl rfl (hb hby hd); exact (k T' h' X' e' W).go st
theorem own_newO (X : Stand p l e R s m args below meth c T locs cells slots) (hx : p.tables.exec = Jvm.exec) (hby : c.code = B) (hZ : Z.Warmed39 s.vm) {own C : String} {index n : Nat} (hown : s.vm.findClass own = some m.cls) (w : (Jvm.Cond.classLink own index C).before a0 Z = true) (wi : (Jvm.Cond.instantiable C n).before a0 Z = true) (wz : (Jvm.Cond.initialized C).before a0 Z = true) (eT : T.heap = h) (hd : decode B pc = .ok (.new index, 3)) (hp : pc + 3 = pc') (hc : cells + 1 ≤ R.cells) (hl : slots + n ≤ R.slots) (k : ∀ T' h' a, Stand p l e R s m args below meth c T' locs (cells + 1) (slots + n) → T'.heap = h' → Ext h h' → h.size = a → Exa Z h' a C → (∀ {O nm d : String} {ty : FieldType}, Laid Z a0 C O nm d → parseFieldDescriptor d = some ty → Fld Z h' a O nm d (defaultValue ty)) → Gt p.tables e below F (T'.setTop (mkF m pc' L (.ref a :: rest)))) : Gt p.tables e below F (T.setTop (mkF m pc L rest)) := by
  subst hp; obtain ⟨T', h', X', e', E', A', D', -, st⟩ := newO X hx hZ hown w wi wz eT (g := mkF m pc L rest) rfl (hb hby hd) hc hl; exact (k T' h' _ X' e' E' rfl A' D').go st
theorem own_initO (X : Stand p l e R s m args below meth c T locs cells slots) (hx : p.tables.exec = Jvm.exec) (hby : c.code = B) (hZ : Z.Warmed39 s.vm) {own : String} {idx : Nat} (hown : s.vm.findClass own = some m.cls) (w1 : (Jvm.Cond.methodLink own idx Lib.objectInit).before a0 Z = true) (w2 : (Jvm.Cond.instanceMethod Lib.objectInit).before a0 Z = true) (w3 : (Jvm.Cond.code Lib.objectInit ⟨#[0xb1]⟩ 1 none).before a0 Z = true) (eT : T.heap = h) (hsize : L.size = c.maxLocals) {a : Addr} (hd : decode B pc = .ok (.invokespecial idx, 3)) (hp : pc + 3 = pc') (hf : 1 ≤ R.frames) {W : Nat} (hW : (rest.map fun v => v.category).sum ≤ W) (hl : W + 12 ≤ R.locals) (k : ∀ T', Stand p l e R s m args below meth c T' locs cells slots → T'.heap = h → Gt p.tables e below F (T'.setTop (mkF m pc' L rest))) : Gt p.tables e below F (T.setTop (mkF m pc L (.ref a :: rest))) := by
  subst hp; obtain ⟨T', X', e', st⟩ := initO X hx hZ hown w1 w2 w3 eT (g := mkF m pc L (.ref a :: rest)) rfl hsize rfl (hb hby hd) hf (W := W) (by show 2 * 0 + _ ≤ _; rw [Nat.mul_zero, Nat.zero_add]; exact hW) hl; exact (k T' X' e').go st
theorem own_special (X : Stand p l e R s m args below meth c T locs cells slots) (hx : p.tables.exec = Jvm.exec) (hby : c.code = B) (hZ : Z.Warmed39 s.vm) {own : String} {index : Nat} {y : MethodName} {bytes : ByteArray} {maxL : Nat} {ret : Option FieldType} {rm : Room} {as' : Array Value} {Q : Option Value → Heap → List Loc → Prop} (hy1 : y.name = "<init>") (hown : s.vm.findClass own = some m.cls) (w1 : (Jvm.Cond.methodLink own index y).before a0 Z = true) (w2 : (Jvm.Cond.instanceMethod y).before a0 Z = true) (hret : ret = none) (w3 : (Jvm.Cond.code y bytes maxL ret).before a0 Z = true) (w4 : (Jvm.Cond.initialized y.cls).before a0 Z = true) (hy : y.cls ≠ "java/lang/invoke/MethodHandle" ∧ y.cls ≠ "java/lang/invoke/VarHandle") (hM : MetFree l y (head1 [Jvm.Cond.code y bytes maxL ret] rm) (fun a U => a = as' ∧ Z.Warmed39 U.vm ∧ U.heap = h) (fun _ _ _ _ _ => True) (fun _ U o U' => ∃ v L, o = .returned v ∧ Q v U'.heap L ∧ FrameEnd U o U' L rm.cells rm.slots)) (eT : T.heap = h) (hsize : L.size = c.maxLocals) {a : Addr} {argsL : List Value} (has : as' = (.ref a :: argsL).toArray) (hlen : ∀ sig, parseMethodDescriptor y.desc = some sig → argsL.length = sig.parameters.length) {st : List Value} (hst : st = argsL.reverse ++ .ref a :: rest) (hd : decode B pc = .ok (.invokespecial index, 3)) (hp : pc + 3 = pc') (hf : rm.frames + 1 ≤ R.frames) {W : Nat} (hW : (rest.map fun v => v.category).sum ≤ W) (hl : W + (maxL + 11) + rm.locals ≤ R.locals) (hc : cells + rm.cells ≤ R.cells) (hs : slots + rm.slots ≤ R.slots) (k : ∀ T' h' L' v, Stand p l e R s m args below meth c T' (locs ++ L') (cells + rm.cells) (slots + rm.slots) → T'.heap = h' → Q v h' L' → Gt p.tables e below F (T'.setTop (mkF m pc' L (v.toList ++ rest)))) : Gt p.tables e below F (T.setTop (mkF m pc L st)) := by
  subst hp hret has hst
  obtain ⟨v, vm1, ⟨T', L1, k1, n1⟩, -, X', ⟨Lc, hQ, l1, l2, l3⟩, st⟩ := X.specialBack hx (y := y) hy1 hown (mvT hZ w1) (mvT hZ w2) (mvT hZ w3) hy (backOf (W := W) hM hZ w3 w4 hf hl) (g := mkF m pc L (argsL.reverse ++ .ref a :: rest)) rfl hsize (Steps.refl _) (a := a) (argsL := argsL) (rest := rest) hlen rfl (by show 2 * 0 + _ ≤ _; rw [Nat.mul_zero, Nat.zero_add]; exact hW) (hb hby hd) (fun _ _ => ⟨rfl, eT, hc, hs⟩)
  dsimp only [Pt.U, Pt.locs, Pt.cells, Pt.slots] at X' l1 l2 l3 st hQ
  subst l1 l2 l3
  exact (k T' _ Lc v X' rfl hQ).go fun t q => st.trans q
theorem own_virtual (X : Stand p l e R s m args below meth c T locs cells slots) (hx : p.tables.exec = Jvm.exec) (hby : c.code = B) (hZ : Z.Warmed39 s.vm) {own : String} {index : Nat} {y : MethodName} {bytes : ByteArray} {maxL : Nat} {ret : Option FieldType} {rm : Room} {as' : Array Value} {Q : Option Value → Heap → List Loc → Prop} {C : String} {y' : MethodName} (hown : s.vm.findClass own = some m.cls) (w1 : (Jvm.Cond.methodLink own index y').before a0 Z = true) (w2 : (Jvm.Cond.declares y').before a0 Z = true) (hnf : NotFace s y') (w5 : (Jvm.Cond.selects C y' y).before a0 Z = true) (w6 : (Jvm.Cond.instanceMethod y).before a0 Z = true) (w3 : (Jvm.Cond.code y bytes maxL ret).before a0 Z = true) (w4 : (Jvm.Cond.initialized y.cls).before a0 Z = true) (hy : y'.cls ≠ "java/lang/invoke/MethodHandle" ∧ y'.cls ≠ "java/lang/invoke/VarHandle") (hM : MetFree l y (head1 [Jvm.Cond.code y bytes maxL ret] rm) (fun a U => a = as' ∧ Z.Warmed39 U.vm ∧ U.heap = h) (fun _ _ _ _ _ => True) (fun _ U o U' => ∃ v L, o = .returned v ∧ Q v U'.heap L ∧ FrameEnd U o U' L rm.cells rm.slots)) (eT : T.heap = h) (hsize : L.size = c.maxLocals) {a : Addr} (E : Exa Z h a C) {argsL : List Value} (has : as' = (.ref a :: argsL).toArray) (hlen : ∀ sig, parseMethodDescriptor y'.desc = some sig → argsL.length = sig.parameters.length) {st : List Value} (hst : st = argsL.reverse ++ .ref a :: rest) (hd : decode B pc = .ok (.invokevirtual index, 3)) (hp : pc + 3 = pc') (hf : rm.frames + 1 ≤ R.frames) {W : Nat} (hW : (rest.map fun v => v.category).sum ≤ W) (hl : W + (maxL + 11) + rm.locals ≤ R.locals) (hc : cells + rm.cells ≤ R.cells) (hs : slots + rm.slots ≤ R.slots) (k : ∀ T' h' L' v, Stand p l e R s m args below meth c T' (locs ++ L') (cells + rm.cells) (slots + rm.slots) → T'.heap = h' → Q v h' L' → Gt p.tables e below F (T'.setTop (mkF m pc' L (v.toList ++ rest)))) : Gt p.tables e below F (T.setTop (mkF m pc L st)) := by
  subst hp has hst
  obtain ⟨cq, kq, qa, qb, qc⟩ := isOf hZ eT E
  obtain ⟨v, vm1, ⟨T', L1, k1, n1⟩, -, X', ⟨Lc, hQ, l1, l2, l3⟩, st⟩ := X.virtualBack hx (y := y') (z := y) hown (mvT hZ w1) (mvT hZ w2) hnf (mvT hZ w5) (mvT hZ w6) hy (backOf (W := W) hM hZ w3 w4 hf hl) qa qc (g := mkF m pc L (argsL.reverse ++ .ref a :: rest)) rfl hsize (Steps.refl _) (argsL := argsL) (rest := rest) hlen rfl (by show 2 * 0 + _ ≤ _; rw [Nat.mul_zero, Nat.zero_add]; exact hW) (hb hby hd) (fun _ _ => ⟨rfl, eT, hc, hs⟩)
  dsimp only [Pt.U, Pt.locs, Pt.cells, Pt.slots] at X' l1 l2 l3 st hQ
  subst l1 l2 l3
  exact (k T' _ Lc v X' rfl hQ).go fun t q => st.trans q
theorem own_static (X : Stand p l e R s m args below meth c T locs cells slots) (hx : p.tables.exec = Jvm.exec) (hby : c.code = B) (hZ : Z.Warmed39 s.vm) {own : String} {index : Nat} {y : MethodName} {bytes : ByteArray} {maxL : Nat} {ret : Option FieldType} {rm : Room} {as' : Array Value} {Q : Option Value → Heap → List Loc → Prop} (hown : s.vm.findClass own = some m.cls) (w1 : (Jvm.Cond.methodLink own index y).before a0 Z = true) (w2 : (Jvm.Cond.static y).before a0 Z = true) (w3 : (Jvm.Cond.code y bytes maxL ret).before a0 Z = true) (w4 : (Jvm.Cond.initialized y.cls).before a0 Z = true) (hy : y.cls ≠ "java/lang/invoke/MethodHandle" ∧ y.cls ≠ "java/lang/invoke/VarHandle") (hM : MetFree l y (head1 [Jvm.Cond.code y bytes maxL ret] rm) (fun a U => a = as' ∧ Z.Warmed39 U.vm ∧ U.heap = h) (fun _ _ _ _ _ => True) (fun _ U o U' => ∃ v L, o = .returned v ∧ Q v U'.heap L ∧ FrameEnd U o U' L rm.cells rm.slots)) (eT : T.heap = h) (hsize : L.size = c.maxLocals) {argsL : List Value} (has : as' = argsL.toArray) (hlen : ∀ sig, parseMethodDescriptor y.desc = some sig → argsL.length = sig.parameters.length) {st : List Value} (hst : st = argsL.reverse ++ rest) (hd : decode B pc = .ok (.invokestatic index, 3)) (hp : pc + 3 = pc') (hf : rm.frames + 1 ≤ R.frames) {W : Nat} (hW : (rest.map fun v => v.category).sum ≤ W) (hl : W + (maxL + 11) + rm.locals ≤ R.locals) (hc : cells + rm.cells ≤ R.cells) (hs : slots + rm.slots ≤ R.slots) (k : ∀ T' h' L' v, Stand p l e R s m args below meth c T' (locs ++ L') (cells + rm.cells) (slots + rm.slots) → T'.heap = h' → Q v h' L' → Gt p.tables e below F (T'.setTop (mkF m pc' L (v.toList ++ rest)))) : Gt p.tables e below F (T.setTop (mkF m pc L st)) := by
  subst hp has hst
  obtain ⟨v, vm1, ⟨T', L1, k1, n1⟩, -, X', ⟨Lc, hQ, l1, l2, l3⟩, st⟩ := Jvm.LawKit.callS X hx (y := y) hown (mvT hZ w1) (mvT hZ w2) (mvT hZ w4) (mvT hZ w3) hy (backOf (W := W) hM hZ w3 w4 hf hl) (g := mkF m pc L (argsL.reverse ++ rest)) rfl hsize (argsL := argsL) (rest := rest) hlen rfl (by show 2 * 0 + _ ≤ _; rw [Nat.mul_zero, Nat.zero_add]; exact hW) (hb hby hd) (fun _ _ => ⟨rfl, eT, hc, hs⟩)
  dsimp only [Pt.U, Pt.locs, Pt.cells, Pt.slots] at X' l1 l2 l3 st hQ
  subst l1 l2 l3
  exact (k T' _ Lc v X' rfl hQ).go fun t q => st _ q
theorem own_private (X : Stand p l e R s m args below meth c T locs cells slots) (hx : p.tables.exec = Jvm.exec) (hby : c.code = B) (hZ : Z.Warmed39 s.vm) {own : String} {index : Nat} {y : MethodName} {bytes : ByteArray} {maxL : Nat} {ret : Option FieldType} {rm : Room} {as' : Array Value} {Q : Option Value → Heap → List Loc → Prop} (hown : s.vm.findClass own = some m.cls) (w1 : (Jvm.Cond.methodLink own index y).before a0 Z = true) (w2 : (Jvm.Cond.instanceMethod y).before a0 Z = true) {ni : Nat} (w5 : (Jvm.Cond.instantiable y.cls ni).before a0 Z = true) (w6 : (Jvm.Cond.privateMethod y).before a0 Z = true) (w3 : (Jvm.Cond.code y bytes maxL ret).before a0 Z = true) (w4 : (Jvm.Cond.initialized y.cls).before a0 Z = true) (hy : y.cls ≠ "java/lang/invoke/MethodHandle" ∧ y.cls ≠ "java/lang/invoke/VarHandle") (hM : MetFree l y (head1 [Jvm.Cond.code y bytes maxL ret] rm) (fun a U => a = as' ∧ Z.Warmed39 U.vm ∧ U.heap = h) (fun _ _ _ _ _ => True) (fun _ U o U' => ∃ v L, o = .returned v ∧ Q v U'.heap L ∧ FrameEnd U o U' L rm.cells rm.slots)) (eT : T.heap = h) (hsize : L.size = c.maxLocals) {a : Addr} (E : Exa Z h a y.cls) {argsL : List Value} (has : as' = (.ref a :: argsL).toArray) (hlen : ∀ sig, parseMethodDescriptor y.desc = some sig → argsL.length = sig.parameters.length) {st : List Value} (hst : st = argsL.reverse ++ .ref a :: rest) (hd : decode B pc = .ok (.invokevirtual index, 3)) (hp : pc + 3 = pc') (hf : rm.frames + 1 ≤ R.frames) {W : Nat} (hW : (rest.map fun v => v.category).sum ≤ W) (hl : W + (maxL + 11) + rm.locals ≤ R.locals) (hc : cells + rm.cells ≤ R.cells) (hs : slots + rm.slots ≤ R.slots) (k : ∀ T' h' L' v, Stand p l e R s m args below meth c T' (locs ++ L') (cells + rm.cells) (slots + rm.slots) → T'.heap = h' → Q v h' L' → Gt p.tables e below F (T'.setTop (mkF m pc' L (v.toList ++ rest)))) : Gt p.tables e below F (T.setTop (mkF m pc L st)) := by
  subst hp has hst
  obtain ⟨cq, q1, q2⟩ := E.cell
  obtain ⟨cI, kI, i1, i2, -, i3, -⟩ := Cond.instantiable_spec (mv (s := s) (args := args) hZ w5)
  have hpr := Cond.privateMethod_at (mvP (s := s) hZ w6 (args := #[]))
  have hsel := Jvm.Stand.selects_self_of_private i1 i2 (Bool.or_eq_false_iff.mp i3).1 hpr (mvT (s := s) (args := args) hZ w2) hy
  obtain ⟨v, vm1, ⟨T', L1, k1, n1⟩, -, X', ⟨Lc, hQ, l1, l2, l3⟩, st⟩ := X.privateBack hx (y := y) hown (mvT hZ w1) (mvT hZ w2) hsel hpr (mvT hZ w3) hy (backOf (W := W) hM hZ w3 w4 hf hl) (g := mkF m pc L (argsL.reverse ++ .ref a :: rest)) rfl hsize (Steps.refl _) (a := a) (by rw [eT]; exact q1) q2 (argsL := argsL) (rest := rest) hlen rfl (by show 2 * 0 + _ ≤ _; rw [Nat.mul_zero, Nat.zero_add]; exact hW) (hb hby hd) (fun _ _ => ⟨rfl, eT, hc, hs⟩)
  dsimp only [Pt.U, Pt.locs, Pt.cells, Pt.slots] at X' l1 l2 l3 st hQ
  subst l1 l2 l3
  exact (k T' _ Lc v X' rfl hQ).go fun t q => st.trans q
theorem own_retV (X : Stand p l e R s m args below meth c T locs cells slots) (hx : p.tables.exec = Jvm.exec) (hby : c.code = B) (hlocks : meth.locks = false) {Q : Option Value → Heap → List Loc → Prop} {kc ks : Nat} (hret : meth.sig.returnType = none) (hd : decode B pc = .ok (.return_, 1)) (hc : cells ≤ kc) (hs : slots ≤ ks) (eT : T.heap = h) (hq : Q none h locs) : Gt p.tables e below (fun o U' => ∃ v Lc, o = .returned v ∧ Q v U'.heap Lc ∧ FrameEnd s o U' Lc kc ks) (T.setTop (mkF m pc L [])) := by
  subst eT
  obtain ⟨fs, hr, hrun, hended, hW, hsame⟩ := X.leave (v := none) (fun _ => rfl) hlocks
  exact ⟨_, _, X.returnOut hx hret (hb hby hd) hr, hrun, hended, _, _, rfl, hq, ⟨_, rfl⟩, hW, hsame.mono hc hs⟩
theorem own_retI (X : Stand p l e R s m args below meth c T locs cells slots) (hx : p.tables.exec = Jvm.exec) (hby : c.code = B) (hlocks : meth.locks = false) {Q : Option Value → Heap → List Loc → Prop} {kc ks : Nat} (hret : meth.sig.returnType = some .int) {z : Int32} (hd : decode B pc = .ok (.ireturn, 1)) (hc : cells ≤ kc) (hs : slots ≤ ks) (eT : T.heap = h) (hq : Q (some (.int z)) h locs) : Gt p.tables e below (fun o U' => ∃ v Lc, o = .returned v ∧ Q v U'.heap Lc ∧ FrameEnd s o U' Lc kc ks) (T.setTop (mkF m pc L (.int z :: rest))) := by
  subst eT
  obtain ⟨fs, hr, hrun, hended, hW, hsame⟩ := X.leave (v := (some (.int z))) (fun h => by rw [hret] at h; cases h) hlocks
  exact ⟨_, _, retOut X hx hret rfl (Or.inl ⟨rfl, Or.inl rfl, z, rfl⟩) (hb hby hd) hr, hrun, hended, _, _, rfl, hq, ⟨_, rfl⟩, hW, hsame.mono hc hs⟩
theorem own_retL (X : Stand p l e R s m args below meth c T locs cells slots) (hx : p.tables.exec = Jvm.exec) (hby : c.code = B) (hlocks : meth.locks = false) {Q : Option Value → Heap → List Loc → Prop} {kc ks : Nat} (hret : meth.sig.returnType = some .long) {z : Int64} (hd : decode B pc = .ok (.lreturn, 1)) (hc : cells ≤ kc) (hs : slots ≤ ks) (eT : T.heap = h) (hq : Q (some (.long z)) h locs) : Gt p.tables e below (fun o U' => ∃ v Lc, o = .returned v ∧ Q v U'.heap Lc ∧ FrameEnd s o U' Lc kc ks) (T.setTop (mkF m pc L (.long z :: rest))) := by
  subst eT
  obtain ⟨fs, hr, hrun, hended, hW, hsame⟩ := X.leave (v := (some (.long z))) (fun h => by rw [hret] at h; cases h) hlocks
  exact ⟨_, _, retOut X hx hret rfl (Or.inr (Or.inl ⟨rfl, rfl, z, rfl⟩)) (hb hby hd) hr, hrun, hended, _, _, rfl, hq, ⟨_, rfl⟩, hW, hsame.mono hc hs⟩
theorem own_retD (X : Stand p l e R s m args below meth c T locs cells slots) (hx : p.tables.exec = Jvm.exec) (hby : c.code = B) (hlocks : meth.locks = false) {Q : Option Value → Heap → List Loc → Prop} {kc ks : Nat} (hret : meth.sig.returnType = some .double) {z : UInt64} (hd : decode B pc = .ok (.dreturn, 1)) (hc : cells ≤ kc) (hs : slots ≤ ks) (eT : T.heap = h) (hq : Q (some (.double z)) h locs) : Gt p.tables e below (fun o U' => ∃ v Lc, o = .returned v ∧ Q v U'.heap Lc ∧ FrameEnd s o U' Lc kc ks) (T.setTop (mkF m pc L (.double z :: rest))) := by
  subst eT
  obtain ⟨fs, hr, hrun, hended, hW, hsame⟩ := X.leave (v := (some (.double z))) (fun h => by rw [hret] at h; cases h) hlocks
  exact ⟨_, _, retOut X hx hret rfl (Or.inr (Or.inr (Or.inl ⟨rfl, rfl, z, rfl⟩))) (hb hby hd) hr, hrun, hended, _, _, rfl, hq, ⟨_, rfl⟩, hW, hsame.mono hc hs⟩
theorem own_retZ (X : Stand p l e R s m args below meth c T locs cells slots) (hx : p.tables.exec = Jvm.exec) (hby : c.code = B) (hlocks : meth.locks = false) {Q : Option Value → Heap → List Loc → Prop} {kc ks : Nat} (hret : meth.sig.returnType = some .boolean) {z : Int32} (hz : z = 0 ∨ z = 1) (hd : decode B pc = .ok (.ireturn, 1)) (hc : cells ≤ kc) (hs : slots ≤ ks) (eT : T.heap = h) (hq : Q (some (.int z)) h locs) : Gt p.tables e below (fun o U' => ∃ v Lc, o = .returned v ∧ Q v U'.heap Lc ∧ FrameEnd s o U' Lc kc ks) (T.setTop (mkF m pc L (.int z :: rest))) := by
  subst eT
  obtain ⟨fs, hr, hrun, hended, hW, hsame⟩ := X.leave (v := (some (.int z))) (fun h => by rw [hret] at h; cases h) hlocks
  exact ⟨_, _, retOut X hx hret (by rcases hz with rfl | rfl <;> rfl) (Or.inl ⟨rfl, Or.inr (Or.inl rfl), z, rfl⟩) (hb hby hd) hr, hrun, hended, _, _, rfl, hq, ⟨_, rfl⟩, hW, hsame.mono hc hs⟩
theorem own_retA (X : Stand p l e R s m args below meth c T locs cells slots) (hx : p.tables.exec = Jvm.exec) (hby : c.code = B) (hlocks : meth.locks = false) {Q : Option Value → Heap → List Loc → Prop} {kc ks : Nat} {t : FieldType} (hret : meth.sig.returnType = some t) (ht : t.isReference = true) {z : Value} (hz : z.isRef = true) (hd : decode B pc = .ok (.areturn, 1)) (hc : cells ≤ kc) (hs : slots ≤ ks) (eT : T.heap = h) (hq : Q (some z) h locs) : Gt p.tables e below (fun o U' => ∃ v Lc, o = .returned v ∧ Q v U'.heap Lc ∧ FrameEnd s o U' Lc kc ks) (T.setTop (mkF m pc L (z :: rest))) := by
  subst eT
  obtain ⟨fs, hr, hrun, hended, hW, hsame⟩ := X.leave (v := (some z)) (fun h => by rw [hret] at h; cases h) hlocks
  exact ⟨_, _, retOut X hx hret (by rcases ref_cases hz with rfl | ⟨a, rfl⟩ <;> cases t <;> simp_all [narrow, FieldType.isReference]) (Or.inr (Or.inr (Or.inr (Or.inr ⟨rfl, ht, hz⟩)))) (hb hby hd) hr, hrun, hended, _, _, rfl, hq, ⟨_, rfl⟩, hW, hsame.mono hc hs⟩
end OwnG
section OwnA
variable {p : Program} {l : Launch} {e : Env} {R : Room} {s : State} {m : MethodId} {args : Array Value} {below : List Frame} {meth : Method} {c : Code} {T : State} {locs : List Loc} {cells slots : Nat} {Z : State} {a0 : Array Value} {h h' : Heap} {B : ByteArray} {pc pc' : Nat} {L L' : Array Slot} {rest : List Value} {F : Outcome → State → Prop} {a b : Addr} {ty : FieldType} {vs : List Value} {P : ClassId → Prop} {sl : Nat} {v : Value} {ws : List Addr}
def tr (_ : ClassId) : Prop := True
/-- an array at a of kind ty whose components are the list vs, of a class with P -/
def Ary (P : ClassId → Prop) (Z : State) (h : Heap) (a : Addr) (ty : FieldType) (vs : List Value) : Prop := ∃ c : Cell, Arr Z h a c ty ∧ P c.cls ∧ c.slots.toList = vs ∧ vs.length < 2 ^ 31
theorem Ary.lt (V : Ary P Z h a ty vs) : a < h.size := by obtain ⟨c, A, -⟩ := V; exact A.lt
theorem Ary.ext (V : Ary P Z h a ty vs) (E : Ext h h') : Ary P Z h' a ty vs := by obtain ⟨c, A, r⟩ := V; exact ⟨c, A.ext E, r⟩
theorem Ary.other (V : Ary P Z h b ty vs) (W : Wr h h' a sl v) (q : b ≠ a) : Ary P Z h' b ty vs := by obtain ⟨c, A, r⟩ := V; exact ⟨c, A.other W q, r⟩
theorem Ary.keep (V : Ary P Z h a ty vs) (K : Keep h h' ws) (q : a ∉ ws) : Ary P Z h' a ty vs := by obtain ⟨c, A, r⟩ := V; exact ⟨c, ⟨K.2.1 a c A.1 q, A.2⟩, r⟩
theorem Ary.set (V : Ary P Z h a ty vs) (W : Wr h h' a sl v) : Ary P Z h' a ty (vs.set sl v) := by
  obtain ⟨c, A, q, r, t⟩ := V
  refine ⟨_, A.same W, q, ?_, by rw [List.length_set]; exact t⟩
  show (c.slots.setIfInBounds sl v).toList = _
  rw [Array.toList_setIfInBounds, r]
theorem Ary.size {cl : Cell} (r : cl.slots.toList = vs) : cl.slots.size = vs.length := by rw [← r]; simp
theorem Ary.inb {cl : Cell} {i : Int32} (r : cl.slots.toList = vs) (hi : ¬ i < 0) (hl : i.toNatClampNeg < vs.length) : ¬ (i < 0 ∨ cl.slots.size ≤ i.toNatClampNeg) := by
  rw [Ary.size r]; intro q; rcases q with q | q
  · exact hi q
  · omega
theorem Ary.at {cl : Cell} {i : Nat} (r : cl.slots.toList = vs) (hg : vs[i]? = some v) : cl.slots[i]? = some v := by
  rw [← hg, ← r]; simp
theorem own_alen (X : Stand p l e R s m args below meth c T locs cells slots) (hx : p.tables.exec = Jvm.exec) (hby : c.code = B) (hZ : Z.Warmed39 s.vm) (eT : T.heap = h) (V : Ary P Z h a ty vs) {z : Int32} (hz : vs.length.toInt32 = z) (hd : decode B pc = .ok (.arraylength, 1)) (hp : pc + 1 = pc') (k : Gt p.tables e below F (T.setTop (mkF m pc' L (.int z :: rest)))) : Gt p.tables e below F (T.setTop (mkF m pc L (.ref a :: rest))) := by
  subst hp hz
  obtain ⟨cl, A, -, r, t⟩ := V
  refine k.go fun t q => X.arraylength hx (by rw [eT]; exact A.1) (State.isArrayOf_alike hZ.alike A.2.1) (g := mkF m pc L (.ref a :: rest)) rfl rfl (hb hby hd) _ ?_
  rw [Ary.size r]; exact q
theorem own_iaload (X : Stand p l e R s m args below meth c T locs cells slots) (hx : p.tables.exec = Jvm.exec) (hby : c.code = B) (hZ : Z.Warmed39 s.vm) (eT : T.heap = h) (V : Ary P Z h a .int vs) {i : Int32} (hi : ¬ i < 0) (hg : vs[i.toNatClampNeg]? = some v) (hd : decode B pc = .ok (.iaload, 1)) (hp : pc + 1 = pc') (k : Gt p.tables e below F (T.setTop (mkF m pc' L (v :: rest)))) : Gt p.tables e below F (T.setTop (mkF m pc L (.int i :: .ref a :: rest))) := by
  subst hp
  obtain ⟨cl, A, -, r, t⟩ := V
  exact k.go fun t q => X.iaload hx (by rw [eT]; exact A.1) (State.isArrayOf_alike hZ.alike A.2.1) A.2.2 (Ary.inb r hi (List.getElem?_eq_some_iff.mp hg).1) (Ary.at r hg) (g := mkF m pc L (.int i :: .ref a :: rest)) rfl rfl (hb hby hd) _ q
theorem own_laload (X : Stand p l e R s m args below meth c T locs cells slots) (hx : p.tables.exec = Jvm.exec) (hby : c.code = B) (hZ : Z.Warmed39 s.vm) (eT : T.heap = h) (V : Ary P Z h a .long vs) {i : Int32} (hi : ¬ i < 0) (hg : vs[i.toNatClampNeg]? = some v) (hd : decode B pc = .ok (.laload, 1)) (hp : pc + 1 = pc') (k : Gt p.tables e below F (T.setTop (mkF m pc' L (v :: rest)))) : Gt p.tables e below F (T.setTop (mkF m pc L (.int i :: .ref a :: rest))) := by
  subst hp
  obtain ⟨cl, A, -, r, t⟩ := V
  exact k.go fun t q => X.laload hx (by rw [eT]; exact A.1) (State.isArrayOf_alike hZ.alike A.2.1) A.2.2 (Ary.inb r hi (List.getElem?_eq_some_iff.mp hg).1) (Ary.at r hg) (g := mkF m pc L (.int i :: .ref a :: rest)) rfl rfl (hb hby hd) _ q
theorem own_daload (X : Stand p l e R s m args below meth c T locs cells slots) (hx : p.tables.exec = Jvm.exec) (hby : c.code = B) (hZ : Z.Warmed39 s.vm) (eT : T.heap = h) (V : Ary P Z h a .double vs) {i : Int32} (hi : ¬ i < 0) (hg : vs[i.toNatClampNeg]? = some v) (hd : decode B pc = .ok (.daload, 1)) (hp : pc + 1 = pc') (k : Gt p.tables e below F (T.setTop (mkF m pc' L (v :: rest)))) : Gt p.tables e below F (T.setTop (mkF m pc L (.int i :: .ref a :: rest))) := by
  subst hp
  obtain ⟨cl, A, -, r, t⟩ := V
  exact k.go fun t q => X.daload hx (by rw [eT]; exact A.1) (State.isArrayOf_alike hZ.alike A.2.1) A.2.2 (Ary.inb r hi (List.getElem?_eq_some_iff.mp hg).1) (Ary.at r hg) (g := mkF m pc L (.int i :: .ref a :: rest)) rfl rfl (hb hby hd) _ q
theorem own_aaload (X : Stand p l e R s m args below meth c T locs cells slots) (hx : p.tables.exec = Jvm.exec) (hby : c.code = B) (hZ : Z.Warmed39 s.vm) (eT : T.heap = h) (V : Ary P Z h a ty vs) (hty : ty.isReference = true) {i : Int32} (hi : ¬ i < 0) (hg : vs[i.toNatClampNeg]? = some v) (hd : decode B pc = .ok (.aaload, 1)) (hp : pc + 1 = pc') (k : Gt p.tables e below F (T.setTop (mkF m pc' L (v :: rest)))) : Gt p.tables e below F (T.setTop (mkF m pc L (.int i :: .ref a :: rest))) := by
  subst hp
  obtain ⟨cl, A, -, r, t⟩ := V
  exact k.go fun t q => X.aaload hx (by rw [eT]; exact A.1) (State.isArrayOf_alike hZ.alike A.2.1) hty A.2.2 (Ary.inb r hi (List.getElem?_eq_some_iff.mp hg).1) (Ary.at r hg) (g := mkF m pc L (.int i :: .ref a :: rest)) rfl rfl (hb hby hd) _ q
theorem own_iastore (X : Stand p l e R s m args below meth c T locs cells slots) (hx : p.tables.exec = Jvm.exec) (hby : c.code = B) (hZ : Z.Warmed39 s.vm) (eT : T.heap = h) (V : Ary P Z h a .int vs) {i x : Int32} {n : Nat} (hi : ¬ i < 0) (hn : i.toNatClampNeg = n) (hl : n < vs.length) (hd : decode B pc = .ok (.iastore, 1)) (hp : pc + 1 = pc') (k : ∀ T' h', Stand p l e R s m args below meth c T' (locs ++ [⟨a, n⟩]) cells slots → T'.heap = h' → Wr h h' a n (.int x) → Gt p.tables e below F (T'.setTop (mkF m pc' L rest))) : Gt p.tables e below F (T.setTop (mkF m pc L (.int x :: .int i :: .ref a :: rest))) := by
  subst hp hn
  obtain ⟨cl, A, -, r, t⟩ := V
  obtain ⟨T', h', X', e', W, st⟩ := stI X hx hZ eT A (Ary.inb r hi hl) (g := mkF m pc L (.int x :: .int i :: .ref a :: rest)) rfl rfl (hb hby hd)
  exact (k T' h' X' e' W).go st
theorem own_lastore (X : Stand p l e R s m args below meth c T locs cells slots) (hx : p.tables.exec = Jvm.exec) (hby : c.code = B) (hZ : Z.Warmed39 s.vm) (eT : T.heap = h) (V : Ary P Z h a .long vs) {i : Int32} {x : Int64} {n : Nat} (hi : ¬ i < 0) (hn : i.toNatClampNeg = n) (hl : n < vs.length) (hd : decode B pc = .ok (.lastore, 1)) (hp : pc + 1 = pc') (k : ∀ T' h', Stand p l e R s m args below meth c T' (locs ++ [⟨a, n⟩]) cells slots → T'.heap = h' → Wr h h' a n (.long x) → Gt p.tables e below F (T'.setTop (mkF m pc' L rest))) : Gt p.tables e below F (T.setTop (mkF m pc L (.long x :: .int i :: .ref a :: rest))) := by
  subst hp hn
  obtain ⟨cl, A, -, r, t⟩ := V
  obtain ⟨T', h', X', e', W, st⟩ := stJ X hx hZ eT A (Ary.inb r hi hl) (g := mkF m pc L (.long x :: .int i :: .ref a :: rest)) rfl rfl (hb hby hd)
  exact (k T' h' X' e' W).go st
theorem own_dastore (X : Stand p l e R s m args below meth c T locs cells slots) (hx : p.tables.exec = Jvm.exec) (hby : c.code = B) (hZ : Z.Warmed39 s.vm) (eT : T.heap = h) (V : Ary P Z h a .double vs) {i : Int32} {x : UInt64} {n : Nat} (hi : ¬ i < 0) (hn : i.toNatClampNeg = n) (hl : n < vs.length) (hd : decode B pc = .ok (.dastore, 1)) (hp : pc + 1 = pc') (k : ∀ T' h', Stand p l e R s m args below meth c T' (locs ++ [⟨a, n⟩]) cells slots → T'.heap = h' → Wr h h' a n (.double x) → Gt p.tables e below F (T'.setTop (mkF m pc' L rest))) : Gt p.tables e below F (T.setTop (mkF m pc L (.double x :: .int i :: .ref a :: rest))) := by
  subst hp hn
  obtain ⟨cl, A, -, r, t⟩ := V
  obtain ⟨T', h', X', e', W, st⟩ := stD X hx hZ eT A (Ary.inb r hi hl) (g := mkF m pc L (.double x :: .int i :: .ref a :: rest)) rfl rfl (hb hby hd)
  exact (k T' h' X' e' W).go st
/-- what lies in it: an array class over C -/
def ovA (Z : State) (ty : FieldType) (C : String) (k : ClassId) : Prop := OvrA Z k ty C
def ovO (Z : State) (C : String) (k : ClassId) : Prop := Ovr Z k C
theorem own_aastoreA (X : Stand p l e R s m args below meth c T locs cells slots) (hx : p.tables.exec = Jvm.exec) (hby : c.code = B) (hZ : Z.Warmed39 s.vm) (eT : T.heap = h) {C : String} (V : Ary (ovA Z ty C) Z h a (.array ty) vs) {i : Int32} {x : Addr} {n : Nat} (E : Exa Z h x C) (hi : ¬ i < 0) (hn : i.toNatClampNeg = n) (hl : n < vs.length) (hd : decode B pc = .ok (.aastore, 1)) (hp : pc + 1 = pc') (k : ∀ T' h', Stand p l e R s m args below meth c T' (locs ++ [⟨a, n⟩]) cells slots → T'.heap = h' → Wr h h' a n (.ref x) → Gt p.tables e below F (T'.setTop (mkF m pc' L rest))) : Gt p.tables e below F (T.setTop (mkF m pc L (.ref x :: .int i :: .ref a :: rest))) := by
  subst hp hn
  obtain ⟨cl, A, O, r, t⟩ := V
  obtain ⟨T', h', X', e', W, st⟩ := stR X hx hZ eT A (Ary.inb r hi hl) rfl (Sto.ofVA A rfl O (Ins.self E)) (g := mkF m pc L (.ref x :: .int i :: .ref a :: rest)) rfl rfl (hb hby hd)
  exact (k T' h' X' e' W).go st
theorem own_aastoreO (X : Stand p l e R s m args below meth c T locs cells slots) (hx : p.tables.exec = Jvm.exec) (hby : c.code = B) (hZ : Z.Warmed39 s.vm) (eT : T.heap = h) {C : String} (V : Ary (ovO Z C) Z h a (.object C) vs) {i : Int32} {x : Addr} {n : Nat} (E : Exa Z h x C) (hi : ¬ i < 0) (hn : i.toNatClampNeg = n) (hl : n < vs.length) (hd : decode B pc = .ok (.aastore, 1)) (hp : pc + 1 = pc') (k : ∀ T' h', Stand p l e R s m args below meth c T' (locs ++ [⟨a, n⟩]) cells slots → T'.heap = h' → Wr h h' a n (.ref x) → Gt p.tables e below F (T'.setTop (mkF m pc' L rest))) : Gt p.tables e below F (T.setTop (mkF m pc L (.ref x :: .int i :: .ref a :: rest))) := by
  subst hp hn
  obtain ⟨cl, A, O, r, t⟩ := V
  obtain ⟨T', h', X', e', W, st⟩ := stR X hx hZ eT A (Ary.inb r hi hl) rfl (Sto.of A O (Ins.self E)) (g := mkF m pc L (.ref x :: .int i :: .ref a :: rest)) rfl rfl (hb hby hd)
  exact (k T' h' X' e' W).go st
theorem own_newP (X : Stand p l e R s m args below meth c T locs cells slots) (hx : p.tables.exec = Jvm.exec) (hby : c.code = B) (hZ : Z.Warmed39 s.vm) {aty : ArrayType} (w : (Jvm.Cond.arrayClass (newarray.typeOf aty)).before a0 Z = true) (eT : T.heap = h) (hd : decode B pc = .ok (.newarray aty, 2)) (hp : pc + 2 = pc') {n : Int32} (hn : ¬ n < 0) {N : Nat} (hN : n.toNatClampNeg = N) {cap : Nat} (hcap : N ≤ cap) (hbb : cap * 8 ≤ 536870912) (hc : cells + 1 ≤ R.cells) (hl : slots + cap ≤ R.slots) {ad : String} (had : "[" ++ (newarray.typeOf aty).toString = ad)
    (k : ∀ T' h' a, Stand p l e R s m args below meth c T' locs (cells + 1) (slots + cap) → T'.heap = h' → Ext h h' → h.size = a → Exa Z h' a ad → Ary tr Z h' a (newarray.typeOf aty) (List.replicate N (defaultValue (newarray.typeOf aty))) → Gt p.tables e below F (T'.setTop (mkF m pc' L (.ref a :: rest)))) : Gt p.tables e below F (T.setTop (mkF m pc L (.int n :: rest))) := by
  subst hp hN
  obtain ⟨T', h', cA, X', e', E', A', Ex, st⟩ := newPE X hx hZ w eT (g := mkF m pc L (.int n :: rest)) rfl (hb hby hd) rfl hn hcap hbb hc hl had
  exact (k T' h' _ X' e' E' rfl Ex ⟨_, A', trivial, by simp [newA], by rw [List.length_replicate]; exact (back32 hn).2⟩).go st
theorem own_newRA (X : Stand p l e R s m args below meth c T locs cells slots) (hx : p.tables.exec = Jvm.exec) (hby : c.code = B) (hZ : Z.Warmed39 s.vm) {own C : String} {index : Nat} (hown : s.vm.findClass own = some m.cls) (hC : (FieldType.array ty).toString = C) (w1 : (Jvm.Cond.classLink own index C).before a0 Z = true) (w2 : (Jvm.Cond.arrayOver (.array ty)).before a0 Z = true) (eT : T.heap = h) (hd : decode B pc = .ok (.anewarray index, 3)) (hp : pc + 3 = pc') {n : Int32} (hn : ¬ n < 0) {N : Nat} (hN : n.toNatClampNeg = N) {cap : Nat} (hcap : N ≤ cap) (hbb : cap * 8 ≤ 536870912) (hc : cells + 1 ≤ R.cells) (hl : slots + cap ≤ R.slots) {ad : String} (had : "[" ++ C = ad)
    (k : ∀ T' h' a, Stand p l e R s m args below meth c T' locs (cells + 1) (slots + cap) → T'.heap = h' → Ext h h' → h.size = a → Exa Z h' a ad → Ary (ovA Z ty C) Z h' a (.array ty) (List.replicate N .null) → Gt p.tables e below F (T'.setTop (mkF m pc' L (.ref a :: rest)))) : Gt p.tables e below F (T.setTop (mkF m pc L (.int n :: rest))) := by
  subst hp hN
  obtain ⟨T', h', cA, X', e', E', A', Ex, O, st⟩ := newRA X hx hZ hown hC w1 w2 eT (g := mkF m pc L (.int n :: rest)) rfl (hb hby hd) rfl hn hcap hbb hc hl had
  exact (k T' h' _ X' e' E' rfl Ex ⟨_, A', O, by simp [newA, defaultValue], by rw [List.length_replicate]; exact (back32 hn).2⟩).go st
theorem own_newRO (X : Stand p l e R s m args below meth c T locs cells slots) (hx : p.tables.exec = Jvm.exec) (hby : c.code = B) (hZ : Z.Warmed39 s.vm) {own C : String} {index : Nat} (hown : s.vm.findClass own = some m.cls) (w1 : (Jvm.Cond.classLink own index C).before a0 Z = true) (w2 : (Jvm.Cond.arrayOver (.object C)).before a0 Z = true) (eT : T.heap = h) (hd : decode B pc = .ok (.anewarray index, 3)) (hp : pc + 3 = pc') {n : Int32} (hn : ¬ n < 0) {N : Nat} (hN : n.toNatClampNeg = N) {cap : Nat} (hcap : N ≤ cap) (hbb : cap * 8 ≤ 536870912) (hc : cells + 1 ≤ R.cells) (hl : slots + cap ≤ R.slots) {ad : String} (had : "[" ++ (FieldType.object C).toString = ad)
    (k : ∀ T' h' a, Stand p l e R s m args below meth c T' locs (cells + 1) (slots + cap) → T'.heap = h' → Ext h h' → h.size = a → Exa Z h' a ad → Ary (ovO Z C) Z h' a (.object C) (List.replicate N .null) → Gt p.tables e below F (T'.setTop (mkF m pc' L (.ref a :: rest)))) : Gt p.tables e below F (T.setTop (mkF m pc L (.int n :: rest))) := by
  subst hp hN
  obtain ⟨T', h', cA, X', e', E', A', Ex, O, st⟩ := newRE X hx hZ hown w1 w2 eT (g := mkF m pc L (.int n :: rest)) rfl (hb hby hd) rfl hn hcap hbb hc hl had
  exact (k T' h' _ X' e' E' rfl Ex ⟨_, A', O, by simp [newA, defaultValue], by rw [List.length_replicate]; exact (back32 hn).2⟩).go st
/-- new T[3][3] of a primitive kind -/
theorem own_grid3 (X : Stand p l e R s m args below meth c T locs cells slots) (hx : p.tables.exec = Jvm.exec) (hby : c.code = B) (hZ : Z.Warmed39 s.vm) {own C ad : String} {index : Nat} (hown : s.vm.findClass own = some m.cls) (hC : (FieldType.array ty).toString = C) (had : "[" ++ C = ad)
    (w1 : (Jvm.Cond.classLink own index ad).before a0 Z = true) (w2 : (Jvm.Cond.arrayOver (.array ty)).before a0 Z = true) (w3 : (Jvm.Cond.arrayClass ty).before a0 Z = true) (eT : T.heap = h) (hd : decode B pc = .ok (.multianewarray index 2, 4)) (hp : pc + 4 = pc') (hdf : fits ty (defaultValue ty) = true) (hdd : (defaultValue ty).isDefault = true) (hc : cells + 4 ≤ R.cells) (hl : slots + 12 ≤ R.slots)
    (k : ∀ T' h' a b1 b2 b3, Stand p l e R s m args below meth c T' locs (cells + 4) (slots + 12) → T'.heap = h' → Ext h h' → h.size = a → a < b1 → b1 < b2 → b2 < b3 → Exa Z h' a ad → Ary (ovA Z ty C) Z h' a (.array ty) [.ref b1, .ref b2, .ref b3] → Exa Z h' b1 C → Exa Z h' b2 C → Exa Z h' b3 C → Ary tr Z h' b1 ty [defaultValue ty, defaultValue ty, defaultValue ty] → Ary tr Z h' b2 ty [defaultValue ty, defaultValue ty, defaultValue ty] → Ary tr Z h' b3 ty [defaultValue ty, defaultValue ty, defaultValue ty] → Gt p.tables e below F (T'.setTop (mkF m pc' L (.ref a :: rest)))) : Gt p.tables e below F (T.setTop (mkF m pc L (.int 3 :: .int 3 :: rest))) := by
  subst hp
  obtain ⟨T', h', cA, comp, X', e', E', ⟨cl, A1, A2, A3, A4, A5, A6⟩, O, Ex, I, st⟩ := gridM X hx hZ hown hC had w1 w2 w3 eT (g := mkF m pc L (.int 3 :: .int 3 :: rest)) rfl (hb hby hd) (n := 3) (k := 3) rfl (by decide) (by decide) (N := 3) (by decide) (xs := [h.size + 1, h.size + 2, h.size + 3]) rfl (cap := 3) (by decide) (by decide) (by decide) hdf hdd hc hl
  have i1 := I 0 _ rfl; have i2 := I 1 _ rfl; have i3 := I 2 _ rfl
  have f : ∀ x, Arr Z h' x (newA comp ty 3) ty → Ary tr Z h' x ty [defaultValue ty, defaultValue ty, defaultValue ty] := fun x q => ⟨_, q, trivial, by simp [newA], by show 3 < 2 ^ 31; decide⟩
  refine (k T' h' _ _ _ _ X' e' E' rfl (Nat.lt_succ_self _) (Nat.lt_succ_self _) (Nat.lt_succ_self _) Ex ⟨cl, A1, A2 ▸ O, ?_, by show 3 < 2 ^ 31; decide⟩ i1.2 i2.2 i3.2 (f _ i1.1) (f _ i2.1) (f _ i3.1)).go st
  have sz : cl.slots.size = 3 := A3
  refine List.ext_getElem? fun i => ?_
  by_cases hi : i < 3
  · have q := A5 i (by omega)
    rw [Array.getElem?_toList, q]
    match i, hi with
    | 0, _ => rfl
    | 1, _ => rfl
    | 2, _ => rfl
  · rw [List.getElem?_eq_none (by simp; omega), List.getElem?_eq_none (by simp; omega)]
end OwnA
section OwnL
theorem own_lget {α : Type} {L : List α} {d : α} {i : Nat} {f : α → Value} (h : i < L.length) : (L.map f)[i]? = some (f (L.getD i d)) := by
  rw [List.getElem?_map, List.getD_eq_getElem?_getD, List.getElem?_eq_getElem h]; rfl
theorem own_rg0 {i : Int32} {m : Int} (h : 0 ≤ i.toInt ∧ i.toInt < m) : ¬ i < 0 := by
  rw [Int32.lt_iff_toInt_lt]; have : (0 : Int32).toInt = 0 := by decide
  omega
theorem own_rgl {α : Type} {L : List α} {i : Int32} {m : Int} {n : Nat} (h : 0 ≤ i.toInt ∧ i.toInt < m) (hl : L.length = n) (e : m.toNat = n := by rfl) : i.toNatClampNeg < L.length := by
  show i.toInt.toNat < _; omega
end OwnL
section OwnC
variable {x y : UInt64} {i j : Int64} {a b : Int32}
abbrev dlt (x y : UInt64) : Prop := FP.dcmp x y = some .lt
abbrev dgt (x y : UInt64) : Prop := FP.dcmp x y = some .gt
abbrev deq (x y : UInt64) : Prop := FP.dcmp x y = some .eq
abbrev dle (x y : UInt64) : Prop := FP.dcmp x y = some .lt ∨ FP.dcmp x y = some .eq
abbrev dge (x y : UInt64) : Prop := FP.dcmp x y = some .gt ∨ FP.dcmp x y = some .eq
theorem own_dl_lt_p (h : dge x y) : ifCond.holds .lt (cmpValue (FP.dcmp x y) .l) = false := by
  unfold dge at h; revert h; generalize FP.dcmp x y = o; rcases o with _ | (_ | _ | _) <;> decide
theorem own_dl_lt_n (h : ¬ dge x y) : ifCond.holds .lt (cmpValue (FP.dcmp x y) .l) = true := by
  unfold dge at h; revert h; generalize FP.dcmp x y = o; rcases o with _ | (_ | _ | _) <;> decide
theorem own_dl_ge_p (h : dge x y) : ifCond.holds .ge (cmpValue (FP.dcmp x y) .l) = true := by
  unfold dge at h; revert h; generalize FP.dcmp x y = o; rcases o with _ | (_ | _ | _) <;> decide
theorem own_dl_ge_n (h : ¬ dge x y) : ifCond.holds .ge (cmpValue (FP.dcmp x y) .l) = false := by
  unfold dge at h; revert h; generalize FP.dcmp x y = o; rcases o with _ | (_ | _ | _) <;> decide
theorem own_dl_gt_p (h : dgt x y) : ifCond.holds .gt (cmpValue (FP.dcmp x y) .l) = true := by
  unfold dgt at h; revert h; generalize FP.dcmp x y = o; rcases o with _ | (_ | _ | _) <;> decide
theorem own_dl_gt_n (h : ¬ dgt x y) : ifCond.holds .gt (cmpValue (FP.dcmp x y) .l) = false := by
  unfold dgt at h; revert h; generalize FP.dcmp x y = o; rcases o with _ | (_ | _ | _) <;> decide
theorem own_dl_le_p (h : dgt x y) : ifCond.holds .le (cmpValue (FP.dcmp x y) .l) = false := by
  unfold dgt at h; revert h; generalize FP.dcmp x y = o; rcases o with _ | (_ | _ | _) <;> decide
theorem own_dl_le_n (h : ¬ dgt x y) : ifCond.holds .le (cmpValue (FP.dcmp x y) .l) = true := by
  unfold dgt at h; revert h; generalize FP.dcmp x y = o; rcases o with _ | (_ | _ | _) <;> decide
theorem own_dl_eq_p (h : deq x y) : ifCond.holds .eq (cmpValue (FP.dcmp x y) .l) = true := by
  unfold deq at h; revert h; generalize FP.dcmp x y = o; rcases o with _ | (_ | _ | _) <;> decide
theorem own_dl_eq_n (h : ¬ deq x y) : ifCond.holds .eq (cmpValue (FP.dcmp x y) .l) = false := by
  unfold deq at h; revert h; generalize FP.dcmp x y = o; rcases o with _ | (_ | _ | _) <;> decide
theorem own_dl_ne_p (h : deq x y) : ifCond.holds .ne (cmpValue (FP.dcmp x y) .l) = false := by
  unfold deq at h; revert h; generalize FP.dcmp x y = o; rcases o with _ | (_ | _ | _) <;> decide
theorem own_dl_ne_n (h : ¬ deq x y) : ifCond.holds .ne (cmpValue (FP.dcmp x y) .l) = true := by
  unfold deq at h; revert h; generalize FP.dcmp x y = o; rcases o with _ | (_ | _ | _) <;> decide
theorem own_dg_lt_p (h : dlt x y) : ifCond.holds .lt (cmpValue (FP.dcmp x y) .g) = true := by
  unfold dlt at h; revert h; generalize FP.dcmp x y = o; rcases o with _ | (_ | _ | _) <;> decide
theorem own_dg_lt_n (h : ¬ dlt x y) : ifCond.holds .lt (cmpValue (FP.dcmp x y) .g) = false := by
  unfold dlt at h; revert h; generalize FP.dcmp x y = o; rcases o with _ | (_ | _ | _) <;> decide
theorem own_dg_ge_p (h : dlt x y) : ifCond.holds .ge (cmpValue (FP.dcmp x y) .g) = false := by
  unfold dlt at h; revert h; generalize FP.dcmp x y = o; rcases o with _ | (_ | _ | _) <;> decide
theorem own_dg_ge_n (h : ¬ dlt x y) : ifCond.holds .ge (cmpValue (FP.dcmp x y) .g) = true := by
  unfold dlt at h; revert h; generalize FP.dcmp x y = o; rcases o with _ | (_ | _ | _) <;> decide
theorem own_dg_gt_p (h : dle x y) : ifCond.holds .gt (cmpValue (FP.dcmp x y) .g) = false := by
  unfold dle at h; revert h; generalize FP.dcmp x y = o; rcases o with _ | (_ | _ | _) <;> decide
theorem own_dg_gt_n (h : ¬ dle x y) : ifCond.holds .gt (cmpValue (FP.dcmp x y) .g) = true := by
  unfold dle at h; revert h; generalize FP.dcmp x y = o; rcases o with _ | (_ | _ | _) <;> decide
theorem own_dg_le_p (h : dle x y) : ifCond.holds .le (cmpValue (FP.dcmp x y) .g) = true := by
  unfold dle at h; revert h; generalize FP.dcmp x y = o; rcases o with _ | (_ | _ | _) <;> decide
theorem own_dg_le_n (h : ¬ dle x y) : ifCond.holds .le (cmpValue (FP.dcmp x y) .g) = false := by
  unfold dle at h; revert h; generalize FP.dcmp x y = o; rcases o with _ | (_ | _ | _) <;> decide
theorem own_dg_eq_p (h : deq x y) : ifCond.holds .eq (cmpValue (FP.dcmp x y) .g) = true := by
  unfold deq at h; revert h; generalize FP.dcmp x y = o; rcases o with _ | (_ | _ | _) <;> decide
theorem own_dg_eq_n (h : ¬ deq x y) : ifCond.holds .eq (cmpValue (FP.dcmp x y) .g) = false := by
  unfold deq at h; revert h; generalize FP.dcmp x y = o; rcases o with _ | (_ | _ | _) <;> decide
theorem own_dg_ne_p (h : deq x y) : ifCond.holds .ne (cmpValue (FP.dcmp x y) .g) = false := by
  unfold deq at h; revert h; generalize FP.dcmp x y = o; rcases o with _ | (_ | _ | _) <;> decide
theorem own_dg_ne_n (h : ¬ deq x y) : ifCond.holds .ne (cmpValue (FP.dcmp x y) .g) = true := by
  unfold deq at h; revert h; generalize FP.dcmp x y = o; rcases o with _ | (_ | _ | _) <;> decide
theorem own_lc_lt_p (h : i < j) : ifCond.holds .lt (if i > j then 1 else if i = j then 0 else -1 : Int32) = true := by
  simp only [gt_iff_lt, Int64.lt_iff_toInt_lt, ← Int64.toInt_inj] at h ⊢
  rcases Int.lt_trichotomy i.toInt j.toInt with q | q | q
  · rw [if_neg (by omega), if_neg (by omega)]; first | rfl | (exfalso; omega)
  · rw [if_neg (by omega), if_pos q]; first | rfl | (exfalso; omega)
  · rw [if_pos q]; first | rfl | (exfalso; omega)
theorem own_lc_lt_n (h : ¬ i < j) : ifCond.holds .lt (if i > j then 1 else if i = j then 0 else -1 : Int32) = false := by
  simp only [gt_iff_lt, Int64.lt_iff_toInt_lt, ← Int64.toInt_inj] at h ⊢
  rcases Int.lt_trichotomy i.toInt j.toInt with q | q | q
  · rw [if_neg (by omega), if_neg (by omega)]; first | rfl | (exfalso; omega)
  · rw [if_neg (by omega), if_pos q]; first | rfl | (exfalso; omega)
  · rw [if_pos q]; first | rfl | (exfalso; omega)
theorem own_lc_ge_p (h : i < j) : ifCond.holds .ge (if i > j then 1 else if i = j then 0 else -1 : Int32) = false := by
  simp only [gt_iff_lt, Int64.lt_iff_toInt_lt, ← Int64.toInt_inj] at h ⊢
  rcases Int.lt_trichotomy i.toInt j.toInt with q | q | q
  · rw [if_neg (by omega), if_neg (by omega)]; first | rfl | (exfalso; omega)
  · rw [if_neg (by omega), if_pos q]; first | rfl | (exfalso; omega)
  · rw [if_pos q]; first | rfl | (exfalso; omega)
theorem own_lc_ge_n (h : ¬ i < j) : ifCond.holds .ge (if i > j then 1 else if i = j then 0 else -1 : Int32) = true := by
  simp only [gt_iff_lt, Int64.lt_iff_toInt_lt, ← Int64.toInt_inj] at h ⊢
  rcases Int.lt_trichotomy i.toInt j.toInt with q | q | q
  · rw [if_neg (by omega), if_neg (by omega)]; first | rfl | (exfalso; omega)
  · rw [if_neg (by omega), if_pos q]; first | rfl | (exfalso; omega)
  · rw [if_pos q]; first | rfl | (exfalso; omega)
theorem own_lc_gt_p (h : j < i) : ifCond.holds .gt (if i > j then 1 else if i = j then 0 else -1 : Int32) = true := by
  simp only [gt_iff_lt, Int64.lt_iff_toInt_lt, ← Int64.toInt_inj] at h ⊢
  rcases Int.lt_trichotomy i.toInt j.toInt with q | q | q
  · rw [if_neg (by omega), if_neg (by omega)]; first | rfl | (exfalso; omega)
  · rw [if_neg (by omega), if_pos q]; first | rfl | (exfalso; omega)
  · rw [if_pos q]; first | rfl | (exfalso; omega)
theorem own_lc_gt_n (h : ¬ j < i) : ifCond.holds .gt (if i > j then 1 else if i = j then 0 else -1 : Int32) = false := by
  simp only [gt_iff_lt, Int64.lt_iff_toInt_lt, ← Int64.toInt_inj] at h ⊢
  rcases Int.lt_trichotomy i.toInt j.toInt with q | q | q
  · rw [if_neg (by omega), if_neg (by omega)]; first | rfl | (exfalso; omega)
  · rw [if_neg (by omega), if_pos q]; first | rfl | (exfalso; omega)
  · rw [if_pos q]; first | rfl | (exfalso; omega)
theorem own_lc_le_p (h : j < i) : ifCond.holds .le (if i > j then 1 else if i = j then 0 else -1 : Int32) = false := by
  simp only [gt_iff_lt, Int64.lt_iff_toInt_lt, ← Int64.toInt_inj] at h ⊢
  rcases Int.lt_trichotomy i.toInt j.toInt with q | q | q
  · rw [if_neg (by omega), if_neg (by omega)]; first | rfl | (exfalso; omega)
  · rw [if_neg (by omega), if_pos q]; first | rfl | (exfalso; omega)
  · rw [if_pos q]; first | rfl | (exfalso; omega)
theorem own_lc_le_n (h : ¬ j < i) : ifCond.holds .le (if i > j then 1 else if i = j then 0 else -1 : Int32) = true := by
  simp only [gt_iff_lt, Int64.lt_iff_toInt_lt, ← Int64.toInt_inj] at h ⊢
  rcases Int.lt_trichotomy i.toInt j.toInt with q | q | q
  · rw [if_neg (by omega), if_neg (by omega)]; first | rfl | (exfalso; omega)
  · rw [if_neg (by omega), if_pos q]; first | rfl | (exfalso; omega)
  · rw [if_pos q]; first | rfl | (exfalso; omega)
theorem own_lc_eq_p (h : i = j) : ifCond.holds .eq (if i > j then 1 else if i = j then 0 else -1 : Int32) = true := by
  simp only [gt_iff_lt, Int64.lt_iff_toInt_lt, ← Int64.toInt_inj] at h ⊢
  rcases Int.lt_trichotomy i.toInt j.toInt with q | q | q
  · rw [if_neg (by omega), if_neg (by omega)]; first | rfl | (exfalso; omega)
  · rw [if_neg (by omega), if_pos q]; first | rfl | (exfalso; omega)
  · rw [if_pos q]; first | rfl | (exfalso; omega)
theorem own_lc_eq_n (h : ¬ i = j) : ifCond.holds .eq (if i > j then 1 else if i = j then 0 else -1 : Int32) = false := by
  simp only [gt_iff_lt, Int64.lt_iff_toInt_lt, ← Int64.toInt_inj] at h ⊢
  rcases Int.lt_trichotomy i.toInt j.toInt with q | q | q
  · rw [if_neg (by omega), if_neg (by omega)]; first | rfl | (exfalso; omega)
  · rw [if_neg (by omega), if_pos q]; first | rfl | (exfalso; omega)
  · rw [if_pos q]; first | rfl | (exfalso; omega)
theorem own_lc_ne_p (h : i = j) : ifCond.holds .ne (if i > j then 1 else if i = j then 0 else -1 : Int32) = false := by
  simp only [gt_iff_lt, Int64.lt_iff_toInt_lt, ← Int64.toInt_inj] at h ⊢
  rcases Int.lt_trichotomy i.toInt j.toInt with q | q | q
  · rw [if_neg (by omega), if_neg (by omega)]; first | rfl | (exfalso; omega)
  · rw [if_neg (by omega), if_pos q]; first | rfl | (exfalso; omega)
  · rw [if_pos q]; first | rfl | (exfalso; omega)
theorem own_lc_ne_n (h : ¬ i = j) : ifCond.holds .ne (if i > j then 1 else if i = j then 0 else -1 : Int32) = true := by
  simp only [gt_iff_lt, Int64.lt_iff_toInt_lt, ← Int64.toInt_inj] at h ⊢
  rcases Int.lt_trichotomy i.toInt j.toInt with q | q | q
  · rw [if_neg (by omega), if_neg (by omega)]; first | rfl | (exfalso; omega)
  · rw [if_neg (by omega), if_pos q]; first | rfl | (exfalso; omega)
  · rw [if_pos q]; first | rfl | (exfalso; omega)
theorem own_i0_lt_p (h : a < 0) : ifCond.holds .lt a = true := (if0 _ _).trans (tlt h).1
theorem own_i0_lt_n (h : ¬ a < 0) : ifCond.holds .lt a = false := (if0 _ _).trans (flt h).1
theorem own_i0_ge_p (h : a < 0) : ifCond.holds .ge a = false := (if0 _ _).trans (tlt h).2.1
theorem own_i0_ge_n (h : ¬ a < 0) : ifCond.holds .ge a = true := (if0 _ _).trans (flt h).2.1
theorem own_i0_gt_p (h : 0 < a) : ifCond.holds .gt a = true := (if0 _ _).trans (tlt h).2.2.1
theorem own_i0_gt_n (h : ¬ 0 < a) : ifCond.holds .gt a = false := (if0 _ _).trans (flt h).2.2.1
theorem own_i0_le_p (h : 0 < a) : ifCond.holds .le a = false := (if0 _ _).trans (tlt h).2.2.2
theorem own_i0_le_n (h : ¬ 0 < a) : ifCond.holds .le a = true := (if0 _ _).trans (flt h).2.2.2
theorem own_i0_eq_p (h : a = 0) : ifCond.holds .eq a = true := (if0 _ _).trans (teq h).1
theorem own_i0_eq_n (h : ¬ a = 0) : ifCond.holds .eq a = false := (if0 _ _).trans (feq h).1
theorem own_i0_ne_p (h : a = 0) : ifCond.holds .ne a = false := (if0 _ _).trans (teq h).2
theorem own_i0_ne_n (h : ¬ a = 0) : ifCond.holds .ne a = true := (if0 _ _).trans (feq h).2
theorem own_ic_lt_p (h : a < b) : if_icmp.holds .lt a b = true := (tlt h).1
theorem own_ic_lt_n (h : ¬ a < b) : if_icmp.holds .lt a b = false := (flt h).1
theorem own_ic_ge_p (h : a < b) : if_icmp.holds .ge a b = false := (tlt h).2.1
theorem own_ic_ge_n (h : ¬ a < b) : if_icmp.holds .ge a b = true := (flt h).2.1
theorem own_ic_gt_p (h : b < a) : if_icmp.holds .gt a b = true := (tlt h).2.2.1
theorem own_ic_gt_n (h : ¬ b < a) : if_icmp.holds .gt a b = false := (flt h).2.2.1
theorem own_ic_le_p (h : b < a) : if_icmp.holds .le a b = false := (tlt h).2.2.2
theorem own_ic_le_n (h : ¬ b < a) : if_icmp.holds .le a b = true := (flt h).2.2.2
theorem own_ic_eq_p (h : a = b) : if_icmp.holds .eq a b = true := (teq h).1
theorem own_ic_eq_n (h : ¬ a = b) : if_icmp.holds .eq a b = false := (feq h).1
theorem own_ic_ne_p (h : a = b) : if_icmp.holds .ne a b = false := (teq h).2
theorem own_ic_ne_n (h : ¬ a = b) : if_icmp.holds .ne a b = true := (feq h).2
end OwnC
section OwnF
open Jvm.FP.Core (val64 zval zmag b64 one64 DFin DZero good_b64 val64_fits inUnits signed sgn)
/-- the value in units of 2^-1074 -/
abbrev zv (x : UInt64) : Int := zval b64 (val64 x)
def uu : Int := ((one64 : Nat) : Int)
theorem uu_pos : 0 < uu := by have := FP.Core.one64_pos; show (0 : Int) < ((one64 : Nat) : Int); omega
theorem own_add_le {x y V : UInt64} (hx : DFin x) (hy : DFin y) (hV : val64 V ≠ .nan) (h : zv x + zv y ≤ zv V) : zv (FP.dadd x y) ≤ zv V := by
  show zval b64 (val64 (FP.Core.dadd x y)) ≤ _
  rw [FP.Core.val64_dadd]; exact FP.Core.sum_le good_b64 hx hy (val64_fits x) (val64_fits y) (val64_fits V) hV h
theorem own_add_ge {x y V : UInt64} (hx : DFin x) (hy : DFin y) (hV : val64 V ≠ .nan) (h : zv V ≤ zv x + zv y) : zv V ≤ zv (FP.dadd x y) := by
  show _ ≤ zval b64 (val64 (FP.Core.dadd x y))
  rw [FP.Core.val64_dadd]; exact FP.Core.sum_ge good_b64 hx hy (val64_fits x) (val64_fits y) (val64_fits V) hV h
theorem own_neg_fin {y : UInt64} (hy : DFin y) : ∃ s c q, FP.Core.negate (val64 y) = .fin s c q := by
  obtain ⟨s, c, q, h⟩ := hy; exact ⟨!s, c, q, by rw [h]; rfl⟩
theorem own_sub_le {x y V : UInt64} (hx : DFin x) (hy : DFin y) (hV : val64 V ≠ .nan) (h : zv x - zv y ≤ zv V) : zv (FP.dsub x y) ≤ zv V := by
  show zval b64 (val64 (FP.Core.dsub x y)) ≤ _
  rw [FP.Core.val64_dsub]; exact FP.Core.sum_le good_b64 hx (own_neg_fin hy) (val64_fits x) (FP.Core.negate_fits (val64_fits y)) (val64_fits V) hV (by rw [FP.Core.zval_negate]; unfold zv at h; omega)
theorem own_sub_ge {x y V : UInt64} (hx : DFin x) (hy : DFin y) (hV : val64 V ≠ .nan) (h : zv V ≤ zv x - zv y) : zv V ≤ zv (FP.dsub x y) := by
  show _ ≤ zval b64 (val64 (FP.Core.dsub x y))
  rw [FP.Core.val64_dsub]; exact FP.Core.sum_ge good_b64 hx (own_neg_fin hy) (val64_fits x) (FP.Core.negate_fits (val64_fits y)) (val64_fits V) hV (by rw [FP.Core.zval_negate]; unfold zv at h; omega)
theorem own_signed_mul (s t : Bool) (m n : Nat) : signed (s != t) (m * n) = signed s m * signed t n := by
  cases s <;> cases t <;> simp [signed, Int.neg_mul, Int.mul_neg]
theorem own_qm : b64.qmin = -1074 := by decide
theorem own_pow_e0 : ((2 ^ (b64.qmin - 2 * b64.qmin).toNat : Nat) : Int) = uu := by
  show _ = ((one64 : Nat) : Int); rw [← FP.Core.pow_qmin64]; congr 3
theorem own_mul_le {x y V : UInt64} (hx : DFin x) (hy : DFin y) (hV : val64 V ≠ .nan) (h : zv x * zv y ≤ zv V * uu) : zv (FP.dmul x y) ≤ zv V := by
  show zval b64 (val64 (FP.Core.dmul x y)) ≤ _
  obtain ⟨s, c, q, ex⟩ := hx
  obtain ⟨t, d, r, ey⟩ := hy
  have fx := val64_fits x; have fy := val64_fits y
  rw [ex] at fx; rw [ey] at fy
  unfold zv at h
  rw [ex, ey] at h
  rw [FP.Core.val64_dmul, ex, ey]
  obtain ⟨e1, e2, e3⟩ := FP.Core.product_units fx fy
  rw [e1]
  refine FP.Core.zval_round_le good_b64 (val64_fits V) hV (e0 := 2 * b64.qmin) (by rw [own_qm]; decide) e2 ?_
  rw [e3, own_pow_e0, own_signed_mul]; exact h
theorem own_mul_ge {x y V : UInt64} (hx : DFin x) (hy : DFin y) (hV : val64 V ≠ .nan) (h : zv V * uu ≤ zv x * zv y) : zv V ≤ zv (FP.dmul x y) := by
  show _ ≤ zval b64 (val64 (FP.Core.dmul x y))
  obtain ⟨s, c, q, ex⟩ := hx
  obtain ⟨t, d, r, ey⟩ := hy
  have fx := val64_fits x; have fy := val64_fits y
  rw [ex] at fx; rw [ey] at fy
  unfold zv at h
  rw [ex, ey] at h
  rw [FP.Core.val64_dmul, ex, ey]
  obtain ⟨e1, e2, e3⟩ := FP.Core.product_units fx fy
  rw [e1]
  refine FP.Core.zval_round_ge good_b64 (val64_fits V) hV (e0 := 2 * b64.qmin) (by rw [own_qm]; decide) e2 ?_
  rw [e3, own_pow_e0, own_signed_mul]; exact h
/-- a quotient's two sides in whole units -/
theorem own_div_units {c d : Nat} {q r : Int} (hq : -1074 ≤ q) (hr : -1074 ≤ r) (hr2 : r ≤ 971) (v : Nat) :
    ∃ k : Nat, 0 < k ∧ inUnits c (q - r) (-2148) * k = inUnits c q (-1074) * one64 * 2 ^ 1074 ∧ (v * 2 ^ (1074 : Nat) * d) * k = v * inUnits d r (-1074) * 2 ^ 1074 := by
  refine ⟨2 ^ (r + 1074).toNat, Nat.two_pow_pos _, ?_, ?_⟩
  · unfold inUnits one64
    rw [Nat.mul_assoc, ← Nat.pow_add, Nat.mul_assoc, Nat.mul_assoc, ← Nat.pow_add, ← Nat.pow_add, show (q - r - -2148).toNat + (r + 1074).toNat = (q - -1074).toNat + (1074 + 1074) by omega]
  · unfold inUnits
    rw [show (r - -1074).toNat = (r + 1074).toNat by omega]
    generalize 2 ^ (1074 : Nat) = w
    generalize 2 ^ (r + 1074).toNat = u
    simp only [Nat.mul_comm, Nat.mul_left_comm, Nat.mul_assoc]
theorem own_div_mag_le {x y V : UInt64} (hx : DFin x) (hy : DFin y) (hz : ¬ DZero y) (hV : val64 V ≠ .nan) (h : zmag b64 (val64 x) * one64 ≤ zmag b64 (val64 V) * zmag b64 (val64 y)) : zmag b64 (val64 (FP.ddiv x y)) ≤ zmag b64 (val64 V) := by
  show zmag b64 (val64 (FP.Core.ddiv x y)) ≤ _
  obtain ⟨s, c, q, ex⟩ := hx
  obtain ⟨t, d, r, ey⟩ := hy
  have fx := val64_fits x; have fy := val64_fits y
  rw [ex] at fx; rw [ey] at fy
  have hd : d ≠ 0 := fun e => hz ⟨t, r, by rw [ey, e]⟩
  rw [FP.Core.val64_ddiv, ex, ey]
  rw [ex, ey] at h
  show zmag b64 (if d = 0 then _ else FP.Core.roundRatio b64 (s != t) c d (q - r)) ≤ _
  rw [if_neg hd]
  have b1 : -1074 ≤ q := own_qm ▸ fx.2.1
  have b2 : -1074 ≤ r := own_qm ▸ fy.2.1
  have b3 : r ≤ 971 := fy.2.2.1
  refine FP.Core.zmag_roundRatio_le good_b64 (Nat.pos_of_ne_zero hd) (val64_fits V) hV (e0 := -2148) (by rw [own_qm]; decide) (by omega) ?_
  obtain ⟨k, hk, k1, k2⟩ := own_div_units (c := c) (d := d) b1 b2 b3 (zmag b64 (val64 V))
  rw [show (b64.qmin - -2148).toNat = 1074 by rw [own_qm]; decide]
  refine Nat.le_of_mul_le_mul_right ?_ hk
  rw [k1, k2]
  exact Nat.mul_le_mul_right _ (by have := h; simp only [zmag, own_qm] at this; exact this)
theorem own_div_mag_ge {x y V : UInt64} (hx : DFin x) (hy : DFin y) (hz : ¬ DZero y) (h : zmag b64 (val64 V) * zmag b64 (val64 y) ≤ zmag b64 (val64 x) * one64) : zmag b64 (val64 V) ≤ zmag b64 (val64 (FP.ddiv x y)) := by
  show _ ≤ zmag b64 (val64 (FP.Core.ddiv x y))
  obtain ⟨s, c, q, ex⟩ := hx
  obtain ⟨t, d, r, ey⟩ := hy
  have fx := val64_fits x; have fy := val64_fits y
  rw [ex] at fx; rw [ey] at fy
  have hd : d ≠ 0 := fun e => hz ⟨t, r, by rw [ey, e]⟩
  rw [FP.Core.val64_ddiv, ex, ey]
  rw [ex, ey] at h
  show _ ≤ zmag b64 (if d = 0 then _ else FP.Core.roundRatio b64 (s != t) c d (q - r))
  rw [if_neg hd]
  have b1 : -1074 ≤ q := own_qm ▸ fx.2.1
  have b2 : -1074 ≤ r := own_qm ▸ fy.2.1
  have b3 : r ≤ 971 := fy.2.2.1
  refine FP.Core.zmag_roundRatio_ge good_b64 (Nat.pos_of_ne_zero hd) (val64_fits V) (e0 := -2148) (by rw [own_qm]; decide) (by omega) ?_
  obtain ⟨k, hk, k1, k2⟩ := own_div_units (c := c) (d := d) b1 b2 b3 (zmag b64 (val64 V))
  rw [show (b64.qmin - -2148).toNat = 1074 by rw [own_qm]; decide]
  refine Nat.le_of_mul_le_mul_right ?_ hk
  rw [k1, k2]
  exact Nat.mul_le_mul_right _ (by have := h; simp only [zmag, own_qm] at this; exact this)
theorem own_sgn_div {x y : UInt64} (hx : DFin x) (hy : DFin y) (hz : ¬ DZero y) : sgn (val64 (FP.ddiv x y)) = (sgn (val64 x) != sgn (val64 y)) := by
  show sgn (val64 (FP.Core.ddiv x y)) = _
  obtain ⟨s, c, q, ex⟩ := hx
  obtain ⟨t, d, r, ey⟩ := hy
  have hd : d ≠ 0 := fun e => hz ⟨t, r, by rw [ey, e]⟩
  rw [FP.Core.val64_ddiv, ex, ey]
  show sgn (if d = 0 then _ else FP.Core.roundRatio b64 (s != t) c d (q - r)) = _
  rw [if_neg hd, FP.Core.sgn_roundRatio]; rfl
theorem own_notz {y : UInt64} (hy : DFin y) (h : 0 < zv y) : ¬ DZero y := fun q => by have := q.zval; unfold zv at h; omega
theorem own_possg {y : UInt64} (h : 0 < zv y) : sgn (val64 y) = false ∧ ((zmag b64 (val64 y) : Nat) : Int) = zv y := by
  unfold zv zval at *
  cases e : sgn (val64 y) <;> rw [e] at h <;> simp only [signed, if_true, Bool.false_eq_true, if_false] at h ⊢
  · exact ⟨trivial, trivial⟩
  · omega
theorem own_div_le {x y V : UInt64} (hx : DFin x) (hy : DFin y) (h0 : 0 < zv y) (hV : val64 V ≠ .nan) (h : zv x * uu ≤ zv V * zv y) : zv (FP.ddiv x y) ≤ zv V := by
  have hz := own_notz hy h0
  obtain ⟨s1, s2⟩ := own_possg h0
  have sd := own_sgn_div hx hy hz
  have L := own_div_mag_le (V := V) hx hy hz hV
  have G := own_div_mag_ge (V := V) hx hy hz
  rw [← s2] at h
  have hy0 : 0 < zmag b64 (val64 y) := by omega
  unfold zv zval at h ⊢
  rw [sd, s1]
  have u0 := FP.Core.one64_pos
  have e : uu = ((one64 : Nat) : Int) := rfl
  rw [e] at h
  generalize zmag b64 (val64 y) = my at *
  generalize zmag b64 (val64 x) = mx at *
  generalize zmag b64 (val64 V) = mv at *
  generalize zmag b64 (val64 (FP.ddiv x y)) = md at *
  generalize one64 = u at *
  have p1 : ((mx : Nat) : Int) * ((u : Nat) : Int) = ((mx * u : Nat) : Int) := (Int.natCast_mul ..).symm
  have p2 : ((mv : Nat) : Int) * ((my : Nat) : Int) = ((mv * my : Nat) : Int) := (Int.natCast_mul ..).symm
  have z1 : mv * my = 0 → mv = 0 := fun q => by rcases Nat.mul_eq_zero.mp q with q | q <;> omega
  generalize sgn (val64 x) = sx at h ⊢
  generalize sgn (val64 V) = sV at h ⊢
  cases sx <;> cases sV <;> simp only [signed, if_true, Bool.false_eq_true, if_false, Int.neg_mul, p1, p2, bne_self_eq_false, Bool.bne_false] at h ⊢
  · have := L (by omega); omega
  · have := L (by omega); have := z1 (by omega); omega
  · omega
  · have := G (by omega); omega
theorem own_div_ge {x y V : UInt64} (hx : DFin x) (hy : DFin y) (h0 : 0 < zv y) (hV : val64 V ≠ .nan) (h : zv V * zv y ≤ zv x * uu) : zv V ≤ zv (FP.ddiv x y) := by
  have hz := own_notz hy h0
  obtain ⟨s1, s2⟩ := own_possg h0
  have sd := own_sgn_div hx hy hz
  have L := own_div_mag_le (V := V) hx hy hz hV
  have G := own_div_mag_ge (V := V) hx hy hz
  rw [← s2] at h
  have hy0 : 0 < zmag b64 (val64 y) := by omega
  unfold zv zval at h ⊢
  rw [sd, s1]
  have u0 := FP.Core.one64_pos
  have e : uu = ((one64 : Nat) : Int) := rfl
  rw [e] at h
  generalize zmag b64 (val64 y) = my at *
  generalize zmag b64 (val64 x) = mx at *
  generalize zmag b64 (val64 V) = mv at *
  generalize zmag b64 (val64 (FP.ddiv x y)) = md at *
  generalize one64 = u at *
  have p1 : ((mx : Nat) : Int) * ((u : Nat) : Int) = ((mx * u : Nat) : Int) := (Int.natCast_mul ..).symm
  have p2 : ((mv : Nat) : Int) * ((my : Nat) : Int) = ((mv * my : Nat) : Int) := (Int.natCast_mul ..).symm
  have z1 : mv * my = 0 → mv = 0 := fun q => by rcases Nat.mul_eq_zero.mp q with q | q <;> omega
  generalize sgn (val64 x) = sx at h ⊢
  generalize sgn (val64 V) = sV at h ⊢
  cases sx <;> cases sV <;> simp only [signed, if_true, Bool.false_eq_true, if_false, Int.neg_mul, p1, p2, bne_self_eq_false, Bool.bne_false] at h ⊢
  · have := G (by omega); omega
  · omega
  · have := L (by omega); have := z1 (by omega); omega
  · have := L (by omega); omega
theorem own_bits_of_zv {x : UInt64} (hn : val64 x ≠ .nan) {V : UInt64} (hV : DFin V) (h : zv x = zv V) : DFin x := by
  have q := hV.zval_lt
  cases e : val64 x with
  | nan => exact absurd e hn
  | fin s c r => exact ⟨s, c, r, e⟩
  | inf s =>
    exfalso
    have a1 : (zv x).natAbs = zmag b64 (val64 x) := by unfold zv zval; cases sgn (val64 x) <;> simp [signed]
    have a2 : (zv V).natAbs = zmag b64 (val64 V) := by unfold zv zval; cases sgn (val64 V) <;> simp [signed]
    rw [h, a2, e] at a1
    rw [a1] at q
    exact Nat.lt_irrefl _ q
/-- every n / 2^k of at most 53 digits is a double -/
theorem own_rep (n : Int) (k : Nat) (h1 : n.natAbs < 9007199254740992) (hk : k ≤ 1074) : ∃ V : UInt64, DFin V ∧ zv V * ((2 ^ k : Nat) : Int) = n * uu := by
  obtain ⟨c', q', e1, e2⟩ := FP.Core.round_exact good_b64 (decide (n < 0)) (c := n.natAbs) (q := -(k : Int)) (by exact h1) (by rw [own_qm]; omega) (by have h971 : b64.qmax = 971 := (by decide); omega)
  have f := FP.Core.round_fits good_b64 (.fin (decide (n < 0)) n.natAbs (-(k : Int)))
  refine ⟨FP.Core.of64 (FP.Core.round b64 (.fin (decide (n < 0)) n.natAbs (-(k : Int)))), ⟨decide (n < 0), c', q', by rw [FP.Core.val64_of64 f, e1]⟩, ?_⟩
  unfold zv
  rw [FP.Core.val64_of64 f, e1]
  show signed (decide (n < 0)) (inUnits c' q' b64.qmin) * _ = _
  rw [e2]
  unfold inUnits
  rw [FP.Core.signed_mul, Int.mul_assoc, ← Int.natCast_mul, ← Nat.pow_add, show (-(k : Int) - b64.qmin).toNat + k = 1074 by rw [own_qm]; omega]
  have s0 : signed (decide (n < 0)) n.natAbs = n := by
    unfold signed
    by_cases q : n < 0 <;> simp [q] <;> omega
  rw [s0]; rfl
/-- x is the number n / 2^k -/
def Dy (x : UInt64) (n : Int) (k : Nat) : Prop := DFin x ∧ zv x * ((2 ^ k : Nat) : Int) = n * uu
theorem Dy.fin {x : UInt64} {n : Int} {k : Nat} (D : Dy x n k) : DFin x := D.1
theorem Dy.nn {x : UInt64} {n : Int} {k : Nat} (D : Dy x n k) : NoNaN64 x := Fl.val64_no.mpr D.1.ne_nan
theorem own_pk (k : Nat) : 0 < ((2 ^ k : Nat) : Int) := by have := Nat.two_pow_pos k; omega
theorem own_mid {a b c d : Int} {k : Nat} (h1 : a * ((2 ^ k : Nat) : Int) = c) (h2 : b * ((2 ^ k : Nat) : Int) = d) : (a ≤ b ↔ c ≤ d) ∧ (a < b ↔ c < d) ∧ (a = b ↔ c = d) := by
  have p := own_pk k
  subst h1 h2
  generalize ((2 ^ k : Nat) : Int) = w at *
  exact ⟨(Int.mul_le_mul_right p).symm, (Int.mul_lt_mul_right p).symm, ⟨fun q => by rw [q], fun q => Int.eq_of_mul_eq_mul_right (by omega) q⟩⟩
theorem Dy.cmp {x y : UInt64} {n m : Int} {k : Nat} (A : Dy x n k) (B : Dy y m k) : FP.dcmp x y = some (compare n m) := by
  show FP.Core.dcmp x y = _
  rw [FP.Core.dcmp_zval A.1.ne_nan B.1.ne_nan]
  congr 1
  obtain ⟨-, q2, q3⟩ := own_mid A.2 B.2
  have u := uu_pos
  refine FP.Core.compare_congr (q2.trans ⟨fun q => ?_, fun q => Int.mul_lt_mul_of_pos_right q u⟩) (q3.trans ⟨fun q => Int.eq_of_mul_eq_mul_right (by omega) q, fun q => by rw [q]⟩)
  exact Int.lt_of_mul_lt_mul_right q (Int.le_of_lt u)
theorem Dy.lt {x y : UInt64} {n m : Int} {k : Nat} (A : Dy x n k) (B : Dy y m k) : FP.dcmp x y = some .lt ↔ n < m := by
  rw [A.cmp B, Option.some.injEq, FP.Core.compare_lt_iff]
theorem Dy.gt {x y : UInt64} {n m : Int} {k : Nat} (A : Dy x n k) (B : Dy y m k) : FP.dcmp x y = some .gt ↔ m < n := by
  rw [A.cmp B, Option.some.injEq, FP.Core.compare_gt_iff]
theorem Dy.eq {x y : UInt64} {n m : Int} {k : Nat} (A : Dy x n k) (B : Dy y m k) : FP.dcmp x y = some .eq ↔ n = m := by
  rw [A.cmp B, Option.some.injEq, FP.Core.compare_eq_iff]
theorem Dy.of_zv {x V : UInt64} {n : Int} {k : Nat} (hn : val64 x ≠ .nan) (hV : DFin V) (e : zv V * ((2 ^ k : Nat) : Int) = n * uu) (h1 : zv x ≤ zv V) (h2 : zv V ≤ zv x) : Dy x n k := by
  have q : zv x = zv V := by omega
  exact ⟨own_bits_of_zv hn hV q, by rw [q]; exact e⟩
theorem own_nn_add {x y : UInt64} (hx : DFin x) (hy : DFin y) : val64 (FP.dadd x y) ≠ .nan := Fl.val64_no.mp (Fl.noNaN64_no.mpr (FP.Core.dadd_out hx.notNaN hy))
theorem own_nn_sub {x y : UInt64} (hx : DFin x) (hy : DFin y) : val64 (FP.dsub x y) ≠ .nan := Fl.val64_no.mp (Fl.noNaN64_no.mpr (FP.Core.dsub_out hx.notNaN hy))
theorem own_nn_mul {x y : UInt64} (hx : DFin x) (hy : DFin y) : val64 (FP.dmul x y) ≠ .nan := Fl.val64_no.mp (Fl.noNaN64_no.mpr (FP.Core.dmul_out hx hy))
theorem own_nn_div {x y : UInt64} (hx : DFin x) (hy : DFin y) (hz : ¬ DZero y) : val64 (FP.ddiv x y) ≠ .nan := Fl.val64_no.mp (Fl.noNaN64_no.mpr (FP.Core.ddiv_out hx.notNaN hy hz))
theorem Dy.add {x y : UInt64} {n m : Int} {k : Nat} (A : Dy x n k) (B : Dy y m k) (hb : (n + m).natAbs < 9007199254740992) (hk : k ≤ 1074) : Dy (FP.dadd x y) (n + m) k := by
  obtain ⟨V, fV, eV⟩ := own_rep (n + m) k hb hk
  have e : (zv x + zv y) * ((2 ^ k : Nat) : Int) = (n + m) * uu := by rw [Int.add_mul, A.2, B.2, Int.add_mul]
  obtain ⟨-, -, q⟩ := own_mid e eV
  have q := q.mpr rfl
  exact Dy.of_zv (own_nn_add A.1 B.1) fV eV (own_add_le A.1 B.1 fV.ne_nan (by omega)) (own_add_ge A.1 B.1 fV.ne_nan (by omega))
theorem Dy.sub {x y : UInt64} {n m : Int} {k : Nat} (A : Dy x n k) (B : Dy y m k) (hb : (n - m).natAbs < 9007199254740992) (hk : k ≤ 1074) : Dy (FP.dsub x y) (n - m) k := by
  obtain ⟨V, fV, eV⟩ := own_rep (n - m) k hb hk
  have e : (zv x - zv y) * ((2 ^ k : Nat) : Int) = (n - m) * uu := by rw [Int.sub_mul, A.2, B.2, Int.sub_mul]
  obtain ⟨-, -, q⟩ := own_mid e eV
  have q := q.mpr rfl
  exact Dy.of_zv (own_nn_sub A.1 B.1) fV eV (own_sub_le A.1 B.1 fV.ne_nan (by omega)) (own_sub_ge A.1 B.1 fV.ne_nan (by omega))
theorem own_alg1 {X Y K J n m u : Int} (a : X * K = n * u) (b : Y * J = m * u) : X * Y * (K * J) = n * m * u * u := by
  calc X * Y * (K * J) = (X * K) * (Y * J) := by ac_rfl
    _ = (n * u) * (m * u) := by rw [a, b]
    _ = n * m * u * u := by ac_rfl
theorem own_alg2 {V K N u : Int} (e : V * K = N * u) : V * u * K = N * u * u := by
  calc V * u * K = V * K * u := by ac_rfl
    _ = N * u * u := by rw [e]
theorem own_alg3 {X Y V K J I n m r u : Int} (a : X * K = n * u) (b : Y * J = m * u) (e : V * I = r * u) : X * u * (K * (J * I)) = n * (J * I) * (u * u) ∧ V * Y * (K * (J * I)) = r * m * K * (u * u) := by
  constructor
  · calc X * u * (K * (J * I)) = (X * K) * u * (J * I) := by ac_rfl
      _ = n * u * u * (J * I) := by rw [a]
      _ = n * (J * I) * (u * u) := by ac_rfl
  · calc V * Y * (K * (J * I)) = (V * I) * (Y * J) * K := by ac_rfl
      _ = (r * u) * (m * u) * K := by rw [e, b]
      _ = r * m * K * (u * u) := by ac_rfl
theorem Dy.mul {x y : UInt64} {n m : Int} {k j : Nat} (A : Dy x n k) (B : Dy y m j) (hb : (n * m).natAbs < 9007199254740992) (hk : k + j ≤ 1074) : Dy (FP.dmul x y) (n * m) (k + j) := by
  obtain ⟨V, fV, eV⟩ := own_rep (n * m) (k + j) hb hk
  have e : (zv x * zv y) * ((2 ^ (k + j) : Nat) : Int) = (n * m) * uu * uu := by
    rw [Nat.pow_add, Int.natCast_mul]; exact own_alg1 A.2 B.2
  have e' : (zv V * uu) * ((2 ^ (k + j) : Nat) : Int) = (n * m) * uu * uu := own_alg2 eV
  obtain ⟨-, -, q⟩ := own_mid e e'
  have q := q.mpr rfl
  exact Dy.of_zv (own_nn_mul A.1 B.1) fV eV (own_mul_le A.1 B.1 fV.ne_nan (by omega)) (own_mul_ge A.1 B.1 fV.ne_nan (by omega))
theorem Dy.pos {y : UInt64} {m : Int} {j : Nat} (B : Dy y m j) (hm : 0 < m) : 0 < zv y := by
  have p := own_pk j
  have b := B.2
  have : 0 < m * uu := Int.mul_pos hm uu_pos
  rw [← b] at this
  exact Int.lt_of_mul_lt_mul_right (by rw [Int.zero_mul]; exact this) (Int.le_of_lt p)
/-- an exact quotient -/
theorem Dy.div {x y : UInt64} {n m r : Int} {k j i : Nat} (A : Dy x n k) (B : Dy y m j) (hm : 0 < m) (hq : n * ((2 ^ (j + i) : Nat) : Int) = r * m * ((2 ^ k : Nat) : Int)) (hb : r.natAbs < 9007199254740992) (hi : i ≤ 1074) : Dy (FP.ddiv x y) r i := by
  obtain ⟨V, fV, eV⟩ := own_rep r i hb hi
  have h0 := B.pos hm
  have e : zv x * uu = zv V * zv y := by
    have pk := own_pk k; have pj := own_pk j; have pi := own_pk i
    rw [Nat.pow_add, Int.natCast_mul] at hq
    obtain ⟨a1, a2⟩ := own_alg3 A.2 B.2 eV
    refine Int.eq_of_mul_eq_mul_right (a := ((2 ^ k : Nat) : Int) * (((2 ^ j : Nat) : Int) * ((2 ^ i : Nat) : Int))) (Int.ne_of_gt (Int.mul_pos pk (Int.mul_pos pj pi))) ?_
    rw [a1, a2, hq]
  exact Dy.of_zv (own_nn_div A.1 B.1 (own_notz B.1 h0)) fV eV (own_div_le A.1 B.1 h0 fV.ne_nan (by omega)) (own_div_ge A.1 B.1 h0 fV.ne_nan (by omega))
theorem Dy.up {x : UInt64} {n : Int} {k : Nat} (A : Dy x n k) (j : Nat) : Dy x (n * ((2 ^ j : Nat) : Int)) (k + j) := by
  refine ⟨A.1, ?_⟩
  rw [Nat.pow_add, Int.natCast_mul, ← Int.mul_assoc, A.2]; exact Int.mul_right_comm _ _ _
theorem Dy.to {x : UInt64} {n n' : Int} {k : Nat} (A : Dy x n k) (e : n = n') : Dy x n' k := e ▸ A
theorem own_dy_int {x : UInt64} {i : Int} (h : FP.Core.DInt i x) : Dy x i 0 := by
  have z := FP.Core.DInt_zval h
  have n := FP.Core.DInt_ne_nan h
  refine ⟨?_, by rw [show ((2 ^ 0 : Nat) : Int) = 1 from rfl, Int.mul_one]; exact z⟩
  unfold FP.Core.DInt at h
  cases e : val64 x with
  | nan => exact absurd e n
  | inf s => rw [e] at h; exact h.elim
  | fin s c q => exact ⟨s, c, q, e⟩
theorem dy_i2d (a : Int32) : Dy (FP.i2d a) a.toInt 0 := own_dy_int (FP.Core.i2d_int a)
theorem dy_l2d {a : Int64} (h1 : -9007199254740992 < a.toInt) (h2 : a.toInt < 9007199254740992) : Dy (FP.l2d a) a.toInt 0 := own_dy_int (FP.Core.l2d_whole ⟨h1, h2⟩)
/-- 0.0 + x is x, bit for bit, for a finite x that isn't -0.0 -/
theorem own_zero_add {x : UInt64} {s : Bool} {c : Nat} {q : Int} (hx : val64 x = .fin s c q) (h0 : c = 0 → s = false) : FP.dadd 0 x = x := by
  show FP.Core.dadd 0 x = x
  have fx := val64_fits x
  rw [hx] at fx
  have hq := fx.2.1
  have key : val64 (FP.Core.dadd 0 x) = .fin s c q := by
    rw [FP.Core.val64_dadd, FP.Core.val64_zero, hx]
    have m : min b64.qmin q = b64.qmin := by omega
    have u : FP.Core.sumUnits false 0 b64.qmin s c q b64.qmin = signed s (inUnits c q b64.qmin) := by
      unfold FP.Core.sumUnits; simp [signed, inUnits]
    show FP.Core.roundRatio b64 (FP.Core.sumSign false s (FP.Core.sumUnits false 0 b64.qmin s c q (min b64.qmin q))) (FP.Core.sumUnits false 0 b64.qmin s c q (min b64.qmin q)).natAbs 1 (min b64.qmin q) = _
    rw [m, u]
    have na : (signed s (inUnits c q b64.qmin)).natAbs = inUnits c q b64.qmin := by unfold signed; cases s <;> simp
    have sg : FP.Core.sumSign false s (signed s (inUnits c q b64.qmin)) = s := by
      have pp := Nat.two_pow_pos (q - b64.qmin).toNat
      unfold FP.Core.sumSign
      by_cases c0 : c = 0
      · subst c0; simp [signed, inUnits, h0 rfl]
      · have : 0 < inUnits c q b64.qmin := Nat.mul_pos (Nat.pos_of_ne_zero c0) pp
        cases s <;> simp [signed] <;> omega
    rw [na, sg]
    refine FP.Core.roundRatio_exact good_b64 (by decide) fx ?_
    rw [show (b64.qmin - q).toNat = 0 by omega, Nat.pow_zero, Nat.mul_one, Nat.mul_one]; rfl
  exact FP.Core.val64_inj (by rw [key]; exact FP.Core.Datum.noConfusion) (key.trans hx.symm)
theorem own_scale3 {X Y n m r : Int} {k j i : Nat} {V : Int} (a : X * ((2 ^ k : Nat) : Int) = n * uu) (b : Y * ((2 ^ j : Nat) : Int) = m * uu) (e : V * ((2 ^ i : Nat) : Int) = r * uu) :
    X * uu * (((2 ^ k : Nat) : Int) * (((2 ^ j : Nat) : Int) * ((2 ^ i : Nat) : Int))) = n * ((2 ^ (j + i) : Nat) : Int) * (uu * uu) ∧ V * Y * (((2 ^ k : Nat) : Int) * (((2 ^ j : Nat) : Int) * ((2 ^ i : Nat) : Int))) = r * m * ((2 ^ k : Nat) : Int) * (uu * uu) := by
  rw [Nat.pow_add, Int.natCast_mul]; exact own_alg3 a b e
theorem Dy.div_le {x y V : UInt64} {n m r : Int} {k j i : Nat} (A : Dy x n k) (B : Dy y m j) (hm : 0 < m) (C : Dy V r i) (h : n * ((2 ^ (j + i) : Nat) : Int) ≤ r * m * ((2 ^ k : Nat) : Int)) : zv (FP.ddiv x y) ≤ zv V := by
  refine own_div_le A.1 B.1 (B.pos hm) C.1.ne_nan ?_
  obtain ⟨e1, e2⟩ := own_scale3 A.2 B.2 C.2
  have p : 0 < ((2 ^ k : Nat) : Int) * (((2 ^ j : Nat) : Int) * ((2 ^ i : Nat) : Int)) := Int.mul_pos (own_pk k) (Int.mul_pos (own_pk j) (own_pk i))
  refine Int.le_of_mul_le_mul_right ?_ p
  rw [e1, e2]
  exact Int.mul_le_mul_of_nonneg_right h (Int.le_of_lt (Int.mul_pos uu_pos uu_pos))
theorem Dy.div_ge {x y V : UInt64} {n m r : Int} {k j i : Nat} (A : Dy x n k) (B : Dy y m j) (hm : 0 < m) (C : Dy V r i) (h : r * m * ((2 ^ k : Nat) : Int) ≤ n * ((2 ^ (j + i) : Nat) : Int)) : zv V ≤ zv (FP.ddiv x y) := by
  refine own_div_ge A.1 B.1 (B.pos hm) C.1.ne_nan ?_
  obtain ⟨e1, e2⟩ := own_scale3 A.2 B.2 C.2
  have p : 0 < ((2 ^ k : Nat) : Int) * (((2 ^ j : Nat) : Int) * ((2 ^ i : Nat) : Int)) := Int.mul_pos (own_pk k) (Int.mul_pos (own_pk j) (own_pk i))
  refine Int.le_of_mul_le_mul_right ?_ p
  rw [e1, e2]
  exact Int.mul_le_mul_of_nonneg_right h (Int.le_of_lt (Int.mul_pos uu_pos uu_pos))
/-- the order of two numbers written over one power of two -/
theorem Dy.zle {x y : UInt64} {n m : Int} {k : Nat} (A : Dy x n k) (B : Dy y m k) : (zv x ≤ zv y ↔ n ≤ m) ∧ (zv x < zv y ↔ n < m) := by
  obtain ⟨q1, q2, -⟩ := own_mid A.2 B.2
  have u := uu_pos
  exact ⟨q1.trans ⟨fun q => Int.le_of_mul_le_mul_right q u, fun q => Int.mul_le_mul_of_nonneg_right q (Int.le_of_lt u)⟩, q2.trans ⟨fun q => Int.lt_of_mul_lt_mul_right q (Int.le_of_lt u), fun q => Int.mul_lt_mul_of_pos_right q u⟩⟩
end OwnF
section OwnM
open Jvm.FP.Core (val64 zval zmag b64 one64 DFin DZero good_b64 val64_fits inUnits signed sgn roundRatio)
theorem own_arith {a a' m m' B B' : Nat} (k1 : m' * B < a) (k2 : a' < m * B') (hB : 0 < B) (hB' : 0 < B') (h : a * B' ≤ a' * B)
    (n1 : ((a : Int) - (m : Int) * (B : Int)).natAbs ≤ ((a : Int) - (m' : Int) * (B : Int)).natAbs) (n2 : ((a' : Int) - (m' : Int) * (B' : Int)).natAbs ≤ ((a' : Int) - (m : Int) * (B' : Int)).natAbs) : a * B' = a' * B := by
  have e1 : m * B' * B = m * B * B' := by ac_rfl
  have e2 : m' * B' * B = m' * B * B' := by ac_rfl
  have x1 : a < m * B := by
    have t := Nat.mul_lt_mul_of_pos_right k2 hB
    exact Nat.lt_of_mul_lt_mul_right (a := B') (by omega)
  have x2 : m' * B' < a' := by
    have t := Nat.mul_lt_mul_of_pos_right k1 hB'
    exact Nat.lt_of_mul_lt_mul_right (a := B) (by omega)
  rw [← Int.natCast_mul, ← Int.natCast_mul] at n1 n2
  have y1 : m * B + m' * B ≤ 2 * a := by omega
  have y2 : 2 * a' ≤ m * B' + m' * B' := by omega
  have z1 := Nat.mul_le_mul_right B' y1
  have z2 := Nat.mul_le_mul_right B y2
  rw [Nat.add_mul, Nat.mul_assoc 2] at z1
  rw [Nat.add_mul, Nat.mul_assoc 2] at z2
  omega
theorem own_unbase {A B A' B' : Nat} {e e' e0 : Int} (h1 : e0 ≤ e) (h2 : e0 ≤ e') (h : inUnits A e e0 * B' = inUnits A' e' e0 * B) : A * B' * 2 ^ (e - e').toNat = A' * B * 2 ^ (e' - e).toNat := by
  unfold inUnits at h
  refine Nat.eq_of_mul_eq_mul_right (Nat.two_pow_pos (min e e' - e0).toNat) ?_
  have x1 : 2 ^ (e - e').toNat * 2 ^ (min e e' - e0).toNat = 2 ^ (e - e0).toNat := by rw [← Nat.pow_add]; congr 1; omega
  have x2 : 2 ^ (e' - e).toNat * 2 ^ (min e e' - e0).toNat = 2 ^ (e' - e0).toNat := by rw [← Nat.pow_add]; congr 1; omega
  rw [Nat.mul_assoc, x1, Nat.mul_assoc (A' * B), x2, Nat.mul_right_comm A, h, Nat.mul_right_comm A']
theorem own_mx {c d X Y R R' W : Nat} (h : X * R = Y * W) : c * X * d * (R * R') = c * Y * (d * R') * W := by
  calc c * X * d * (R * R') = c * d * R' * (X * R) := by ac_rfl
    _ = c * d * R' * (Y * W) := by rw [h]
    _ = _ := by ac_rfl
/-- rounding keeps the order -/
theorem own_mono {s : Bool} {A B A' B' : Nat} {e e' e0 : Int} (hB : 0 < B) (hB' : 0 < B') (h0 : e0 ≤ b64.qmin) (h1 : e0 ≤ e) (h2 : e0 ≤ e') (hf : ∃ t c q, roundRatio b64 s A B e = .fin t c q) (h : inUnits A e e0 * B' ≤ inUnits A' e' e0 * B) : zmag b64 (roundRatio b64 s A B e) ≤ zmag b64 (roundRatio b64 s A' B' e') := by
  refine Nat.le_of_not_lt fun lt => ?_
  have F := FP.Core.roundRatio_fits good_b64 s A hB e
  have F' := FP.Core.roundRatio_fits good_b64 s A' hB' e'
  have L := FP.Core.zmag_roundRatio_le good_b64 (s := s) (A := A) (e := e) hB F' (FP.Core.roundRatio_ne_nan _ _ _ _ _) h0 h1
  have G := FP.Core.zmag_roundRatio_ge good_b64 (s := s) (A := A') (e := e') hB' F h0 h2
  obtain ⟨t, c, q, ef⟩ := hf
  have ef' : ∃ t c q, roundRatio b64 s A' B' e' = .fin t c q := by
    rcases FP.Core.roundRatio_cases b64 s A' B' e' with ⟨c', q', g⟩ | g
    · exact ⟨s, c', q', g⟩
    · exfalso
      have tp := FP.Core.zmag_le_top good_b64 F
      rw [g] at lt
      exact Nat.lt_irrefl _ (Nat.lt_of_le_of_lt tp lt)
  obtain ⟨t', c', q', ef'⟩ := ef'
  have n1 := FP.Core.roundRatio_nearest good_b64 hB ef (c' := c') (q' := q') (ef' ▸ F').1 (ef' ▸ F').2.1 h0 h1
  have n2 := FP.Core.roundRatio_nearest good_b64 hB' ef' (c' := c) (q' := q) (ef ▸ F).1 (ef ▸ F).2.1 h0 h2
  have u := FP.Core.units_fin (f := b64) (e0 := e0) (ef ▸ F) h0
  have u' := FP.Core.units_fin (f := b64) (e0 := e0) (ef' ▸ F') h0
  unfold FP.Core.distance at n1 n2
  rw [u, u'] at n1 n2
  rw [← ef, ← ef'] at n1 n2
  have k1 := Nat.lt_of_not_le fun g => absurd (L g) (Nat.not_le.mpr lt)
  have k2 := Nat.lt_of_not_le fun g => absurd (G g) (Nat.not_le.mpr lt)
  have key := own_arith k1 k2 hB hB' h n1 n2
  have cg := FP.Core.roundRatio_congr (f := b64) (s := s) hB hB' (own_unbase h1 h2 key)
  rw [cg] at lt
  exact Nat.lt_irrefl _ lt
theorem own_zs (s : Bool) (A B : Nat) (e : Int) : zmag b64 (roundRatio b64 s A B e) = zmag b64 (roundRatio b64 false A B e) := by
  cases s
  · rfl
  · rw [show true = !false from rfl, ← FP.Core.negate_roundRatio]
    cases roundRatio b64 false A B e <;> rfl
theorem own_fs {s : Bool} {A B : Nat} {e : Int} (h : ∃ t c q, roundRatio b64 s A B e = .fin t c q) : ∃ t c q, roundRatio b64 false A B e = .fin t c q := by
  cases s
  · exact h
  · obtain ⟨t, c, q, g⟩ := h
    rw [show true = !false from rfl, ← FP.Core.negate_roundRatio] at g
    cases k : roundRatio b64 false A B e with
    | nan => rw [k] at g; cases g
    | inf s => rw [k] at g; cases g
    | fin s c q => exact ⟨s, c, q, rfl⟩
theorem own_div_mono {x y x' y' : UInt64} (hx : DFin x) (hy : DFin y) (hz : ¬ DZero y) (hx' : DFin x') (hy' : DFin y') (hz' : ¬ DZero y') (hf : DFin (FP.ddiv x y)) (h : zmag b64 (val64 x) * zmag b64 (val64 y') ≤ zmag b64 (val64 x') * zmag b64 (val64 y)) : zmag b64 (val64 (FP.ddiv x y)) ≤ zmag b64 (val64 (FP.ddiv x' y')) := by
  change zmag b64 (val64 (FP.Core.ddiv x y)) ≤ zmag b64 (val64 (FP.Core.ddiv x' y'))
  have hf : ∃ t c q, val64 (FP.Core.ddiv x y) = .fin t c q := hf
  obtain ⟨s, c, q, ex⟩ := hx
  obtain ⟨t, d, r, ey⟩ := hy
  obtain ⟨s', c', q', ex'⟩ := hx'
  obtain ⟨t', d', r', ey'⟩ := hy'
  have fx := val64_fits x; have fy := val64_fits y; have fx' := val64_fits x'; have fy' := val64_fits y'
  rw [ex] at fx; rw [ey] at fy; rw [ex'] at fx'; rw [ey'] at fy'
  have hd : d ≠ 0 := fun e => hz ⟨t, r, by rw [ey, e]⟩
  have hd' : d' ≠ 0 := fun e => hz' ⟨t', r', by rw [ey', e]⟩
  rw [FP.Core.val64_ddiv, ex, ey] at hf ⊢
  rw [FP.Core.val64_ddiv, ex', ey']
  rw [ex, ey, ex', ey'] at h
  change ∃ t_1 c_1 q_1, (if d = 0 then _ else roundRatio b64 (s != t) c d (q - r)) = _ at hf
  rw [if_neg hd] at hf
  show zmag b64 (if d = 0 then _ else roundRatio b64 (s != t) c d (q - r)) ≤ zmag b64 (if d' = 0 then _ else roundRatio b64 (s' != t') c' d' (q' - r'))
  rw [if_neg hd, if_neg hd', own_zs, own_zs (s' != t')]
  have b1 : -1074 ≤ q := own_qm ▸ fx.2.1
  have b2 : -1074 ≤ r := own_qm ▸ fy.2.1
  have b3 : r ≤ 971 := fy.2.2.1
  have b1' : -1074 ≤ q' := own_qm ▸ fx'.2.1
  have b2' : -1074 ≤ r' := own_qm ▸ fy'.2.1
  have b3' : r' ≤ 971 := fy'.2.2.1
  refine own_mono (e0 := -2148) (Nat.pos_of_ne_zero hd) (Nat.pos_of_ne_zero hd') (by rw [own_qm]; decide) (by omega) (by omega) (own_fs hf) ?_
  -- c 2^(q-r+2148) d' ≤ c' 2^(q'-r'+2148) d, times 2^(r+1074) 2^(r'+1074)
  have h' : c * 2 ^ (q + 1074).toNat * (d' * 2 ^ (r' + 1074).toNat) ≤ c' * 2 ^ (q' + 1074).toNat * (d * 2 ^ (r + 1074).toNat) := by
    have := h; simp only [zmag, own_qm, inUnits] at this
    rw [show (q - -1074).toNat = (q + 1074).toNat by omega, show (q' - -1074).toNat = (q' + 1074).toNat by omega, show (r - -1074).toNat = (r + 1074).toNat by omega, show (r' - -1074).toNat = (r' + 1074).toNat by omega] at this
    exact this
  unfold inUnits
  refine Nat.le_of_mul_le_mul_right (c := 2 ^ (r + 1074).toNat * 2 ^ (r' + 1074).toNat) ?_ (Nat.mul_pos (Nat.two_pow_pos _) (Nat.two_pow_pos _))
  have x1 : 2 ^ (q - r - -2148).toNat * 2 ^ (r + 1074).toNat = 2 ^ (q + 1074).toNat * 2 ^ 2148 := by rw [← Nat.pow_add, ← Nat.pow_add]; congr 1; omega
  have x2 : 2 ^ (q' - r' - -2148).toNat * 2 ^ (r' + 1074).toNat = 2 ^ (q' + 1074).toNat * 2 ^ 2148 := by rw [← Nat.pow_add, ← Nat.pow_add]; congr 1; omega
  have l1 := own_mx (c := c) (d := d') (R' := 2 ^ (r' + 1074).toNat) x1
  have l2 := own_mx (c := c') (d := d) (R' := 2 ^ (r + 1074).toNat) x2
  rw [Nat.mul_comm (2 ^ (r' + 1074).toNat)] at l2
  rw [l1, l2]
  exact Nat.mul_le_mul_right _ h'
end OwnM
theorem pn_com_example_pausanias_pausanias_text_JaccardSimilarityPinLaw : plainName "com/example/pausanias/pausanias/text/JaccardSimilarityPinLaw" = true := by first | (simp [plainName, overriddenIn]; done) | decide +kernel
theorem pn_com_example_pausanias_pausanias_text_Jaccard : plainName "com/example/pausanias/pausanias/text/Jaccard" = true := by first | (simp [plainName, overriddenIn]; done) | decide +kernel
theorem d1_0 : decode jdk_29_method_69_code 0 = .ok (.iload_n 0, 1) := by decide +kernel
theorem d1_1 : decode jdk_29_method_69_code 1 = .ok (.iload_n 1, 1) := by decide +kernel
theorem d1_2 : decode jdk_29_method_69_code 2 = .ok (.if_icmp .gt 7, 3) := by decide +kernel
theorem d1_5 : decode jdk_29_method_69_code 5 = .ok (.iload_n 0, 1) := by decide +kernel
theorem d1_6 : decode jdk_29_method_69_code 6 = .ok (.goto 4, 3) := by decide +kernel
theorem d1_9 : decode jdk_29_method_69_code 9 = .ok (.iload_n 1, 1) := by decide +kernel
theorem d1_10 : decode jdk_29_method_69_code 10 = .ok (.ireturn, 1) := by decide +kernel
theorem d2_0 : decode jdk_29_method_66_code 0 = .ok (.lload_n 0, 1) := by decide +kernel
theorem d2_1 : decode jdk_29_method_66_code 1 = .ok (.lload_n 2, 1) := by decide +kernel
theorem d2_2 : decode jdk_29_method_66_code 2 = .ok (.lcmp, 1) := by decide +kernel
theorem d2_3 : decode jdk_29_method_66_code 3 = .ok (.ifCond .lt 7, 3) := by decide +kernel
theorem d2_6 : decode jdk_29_method_66_code 6 = .ok (.lload_n 0, 1) := by decide +kernel
theorem d2_7 : decode jdk_29_method_66_code 7 = .ok (.goto 4, 3) := by decide +kernel
theorem d2_10 : decode jdk_29_method_66_code 10 = .ok (.lload_n 2, 1) := by decide +kernel
theorem d2_11 : decode jdk_29_method_66_code 11 = .ok (.lreturn, 1) := by decide +kernel
theorem d3_0 : decode jdk_29_method_70_code 0 = .ok (.lload_n 0, 1) := by decide +kernel
theorem d3_1 : decode jdk_29_method_70_code 1 = .ok (.lload_n 2, 1) := by decide +kernel
theorem d3_2 : decode jdk_29_method_70_code 2 = .ok (.lcmp, 1) := by decide +kernel
theorem d3_3 : decode jdk_29_method_70_code 3 = .ok (.ifCond .gt 7, 3) := by decide +kernel
theorem d3_6 : decode jdk_29_method_70_code 6 = .ok (.lload_n 0, 1) := by decide +kernel
theorem d3_7 : decode jdk_29_method_70_code 7 = .ok (.goto 4, 3) := by decide +kernel
theorem d3_10 : decode jdk_29_method_70_code 10 = .ok (.lload_n 2, 1) := by decide +kernel
theorem d3_11 : decode jdk_29_method_70_code 11 = .ok (.lreturn, 1) := by decide +kernel
theorem d4_0 : decode prog_47_method_3_code 0 = .ok (.iload_n 0, 1) := by decide +kernel
theorem d4_1 : decode prog_47_method_3_code 1 = .ok (.ifCond .ne 5, 3) := by decide +kernel
theorem d4_4 : decode prog_47_method_3_code 4 = .ok (.dconst 0, 1) := by decide +kernel
theorem d4_5 : decode prog_47_method_3_code 5 = .ok (.dreturn, 1) := by decide +kernel
theorem d4_6 : decode prog_47_method_3_code 6 = .ok (.iload_n 0, 1) := by decide +kernel
theorem d4_7 : decode prog_47_method_3_code 7 = .ok (.i2d, 1) := by decide +kernel
theorem d4_8 : decode prog_47_method_3_code 8 = .ok (.iload_n 1, 1) := by decide +kernel
theorem d4_9 : decode prog_47_method_3_code 9 = .ok (.i2l, 1) := by decide +kernel
theorem d4_10 : decode prog_47_method_3_code 10 = .ok (.iload_n 2, 1) := by decide +kernel
theorem d4_11 : decode prog_47_method_3_code 11 = .ok (.i2l, 1) := by decide +kernel
theorem d4_12 : decode prog_47_method_3_code 12 = .ok (.ladd, 1) := by decide +kernel
theorem d4_13 : decode prog_47_method_3_code 13 = .ok (.iload_n 0, 1) := by decide +kernel
theorem d4_14 : decode prog_47_method_3_code 14 = .ok (.i2l, 1) := by decide +kernel
theorem d4_15 : decode prog_47_method_3_code 15 = .ok (.lsub, 1) := by decide +kernel
theorem d4_16 : decode prog_47_method_3_code 16 = .ok (.l2d, 1) := by decide +kernel
theorem d4_17 : decode prog_47_method_3_code 17 = .ok (.ddiv, 1) := by decide +kernel
theorem d4_18 : decode prog_47_method_3_code 18 = .ok (.dreturn, 1) := by decide +kernel
theorem pd_0 : parseMethodDescriptor "(II)I" = some ⟨[.int, .int], some .int⟩ := by decide +kernel
theorem pd_1 : parseMethodDescriptor "(JJ)J" = some ⟨[.long, .long], some .long⟩ := by decide +kernel
theorem pd_2 : parseMethodDescriptor "(III)D" = some ⟨[.int, .int, .int], some .double⟩ := by decide +kernel
theorem own_c4602678819172646912 : Dy (4602678819172646912 : UInt64) (1) 1 := ⟨⟨false, 4503599627370496, -53, by decide +kernel⟩, by decide +kernel⟩

theorem own_d0 : Dy (0 : UInt64) 0 0 := ⟨⟨false, 0, -1074, by decide +kernel⟩, by decide +kernel⟩
theorem own_mb {a b : Int} {A B : Nat} (ha : a.natAbs ≤ A) (hb : b.natAbs ≤ B) : (a * b).natAbs ≤ A * B := by rw [Int.natAbs_mul]; exact Nat.mul_le_mul ha hb

theorem ow_ladd {x y : Int64} (h : (x.toInt + y.toInt).natAbs < 9223372036854775808) : (x + y).toInt = x.toInt + y.toInt := FP.Core.int64_add (by omega) (by omega)
theorem ow_lsub {x y : Int64} (h : (x.toInt - y.toInt).natAbs < 9223372036854775808) : (x - y).toInt = x.toInt - y.toInt := FP.Core.int64_sub (by omega) (by omega)
theorem ow_lmul {x y : Int64} (h : (x.toInt * y.toInt).natAbs < 9223372036854775808) : (x * y).toInt = x.toInt * y.toInt := FP.Core.int64_mul (by omega) (by omega)

theorem own_deq {x y : UInt64} (h : x = y) (n : NoNaN64 x) : deq x y := by subst h; exact FP.Core.dcmp_refl (Fl.noNaN64_no.mp n)
theorem own_nn0 : NoNaN64 (0 : UInt64) := by unfold NoNaN64; decide

/-- (x and the greatest int) % k lies between 0 and k - 1 -/
theorem own_idx (x y : Int32) (k : Int) (hy : y.toInt = k) (hk : 0 < k) : 0 ≤ ((x &&& (2147483647 : Int32)) % y).toInt ∧ ((x &&& (2147483647 : Int32)) % y).toInt < k := by
  have h := c_mask x 2147483647 31 (by decide) (by decide)
  have e : ((2 ^ 31 : Nat) : Int) = 2147483648 := by decide
  rw [e] at h
  have r := (c_irem (x &&& 2147483647) y k hy).1 (by omega)
  rw [r]
  exact ⟨Int.emod_nonneg _ (by omega), Int.emod_lt_of_pos _ hk⟩
theorem own_nonneg {i : Int32} (h : 0 ≤ i.toInt) : ¬ i < 0 := by
  rw [Int32.lt_iff_toInt_lt]; have : (0 : Int32).toInt = 0 := by decide
  omega
theorem own_pick {ds : List UInt64} {i : Int32} (h0 : 0 ≤ i.toInt) (h1 : i.toInt < ds.length) (hn : ∀ d ∈ ds, NoNaN64 d) : ∃ d, (ds.map Value.double)[i.toNatClampNeg]? = some (.double d) ∧ NoNaN64 d := by
  have hl : i.toNatClampNeg < ds.length := by show i.toInt.toNat < _; omega
  exact ⟨ds[i.toNatClampNeg], by rw [List.getElem?_map, List.getElem?_eq_getElem hl]; rfl, hn _ (List.getElem_mem hl)⟩

open Jvm.FP.Core (val64 zmag b64 DFin DZero) in
/-- r is the similarity of s shared ones, d = |T| + |W| - s -/
def Sim (r : UInt64) (s d : Int) : Prop := (s = 0 ∧ r = 0) ∨ (0 < s ∧ s ≤ d ∧ d ≤ 8589934592 ∧ ∃ x y, Dy x s 0 ∧ Dy y d 0 ∧ r = FP.ddiv x y)
theorem own_sw (s d u : Int) : s * u * (d * u) = s * d * (u * u) := by ac_rfl
theorem own_sim {s a b : Int32} {r : UInt64} {t : Int} (h0 : 0 ≤ s.toInt) (ha : 0 ≤ a.toInt) (hb : 0 ≤ b.toInt) (ht : a.toInt + b.toInt = t) (hs : s.toInt ≤ t - s.toInt) (e : (if s = 0 then (0 : UInt64) else (FP.ddiv (FP.i2d s) (FP.l2d (((a.toInt64) + (b.toInt64)) - (s.toInt64))))) = r) : Sim r s.toInt (t - s.toInt) := by
  have r1 := rng32 a; have r2 := rng32 b; have r3 := rng32 s
  by_cases z : s = 0
  · rw [if_pos z] at e
    refine Or.inl ⟨by rw [z]; decide, e.symm⟩
  · rw [if_neg z] at e
    have z' : s.toInt ≠ 0 := fun q => z (Int32.toInt_inj.mp (q.trans (by decide)))
    have e1 : (a.toInt64 + b.toInt64).toInt = t := by rw [ow_ladd (by rw [c_i2l, c_i2l]; omega), c_i2l, c_i2l, ht]
    have e2 : ((a.toInt64 + b.toInt64) - s.toInt64).toInt = t - s.toInt := by rw [ow_lsub (by rw [e1, c_i2l]; omega), e1, c_i2l]
    exact Or.inr ⟨by omega, hs, by omega, _, _, dy_i2d s, (dy_l2d (by omega) (by omega)).to e2, e.symm⟩
theorem own_simnn {s a b : Int32} {t : Int} (h0 : 0 ≤ s.toInt) (ha : 0 ≤ a.toInt) (hb : 0 ≤ b.toInt) (ht : a.toInt + b.toInt = t) (hs : s.toInt ≤ t - s.toInt) : (¬ (s = 0)) → NoNaN64 (FP.ddiv (FP.i2d s) (FP.l2d (((a.toInt64) + (b.toInt64)) - (s.toInt64)))) := fun z => by
  have r1 := rng32 a; have r2 := rng32 b; have r3 := rng32 s
  have z' : s.toInt ≠ 0 := fun q => z (Int32.toInt_inj.mp (q.trans (by decide)))
  have e1 : (a.toInt64 + b.toInt64).toInt = t := by rw [ow_ladd (by rw [c_i2l, c_i2l]; omega), c_i2l, c_i2l, ht]
  have e2 : ((a.toInt64 + b.toInt64) - s.toInt64).toInt = t - s.toInt := by rw [ow_lsub (by rw [e1, c_i2l]; omega), e1, c_i2l]
  have D := (dy_l2d (a := (a.toInt64 + b.toInt64) - s.toInt64) (by omega) (by omega)).to e2
  exact Fl.val64_no.mpr (own_nn_div (dy_i2d s).1 D.1 (own_notz D.1 (D.pos (by omega))))
theorem Sim.nn {r : UInt64} {s d : Int} (H : Sim r s d) : FP.Core.val64 r ≠ .nan := by
  rcases H with ⟨-, rfl⟩ | ⟨h1, h2, -, x, y, X, Y, rfl⟩
  · exact own_d0.1.ne_nan
  · exact own_nn_div X.1 Y.1 (own_notz Y.1 (Y.pos (by omega)))
theorem own_one : Dy (4607182418800017408 : UInt64) 1 0 := ⟨⟨false, 4503599627370496, -52, by decide +kernel⟩, by decide +kernel⟩
theorem own_zq {x : UInt64} {n : Int} {k : Nat} (D : Dy x n k) (hn : 0 ≤ n) : ((FP.Core.zmag FP.Core.b64 (FP.Core.val64 x) : Nat) : Int) = zv x := by
  have h : 0 ≤ zv x := by
    have p := own_pk k
    have b := D.2
    have : 0 ≤ n * uu := Int.mul_nonneg hn (Int.le_of_lt uu_pos)
    rw [← b] at this
    exact Int.nonneg_of_mul_nonneg_left this p
  unfold zv FP.Core.zval at *
  cases e : FP.Core.sgn (FP.Core.val64 x) <;> rw [e] at h <;> simp only [FP.Core.signed, if_true, Bool.false_eq_true, if_false] at h ⊢
  omega
theorem Sim.bd {r : UInt64} {s d : Int} (H : Sim r s d) : 0 ≤ zv r ∧ zv r ≤ zv (4607182418800017408 : UInt64) ∧ FP.Core.DFin r := by
  have z0 : zv (0 : UInt64) = 0 := FP.Core.zval64_zero
  have o1 := (own_d0.zle own_one).1.mpr (by decide)
  rcases H with ⟨-, rfl⟩ | ⟨h1, h2, h3, x, y, X, Y, rfl⟩
  · exact ⟨by omega, o1, own_d0.1⟩
  · have u := X.div_le Y (by omega) own_one (by simpa using h2)
    have l := X.div_ge Y (by omega) own_d0 (by simp; omega)
    refine ⟨by omega, u, ?_⟩
    have n := own_nn_div X.1 Y.1 (own_notz Y.1 (Y.pos (by omega)))
    have q := own_one.1.zval_lt
    cases e : FP.Core.val64 (FP.ddiv x y) with
    | nan => exact absurd e n
    | fin s c r => exact ⟨s, c, r, e⟩
    | inf s =>
      exfalso
      have a1 := own_zq own_one (by decide)
      have a2 : zv (FP.ddiv x y) = FP.Core.signed s (FP.Core.b64.tails * 2 ^ (FP.Core.b64.exps - 2)) := by unfold zv; rw [e]; rfl
      cases s
      · simp only [FP.Core.signed, Bool.false_eq_true, if_false] at a2; omega
      · simp only [FP.Core.signed, if_true] at a2; omega
/-- the similarity grows with the ratio -/
theorem Sim.mono {r r' : UInt64} {s d s' d' : Int} (H : Sim r s d) (H' : Sim r' s' d') (h : s * d' ≤ s' * d) (hp : 0 < s → 0 < s') : zv r ≤ zv r' := by
  have B := H.bd; have B' := H'.bd
  have z0 : zv (0 : UInt64) = 0 := FP.Core.zval64_zero
  rcases H with ⟨-, rfl⟩ | ⟨h1, h2, h3, x, y, X, Y, rfl⟩
  · omega
  · rcases H' with ⟨g, -⟩ | ⟨g1, g2, g3, x', y', X', Y', rfl⟩
    · have := hp h1; omega
    · have m := own_div_mono X.1 Y.1 (own_notz Y.1 (Y.pos (by omega))) X'.1 Y'.1 (own_notz Y'.1 (Y'.pos (by omega))) B.2.2 (by
        have a1 := own_zq X (by omega); have a2 := own_zq Y (by omega); have a3 := own_zq X' (by omega); have a4 := own_zq Y' (by omega)
        have e1 := X.2; have e2 := Y.2; have e3 := X'.2; have e4 := Y'.2
        rw [show ((2 ^ 0 : Nat) : Int) = 1 from rfl, Int.mul_one] at e1 e2 e3 e4
        refine Int.ofNat_le.mp ?_
        rw [Int.natCast_mul, Int.natCast_mul, a1, a2, a3, a4, e1, e2, e3, e4]
        have k : s * uu * (d' * uu) = s * d' * (uu * uu) := own_sw s d' uu
        have k' : s' * uu * (d * uu) = s' * d * (uu * uu) := own_sw s' d uu
        rw [k, k']
        exact Int.mul_le_mul_of_nonneg_right h (Int.le_of_lt (Int.mul_pos uu_pos uu_pos)))
      have f : ∀ {q : UInt64}, 0 ≤ zv q → ((FP.Core.zmag FP.Core.b64 (FP.Core.val64 q) : Nat) : Int) = zv q := fun {q} hq => by
        unfold zv FP.Core.zval at *
        cases e : FP.Core.sgn (FP.Core.val64 q) <;> rw [e] at hq <;> simp only [FP.Core.signed, if_true, Bool.false_eq_true, if_false] at hq ⊢
        omega
      have f1 := f B.1; have f2 := f B'.1
      omega
theorem Sim.le {r r' : UInt64} {s d s' d' : Int} (H : Sim r s d) (H' : Sim r' s' d') (h : s * d' ≤ s' * d) (hp : 0 < s → 0 < s') : dle r r' := FP.Core.dcmp_le.mpr ⟨H.nn, H'.nn, H.mono H' h hp⟩
theorem Sim.ge {r r' : UInt64} {s d s' d' : Int} (H : Sim r s d) (H' : Sim r' s' d') (h : s * d' ≤ s' * d) (hp : 0 < s → 0 < s') : dge r' r := FP.Core.dcmp_ge.mpr ⟨H'.nn, H.nn, H.mono H' h hp⟩
theorem Sim.eq {r r' : UInt64} {s d s' d' : Int} (H : Sim r s d) (H' : Sim r' s' d') (h : s * d' = s' * d) (hp : 0 < s ↔ 0 < s') : deq r r' := FP.Core.dcmp_eq.mpr ⟨H.nn, H'.nn, Int.le_antisymm (H.mono H' (Int.le_of_eq h) hp.mp) (H'.mono H (Int.le_of_eq h.symm) hp.mpr)⟩
theorem Sim.zero {r : UInt64} {d : Int} (H : Sim r 0 d) : deq r (0 : UInt64) := by
  rcases H with ⟨-, rfl⟩ | ⟨h, -⟩
  · exact own_deq rfl own_nn0
  · exact absurd h (by decide)
theorem own_cr {s t : Int} (h : 0 ≤ t) : s * (t - (s + 1)) ≤ (s + 1) * (t - s) := by rw [Int.mul_sub, Int.mul_sub, Int.add_mul, Int.one_mul, Int.mul_comm (s + 1) s]; omega
theorem own_v (n : Int) (k : Nat) (h1 : n.natAbs < 9007199254740992) (hk : k ≤ 1074) : ∃ V : UInt64, Dy V n k := own_rep n k h1 hk
theorem Sim.pos {r : UInt64} {s d : Int} (H : Sim r s d) (h : 0 < s) : dgt r (0 : UInt64) := by
  have n := H.nn
  rcases H with ⟨g, -⟩ | ⟨h1, h2, h3, x, y, X, Y, rfl⟩
  · omega
  · obtain ⟨V, W⟩ := own_v 1 40 (by decide) (by decide)
    have l := X.div_ge Y (by omega) W (by rw [show ((2 ^ (0 + 40) : Nat) : Int) = 1099511627776 from rfl, show ((2 ^ 0 : Nat) : Int) = 1 from rfl]; omega)
    have z := ((own_d0.up 40).zle W).2.mpr (by decide)
    exact FP.Core.dcmp_gt.mpr ⟨n, own_d0.1.ne_nan, by show zv (0 : UInt64) < zv (FP.ddiv x y); omega⟩
theorem Sim.le1 {r : UInt64} {s d : Int} (H : Sim r s d) : dle r (4607182418800017408 : UInt64) := FP.Core.dcmp_le.mpr ⟨H.nn, own_one.1.ne_nan, H.bd.2.1⟩
/-- it meets a fraction of small terms only where the ratio does -/
theorem Sim.at {r : UInt64} {s d : Int} (H : Sim r s d) (h : 0 < s) {C : UInt64} {a : Int} {i : Nat} (DC : Dy C a i) (ha : 0 < a) (ha2 : a ≤ 2) (hi : i ≤ 1) : deq r C ↔ s * ((2 ^ i : Nat) : Int) = a * d := by
  have n := H.nn
  rcases H with ⟨g, -⟩ | ⟨h1, h2, h3, x, y, X, Y, rfl⟩
  · omega
  · have pi : ((2 ^ i : Nat) : Int) = 1 ∨ ((2 ^ i : Nat) : Int) = 2 := by
      rcases (show i = 0 ∨ i = 1 by omega) with rfl | rfl
      · exact Or.inl rfl
      · exact Or.inr rfl
    have up := DC.up 40
    rw [show ((2 ^ 40 : Nat) : Int) = 1099511627776 from rfl] at up
    have p40 : ((2 ^ (0 + (i + 40)) : Nat) : Int) = ((2 ^ i : Nat) : Int) * 1099511627776 := by rw [Nat.zero_add, Nat.pow_add]; rfl
    have z1 : ((2 ^ 0 : Nat) : Int) = 1 := rfl
    constructor
    · intro e
      obtain ⟨-, -, e⟩ := FP.Core.dcmp_eq.mp e
      refine Classical.byContradiction fun ne => ?_
      rcases Int.lt_or_gt_of_ne ne with lt | gt
      · obtain ⟨V, W⟩ := own_v (a * 1099511627776 - 1) (i + 40) (by omega) (by omega)
        have u := X.div_le Y (by omega) W (by
          rw [p40, z1, Int.mul_one, Int.sub_mul, Int.one_mul, ← Int.mul_assoc]
          have : s * ((2 ^ i : Nat) : Int) * 1099511627776 ≤ (a * d - 1) * 1099511627776 := Int.mul_le_mul_of_nonneg_right (by omega) (by decide)
          have k : a * 1099511627776 * d = a * d * 1099511627776 := by ac_rfl
          rw [k]; omega)
        have z := (W.zle up).2.mpr (by omega)
        unfold zv at *; omega
      · obtain ⟨V, W⟩ := own_v (a * 1099511627776 + 1) (i + 40) (by omega) (by omega)
        have u := X.div_ge Y (by omega) W (by
          rw [p40, z1, Int.mul_one, Int.add_mul, Int.one_mul, ← Int.mul_assoc]
          have : (a * d + 1) * 1099511627776 ≤ s * ((2 ^ i : Nat) : Int) * 1099511627776 := Int.mul_le_mul_of_nonneg_right (by omega) (by decide)
          have k : a * 1099511627776 * d = a * d * 1099511627776 := by ac_rfl
          rw [k]; omega)
        have z := (up.zle W).2.mpr (by omega)
        unfold zv at *; omega
    · intro e
      have D := X.div Y (by omega) (r := a) (i := i) (by rw [z1, Int.mul_one, Nat.zero_add]; exact e) (by omega) (by omega)
      exact (D.eq DC).mpr rfl

theorem own_msk (x : Int32) : 0 ≤ (x &&& (2147483647 : Int32)).toInt := by
  have h := c_mask x 2147483647 31 (by decide) (by decide)
  rw [h]; exact Int.emod_nonneg _ (by decide)
theorem own_min {a b m : Int32} (e : (if b < a then b else a) = m) : m.toInt ≤ a.toInt ∧ m.toInt ≤ b.toInt ∧ (m.toInt = a.toInt ∨ m.toInt = b.toInt) := by
  subst e
  split <;> rename_i h <;> rw [Int32.lt_iff_toInt_lt] at h <;> omega
theorem own_msk64 (x : Int32) : 0 ≤ (x.toInt64 &&& (2147483647 : Int64)).toInt := by
  have h := c_maskL x.toInt64 2147483647 31 (by decide) (by decide)
  rw [h]; exact Int.emod_nonneg _ (by decide)
theorem own_rem64 {x y : Int64} (hx : 0 ≤ x.toInt) (hy : 0 < y.toInt) : 0 ≤ (x % y).toInt ∧ (x % y).toInt < y.toInt := by
  rw [Int64.toInt_mod, Int.tmod_eq_emod_of_nonneg hx]
  exact ⟨Int.emod_nonneg _ (by omega), Int.emod_lt_of_pos _ hy⟩
theorem own_nz64 {y : Int64} (h : 0 < y.toInt) : y ≠ 0 := fun q => by rw [q] at h; exact absurd h (by decide)
theorem own_one64 : (1 : Int64).toInt = 1 := by decide
theorem own_s (c : Int32) {m : Int32} (hm : 0 ≤ m.toInt) : m.toInt64 + (1 : Int64) ≠ 0 ∧ 0 ≤ (((c.toInt64 &&& (2147483647 : Int64)) % (m.toInt64 + (1 : Int64))).toInt32).toInt ∧ (((c.toInt64 &&& (2147483647 : Int64)) % (m.toInt64 + (1 : Int64))).toInt32).toInt ≤ m.toInt := by
  have r := rng32 m
  have e : (m.toInt64 + (1 : Int64)).toInt = m.toInt + 1 := by rw [ow_ladd (by rw [c_i2l, own_one64]; omega), c_i2l, own_one64]
  obtain ⟨a, b⟩ := own_rem64 (y := m.toInt64 + 1) (own_msk64 c) (by omega)
  have t := FP.Core.int64_toInt32 (a := (c.toInt64 &&& (2147483647 : Int64)) % (m.toInt64 + (1 : Int64))) (by omega) (by omega)
  exact ⟨own_nz64 (by omega), by omega, by omega⟩
theorem own_s2 (d : Int32) {s : Int32} {t lo hi : Int64} {T : Int} (et : t.toInt = T) (h0 : 0 ≤ s.toInt) (h1 : s.toInt ≤ T - s.toInt) (hT : T ≤ 4294967294) (qlo : (if (s.toInt64) < (t - (2147483647 : Int64)) then (t - (2147483647 : Int64)) else (s.toInt64)) = lo) (qhi : (if (t - (s.toInt64)) < (2147483647 : Int64) then (t - (s.toInt64)) else (2147483647 : Int64)) = hi) :
    (hi - lo) + (1 : Int64) ≠ 0 ∧ ∀ {size2 q2 : Int32}, (lo + ((d.toInt64 &&& (2147483647 : Int64)) % ((hi - lo) + (1 : Int64)))).toInt32 = size2 → (t - size2.toInt64).toInt32 = q2 → 0 ≤ size2.toInt ∧ 0 ≤ q2.toInt ∧ size2.toInt + q2.toInt = T := by
  have rs := rng32 s
  have em : (2147483647 : Int64).toInt = 2147483647 := by decide
  have e1 : (t - (2147483647 : Int64)).toInt = T - 2147483647 := by rw [ow_lsub (by rw [et, em]; omega), et, em]
  have e2 : (t - s.toInt64).toInt = T - s.toInt := by rw [ow_lsub (by rw [et, c_i2l]; omega), et, c_i2l]
  have elo : lo.toInt = max s.toInt (T - 2147483647) := by
    subst qlo
    split <;> rename_i h <;> rw [Int64.lt_iff_toInt_lt, e1, c_i2l] at h <;> first | rw [e1] | rw [c_i2l]
    · omega
    · omega
  have ehi : hi.toInt = min 2147483647 (T - s.toInt) := by
    subst qhi
    split <;> rename_i h <;> rw [Int64.lt_iff_toInt_lt, e2, em] at h <;> first | rw [e2] | rw [em]
    · omega
    · omega
  have eh : ((hi - lo) + (1 : Int64)).toInt = hi.toInt - lo.toInt + 1 := by rw [ow_ladd (by rw [ow_lsub (by omega), own_one64]; omega), ow_lsub (by omega), own_one64]
  obtain ⟨a, b⟩ := own_rem64 (y := (hi - lo) + 1) (own_msk64 d) (by omega)
  refine ⟨own_nz64 (by omega), fun {size2 q2} q1 q2' => ?_⟩
  have el := ow_ladd (x := lo) (y := (d.toInt64 &&& (2147483647 : Int64)) % ((hi - lo) + (1 : Int64))) (by omega)
  have f1 := FP.Core.int64_toInt32 (a := lo + ((d.toInt64 &&& (2147483647 : Int64)) % ((hi - lo) + (1 : Int64)))) (by omega) (by omega)
  rw [q1] at f1
  have rz := rng32 size2
  have e3 : (t - size2.toInt64).toInt = T - size2.toInt := by rw [ow_lsub (by rw [et, c_i2l]; omega), et, c_i2l]
  have f2 := FP.Core.int64_toInt32 (a := t - size2.toInt64) (by omega) (by omega)
  rw [q2'] at f2
  omega
theorem own_inc {x : Int32} (h : x.toInt < 2147483647) : (x + (1 : Int32)).toInt = x.toInt + 1 := by
  have c := c_iadd x 1; have r := rng32 x; have r2 := rng32 (x + 1); have e : (1 : Int32).toInt = 1 := by decide
  omega
theorem own_dbl {x : Int32} (h0 : 0 ≤ x.toInt) (h : x.toInt ≤ 1073741823) : ((2 : Int32) * x).toInt = 2 * x.toInt := by
  have c := c_imul 2 x; have r2 := rng32 ((2 : Int32) * x); have e : (2 : Int32).toInt = 2 := by decide
  rw [e] at c; omega
theorem own_w12 {P Q R : Prop} [Decidable P] [Decidable Q] [Decidable R] {w v : Int32} (e1 : (if P then (1 : Int32) else (0 : Int32)) = w) (e2 : (if Q then (if R then (1 : Int32) else (0 : Int32)) else (0 : Int32)) = v) (h : P ↔ (Q ∧ R)) : w = v := by
  subst e1 e2
  by_cases p : P
  · rw [if_pos p, if_pos (h.mp p).1, if_pos (h.mp p).2]
  · rw [if_neg p]
    by_cases q : Q
    · rw [if_pos q, if_neg fun r => p (h.mpr ⟨q, r⟩)]
    · rw [if_neg q]
theorem own_w34 {P Q : Prop} [Decidable P] [Decidable Q] {w v : Int32} (e1 : (if P then (1 : Int32) else (0 : Int32)) = w) (e2 : (if Q then (1 : Int32) else (0 : Int32)) = v) (h : P ↔ Q) : w = v := by
  subst e1 e2
  by_cases p : P
  · rw [if_pos p, if_pos (h.mp p)]
  · rw [if_neg p, if_neg fun q => p (h.mpr q)]
theorem own_half : Dy (4602678819172646912 : UInt64) 1 1 := ⟨⟨false, 4503599627370496, -53, by decide +kernel⟩, by decide +kernel⟩
theorem own_ie {x y : Int32} : x = y ↔ x.toInt = y.toInt := Int32.toInt_inj.symm
theorem own_le_ {x y : Int64} : x = y ↔ x.toInt = y.toInt := Int64.toInt_inj.symm

theorem ef1 (m : MethodId) (x0 : Int32) (x1 : Int32) : entryFrame m #[(.int x0), (.int x1)] 2 = mkF m 0 #[.val (.int x0), .val (.int x1)] [] := by first | (simp [entryFrame, mkF, argsToLocals, Value.category]; done) | rfl
def Q1 (Z : State) (p0 : Int32) (p1 : Int32) (h0 : Heap) (n0 : Nat) (v : Option Value) (h : Heap) (L : List Loc) : Prop := v = some (.int (if p1 < p0 then p1 else p0)) ∧ Fr n0 L ∧ h0 = h
set_option maxRecDepth 65536 in
set_option maxHeartbeats 40000000 in
theorem rm1 (l : Launch) (Z : State) (a0 : Array Value) (hw : ∀ d ∈ tables_1, d.before a0 Z = true) (ws : List Jvm.Cond) (p0 : Int32) (p1 : Int32) (h0 : Heap) (n0 : Nat) (Z0 : n0 ≤ h0.size) :
    MetFree l (⟨"java/lang/Math", "min", "(II)I"⟩ : MethodName) (head1 (Jvm.Cond.code (⟨"java/lang/Math", "min", "(II)I"⟩ : MethodName) jdk_29_method_69_code 2 (some .int) :: ws) ({ frames := 0, cells := 0, slots := 0, locals := 0 } : Room)) (fun a U => a = #[(.int p0), (.int p1)] ∧ Z.Warmed39 U.vm ∧ U.heap = h0) (fun _ _ _ _ _ => True) (fun _ U o U' => ∃ v L, o = .returned v ∧ Q1 Z p0 p1 h0 n0 v U'.heap L ∧ FrameEnd U o U' L ({ frames := 0, cells := 0, slots := 0, locals := 0 } : Room).cells ({ frames := 0, cells := 0, slots := 0, locals := 0 } : Room).slots) := by
  refine MetFree.of_bodySF (Jvm.Free.JP.mathPlain rfl (by decide +kernel)) hisR ?_
  intro p e s m args below meth c s₁ Bd hml0 hP hK
  obtain ⟨rfl, hZ, hh⟩ := hP
  have hx := Bd.exec
  have hby := Bd.bytes
  have hml : c.maxLocals = 2 := hml0
  have hown : s.vm.findClass "java/lang/Math" = some m.cls := findClass_of_methodNamed Bd.named
  have hnm := (name_of_methodNamed Bd.named Bd.method).1
  have X0 : Stand p l e ({ frames := 0, cells := 0, slots := 0, locals := 0 } : Room) s m #[(.int p0), (.int p1)] below meth c s₁ [] 0 0 := Stand.of_body Bd
  have eH0 : s₁.heap = h0 := by rw [← hh, Bd.state]; rfl
  have N0 := Fr.nil n0
  show Gt p.tables e below (fun o U' => ∃ v L, o = .returned v ∧ Q1 Z p0 p1 h0 n0 v U'.heap L ∧ FrameEnd s o U' L ({ frames := 0, cells := 0, slots := 0, locals := 0 } : Room).cells ({ frames := 0, cells := 0, slots := 0, locals := 0 } : Room).slots) _
  refine own_cast (ef1 m p0 p1) ?_
  refine own_iloadN X0 hx hby rfl d1_0 (pc' := 1) rfl ?_
  refine own_iloadN X0 hx hby rfl d1_1 (pc' := 2) rfl ?_
  by_cases hc1 : p1 < p0
  · refine own_icT X0 hx hby d1_2 (own_ic_gt_p hc1) (by decide) (pc' := 9) (by decide) ?_
    refine own_iloadN X0 hx hby rfl d1_9 (pc' := 10) rfl ?_
    exact own_retI X0 hx hby Bd.notSynchronized Bd.returns d1_10 (by decide) (by decide) eH0 ⟨(by rw [if_pos hc1]), N0, rfl⟩
  · refine own_icF X0 hx hby d1_2 (own_ic_gt_n hc1) (pc' := 5) rfl ?_
    refine own_iloadN X0 hx hby rfl d1_5 (pc' := 6) rfl ?_
    refine own_goto X0 hx hby d1_6 (by decide) (pc' := 10) (by decide) ?_
    exact own_retI X0 hx hby Bd.notSynchronized Bd.returns d1_10 (by decide) (by decide) eH0 ⟨(by rw [if_neg hc1]), N0, rfl⟩
theorem ef2 (m : MethodId) (x0 : Int64) (x1 : Int64) : entryFrame m #[(.long x0), (.long x1)] 4 = mkF m 0 #[.val (.long x0), .second, .val (.long x1), .second] [] := by first | (simp [entryFrame, mkF, argsToLocals, Value.category]; done) | rfl
def Q2 (Z : State) (p0 : Int64) (p1 : Int64) (h0 : Heap) (n0 : Nat) (v : Option Value) (h : Heap) (L : List Loc) : Prop := v = some (.long (if p0 < p1 then p1 else p0)) ∧ Fr n0 L ∧ h0 = h
set_option maxRecDepth 65536 in
set_option maxHeartbeats 40000000 in
theorem rm2 (l : Launch) (Z : State) (a0 : Array Value) (hw : ∀ d ∈ tables_1, d.before a0 Z = true) (ws : List Jvm.Cond) (p0 : Int64) (p1 : Int64) (h0 : Heap) (n0 : Nat) (Z0 : n0 ≤ h0.size) :
    MetFree l (⟨"java/lang/Math", "max", "(JJ)J"⟩ : MethodName) (head1 (Jvm.Cond.code (⟨"java/lang/Math", "max", "(JJ)J"⟩ : MethodName) jdk_29_method_66_code 4 (some .long) :: ws) ({ frames := 0, cells := 0, slots := 0, locals := 0 } : Room)) (fun a U => a = #[(.long p0), (.long p1)] ∧ Z.Warmed39 U.vm ∧ U.heap = h0) (fun _ _ _ _ _ => True) (fun _ U o U' => ∃ v L, o = .returned v ∧ Q2 Z p0 p1 h0 n0 v U'.heap L ∧ FrameEnd U o U' L ({ frames := 0, cells := 0, slots := 0, locals := 0 } : Room).cells ({ frames := 0, cells := 0, slots := 0, locals := 0 } : Room).slots) := by
  refine MetFree.of_bodySF (Jvm.Free.JP.mathPlain rfl (by decide +kernel)) hisR ?_
  intro p e s m args below meth c s₁ Bd hml0 hP hK
  obtain ⟨rfl, hZ, hh⟩ := hP
  have hx := Bd.exec
  have hby := Bd.bytes
  have hml : c.maxLocals = 4 := hml0
  have hown : s.vm.findClass "java/lang/Math" = some m.cls := findClass_of_methodNamed Bd.named
  have hnm := (name_of_methodNamed Bd.named Bd.method).1
  have X0 : Stand p l e ({ frames := 0, cells := 0, slots := 0, locals := 0 } : Room) s m #[(.long p0), (.long p1)] below meth c s₁ [] 0 0 := Stand.of_body Bd
  have eH0 : s₁.heap = h0 := by rw [← hh, Bd.state]; rfl
  have N0 := Fr.nil n0
  show Gt p.tables e below (fun o U' => ∃ v L, o = .returned v ∧ Q2 Z p0 p1 h0 n0 v U'.heap L ∧ FrameEnd s o U' L ({ frames := 0, cells := 0, slots := 0, locals := 0 } : Room).cells ({ frames := 0, cells := 0, slots := 0, locals := 0 } : Room).slots) _
  refine own_cast (ef2 m p0 p1) ?_
  refine own_lloadN X0 hx hby rfl d2_0 (pc' := 1) rfl ?_
  refine own_lloadN X0 hx hby rfl d2_1 (pc' := 2) rfl ?_
  refine own_lcmp X0 hx hby rfl d2_2 (pc' := 3) rfl ?_
  by_cases hc1 : p0 < p1
  · refine own_ifT X0 hx hby d2_3 (own_lc_lt_p hc1) (by decide) (pc' := 10) (by decide) ?_
    refine own_lloadN X0 hx hby rfl d2_10 (pc' := 11) rfl ?_
    exact own_retL X0 hx hby Bd.notSynchronized Bd.returns d2_11 (by decide) (by decide) eH0 ⟨(by rw [if_pos hc1]), N0, rfl⟩
  · refine own_ifF X0 hx hby d2_3 (own_lc_lt_n hc1) (pc' := 6) rfl ?_
    refine own_lloadN X0 hx hby rfl d2_6 (pc' := 7) rfl ?_
    refine own_goto X0 hx hby d2_7 (by decide) (pc' := 11) (by decide) ?_
    exact own_retL X0 hx hby Bd.notSynchronized Bd.returns d2_11 (by decide) (by decide) eH0 ⟨(by rw [if_neg hc1]), N0, rfl⟩
theorem ef3 (m : MethodId) (x0 : Int64) (x1 : Int64) : entryFrame m #[(.long x0), (.long x1)] 4 = mkF m 0 #[.val (.long x0), .second, .val (.long x1), .second] [] := by first | (simp [entryFrame, mkF, argsToLocals, Value.category]; done) | rfl
def Q3 (Z : State) (p0 : Int64) (p1 : Int64) (h0 : Heap) (n0 : Nat) (v : Option Value) (h : Heap) (L : List Loc) : Prop := v = some (.long (if p1 < p0 then p1 else p0)) ∧ Fr n0 L ∧ h0 = h
set_option maxRecDepth 65536 in
set_option maxHeartbeats 40000000 in
theorem rm3 (l : Launch) (Z : State) (a0 : Array Value) (hw : ∀ d ∈ tables_1, d.before a0 Z = true) (ws : List Jvm.Cond) (p0 : Int64) (p1 : Int64) (h0 : Heap) (n0 : Nat) (Z0 : n0 ≤ h0.size) :
    MetFree l (⟨"java/lang/Math", "min", "(JJ)J"⟩ : MethodName) (head1 (Jvm.Cond.code (⟨"java/lang/Math", "min", "(JJ)J"⟩ : MethodName) jdk_29_method_70_code 4 (some .long) :: ws) ({ frames := 0, cells := 0, slots := 0, locals := 0 } : Room)) (fun a U => a = #[(.long p0), (.long p1)] ∧ Z.Warmed39 U.vm ∧ U.heap = h0) (fun _ _ _ _ _ => True) (fun _ U o U' => ∃ v L, o = .returned v ∧ Q3 Z p0 p1 h0 n0 v U'.heap L ∧ FrameEnd U o U' L ({ frames := 0, cells := 0, slots := 0, locals := 0 } : Room).cells ({ frames := 0, cells := 0, slots := 0, locals := 0 } : Room).slots) := by
  refine MetFree.of_bodySF (Jvm.Free.JP.mathPlain rfl (by decide +kernel)) hisR ?_
  intro p e s m args below meth c s₁ Bd hml0 hP hK
  obtain ⟨rfl, hZ, hh⟩ := hP
  have hx := Bd.exec
  have hby := Bd.bytes
  have hml : c.maxLocals = 4 := hml0
  have hown : s.vm.findClass "java/lang/Math" = some m.cls := findClass_of_methodNamed Bd.named
  have hnm := (name_of_methodNamed Bd.named Bd.method).1
  have X0 : Stand p l e ({ frames := 0, cells := 0, slots := 0, locals := 0 } : Room) s m #[(.long p0), (.long p1)] below meth c s₁ [] 0 0 := Stand.of_body Bd
  have eH0 : s₁.heap = h0 := by rw [← hh, Bd.state]; rfl
  have N0 := Fr.nil n0
  show Gt p.tables e below (fun o U' => ∃ v L, o = .returned v ∧ Q3 Z p0 p1 h0 n0 v U'.heap L ∧ FrameEnd s o U' L ({ frames := 0, cells := 0, slots := 0, locals := 0 } : Room).cells ({ frames := 0, cells := 0, slots := 0, locals := 0 } : Room).slots) _
  refine own_cast (ef3 m p0 p1) ?_
  refine own_lloadN X0 hx hby rfl d3_0 (pc' := 1) rfl ?_
  refine own_lloadN X0 hx hby rfl d3_1 (pc' := 2) rfl ?_
  refine own_lcmp X0 hx hby rfl d3_2 (pc' := 3) rfl ?_
  by_cases hc1 : p1 < p0
  · refine own_ifT X0 hx hby d3_3 (own_lc_gt_p hc1) (by decide) (pc' := 10) (by decide) ?_
    refine own_lloadN X0 hx hby rfl d3_10 (pc' := 11) rfl ?_
    exact own_retL X0 hx hby Bd.notSynchronized Bd.returns d3_11 (by decide) (by decide) eH0 ⟨(by rw [if_pos hc1]), N0, rfl⟩
  · refine own_ifF X0 hx hby d3_3 (own_lc_gt_n hc1) (pc' := 6) rfl ?_
    refine own_lloadN X0 hx hby rfl d3_6 (pc' := 7) rfl ?_
    refine own_goto X0 hx hby d3_7 (by decide) (pc' := 11) (by decide) ?_
    exact own_retL X0 hx hby Bd.notSynchronized Bd.returns d3_11 (by decide) (by decide) eH0 ⟨(by rw [if_neg hc1]), N0, rfl⟩
theorem ef4 (m : MethodId) (x0 : Int32) (x1 : Int32) (x2 : Int32) : entryFrame m #[(.int x0), (.int x1), (.int x2)] 3 = mkF m 0 #[.val (.int x0), .val (.int x1), .val (.int x2)] [] := by first | (simp [entryFrame, mkF, argsToLocals, Value.category]; done) | rfl
def Q4 (Z : State) (p0 : Int32) (p1 : Int32) (p2 : Int32) (h0 : Heap) (n0 : Nat) (v : Option Value) (h : Heap) (L : List Loc) : Prop := v = some (.double (if p0 = 0 then (0 : UInt64) else (FP.ddiv (FP.i2d p0) (FP.l2d (((p1.toInt64) + (p2.toInt64)) - (p0.toInt64)))))) ∧ Fr n0 L ∧ h0 = h
set_option maxRecDepth 65536 in
set_option maxHeartbeats 40000000 in
theorem rm4 (l : Launch) (Z : State) (a0 : Array Value) (hw : ∀ d ∈ tables_1, d.before a0 Z = true) (ws : List Jvm.Cond) (p0 : Int32) (p1 : Int32) (p2 : Int32) (h0 : Heap) (n0 : Nat) (Z0 : n0 ≤ h0.size) (hn17_1 : ((¬ (p0 = 0)) → NoNaN64 (FP.ddiv (FP.i2d p0) (FP.l2d (((p1.toInt64) + (p2.toInt64)) - (p0.toInt64)))))) :
    MetFree l (⟨"com/example/pausanias/pausanias/text/Jaccard", "similarity", "(III)D"⟩ : MethodName) (head1 (Jvm.Cond.code (⟨"com/example/pausanias/pausanias/text/Jaccard", "similarity", "(III)D"⟩ : MethodName) prog_47_method_3_code 3 (some .double) :: ws) ({ frames := 0, cells := 0, slots := 0, locals := 0 } : Room)) (fun a U => a = #[(.int p0), (.int p1), (.int p2)] ∧ Z.Warmed39 U.vm ∧ U.heap = h0) (fun _ _ _ _ _ => True) (fun _ U o U' => ∃ v L, o = .returned v ∧ Q4 Z p0 p1 p2 h0 n0 v U'.heap L ∧ FrameEnd U o U' L ({ frames := 0, cells := 0, slots := 0, locals := 0 } : Room).cells ({ frames := 0, cells := 0, slots := 0, locals := 0 } : Room).slots) := by
  refine MetFree.of_bodySF (plainFor_of_name pn_com_example_pausanias_pausanias_text_Jaccard) hisR ?_
  intro p e s m args below meth c s₁ Bd hml0 hP hK
  obtain ⟨rfl, hZ, hh⟩ := hP
  have hx := Bd.exec
  have hby := Bd.bytes
  have hml : c.maxLocals = 3 := hml0
  have hown : s.vm.findClass "com/example/pausanias/pausanias/text/Jaccard" = some m.cls := findClass_of_methodNamed Bd.named
  have hnm := (name_of_methodNamed Bd.named Bd.method).1
  have X0 : Stand p l e ({ frames := 0, cells := 0, slots := 0, locals := 0 } : Room) s m #[(.int p0), (.int p1), (.int p2)] below meth c s₁ [] 0 0 := Stand.of_body Bd
  have eH0 : s₁.heap = h0 := by rw [← hh, Bd.state]; rfl
  have N0 := Fr.nil n0
  show Gt p.tables e below (fun o U' => ∃ v L, o = .returned v ∧ Q4 Z p0 p1 p2 h0 n0 v U'.heap L ∧ FrameEnd s o U' L ({ frames := 0, cells := 0, slots := 0, locals := 0 } : Room).cells ({ frames := 0, cells := 0, slots := 0, locals := 0 } : Room).slots) _
  refine own_cast (ef4 m p0 p1 p2) ?_
  refine own_iloadN X0 hx hby rfl d4_0 (pc' := 1) rfl ?_
  by_cases hc1 : p0 = 0
  · refine own_ifF X0 hx hby d4_1 (own_i0_ne_p hc1) (pc' := 4) rfl ?_
    refine own_dconst0 X0 hx hby (v := (0 : UInt64)) (by decide) d4_4 (pc' := 5) rfl ?_
    exact own_retD X0 hx hby Bd.notSynchronized Bd.returns d4_5 (by decide) (by decide) eH0 ⟨(by rw [if_pos hc1]), N0, rfl⟩
  · refine own_ifT X0 hx hby d4_1 (own_i0_ne_n hc1) (by decide) (pc' := 6) (by decide) ?_
    refine own_iloadN X0 hx hby rfl d4_6 (pc' := 7) rfl ?_
    refine own_i2d X0 hx hby rfl d4_7 (pc' := 8) rfl ?_
    refine own_iloadN X0 hx hby rfl d4_8 (pc' := 9) rfl ?_
    refine own_i2l X0 hx hby rfl d4_9 (pc' := 10) rfl ?_
    refine own_iloadN X0 hx hby rfl d4_10 (pc' := 11) rfl ?_
    refine own_i2l X0 hx hby rfl d4_11 (pc' := 12) rfl ?_
    refine own_ladd X0 hx hby rfl d4_12 (pc' := 13) rfl ?_
    refine own_iloadN X0 hx hby rfl d4_13 (pc' := 14) rfl ?_
    refine own_i2l X0 hx hby rfl d4_14 (pc' := 15) rfl ?_
    refine own_lsub X0 hx hby rfl d4_15 (pc' := 16) rfl ?_
    refine own_l2d X0 hx hby rfl d4_16 (pc' := 17) rfl ?_
    refine own_ddiv X0 hx hby (hn17_1 hc1) rfl d4_17 (pc' := 18) rfl ?_
    exact own_retD X0 hx hby Bd.notSynchronized Bd.returns d4_18 (by decide) (by decide) eH0 ⟨(by rw [if_neg hc1]), N0, rfl⟩
theorem ef0 (m : MethodId) (x0 : Int32) (x1 : Int32) (x2 : Int32) (x3 : Int32) : entryFrame m #[(.int x0), (.int x1), (.int x2), (.int x3)] maxLocals = mkF m 0 #[.val (.int x0), .val (.int x1), .val (.int x2), .val (.int x3), .unset, .unset, .unset, .unset, .unset, .unset, .unset, .unset, .unset, .unset, .unset, .unset, .unset, .unset] [] := by first | (simp [entryFrame, mkF, argsToLocals, Value.category, maxLocals]; done) | rfl
def Q0 (Z : State) (p0 : Int32) (p1 : Int32) (p2 : Int32) (p3 : Int32) (h0 : Heap) (n0 : Nat) (v : Option Value) (h : Heap) (L : List Loc) : Prop := v = some (.int 1) ∧ Fr n0 L
set_option maxRecDepth 65536 in
set_option maxHeartbeats 40000000 in
theorem rm0 (l : Launch) (Z : State) (a0 : Array Value) (hw : ∀ d ∈ tables_1, d.before a0 Z = true) (ws : List Jvm.Cond) (p0 : Int32) (p1 : Int32) (p2 : Int32) (p3 : Int32) (h0 : Heap) (n0 : Nat) (Z0 : n0 ≤ h0.size) :
    MetFree l x (head1 (Jvm.Cond.code x code maxLocals ret :: ws) room_1) (fun a U => a = #[(.int p0), (.int p1), (.int p2), (.int p3)] ∧ Z.Warmed39 U.vm ∧ U.heap = h0) (fun _ _ _ _ _ => True) (fun _ U o U' => ∃ v L, o = .returned v ∧ Q0 Z p0 p1 p2 p3 h0 n0 v U'.heap L ∧ FrameEnd U o U' L 0 0) := by
  refine MetFree.of_bodySF (plainFor_of_name pn_com_example_pausanias_pausanias_text_JaccardSimilarityPinLaw) hisR ?_
  intro p e s m args below meth c s₁ Bd hml0 hP hK
  obtain ⟨rfl, hZ, hh⟩ := hP
  have hx := Bd.exec
  have hby := Bd.bytes
  have hml : c.maxLocals = 18 := hml0
  have hown : s.vm.findClass "com/example/pausanias/pausanias/text/JaccardSimilarityPinLaw" = some m.cls := findClass_of_methodNamed Bd.named
  have hnm := (name_of_methodNamed Bd.named Bd.method).1
  have X0 : Stand p l e room_1 s m #[(.int p0), (.int p1), (.int p2), (.int p3)] below meth c s₁ [] 0 0 := Stand.of_body Bd
  have eH0 : s₁.heap = h0 := by rw [← hh, Bd.state]; rfl
  have N0 := Fr.nil n0
  show Gt p.tables e below (fun o U' => ∃ v L, o = .returned v ∧ Q0 Z p0 p1 p2 p3 h0 n0 v U'.heap L ∧ FrameEnd s o U' L 0 0) _
  refine own_cast (ef0 m p0 p1 p2 p3) ?_
  refine own_iloadN X0 hx hby rfl at_0 (pc' := 1) rfl ?_
  refine own_ldcI X0 hx hby hZ hown (hw _ (List.mem_of_getElem? (i := 0) rfl)) at_1 (pc' := 3) rfl ?_
  refine own_iand X0 hx hby rfl at_3 (pc' := 4) rfl ?_
  generalize q_n1 : (p0 &&& (2147483647 : Int32)) = n1
  refine own_istore X0 hx hby (L' := #[.val (.int p0), .val (.int p1), .val (.int p2), .val (.int p3), .val (.int n1), .unset, .unset, .unset, .unset, .unset, .unset, .unset, .unset, .unset, .unset, .unset, .unset, .unset]) rfl at_4 (pc' := 6) rfl ?_
  refine own_iloadN X0 hx hby rfl at_6 (pc' := 7) rfl ?_
  refine own_ldcI X0 hx hby hZ hown (hw _ (List.mem_of_getElem? (i := 0) rfl)) at_7 (pc' := 9) rfl ?_
  refine own_iand X0 hx hby rfl at_9 (pc' := 10) rfl ?_
  generalize q_n2 : (p1 &&& (2147483647 : Int32)) = n2
  refine own_istore X0 hx hby (L' := #[.val (.int p0), .val (.int p1), .val (.int p2), .val (.int p3), .val (.int n1), .val (.int n2), .unset, .unset, .unset, .unset, .unset, .unset, .unset, .unset, .unset, .unset, .unset, .unset]) rfl at_10 (pc' := 12) rfl ?_
  refine own_iload X0 hx hby rfl at_12 (pc' := 14) rfl ?_
  refine own_iload X0 hx hby rfl at_14 (pc' := 16) rfl ?_
  refine own_static X0 hx hby hZ (y := (⟨"java/lang/Math", "min", "(II)I"⟩ : MethodName)) (rest := []) hown (hw _ (List.mem_of_getElem? (i := 1) rfl)) (hw _ (List.mem_of_getElem? (i := 2) rfl)) (hw _ (List.mem_of_getElem? (i := 4) rfl)) (hw _ (List.mem_of_getElem? (i := 3) rfl)) (by decide) (rm1 l Z a0 hw [] n1 n2 h0 n0 Z0) eH0 (by rw [hml]; rfl) (argsL := [(.int n1), (.int n2)]) rfl (lenOf pd_0 rfl) rfl at_16 (pc' := 19) rfl (by decide) (W := 0) (Nat.le_of_eq rfl) (by decide) (by decide) (by decide) (fun T3 h3 Lc3 v3r X3 eH3 hQ3 => ?_)
  obtain ⟨rfl, Nq3, rfl⟩ := hQ3
  have N3 := Fr.app N0 Nq3
  dsimp only [Option.toList, List.cons_append, List.nil_append]
  generalize q_r4 : (if n2 < n1 then n2 else n1) = r4
  refine own_istore X3 hx hby (L' := #[.val (.int p0), .val (.int p1), .val (.int p2), .val (.int p3), .val (.int n1), .val (.int n2), .val (.int r4), .unset, .unset, .unset, .unset, .unset, .unset, .unset, .unset, .unset, .unset, .unset]) rfl at_19 (pc' := 21) rfl ?_
  have z0 := own_msk p0
  rw [q_n1] at z0
  have q0 := own_msk p1
  rw [q_n2] at q0
  have rz := rng32 n1
  have rq := rng32 n2
  obtain ⟨m1, m2, m3⟩ := own_min q_r4
  obtain ⟨nz1, s0, s1⟩ := own_s p2 (m := r4) (by omega)
  refine own_iloadN X3 hx hby rfl at_21 (pc' := 22) rfl ?_
  refine own_i2l X3 hx hby rfl at_22 (pc' := 23) rfl ?_
  refine own_ldc2L X3 hx hby hZ hown (hw _ (List.mem_of_getElem? (i := 5) rfl)) at_23 (pc' := 26) rfl ?_
  refine own_land X3 hx hby rfl at_26 (pc' := 27) rfl ?_
  refine own_iload X3 hx hby rfl at_27 (pc' := 29) rfl ?_
  refine own_i2l X3 hx hby rfl at_29 (pc' := 30) rfl ?_
  refine own_lconst X3 hx hby (v := (1 : Int64)) (by decide) at_30 (pc' := 31) rfl ?_
  refine own_ladd X3 hx hby rfl at_31 (pc' := 32) rfl ?_
  refine own_lrem X3 hx hby nz1 rfl at_32 (pc' := 33) rfl ?_
  refine own_l2i X3 hx hby rfl at_33 (pc' := 34) rfl ?_
  generalize q_n5 : ((((p2.toInt64) &&& (2147483647 : Int64)) % ((r4.toInt64) + (1 : Int64))).toInt32) = n5
  refine own_istore X3 hx hby (L' := #[.val (.int p0), .val (.int p1), .val (.int p2), .val (.int p3), .val (.int n1), .val (.int n2), .val (.int r4), .val (.int n5), .unset, .unset, .unset, .unset, .unset, .unset, .unset, .unset, .unset, .unset]) rfl at_34 (pc' := 36) rfl ?_
  rw [q_n5] at s0 s1
  refine own_iload X3 hx hby rfl at_36 (pc' := 38) rfl ?_
  refine own_i2l X3 hx hby rfl at_38 (pc' := 39) rfl ?_
  refine own_iload X3 hx hby rfl at_39 (pc' := 41) rfl ?_
  refine own_i2l X3 hx hby rfl at_41 (pc' := 42) rfl ?_
  refine own_ladd X3 hx hby rfl at_42 (pc' := 43) rfl ?_
  generalize q_n6 : ((n1.toInt64) + (n2.toInt64)) = n6
  refine own_lstore X3 hx hby (L' := #[.val (.int p0), .val (.int p1), .val (.int p2), .val (.int p3), .val (.int n1), .val (.int n2), .val (.int r4), .val (.int n5), .val (.long n6), .second, .unset, .unset, .unset, .unset, .unset, .unset, .unset, .unset]) rfl at_43 (pc' := 45) rfl ?_
  have et : n6.toInt = n1.toInt + n2.toInt := by rw [← q_n6, ow_ladd (by rw [c_i2l, c_i2l]; omega), c_i2l, c_i2l]
  refine own_iload X3 hx hby rfl at_45 (pc' := 47) rfl ?_
  refine own_i2l X3 hx hby rfl at_47 (pc' := 48) rfl ?_
  refine own_lload X3 hx hby rfl at_48 (pc' := 50) rfl ?_
  refine own_ldc2L X3 hx hby hZ hown (hw _ (List.mem_of_getElem? (i := 5) rfl)) at_50 (pc' := 53) rfl ?_
  refine own_lsub X3 hx hby rfl at_53 (pc' := 54) rfl ?_
  refine own_static X3 hx hby hZ (y := (⟨"java/lang/Math", "max", "(JJ)J"⟩ : MethodName)) (rest := []) hown (hw _ (List.mem_of_getElem? (i := 6) rfl)) (hw _ (List.mem_of_getElem? (i := 7) rfl)) (hw _ (List.mem_of_getElem? (i := 8) rfl)) (hw _ (List.mem_of_getElem? (i := 3) rfl)) (by decide) (rm2 l Z a0 hw [] (n5.toInt64) (n6 - (2147483647 : Int64)) h0 n0 Z0) eH3 (by rw [hml]; rfl) (argsL := [(.long (n5.toInt64)), (.long (n6 - (2147483647 : Int64)))]) rfl (lenOf pd_1 rfl) rfl at_54 (pc' := 57) rfl (by decide) (W := 0) (Nat.le_of_eq rfl) (by decide) (by decide) (by decide) (fun T7 h7 Lc7 v7r X7 eH7 hQ7 => ?_)
  obtain ⟨rfl, Nq7, rfl⟩ := hQ7
  have N7 := Fr.app N3 Nq7
  dsimp only [Option.toList, List.cons_append, List.nil_append]
  generalize q_r8 : (if (n5.toInt64) < (n6 - (2147483647 : Int64)) then (n6 - (2147483647 : Int64)) else (n5.toInt64)) = r8
  refine own_lstore X7 hx hby (L' := #[.val (.int p0), .val (.int p1), .val (.int p2), .val (.int p3), .val (.int n1), .val (.int n2), .val (.int r4), .val (.int n5), .val (.long n6), .second, .val (.long r8), .second, .unset, .unset, .unset, .unset, .unset, .unset]) rfl at_57 (pc' := 59) rfl ?_
  refine own_ldc2L X7 hx hby hZ hown (hw _ (List.mem_of_getElem? (i := 5) rfl)) at_59 (pc' := 62) rfl ?_
  refine own_lload X7 hx hby rfl at_62 (pc' := 64) rfl ?_
  refine own_iload X7 hx hby rfl at_64 (pc' := 66) rfl ?_
  refine own_i2l X7 hx hby rfl at_66 (pc' := 67) rfl ?_
  refine own_lsub X7 hx hby rfl at_67 (pc' := 68) rfl ?_
  refine own_static X7 hx hby hZ (y := (⟨"java/lang/Math", "min", "(JJ)J"⟩ : MethodName)) (rest := []) hown (hw _ (List.mem_of_getElem? (i := 9) rfl)) (hw _ (List.mem_of_getElem? (i := 10) rfl)) (hw _ (List.mem_of_getElem? (i := 11) rfl)) (hw _ (List.mem_of_getElem? (i := 3) rfl)) (by decide) (rm3 l Z a0 hw [] (2147483647 : Int64) (n6 - (n5.toInt64)) h0 n0 Z0) eH7 (by rw [hml]; rfl) (argsL := [(.long (2147483647 : Int64)), (.long (n6 - (n5.toInt64)))]) rfl (lenOf pd_1 rfl) rfl at_68 (pc' := 71) rfl (by decide) (W := 0) (Nat.le_of_eq rfl) (by decide) (by decide) (by decide) (fun T9 h9 Lc9 v9r X9 eH9 hQ9 => ?_)
  obtain ⟨rfl, Nq9, rfl⟩ := hQ9
  have N9 := Fr.app N7 Nq9
  dsimp only [Option.toList, List.cons_append, List.nil_append]
  generalize q_r10 : (if (n6 - (n5.toInt64)) < (2147483647 : Int64) then (n6 - (n5.toInt64)) else (2147483647 : Int64)) = r10
  refine own_lstore X9 hx hby (L' := #[.val (.int p0), .val (.int p1), .val (.int p2), .val (.int p3), .val (.int n1), .val (.int n2), .val (.int r4), .val (.int n5), .val (.long n6), .second, .val (.long r8), .second, .val (.long r10), .second, .unset, .unset, .unset, .unset]) rfl at_71 (pc' := 73) rfl ?_
  obtain ⟨nz2, hs2⟩ := own_s2 p3 (s := n5) et s0 (by omega) (by omega) q_r8 q_r10
  refine own_lload X9 hx hby rfl at_73 (pc' := 75) rfl ?_
  refine own_iloadN X9 hx hby rfl at_75 (pc' := 76) rfl ?_
  refine own_i2l X9 hx hby rfl at_76 (pc' := 77) rfl ?_
  refine own_ldc2L X9 hx hby hZ hown (hw _ (List.mem_of_getElem? (i := 5) rfl)) at_77 (pc' := 80) rfl ?_
  refine own_land X9 hx hby rfl at_80 (pc' := 81) rfl ?_
  refine own_lload X9 hx hby rfl at_81 (pc' := 83) rfl ?_
  refine own_lload X9 hx hby rfl at_83 (pc' := 85) rfl ?_
  refine own_lsub X9 hx hby rfl at_85 (pc' := 86) rfl ?_
  refine own_lconst X9 hx hby (v := (1 : Int64)) (by decide) at_86 (pc' := 87) rfl ?_
  refine own_ladd X9 hx hby rfl at_87 (pc' := 88) rfl ?_
  refine own_lrem X9 hx hby nz2 rfl at_88 (pc' := 89) rfl ?_
  refine own_ladd X9 hx hby rfl at_89 (pc' := 90) rfl ?_
  refine own_l2i X9 hx hby rfl at_90 (pc' := 91) rfl ?_
  generalize q_n11 : ((r8 + (((p3.toInt64) &&& (2147483647 : Int64)) % ((r10 - r8) + (1 : Int64)))).toInt32) = n11
  refine own_istore X9 hx hby (L' := #[.val (.int p0), .val (.int p1), .val (.int p2), .val (.int p3), .val (.int n1), .val (.int n2), .val (.int r4), .val (.int n5), .val (.long n6), .second, .val (.long r8), .second, .val (.long r10), .second, .val (.int n11), .unset, .unset, .unset]) rfl at_91 (pc' := 93) rfl ?_
  refine own_lload X9 hx hby rfl at_93 (pc' := 95) rfl ?_
  refine own_iload X9 hx hby rfl at_95 (pc' := 97) rfl ?_
  refine own_i2l X9 hx hby rfl at_97 (pc' := 98) rfl ?_
  refine own_lsub X9 hx hby rfl at_98 (pc' := 99) rfl ?_
  refine own_l2i X9 hx hby rfl at_99 (pc' := 100) rfl ?_
  generalize q_n12 : ((n6 - (n11.toInt64)).toInt32) = n12
  refine own_istore X9 hx hby (L' := #[.val (.int p0), .val (.int p1), .val (.int p2), .val (.int p3), .val (.int n1), .val (.int n2), .val (.int r4), .val (.int n5), .val (.long n6), .second, .val (.long r8), .second, .val (.long r10), .second, .val (.int n11), .val (.int n12), .unset, .unset]) rfl at_100 (pc' := 102) rfl ?_
  obtain ⟨u0, u1, u2⟩ := hs2 q_n11 q_n12
  refine own_iload X9 hx hby rfl at_102 (pc' := 104) rfl ?_
  refine own_iload X9 hx hby rfl at_104 (pc' := 106) rfl ?_
  refine own_iload X9 hx hby rfl at_106 (pc' := 108) rfl ?_
  have hh0 : 0 ≤ (n5).toInt := by omega
  have hh1 : 0 ≤ (n1).toInt := by omega
  have hh2 : 0 ≤ (n2).toInt := by omega
  have hh3 : (n1).toInt + (n2).toInt = n1.toInt + n2.toInt := by omega
  have hh4 : (n5).toInt ≤ n1.toInt + n2.toInt - (n5).toInt := by omega
  refine own_static X9 hx hby hZ (y := (⟨"com/example/pausanias/pausanias/text/Jaccard", "similarity", "(III)D"⟩ : MethodName)) (rest := []) hown (hw _ (List.mem_of_getElem? (i := 12) rfl)) (hw _ (List.mem_of_getElem? (i := 13) rfl)) (hw _ (List.mem_of_getElem? (i := 15) rfl)) (hw _ (List.mem_of_getElem? (i := 14) rfl)) (by decide) (rm4 l Z a0 hw [] n5 n1 n2 h0 n0 Z0 (own_simnn hh0 hh1 hh2 hh3 hh4)) eH9 (by rw [hml]; rfl) (argsL := [(.int n5), (.int n1), (.int n2)]) rfl (lenOf pd_2 rfl) rfl at_108 (pc' := 111) rfl (by decide) (W := 0) (Nat.le_of_eq rfl) (by decide) (by decide) (by decide) (fun T13 h13 Lc13 v13r X13 eH13 hQ13 => ?_)
  obtain ⟨rfl, Nq13, rfl⟩ := hQ13
  have N13 := Fr.app N9 Nq13
  dsimp only [Option.toList, List.cons_append, List.nil_append]
  generalize q_r14 : (if n5 = 0 then (0 : UInt64) else (FP.ddiv (FP.i2d n5) (FP.l2d (((n1.toInt64) + (n2.toInt64)) - (n5.toInt64))))) = r14
  have S0 := own_sim hh0 hh1 hh2 hh3 hh4 q_r14
  refine own_dstore X13 hx hby (L' := #[.val (.int p0), .val (.int p1), .val (.int p2), .val (.int p3), .val (.int n1), .val (.int n2), .val (.int r4), .val (.int n5), .val (.long n6), .second, .val (.long r8), .second, .val (.long r10), .second, .val (.int n11), .val (.int n12), .val (.double r14), .second]) rfl at_111 (pc' := 113) rfl ?_
  refine own_iload X13 hx hby rfl at_113 (pc' := 115) rfl ?_
  by_cases hc15 : n5 = 0
  · have s00 : n5.toInt = 0 := by rw [hc15]; decide
    have pq : 0 < n5.toInt ↔ False := ⟨fun h => by omega, False.elim⟩
    refine own_ifF X13 hx hby at_115 (own_i0_ne_p hc15) (pc' := 118) rfl ?_
    refine own_dload X13 hx hby rfl at_118 (pc' := 120) rfl ?_
    refine own_dconst0 X13 hx hby (v := (0 : UInt64)) (by decide) at_120 (pc' := 121) rfl ?_
    refine own_dcmp X13 hx hby rfl at_121 (pc' := 122) rfl ?_
    have hk16 : deq r14 (0 : UInt64) := (Sim.zero (s00 ▸ S0))
    refine own_ifT X13 hx hby at_122 (own_dl_eq_p hk16) (by decide) (pc' := 216) (by decide) ?_
    refine own_iload X13 hx hby rfl at_216 (pc' := 218) rfl ?_
    refine own_iload X13 hx hby rfl at_218 (pc' := 220) rfl ?_
    refine own_iload X13 hx hby rfl at_220 (pc' := 222) rfl ?_
    have hh0 : 0 ≤ (n5).toInt := by omega
    have hh1 : 0 ≤ (n2).toInt := by omega
    have hh2 : 0 ≤ (n1).toInt := by omega
    have hh3 : (n2).toInt + (n1).toInt = n1.toInt + n2.toInt := by omega
    have hh4 : (n5).toInt ≤ n1.toInt + n2.toInt - (n5).toInt := by omega
    refine own_static X13 hx hby hZ (y := (⟨"com/example/pausanias/pausanias/text/Jaccard", "similarity", "(III)D"⟩ : MethodName)) (rest := []) hown (hw _ (List.mem_of_getElem? (i := 12) rfl)) (hw _ (List.mem_of_getElem? (i := 13) rfl)) (hw _ (List.mem_of_getElem? (i := 15) rfl)) (hw _ (List.mem_of_getElem? (i := 14) rfl)) (by decide) (rm4 l Z a0 hw [] n5 n2 n1 h0 n0 Z0 (own_simnn hh0 hh1 hh2 hh3 hh4)) eH13 (by rw [hml]; rfl) (argsL := [(.int n5), (.int n2), (.int n1)]) rfl (lenOf pd_2 rfl) rfl at_222 (pc' := 225) rfl (by decide) (W := 0) (Nat.le_of_eq rfl) (by decide) (by decide) (by decide) (fun T17 h17 Lc17 v17r X17 eH17 hQ17 => ?_)
    obtain ⟨rfl, Nq17, rfl⟩ := hQ17
    have N17 := Fr.app N13 Nq17
    dsimp only [Option.toList, List.cons_append, List.nil_append]
    generalize q_r18 : (if n5 = 0 then (0 : UInt64) else (FP.ddiv (FP.i2d n5) (FP.l2d (((n2.toInt64) + (n1.toInt64)) - (n5.toInt64))))) = r18
    have S1 := own_sim hh0 hh1 hh2 hh3 hh4 q_r18
    refine own_dload X17 hx hby rfl at_225 (pc' := 227) rfl ?_
    refine own_dcmp X17 hx hby rfl at_227 (pc' := 228) rfl ?_
    have hk19 : deq r18 r14 := S1.eq S0 rfl Iff.rfl
    refine own_ifT X17 hx hby at_228 (own_dl_eq_p hk19) (by decide) (pc' := 233) (by decide) ?_
    refine own_iload X17 hx hby rfl at_233 (pc' := 235) rfl ?_
    refine own_iload X17 hx hby rfl at_235 (pc' := 237) rfl ?_
    refine own_iload X17 hx hby rfl at_237 (pc' := 239) rfl ?_
    have hh0 : 0 ≤ (n5).toInt := by omega
    have hh1 : 0 ≤ (n11).toInt := by omega
    have hh2 : 0 ≤ (n12).toInt := by omega
    have hh3 : (n11).toInt + (n12).toInt = n1.toInt + n2.toInt := by omega
    have hh4 : (n5).toInt ≤ n1.toInt + n2.toInt - (n5).toInt := by omega
    refine own_static X17 hx hby hZ (y := (⟨"com/example/pausanias/pausanias/text/Jaccard", "similarity", "(III)D"⟩ : MethodName)) (rest := []) hown (hw _ (List.mem_of_getElem? (i := 12) rfl)) (hw _ (List.mem_of_getElem? (i := 13) rfl)) (hw _ (List.mem_of_getElem? (i := 15) rfl)) (hw _ (List.mem_of_getElem? (i := 14) rfl)) (by decide) (rm4 l Z a0 hw [] n5 n11 n12 h0 n0 Z0 (own_simnn hh0 hh1 hh2 hh3 hh4)) eH17 (by rw [hml]; rfl) (argsL := [(.int n5), (.int n11), (.int n12)]) rfl (lenOf pd_2 rfl) rfl at_239 (pc' := 242) rfl (by decide) (W := 0) (Nat.le_of_eq rfl) (by decide) (by decide) (by decide) (fun T20 h20 Lc20 v20r X20 eH20 hQ20 => ?_)
    obtain ⟨rfl, Nq20, rfl⟩ := hQ20
    have N20 := Fr.app N17 Nq20
    dsimp only [Option.toList, List.cons_append, List.nil_append]
    generalize q_r21 : (if n5 = 0 then (0 : UInt64) else (FP.ddiv (FP.i2d n5) (FP.l2d (((n11.toInt64) + (n12.toInt64)) - (n5.toInt64))))) = r21
    have S2 := own_sim hh0 hh1 hh2 hh3 hh4 q_r21
    refine own_dload X20 hx hby rfl at_242 (pc' := 244) rfl ?_
    refine own_dcmp X20 hx hby rfl at_244 (pc' := 245) rfl ?_
    have hk22 : deq r21 r14 := S2.eq S0 rfl Iff.rfl
    refine own_ifT X20 hx hby at_245 (own_dl_eq_p hk22) (by decide) (pc' := 250) (by decide) ?_
    refine own_iload X20 hx hby rfl at_250 (pc' := 252) rfl ?_
    refine own_ldcI X20 hx hby hZ hown (hw _ (List.mem_of_getElem? (i := 0) rfl)) at_252 (pc' := 254) rfl ?_
    by_cases hc23 : n1 < (2147483647 : Int32)
    · refine own_icF X20 hx hby at_254 (own_ic_ge_p hc23) (pc' := 257) rfl ?_
      refine own_iload X20 hx hby rfl at_257 (pc' := 259) rfl ?_
      refine own_iload X20 hx hby rfl at_259 (pc' := 261) rfl ?_
      refine own_iconst X20 hx hby (v := (1 : Int32)) (by decide) at_261 (pc' := 262) rfl ?_
      refine own_iadd X20 hx hby rfl at_262 (pc' := 263) rfl ?_
      refine own_iload X20 hx hby rfl at_263 (pc' := 265) rfl ?_
      have l1 := Int32.lt_iff_toInt_lt.mp hc23
      have l2 : (2147483647 : Int32).toInt = 2147483647 := by decide
      have i1 := own_inc (x := n1) (by omega)
      have hh0 : 0 ≤ (n5).toInt := by omega
      have hh1 : 0 ≤ (n1 + (1 : Int32)).toInt := by omega
      have hh2 : 0 ≤ (n2).toInt := by omega
      have hh3 : (n1 + (1 : Int32)).toInt + (n2).toInt = n1.toInt + n2.toInt + 1 := by omega
      have hh4 : (n5).toInt ≤ n1.toInt + n2.toInt + 1 - (n5).toInt := by omega
      refine own_static X20 hx hby hZ (y := (⟨"com/example/pausanias/pausanias/text/Jaccard", "similarity", "(III)D"⟩ : MethodName)) (rest := []) hown (hw _ (List.mem_of_getElem? (i := 12) rfl)) (hw _ (List.mem_of_getElem? (i := 13) rfl)) (hw _ (List.mem_of_getElem? (i := 15) rfl)) (hw _ (List.mem_of_getElem? (i := 14) rfl)) (by decide) (rm4 l Z a0 hw [] n5 (n1 + (1 : Int32)) n2 h0 n0 Z0 (own_simnn hh0 hh1 hh2 hh3 hh4)) eH20 (by rw [hml]; rfl) (argsL := [(.int n5), (.int (n1 + (1 : Int32))), (.int n2)]) rfl (lenOf pd_2 rfl) rfl at_265 (pc' := 268) rfl (by decide) (W := 0) (Nat.le_of_eq rfl) (by decide) (by decide) (by decide) (fun T24 h24 Lc24 v24r X24 eH24 hQ24 => ?_)
      obtain ⟨rfl, Nq24, rfl⟩ := hQ24
      have N24 := Fr.app N20 Nq24
      dsimp only [Option.toList, List.cons_append, List.nil_append]
      generalize q_r25 : (if n5 = 0 then (0 : UInt64) else (FP.ddiv (FP.i2d n5) (FP.l2d ((((n1 + (1 : Int32)).toInt64) + (n2.toInt64)) - (n5.toInt64))))) = r25
      have S4 := own_sim hh0 hh1 hh2 hh3 hh4 q_r25
      refine own_dload X24 hx hby rfl at_268 (pc' := 270) rfl ?_
      refine own_dcmp X24 hx hby rfl at_270 (pc' := 271) rfl ?_
      have hk26 : dle r25 r14 := S4.le S0 (Int.mul_le_mul_of_nonneg_left (by omega) s0) id
      refine own_ifT X24 hx hby at_271 (own_dg_le_p hk26) (by decide) (pc' := 276) (by decide) ?_
      refine own_iload X24 hx hby rfl at_276 (pc' := 278) rfl ?_
      refine own_iload X24 hx hby rfl at_278 (pc' := 280) rfl ?_
      by_cases hc27 : n5 < r4
      · refine own_icF X24 hx hby at_280 (own_ic_ge_p hc27) (pc' := 283) rfl ?_
        refine own_iload X24 hx hby rfl at_283 (pc' := 285) rfl ?_
        refine own_iconst X24 hx hby (v := (1 : Int32)) (by decide) at_285 (pc' := 286) rfl ?_
        refine own_iadd X24 hx hby rfl at_286 (pc' := 287) rfl ?_
        refine own_iload X24 hx hby rfl at_287 (pc' := 289) rfl ?_
        refine own_iload X24 hx hby rfl at_289 (pc' := 291) rfl ?_
        have l3 := Int32.lt_iff_toInt_lt.mp hc27
        have i2 := own_inc (x := n5) (by omega)
        have hh0 : 0 ≤ (n5 + (1 : Int32)).toInt := by omega
        have hh1 : 0 ≤ (n1).toInt := by omega
        have hh2 : 0 ≤ (n2).toInt := by omega
        have hh3 : (n1).toInt + (n2).toInt = n1.toInt + n2.toInt := by omega
        have hh4 : (n5 + (1 : Int32)).toInt ≤ n1.toInt + n2.toInt - (n5 + (1 : Int32)).toInt := by omega
        refine own_static X24 hx hby hZ (y := (⟨"com/example/pausanias/pausanias/text/Jaccard", "similarity", "(III)D"⟩ : MethodName)) (rest := []) hown (hw _ (List.mem_of_getElem? (i := 12) rfl)) (hw _ (List.mem_of_getElem? (i := 13) rfl)) (hw _ (List.mem_of_getElem? (i := 15) rfl)) (hw _ (List.mem_of_getElem? (i := 14) rfl)) (by decide) (rm4 l Z a0 hw [] (n5 + (1 : Int32)) n1 n2 h0 n0 Z0 (own_simnn hh0 hh1 hh2 hh3 hh4)) eH24 (by rw [hml]; rfl) (argsL := [(.int (n5 + (1 : Int32))), (.int n1), (.int n2)]) rfl (lenOf pd_2 rfl) rfl at_291 (pc' := 294) rfl (by decide) (W := 0) (Nat.le_of_eq rfl) (by decide) (by decide) (by decide) (fun T28 h28 Lc28 v28r X28 eH28 hQ28 => ?_)
        obtain ⟨rfl, Nq28, rfl⟩ := hQ28
        have N28 := Fr.app N24 Nq28
        dsimp only [Option.toList, List.cons_append, List.nil_append]
        generalize q_r29 : (if (n5 + (1 : Int32)) = 0 then (0 : UInt64) else (FP.ddiv (FP.i2d (n5 + (1 : Int32))) (FP.l2d (((n1.toInt64) + (n2.toInt64)) - ((n5 + (1 : Int32)).toInt64))))) = r29
        have S5 := own_sim hh0 hh1 hh2 hh3 hh4 q_r29
        refine own_dload X28 hx hby rfl at_294 (pc' := 296) rfl ?_
        refine own_dcmp X28 hx hby rfl at_296 (pc' := 297) rfl ?_
        have hk30 : dge r29 r14 := S0.ge S5 (by rw [i2]; exact own_cr (by omega)) (fun _ => by omega)
        refine own_ifT X28 hx hby at_297 (own_dl_ge_p hk30) (by decide) (pc' := 302) (by decide) ?_
        refine own_iload X28 hx hby rfl at_302 (pc' := 304) rfl ?_
        refine own_ldcI X28 hx hby hZ hown (hw _ (List.mem_of_getElem? (i := 16) rfl)) at_304 (pc' := 306) rfl ?_
        by_cases hc31 : (1073741823 : Int32) < n1
        · refine own_icT X28 hx hby at_306 (own_ic_gt_p hc31) (by decide) (pc' := 339) (by decide) ?_
          refine own_iconst X28 hx hby (v := (1 : Int32)) (by decide) at_339 (pc' := 340) rfl ?_
          exact own_retZ X28 hx hby Bd.notSynchronized Bd.returns (Or.inr rfl) at_340 (by decide) (by decide) eH28 ⟨rfl, N28⟩
        · refine own_icF X28 hx hby at_306 (own_ic_gt_n hc31) (pc' := 309) rfl ?_
          refine own_iload X28 hx hby rfl at_309 (pc' := 311) rfl ?_
          refine own_ldcI X28 hx hby hZ hown (hw _ (List.mem_of_getElem? (i := 16) rfl)) at_311 (pc' := 313) rfl ?_
          by_cases hc32 : (1073741823 : Int32) < n2
          · refine own_icT X28 hx hby at_313 (own_ic_gt_p hc32) (by decide) (pc' := 339) (by decide) ?_
            refine own_iconst X28 hx hby (v := (1 : Int32)) (by decide) at_339 (pc' := 340) rfl ?_
            exact own_retZ X28 hx hby Bd.notSynchronized Bd.returns (Or.inr rfl) at_340 (by decide) (by decide) eH28 ⟨rfl, N28⟩
          · refine own_icF X28 hx hby at_313 (own_ic_gt_n hc32) (pc' := 316) rfl ?_
            refine own_iconst X28 hx hby (v := (2 : Int32)) (by decide) at_316 (pc' := 317) rfl ?_
            refine own_iload X28 hx hby rfl at_317 (pc' := 319) rfl ?_
            refine own_imul X28 hx hby rfl at_319 (pc' := 320) rfl ?_
            refine own_iconst X28 hx hby (v := (2 : Int32)) (by decide) at_320 (pc' := 321) rfl ?_
            refine own_iload X28 hx hby rfl at_321 (pc' := 323) rfl ?_
            refine own_imul X28 hx hby rfl at_323 (pc' := 324) rfl ?_
            refine own_iconst X28 hx hby (v := (2 : Int32)) (by decide) at_324 (pc' := 325) rfl ?_
            refine own_iload X28 hx hby rfl at_325 (pc' := 327) rfl ?_
            refine own_imul X28 hx hby rfl at_327 (pc' := 328) rfl ?_
            have l4 := hc31
            have l5 := hc32
            rw [Int32.lt_iff_toInt_lt] at l4 l5
            have l6 : (1073741823 : Int32).toInt = 1073741823 := by decide
            have d1 := own_dbl (x := n5) (by omega) (by omega)
            have d2 := own_dbl (x := n1) (by omega) (by omega)
            have d3 := own_dbl (x := n2) (by omega) (by omega)
            have hh0 : 0 ≤ ((2 : Int32) * n5).toInt := by omega
            have hh1 : 0 ≤ ((2 : Int32) * n1).toInt := by omega
            have hh2 : 0 ≤ ((2 : Int32) * n2).toInt := by omega
            have hh3 : ((2 : Int32) * n1).toInt + ((2 : Int32) * n2).toInt = 2 * (n1.toInt + n2.toInt) := by omega
            have hh4 : ((2 : Int32) * n5).toInt ≤ 2 * (n1.toInt + n2.toInt) - ((2 : Int32) * n5).toInt := by omega
            refine own_static X28 hx hby hZ (y := (⟨"com/example/pausanias/pausanias/text/Jaccard", "similarity", "(III)D"⟩ : MethodName)) (rest := []) hown (hw _ (List.mem_of_getElem? (i := 12) rfl)) (hw _ (List.mem_of_getElem? (i := 13) rfl)) (hw _ (List.mem_of_getElem? (i := 15) rfl)) (hw _ (List.mem_of_getElem? (i := 14) rfl)) (by decide) (rm4 l Z a0 hw [] ((2 : Int32) * n5) ((2 : Int32) * n1) ((2 : Int32) * n2) h0 n0 Z0 (own_simnn hh0 hh1 hh2 hh3 hh4)) eH28 (by rw [hml]; rfl) (argsL := [(.int ((2 : Int32) * n5)), (.int ((2 : Int32) * n1)), (.int ((2 : Int32) * n2))]) rfl (lenOf pd_2 rfl) rfl at_328 (pc' := 331) rfl (by decide) (W := 0) (Nat.le_of_eq rfl) (by decide) (by decide) (by decide) (fun T33 h33 Lc33 v33r X33 eH33 hQ33 => ?_)
            obtain ⟨rfl, Nq33, rfl⟩ := hQ33
            have N33 := Fr.app N28 Nq33
            dsimp only [Option.toList, List.cons_append, List.nil_append]
            generalize q_r34 : (if ((2 : Int32) * n5) = 0 then (0 : UInt64) else (FP.ddiv (FP.i2d ((2 : Int32) * n5)) (FP.l2d (((((2 : Int32) * n1).toInt64) + (((2 : Int32) * n2).toInt64)) - (((2 : Int32) * n5).toInt64))))) = r34
            have S6 := own_sim hh0 hh1 hh2 hh3 hh4 q_r34
            refine own_dload X33 hx hby rfl at_331 (pc' := 333) rfl ?_
            refine own_dcmp X33 hx hby rfl at_333 (pc' := 334) rfl ?_
            have hk35 : deq r34 r14 := S6.eq S0 (by rw [d1, ← Int.mul_sub, Int.mul_assoc, Int.mul_left_comm]) (by omega)
            refine own_ifT X33 hx hby at_334 (own_dl_eq_p hk35) (by decide) (pc' := 339) (by decide) ?_
            refine own_iconst X33 hx hby (v := (1 : Int32)) (by decide) at_339 (pc' := 340) rfl ?_
            exact own_retZ X33 hx hby Bd.notSynchronized Bd.returns (Or.inr rfl) at_340 (by decide) (by decide) eH33 ⟨rfl, N33⟩
      · refine own_icT X24 hx hby at_280 (own_ic_ge_n hc27) (by decide) (pc' := 302) (by decide) ?_
        refine own_iload X24 hx hby rfl at_302 (pc' := 304) rfl ?_
        refine own_ldcI X24 hx hby hZ hown (hw _ (List.mem_of_getElem? (i := 16) rfl)) at_304 (pc' := 306) rfl ?_
        by_cases hc36 : (1073741823 : Int32) < n1
        · refine own_icT X24 hx hby at_306 (own_ic_gt_p hc36) (by decide) (pc' := 339) (by decide) ?_
          refine own_iconst X24 hx hby (v := (1 : Int32)) (by decide) at_339 (pc' := 340) rfl ?_
          exact own_retZ X24 hx hby Bd.notSynchronized Bd.returns (Or.inr rfl) at_340 (by decide) (by decide) eH24 ⟨rfl, N24⟩
        · refine own_icF X24 hx hby at_306 (own_ic_gt_n hc36) (pc' := 309) rfl ?_
          refine own_iload X24 hx hby rfl at_309 (pc' := 311) rfl ?_
          refine own_ldcI X24 hx hby hZ hown (hw _ (List.mem_of_getElem? (i := 16) rfl)) at_311 (pc' := 313) rfl ?_
          by_cases hc37 : (1073741823 : Int32) < n2
          · refine own_icT X24 hx hby at_313 (own_ic_gt_p hc37) (by decide) (pc' := 339) (by decide) ?_
            refine own_iconst X24 hx hby (v := (1 : Int32)) (by decide) at_339 (pc' := 340) rfl ?_
            exact own_retZ X24 hx hby Bd.notSynchronized Bd.returns (Or.inr rfl) at_340 (by decide) (by decide) eH24 ⟨rfl, N24⟩
          · refine own_icF X24 hx hby at_313 (own_ic_gt_n hc37) (pc' := 316) rfl ?_
            refine own_iconst X24 hx hby (v := (2 : Int32)) (by decide) at_316 (pc' := 317) rfl ?_
            refine own_iload X24 hx hby rfl at_317 (pc' := 319) rfl ?_
            refine own_imul X24 hx hby rfl at_319 (pc' := 320) rfl ?_
            refine own_iconst X24 hx hby (v := (2 : Int32)) (by decide) at_320 (pc' := 321) rfl ?_
            refine own_iload X24 hx hby rfl at_321 (pc' := 323) rfl ?_
            refine own_imul X24 hx hby rfl at_323 (pc' := 324) rfl ?_
            refine own_iconst X24 hx hby (v := (2 : Int32)) (by decide) at_324 (pc' := 325) rfl ?_
            refine own_iload X24 hx hby rfl at_325 (pc' := 327) rfl ?_
            refine own_imul X24 hx hby rfl at_327 (pc' := 328) rfl ?_
            have l4 := hc36
            have l5 := hc37
            rw [Int32.lt_iff_toInt_lt] at l4 l5
            have l6 : (1073741823 : Int32).toInt = 1073741823 := by decide
            have d1 := own_dbl (x := n5) (by omega) (by omega)
            have d2 := own_dbl (x := n1) (by omega) (by omega)
            have d3 := own_dbl (x := n2) (by omega) (by omega)
            have hh0 : 0 ≤ ((2 : Int32) * n5).toInt := by omega
            have hh1 : 0 ≤ ((2 : Int32) * n1).toInt := by omega
            have hh2 : 0 ≤ ((2 : Int32) * n2).toInt := by omega
            have hh3 : ((2 : Int32) * n1).toInt + ((2 : Int32) * n2).toInt = 2 * (n1.toInt + n2.toInt) := by omega
            have hh4 : ((2 : Int32) * n5).toInt ≤ 2 * (n1.toInt + n2.toInt) - ((2 : Int32) * n5).toInt := by omega
            refine own_static X24 hx hby hZ (y := (⟨"com/example/pausanias/pausanias/text/Jaccard", "similarity", "(III)D"⟩ : MethodName)) (rest := []) hown (hw _ (List.mem_of_getElem? (i := 12) rfl)) (hw _ (List.mem_of_getElem? (i := 13) rfl)) (hw _ (List.mem_of_getElem? (i := 15) rfl)) (hw _ (List.mem_of_getElem? (i := 14) rfl)) (by decide) (rm4 l Z a0 hw [] ((2 : Int32) * n5) ((2 : Int32) * n1) ((2 : Int32) * n2) h0 n0 Z0 (own_simnn hh0 hh1 hh2 hh3 hh4)) eH24 (by rw [hml]; rfl) (argsL := [(.int ((2 : Int32) * n5)), (.int ((2 : Int32) * n1)), (.int ((2 : Int32) * n2))]) rfl (lenOf pd_2 rfl) rfl at_328 (pc' := 331) rfl (by decide) (W := 0) (Nat.le_of_eq rfl) (by decide) (by decide) (by decide) (fun T38 h38 Lc38 v38r X38 eH38 hQ38 => ?_)
            obtain ⟨rfl, Nq38, rfl⟩ := hQ38
            have N38 := Fr.app N24 Nq38
            dsimp only [Option.toList, List.cons_append, List.nil_append]
            generalize q_r39 : (if ((2 : Int32) * n5) = 0 then (0 : UInt64) else (FP.ddiv (FP.i2d ((2 : Int32) * n5)) (FP.l2d (((((2 : Int32) * n1).toInt64) + (((2 : Int32) * n2).toInt64)) - (((2 : Int32) * n5).toInt64))))) = r39
            have S6 := own_sim hh0 hh1 hh2 hh3 hh4 q_r39
            refine own_dload X38 hx hby rfl at_331 (pc' := 333) rfl ?_
            refine own_dcmp X38 hx hby rfl at_333 (pc' := 334) rfl ?_
            have hk40 : deq r39 r14 := S6.eq S0 (by rw [d1, ← Int.mul_sub, Int.mul_assoc, Int.mul_left_comm]) (by omega)
            refine own_ifT X38 hx hby at_334 (own_dl_eq_p hk40) (by decide) (pc' := 339) (by decide) ?_
            refine own_iconst X38 hx hby (v := (1 : Int32)) (by decide) at_339 (pc' := 340) rfl ?_
            exact own_retZ X38 hx hby Bd.notSynchronized Bd.returns (Or.inr rfl) at_340 (by decide) (by decide) eH38 ⟨rfl, N38⟩
    · refine own_icT X20 hx hby at_254 (own_ic_ge_n hc23) (by decide) (pc' := 276) (by decide) ?_
      refine own_iload X20 hx hby rfl at_276 (pc' := 278) rfl ?_
      refine own_iload X20 hx hby rfl at_278 (pc' := 280) rfl ?_
      by_cases hc41 : n5 < r4
      · refine own_icF X20 hx hby at_280 (own_ic_ge_p hc41) (pc' := 283) rfl ?_
        refine own_iload X20 hx hby rfl at_283 (pc' := 285) rfl ?_
        refine own_iconst X20 hx hby (v := (1 : Int32)) (by decide) at_285 (pc' := 286) rfl ?_
        refine own_iadd X20 hx hby rfl at_286 (pc' := 287) rfl ?_
        refine own_iload X20 hx hby rfl at_287 (pc' := 289) rfl ?_
        refine own_iload X20 hx hby rfl at_289 (pc' := 291) rfl ?_
        have l3 := Int32.lt_iff_toInt_lt.mp hc41
        have i2 := own_inc (x := n5) (by omega)
        have hh0 : 0 ≤ (n5 + (1 : Int32)).toInt := by omega
        have hh1 : 0 ≤ (n1).toInt := by omega
        have hh2 : 0 ≤ (n2).toInt := by omega
        have hh3 : (n1).toInt + (n2).toInt = n1.toInt + n2.toInt := by omega
        have hh4 : (n5 + (1 : Int32)).toInt ≤ n1.toInt + n2.toInt - (n5 + (1 : Int32)).toInt := by omega
        refine own_static X20 hx hby hZ (y := (⟨"com/example/pausanias/pausanias/text/Jaccard", "similarity", "(III)D"⟩ : MethodName)) (rest := []) hown (hw _ (List.mem_of_getElem? (i := 12) rfl)) (hw _ (List.mem_of_getElem? (i := 13) rfl)) (hw _ (List.mem_of_getElem? (i := 15) rfl)) (hw _ (List.mem_of_getElem? (i := 14) rfl)) (by decide) (rm4 l Z a0 hw [] (n5 + (1 : Int32)) n1 n2 h0 n0 Z0 (own_simnn hh0 hh1 hh2 hh3 hh4)) eH20 (by rw [hml]; rfl) (argsL := [(.int (n5 + (1 : Int32))), (.int n1), (.int n2)]) rfl (lenOf pd_2 rfl) rfl at_291 (pc' := 294) rfl (by decide) (W := 0) (Nat.le_of_eq rfl) (by decide) (by decide) (by decide) (fun T42 h42 Lc42 v42r X42 eH42 hQ42 => ?_)
        obtain ⟨rfl, Nq42, rfl⟩ := hQ42
        have N42 := Fr.app N20 Nq42
        dsimp only [Option.toList, List.cons_append, List.nil_append]
        generalize q_r43 : (if (n5 + (1 : Int32)) = 0 then (0 : UInt64) else (FP.ddiv (FP.i2d (n5 + (1 : Int32))) (FP.l2d (((n1.toInt64) + (n2.toInt64)) - ((n5 + (1 : Int32)).toInt64))))) = r43
        have S5 := own_sim hh0 hh1 hh2 hh3 hh4 q_r43
        refine own_dload X42 hx hby rfl at_294 (pc' := 296) rfl ?_
        refine own_dcmp X42 hx hby rfl at_296 (pc' := 297) rfl ?_
        have hk44 : dge r43 r14 := S0.ge S5 (by rw [i2]; exact own_cr (by omega)) (fun _ => by omega)
        refine own_ifT X42 hx hby at_297 (own_dl_ge_p hk44) (by decide) (pc' := 302) (by decide) ?_
        refine own_iload X42 hx hby rfl at_302 (pc' := 304) rfl ?_
        refine own_ldcI X42 hx hby hZ hown (hw _ (List.mem_of_getElem? (i := 16) rfl)) at_304 (pc' := 306) rfl ?_
        by_cases hc45 : (1073741823 : Int32) < n1
        · refine own_icT X42 hx hby at_306 (own_ic_gt_p hc45) (by decide) (pc' := 339) (by decide) ?_
          refine own_iconst X42 hx hby (v := (1 : Int32)) (by decide) at_339 (pc' := 340) rfl ?_
          exact own_retZ X42 hx hby Bd.notSynchronized Bd.returns (Or.inr rfl) at_340 (by decide) (by decide) eH42 ⟨rfl, N42⟩
        · refine own_icF X42 hx hby at_306 (own_ic_gt_n hc45) (pc' := 309) rfl ?_
          refine own_iload X42 hx hby rfl at_309 (pc' := 311) rfl ?_
          refine own_ldcI X42 hx hby hZ hown (hw _ (List.mem_of_getElem? (i := 16) rfl)) at_311 (pc' := 313) rfl ?_
          by_cases hc46 : (1073741823 : Int32) < n2
          · refine own_icT X42 hx hby at_313 (own_ic_gt_p hc46) (by decide) (pc' := 339) (by decide) ?_
            refine own_iconst X42 hx hby (v := (1 : Int32)) (by decide) at_339 (pc' := 340) rfl ?_
            exact own_retZ X42 hx hby Bd.notSynchronized Bd.returns (Or.inr rfl) at_340 (by decide) (by decide) eH42 ⟨rfl, N42⟩
          · refine own_icF X42 hx hby at_313 (own_ic_gt_n hc46) (pc' := 316) rfl ?_
            refine own_iconst X42 hx hby (v := (2 : Int32)) (by decide) at_316 (pc' := 317) rfl ?_
            refine own_iload X42 hx hby rfl at_317 (pc' := 319) rfl ?_
            refine own_imul X42 hx hby rfl at_319 (pc' := 320) rfl ?_
            refine own_iconst X42 hx hby (v := (2 : Int32)) (by decide) at_320 (pc' := 321) rfl ?_
            refine own_iload X42 hx hby rfl at_321 (pc' := 323) rfl ?_
            refine own_imul X42 hx hby rfl at_323 (pc' := 324) rfl ?_
            refine own_iconst X42 hx hby (v := (2 : Int32)) (by decide) at_324 (pc' := 325) rfl ?_
            refine own_iload X42 hx hby rfl at_325 (pc' := 327) rfl ?_
            refine own_imul X42 hx hby rfl at_327 (pc' := 328) rfl ?_
            have l4 := hc45
            have l5 := hc46
            rw [Int32.lt_iff_toInt_lt] at l4 l5
            have l6 : (1073741823 : Int32).toInt = 1073741823 := by decide
            have d1 := own_dbl (x := n5) (by omega) (by omega)
            have d2 := own_dbl (x := n1) (by omega) (by omega)
            have d3 := own_dbl (x := n2) (by omega) (by omega)
            have hh0 : 0 ≤ ((2 : Int32) * n5).toInt := by omega
            have hh1 : 0 ≤ ((2 : Int32) * n1).toInt := by omega
            have hh2 : 0 ≤ ((2 : Int32) * n2).toInt := by omega
            have hh3 : ((2 : Int32) * n1).toInt + ((2 : Int32) * n2).toInt = 2 * (n1.toInt + n2.toInt) := by omega
            have hh4 : ((2 : Int32) * n5).toInt ≤ 2 * (n1.toInt + n2.toInt) - ((2 : Int32) * n5).toInt := by omega
            refine own_static X42 hx hby hZ (y := (⟨"com/example/pausanias/pausanias/text/Jaccard", "similarity", "(III)D"⟩ : MethodName)) (rest := []) hown (hw _ (List.mem_of_getElem? (i := 12) rfl)) (hw _ (List.mem_of_getElem? (i := 13) rfl)) (hw _ (List.mem_of_getElem? (i := 15) rfl)) (hw _ (List.mem_of_getElem? (i := 14) rfl)) (by decide) (rm4 l Z a0 hw [] ((2 : Int32) * n5) ((2 : Int32) * n1) ((2 : Int32) * n2) h0 n0 Z0 (own_simnn hh0 hh1 hh2 hh3 hh4)) eH42 (by rw [hml]; rfl) (argsL := [(.int ((2 : Int32) * n5)), (.int ((2 : Int32) * n1)), (.int ((2 : Int32) * n2))]) rfl (lenOf pd_2 rfl) rfl at_328 (pc' := 331) rfl (by decide) (W := 0) (Nat.le_of_eq rfl) (by decide) (by decide) (by decide) (fun T47 h47 Lc47 v47r X47 eH47 hQ47 => ?_)
            obtain ⟨rfl, Nq47, rfl⟩ := hQ47
            have N47 := Fr.app N42 Nq47
            dsimp only [Option.toList, List.cons_append, List.nil_append]
            generalize q_r48 : (if ((2 : Int32) * n5) = 0 then (0 : UInt64) else (FP.ddiv (FP.i2d ((2 : Int32) * n5)) (FP.l2d (((((2 : Int32) * n1).toInt64) + (((2 : Int32) * n2).toInt64)) - (((2 : Int32) * n5).toInt64))))) = r48
            have S6 := own_sim hh0 hh1 hh2 hh3 hh4 q_r48
            refine own_dload X47 hx hby rfl at_331 (pc' := 333) rfl ?_
            refine own_dcmp X47 hx hby rfl at_333 (pc' := 334) rfl ?_
            have hk49 : deq r48 r14 := S6.eq S0 (by rw [d1, ← Int.mul_sub, Int.mul_assoc, Int.mul_left_comm]) (by omega)
            refine own_ifT X47 hx hby at_334 (own_dl_eq_p hk49) (by decide) (pc' := 339) (by decide) ?_
            refine own_iconst X47 hx hby (v := (1 : Int32)) (by decide) at_339 (pc' := 340) rfl ?_
            exact own_retZ X47 hx hby Bd.notSynchronized Bd.returns (Or.inr rfl) at_340 (by decide) (by decide) eH47 ⟨rfl, N47⟩
      · refine own_icT X20 hx hby at_280 (own_ic_ge_n hc41) (by decide) (pc' := 302) (by decide) ?_
        refine own_iload X20 hx hby rfl at_302 (pc' := 304) rfl ?_
        refine own_ldcI X20 hx hby hZ hown (hw _ (List.mem_of_getElem? (i := 16) rfl)) at_304 (pc' := 306) rfl ?_
        by_cases hc50 : (1073741823 : Int32) < n1
        · refine own_icT X20 hx hby at_306 (own_ic_gt_p hc50) (by decide) (pc' := 339) (by decide) ?_
          refine own_iconst X20 hx hby (v := (1 : Int32)) (by decide) at_339 (pc' := 340) rfl ?_
          exact own_retZ X20 hx hby Bd.notSynchronized Bd.returns (Or.inr rfl) at_340 (by decide) (by decide) eH20 ⟨rfl, N20⟩
        · refine own_icF X20 hx hby at_306 (own_ic_gt_n hc50) (pc' := 309) rfl ?_
          refine own_iload X20 hx hby rfl at_309 (pc' := 311) rfl ?_
          refine own_ldcI X20 hx hby hZ hown (hw _ (List.mem_of_getElem? (i := 16) rfl)) at_311 (pc' := 313) rfl ?_
          by_cases hc51 : (1073741823 : Int32) < n2
          · refine own_icT X20 hx hby at_313 (own_ic_gt_p hc51) (by decide) (pc' := 339) (by decide) ?_
            refine own_iconst X20 hx hby (v := (1 : Int32)) (by decide) at_339 (pc' := 340) rfl ?_
            exact own_retZ X20 hx hby Bd.notSynchronized Bd.returns (Or.inr rfl) at_340 (by decide) (by decide) eH20 ⟨rfl, N20⟩
          · refine own_icF X20 hx hby at_313 (own_ic_gt_n hc51) (pc' := 316) rfl ?_
            refine own_iconst X20 hx hby (v := (2 : Int32)) (by decide) at_316 (pc' := 317) rfl ?_
            refine own_iload X20 hx hby rfl at_317 (pc' := 319) rfl ?_
            refine own_imul X20 hx hby rfl at_319 (pc' := 320) rfl ?_
            refine own_iconst X20 hx hby (v := (2 : Int32)) (by decide) at_320 (pc' := 321) rfl ?_
            refine own_iload X20 hx hby rfl at_321 (pc' := 323) rfl ?_
            refine own_imul X20 hx hby rfl at_323 (pc' := 324) rfl ?_
            refine own_iconst X20 hx hby (v := (2 : Int32)) (by decide) at_324 (pc' := 325) rfl ?_
            refine own_iload X20 hx hby rfl at_325 (pc' := 327) rfl ?_
            refine own_imul X20 hx hby rfl at_327 (pc' := 328) rfl ?_
            have l4 := hc50
            have l5 := hc51
            rw [Int32.lt_iff_toInt_lt] at l4 l5
            have l6 : (1073741823 : Int32).toInt = 1073741823 := by decide
            have d1 := own_dbl (x := n5) (by omega) (by omega)
            have d2 := own_dbl (x := n1) (by omega) (by omega)
            have d3 := own_dbl (x := n2) (by omega) (by omega)
            have hh0 : 0 ≤ ((2 : Int32) * n5).toInt := by omega
            have hh1 : 0 ≤ ((2 : Int32) * n1).toInt := by omega
            have hh2 : 0 ≤ ((2 : Int32) * n2).toInt := by omega
            have hh3 : ((2 : Int32) * n1).toInt + ((2 : Int32) * n2).toInt = 2 * (n1.toInt + n2.toInt) := by omega
            have hh4 : ((2 : Int32) * n5).toInt ≤ 2 * (n1.toInt + n2.toInt) - ((2 : Int32) * n5).toInt := by omega
            refine own_static X20 hx hby hZ (y := (⟨"com/example/pausanias/pausanias/text/Jaccard", "similarity", "(III)D"⟩ : MethodName)) (rest := []) hown (hw _ (List.mem_of_getElem? (i := 12) rfl)) (hw _ (List.mem_of_getElem? (i := 13) rfl)) (hw _ (List.mem_of_getElem? (i := 15) rfl)) (hw _ (List.mem_of_getElem? (i := 14) rfl)) (by decide) (rm4 l Z a0 hw [] ((2 : Int32) * n5) ((2 : Int32) * n1) ((2 : Int32) * n2) h0 n0 Z0 (own_simnn hh0 hh1 hh2 hh3 hh4)) eH20 (by rw [hml]; rfl) (argsL := [(.int ((2 : Int32) * n5)), (.int ((2 : Int32) * n1)), (.int ((2 : Int32) * n2))]) rfl (lenOf pd_2 rfl) rfl at_328 (pc' := 331) rfl (by decide) (W := 0) (Nat.le_of_eq rfl) (by decide) (by decide) (by decide) (fun T52 h52 Lc52 v52r X52 eH52 hQ52 => ?_)
            obtain ⟨rfl, Nq52, rfl⟩ := hQ52
            have N52 := Fr.app N20 Nq52
            dsimp only [Option.toList, List.cons_append, List.nil_append]
            generalize q_r53 : (if ((2 : Int32) * n5) = 0 then (0 : UInt64) else (FP.ddiv (FP.i2d ((2 : Int32) * n5)) (FP.l2d (((((2 : Int32) * n1).toInt64) + (((2 : Int32) * n2).toInt64)) - (((2 : Int32) * n5).toInt64))))) = r53
            have S6 := own_sim hh0 hh1 hh2 hh3 hh4 q_r53
            refine own_dload X52 hx hby rfl at_331 (pc' := 333) rfl ?_
            refine own_dcmp X52 hx hby rfl at_333 (pc' := 334) rfl ?_
            have hk54 : deq r53 r14 := S6.eq S0 (by rw [d1, ← Int.mul_sub, Int.mul_assoc, Int.mul_left_comm]) (by omega)
            refine own_ifT X52 hx hby at_334 (own_dl_eq_p hk54) (by decide) (pc' := 339) (by decide) ?_
            refine own_iconst X52 hx hby (v := (1 : Int32)) (by decide) at_339 (pc' := 340) rfl ?_
            exact own_retZ X52 hx hby Bd.notSynchronized Bd.returns (Or.inr rfl) at_340 (by decide) (by decide) eH52 ⟨rfl, N52⟩
  · have sp : 0 < n5.toInt := by have := mt own_ie.mpr hc15; have z : (0 : Int32).toInt = 0 := (by decide); omega
    refine own_ifT X13 hx hby at_115 (own_i0_ne_n hc15) (by decide) (pc' := 127) (by decide) ?_
    refine own_dload X13 hx hby rfl at_127 (pc' := 129) rfl ?_
    refine own_dconst0 X13 hx hby (v := (0 : UInt64)) (by decide) at_129 (pc' := 130) rfl ?_
    refine own_dcmp X13 hx hby rfl at_130 (pc' := 131) rfl ?_
    have hk55 : dgt r14 (0 : UInt64) := S0.pos sp
    refine own_ifF X13 hx hby at_131 (own_dl_le_p hk55) (pc' := 134) rfl ?_
    refine own_dload X13 hx hby rfl at_134 (pc' := 136) rfl ?_
    refine own_dconst1 X13 hx hby (v := (4607182418800017408 : UInt64)) (by decide) at_136 (pc' := 137) rfl ?_
    refine own_dcmp X13 hx hby rfl at_137 (pc' := 138) rfl ?_
    have hk56 : dle r14 (4607182418800017408 : UInt64) := S0.le1
    refine own_ifT X13 hx hby at_138 (own_dg_le_p hk56) (by decide) (pc' := 143) (by decide) ?_
    refine own_dload X13 hx hby rfl at_143 (pc' := 145) rfl ?_
    refine own_dconst1 X13 hx hby (v := (4607182418800017408 : UInt64)) (by decide) at_145 (pc' := 146) rfl ?_
    refine own_dcmp X13 hx hby rfl at_146 (pc' := 147) rfl ?_
    obtain ⟨w57, q_w57⟩ : ∃ z : Int32, (if deq r14 (4607182418800017408 : UInt64) then (1 : Int32) else (0 : Int32)) = z := ⟨_, rfl⟩
    refine own_join (S' := T13.setTop (mkF m 155 #[.val (.int p0), .val (.int p1), .val (.int p2), .val (.int p3), .val (.int n1), .val (.int n2), .val (.int r4), .val (.int n5), .val (.long n6), .second, .val (.long r8), .second, .val (.long r10), .second, .val (.int n11), .val (.int n12), .val (.double r14), .second] [(.int w57)])) (fun F' k' => ?_) ?_
    · rw [← q_w57] at k'
      by_cases hc58 : deq r14 (4607182418800017408 : UInt64)
      · simp only [if_pos hc58] at k'
        refine own_ifF X13 hx hby at_147 (own_dl_ne_p hc58) (pc' := 150) rfl ?_
        refine own_iconst X13 hx hby (v := (1 : Int32)) (by decide) at_150 (pc' := 151) rfl ?_
        refine own_goto X13 hx hby at_151 (by decide) (pc' := 155) (by decide) ?_
        exact k'
      · simp only [if_neg hc58] at k'
        refine own_ifT X13 hx hby at_147 (own_dl_ne_n hc58) (by decide) (pc' := 154) (by decide) ?_
        refine own_iconst X13 hx hby (v := (0 : Int32)) (by decide) at_154 (pc' := 155) rfl ?_
        exact k'
    refine own_iload X13 hx hby rfl at_155 (pc' := 157) rfl ?_
    refine own_iload X13 hx hby rfl at_157 (pc' := 159) rfl ?_
    obtain ⟨w59, q_w59⟩ : ∃ z : Int32, (if n1 = n5 then (if n2 = n5 then (1 : Int32) else (0 : Int32)) else (0 : Int32)) = z := ⟨_, rfl⟩
    refine own_join (S' := T13.setTop (mkF m 174 #[.val (.int p0), .val (.int p1), .val (.int p2), .val (.int p3), .val (.int n1), .val (.int n2), .val (.int r4), .val (.int n5), .val (.long n6), .second, .val (.long r8), .second, .val (.long r10), .second, .val (.int n11), .val (.int n12), .val (.double r14), .second] [(.int w59), (.int w57)])) (fun F' k' => ?_) ?_
    · rw [← q_w59] at k'
      by_cases hc60 : n1 = n5
      · simp only [if_pos hc60] at k'
        refine own_icF X13 hx hby at_159 (own_ic_ne_p hc60) (pc' := 162) rfl ?_
        refine own_iload X13 hx hby rfl at_162 (pc' := 164) rfl ?_
        refine own_iload X13 hx hby rfl at_164 (pc' := 166) rfl ?_
        by_cases hc61 : n2 = n5
        · simp only [if_pos hc61] at k'
          refine own_icF X13 hx hby at_166 (own_ic_ne_p hc61) (pc' := 169) rfl ?_
          refine own_iconst X13 hx hby (v := (1 : Int32)) (by decide) at_169 (pc' := 170) rfl ?_
          refine own_goto X13 hx hby at_170 (by decide) (pc' := 174) (by decide) ?_
          exact k'
        · simp only [if_neg hc61] at k'
          refine own_icT X13 hx hby at_166 (own_ic_ne_n hc61) (by decide) (pc' := 173) (by decide) ?_
          refine own_iconst X13 hx hby (v := (0 : Int32)) (by decide) at_173 (pc' := 174) rfl ?_
          exact k'
      · simp only [if_neg hc60] at k'
        refine own_icT X13 hx hby at_159 (own_ic_ne_n hc60) (by decide) (pc' := 173) (by decide) ?_
        refine own_iconst X13 hx hby (v := (0 : Int32)) (by decide) at_173 (pc' := 174) rfl ?_
        exact k'
    have hk62 : w57 = w59 := own_w12 q_w57 q_w59 ((S0.at sp own_one (by decide) (by decide) (by decide)).trans (by rw [own_ie, own_ie]; simp only [Nat.pow_zero]; omega))
    refine own_icT X13 hx hby at_174 (own_ic_eq_p hk62) (by decide) (pc' := 179) (by decide) ?_
    refine own_dload X13 hx hby rfl at_179 (pc' := 181) rfl ?_
    refine own_ldc2D X13 hx hby hZ hown (hw _ (List.mem_of_getElem? (i := 17) rfl)) at_181 (pc' := 184) rfl ?_
    refine own_dcmp X13 hx hby rfl at_184 (pc' := 185) rfl ?_
    obtain ⟨w63, q_w63⟩ : ∃ z : Int32, (if deq r14 (4602678819172646912 : UInt64) then (1 : Int32) else (0 : Int32)) = z := ⟨_, rfl⟩
    refine own_join (S' := T13.setTop (mkF m 193 #[.val (.int p0), .val (.int p1), .val (.int p2), .val (.int p3), .val (.int n1), .val (.int n2), .val (.int r4), .val (.int n5), .val (.long n6), .second, .val (.long r8), .second, .val (.long r10), .second, .val (.int n11), .val (.int n12), .val (.double r14), .second] [(.int w63)])) (fun F' k' => ?_) ?_
    · rw [← q_w63] at k'
      by_cases hc64 : deq r14 (4602678819172646912 : UInt64)
      · simp only [if_pos hc64] at k'
        refine own_ifF X13 hx hby at_185 (own_dl_ne_p hc64) (pc' := 188) rfl ?_
        refine own_iconst X13 hx hby (v := (1 : Int32)) (by decide) at_188 (pc' := 189) rfl ?_
        refine own_goto X13 hx hby at_189 (by decide) (pc' := 193) (by decide) ?_
        exact k'
      · simp only [if_neg hc64] at k'
        refine own_ifT X13 hx hby at_185 (own_dl_ne_n hc64) (by decide) (pc' := 192) (by decide) ?_
        refine own_iconst X13 hx hby (v := (0 : Int32)) (by decide) at_192 (pc' := 193) rfl ?_
        exact k'
    have e3 : (3 : Int64).toInt = 3 := by decide
    refine own_ldc2L X13 hx hby hZ hown (hw _ (List.mem_of_getElem? (i := 18) rfl)) at_193 (pc' := 196) rfl ?_
    refine own_iload X13 hx hby rfl at_196 (pc' := 198) rfl ?_
    refine own_i2l X13 hx hby rfl at_198 (pc' := 199) rfl ?_
    refine own_lmul X13 hx hby rfl at_199 (pc' := 200) rfl ?_
    refine own_lload X13 hx hby rfl at_200 (pc' := 202) rfl ?_
    generalize q_n65 : ((3 : Int64) * (n5.toInt64)) = n65
    refine own_lcmp X13 hx hby rfl at_202 (pc' := 203) rfl ?_
    obtain ⟨w66, q_w66⟩ : ∃ z : Int32, (if n65 = n6 then (1 : Int32) else (0 : Int32)) = z := ⟨_, rfl⟩
    refine own_join (S' := T13.setTop (mkF m 211 #[.val (.int p0), .val (.int p1), .val (.int p2), .val (.int p3), .val (.int n1), .val (.int n2), .val (.int r4), .val (.int n5), .val (.long n6), .second, .val (.long r8), .second, .val (.long r10), .second, .val (.int n11), .val (.int n12), .val (.double r14), .second] [(.int w66), (.int w63)])) (fun F' k' => ?_) ?_
    · rw [← q_w66] at k'
      by_cases hc67 : n65 = n6
      · simp only [if_pos hc67] at k'
        refine own_ifF X13 hx hby at_203 (own_lc_ne_p hc67) (pc' := 206) rfl ?_
        refine own_iconst X13 hx hby (v := (1 : Int32)) (by decide) at_206 (pc' := 207) rfl ?_
        refine own_goto X13 hx hby at_207 (by decide) (pc' := 211) (by decide) ?_
        exact k'
      · simp only [if_neg hc67] at k'
        refine own_ifT X13 hx hby at_203 (own_lc_ne_n hc67) (by decide) (pc' := 210) (by decide) ?_
        refine own_iconst X13 hx hby (v := (0 : Int32)) (by decide) at_210 (pc' := 211) rfl ?_
        exact k'
    have hk68 : w63 = w66 := own_w34 q_w63 q_w66 ((S0.at sp own_half (by decide) (by decide) (by decide)).trans (by rw [own_le_, ← q_n65, ow_lmul (by rw [c_i2l, e3]; omega), c_i2l, e3, et]; simp only [Nat.pow_one]; omega))
    refine own_icT X13 hx hby at_211 (own_ic_eq_p hk68) (by decide) (pc' := 216) (by decide) ?_
    refine own_iload X13 hx hby rfl at_216 (pc' := 218) rfl ?_
    refine own_iload X13 hx hby rfl at_218 (pc' := 220) rfl ?_
    refine own_iload X13 hx hby rfl at_220 (pc' := 222) rfl ?_
    have hh0 : 0 ≤ (n5).toInt := by omega
    have hh1 : 0 ≤ (n2).toInt := by omega
    have hh2 : 0 ≤ (n1).toInt := by omega
    have hh3 : (n2).toInt + (n1).toInt = n1.toInt + n2.toInt := by omega
    have hh4 : (n5).toInt ≤ n1.toInt + n2.toInt - (n5).toInt := by omega
    refine own_static X13 hx hby hZ (y := (⟨"com/example/pausanias/pausanias/text/Jaccard", "similarity", "(III)D"⟩ : MethodName)) (rest := []) hown (hw _ (List.mem_of_getElem? (i := 12) rfl)) (hw _ (List.mem_of_getElem? (i := 13) rfl)) (hw _ (List.mem_of_getElem? (i := 15) rfl)) (hw _ (List.mem_of_getElem? (i := 14) rfl)) (by decide) (rm4 l Z a0 hw [] n5 n2 n1 h0 n0 Z0 (own_simnn hh0 hh1 hh2 hh3 hh4)) eH13 (by rw [hml]; rfl) (argsL := [(.int n5), (.int n2), (.int n1)]) rfl (lenOf pd_2 rfl) rfl at_222 (pc' := 225) rfl (by decide) (W := 0) (Nat.le_of_eq rfl) (by decide) (by decide) (by decide) (fun T69 h69 Lc69 v69r X69 eH69 hQ69 => ?_)
    obtain ⟨rfl, Nq69, rfl⟩ := hQ69
    have N69 := Fr.app N13 Nq69
    dsimp only [Option.toList, List.cons_append, List.nil_append]
    generalize q_r70 : (if n5 = 0 then (0 : UInt64) else (FP.ddiv (FP.i2d n5) (FP.l2d (((n2.toInt64) + (n1.toInt64)) - (n5.toInt64))))) = r70
    have S1 := own_sim hh0 hh1 hh2 hh3 hh4 q_r70
    refine own_dload X69 hx hby rfl at_225 (pc' := 227) rfl ?_
    refine own_dcmp X69 hx hby rfl at_227 (pc' := 228) rfl ?_
    have hk71 : deq r70 r14 := S1.eq S0 rfl Iff.rfl
    refine own_ifT X69 hx hby at_228 (own_dl_eq_p hk71) (by decide) (pc' := 233) (by decide) ?_
    refine own_iload X69 hx hby rfl at_233 (pc' := 235) rfl ?_
    refine own_iload X69 hx hby rfl at_235 (pc' := 237) rfl ?_
    refine own_iload X69 hx hby rfl at_237 (pc' := 239) rfl ?_
    have hh0 : 0 ≤ (n5).toInt := by omega
    have hh1 : 0 ≤ (n11).toInt := by omega
    have hh2 : 0 ≤ (n12).toInt := by omega
    have hh3 : (n11).toInt + (n12).toInt = n1.toInt + n2.toInt := by omega
    have hh4 : (n5).toInt ≤ n1.toInt + n2.toInt - (n5).toInt := by omega
    refine own_static X69 hx hby hZ (y := (⟨"com/example/pausanias/pausanias/text/Jaccard", "similarity", "(III)D"⟩ : MethodName)) (rest := []) hown (hw _ (List.mem_of_getElem? (i := 12) rfl)) (hw _ (List.mem_of_getElem? (i := 13) rfl)) (hw _ (List.mem_of_getElem? (i := 15) rfl)) (hw _ (List.mem_of_getElem? (i := 14) rfl)) (by decide) (rm4 l Z a0 hw [] n5 n11 n12 h0 n0 Z0 (own_simnn hh0 hh1 hh2 hh3 hh4)) eH69 (by rw [hml]; rfl) (argsL := [(.int n5), (.int n11), (.int n12)]) rfl (lenOf pd_2 rfl) rfl at_239 (pc' := 242) rfl (by decide) (W := 0) (Nat.le_of_eq rfl) (by decide) (by decide) (by decide) (fun T72 h72 Lc72 v72r X72 eH72 hQ72 => ?_)
    obtain ⟨rfl, Nq72, rfl⟩ := hQ72
    have N72 := Fr.app N69 Nq72
    dsimp only [Option.toList, List.cons_append, List.nil_append]
    generalize q_r73 : (if n5 = 0 then (0 : UInt64) else (FP.ddiv (FP.i2d n5) (FP.l2d (((n11.toInt64) + (n12.toInt64)) - (n5.toInt64))))) = r73
    have S2 := own_sim hh0 hh1 hh2 hh3 hh4 q_r73
    refine own_dload X72 hx hby rfl at_242 (pc' := 244) rfl ?_
    refine own_dcmp X72 hx hby rfl at_244 (pc' := 245) rfl ?_
    have hk74 : deq r73 r14 := S2.eq S0 rfl Iff.rfl
    refine own_ifT X72 hx hby at_245 (own_dl_eq_p hk74) (by decide) (pc' := 250) (by decide) ?_
    refine own_iload X72 hx hby rfl at_250 (pc' := 252) rfl ?_
    refine own_ldcI X72 hx hby hZ hown (hw _ (List.mem_of_getElem? (i := 0) rfl)) at_252 (pc' := 254) rfl ?_
    by_cases hc75 : n1 < (2147483647 : Int32)
    · refine own_icF X72 hx hby at_254 (own_ic_ge_p hc75) (pc' := 257) rfl ?_
      refine own_iload X72 hx hby rfl at_257 (pc' := 259) rfl ?_
      refine own_iload X72 hx hby rfl at_259 (pc' := 261) rfl ?_
      refine own_iconst X72 hx hby (v := (1 : Int32)) (by decide) at_261 (pc' := 262) rfl ?_
      refine own_iadd X72 hx hby rfl at_262 (pc' := 263) rfl ?_
      refine own_iload X72 hx hby rfl at_263 (pc' := 265) rfl ?_
      have l1 := Int32.lt_iff_toInt_lt.mp hc75
      have l2 : (2147483647 : Int32).toInt = 2147483647 := by decide
      have i1 := own_inc (x := n1) (by omega)
      have hh0 : 0 ≤ (n5).toInt := by omega
      have hh1 : 0 ≤ (n1 + (1 : Int32)).toInt := by omega
      have hh2 : 0 ≤ (n2).toInt := by omega
      have hh3 : (n1 + (1 : Int32)).toInt + (n2).toInt = n1.toInt + n2.toInt + 1 := by omega
      have hh4 : (n5).toInt ≤ n1.toInt + n2.toInt + 1 - (n5).toInt := by omega
      refine own_static X72 hx hby hZ (y := (⟨"com/example/pausanias/pausanias/text/Jaccard", "similarity", "(III)D"⟩ : MethodName)) (rest := []) hown (hw _ (List.mem_of_getElem? (i := 12) rfl)) (hw _ (List.mem_of_getElem? (i := 13) rfl)) (hw _ (List.mem_of_getElem? (i := 15) rfl)) (hw _ (List.mem_of_getElem? (i := 14) rfl)) (by decide) (rm4 l Z a0 hw [] n5 (n1 + (1 : Int32)) n2 h0 n0 Z0 (own_simnn hh0 hh1 hh2 hh3 hh4)) eH72 (by rw [hml]; rfl) (argsL := [(.int n5), (.int (n1 + (1 : Int32))), (.int n2)]) rfl (lenOf pd_2 rfl) rfl at_265 (pc' := 268) rfl (by decide) (W := 0) (Nat.le_of_eq rfl) (by decide) (by decide) (by decide) (fun T76 h76 Lc76 v76r X76 eH76 hQ76 => ?_)
      obtain ⟨rfl, Nq76, rfl⟩ := hQ76
      have N76 := Fr.app N72 Nq76
      dsimp only [Option.toList, List.cons_append, List.nil_append]
      generalize q_r77 : (if n5 = 0 then (0 : UInt64) else (FP.ddiv (FP.i2d n5) (FP.l2d ((((n1 + (1 : Int32)).toInt64) + (n2.toInt64)) - (n5.toInt64))))) = r77
      have S4 := own_sim hh0 hh1 hh2 hh3 hh4 q_r77
      refine own_dload X76 hx hby rfl at_268 (pc' := 270) rfl ?_
      refine own_dcmp X76 hx hby rfl at_270 (pc' := 271) rfl ?_
      have hk78 : dle r77 r14 := S4.le S0 (Int.mul_le_mul_of_nonneg_left (by omega) s0) id
      refine own_ifT X76 hx hby at_271 (own_dg_le_p hk78) (by decide) (pc' := 276) (by decide) ?_
      refine own_iload X76 hx hby rfl at_276 (pc' := 278) rfl ?_
      refine own_iload X76 hx hby rfl at_278 (pc' := 280) rfl ?_
      by_cases hc79 : n5 < r4
      · refine own_icF X76 hx hby at_280 (own_ic_ge_p hc79) (pc' := 283) rfl ?_
        refine own_iload X76 hx hby rfl at_283 (pc' := 285) rfl ?_
        refine own_iconst X76 hx hby (v := (1 : Int32)) (by decide) at_285 (pc' := 286) rfl ?_
        refine own_iadd X76 hx hby rfl at_286 (pc' := 287) rfl ?_
        refine own_iload X76 hx hby rfl at_287 (pc' := 289) rfl ?_
        refine own_iload X76 hx hby rfl at_289 (pc' := 291) rfl ?_
        have l3 := Int32.lt_iff_toInt_lt.mp hc79
        have i2 := own_inc (x := n5) (by omega)
        have hh0 : 0 ≤ (n5 + (1 : Int32)).toInt := by omega
        have hh1 : 0 ≤ (n1).toInt := by omega
        have hh2 : 0 ≤ (n2).toInt := by omega
        have hh3 : (n1).toInt + (n2).toInt = n1.toInt + n2.toInt := by omega
        have hh4 : (n5 + (1 : Int32)).toInt ≤ n1.toInt + n2.toInt - (n5 + (1 : Int32)).toInt := by omega
        refine own_static X76 hx hby hZ (y := (⟨"com/example/pausanias/pausanias/text/Jaccard", "similarity", "(III)D"⟩ : MethodName)) (rest := []) hown (hw _ (List.mem_of_getElem? (i := 12) rfl)) (hw _ (List.mem_of_getElem? (i := 13) rfl)) (hw _ (List.mem_of_getElem? (i := 15) rfl)) (hw _ (List.mem_of_getElem? (i := 14) rfl)) (by decide) (rm4 l Z a0 hw [] (n5 + (1 : Int32)) n1 n2 h0 n0 Z0 (own_simnn hh0 hh1 hh2 hh3 hh4)) eH76 (by rw [hml]; rfl) (argsL := [(.int (n5 + (1 : Int32))), (.int n1), (.int n2)]) rfl (lenOf pd_2 rfl) rfl at_291 (pc' := 294) rfl (by decide) (W := 0) (Nat.le_of_eq rfl) (by decide) (by decide) (by decide) (fun T80 h80 Lc80 v80r X80 eH80 hQ80 => ?_)
        obtain ⟨rfl, Nq80, rfl⟩ := hQ80
        have N80 := Fr.app N76 Nq80
        dsimp only [Option.toList, List.cons_append, List.nil_append]
        generalize q_r81 : (if (n5 + (1 : Int32)) = 0 then (0 : UInt64) else (FP.ddiv (FP.i2d (n5 + (1 : Int32))) (FP.l2d (((n1.toInt64) + (n2.toInt64)) - ((n5 + (1 : Int32)).toInt64))))) = r81
        have S5 := own_sim hh0 hh1 hh2 hh3 hh4 q_r81
        refine own_dload X80 hx hby rfl at_294 (pc' := 296) rfl ?_
        refine own_dcmp X80 hx hby rfl at_296 (pc' := 297) rfl ?_
        have hk82 : dge r81 r14 := S0.ge S5 (by rw [i2]; exact own_cr (by omega)) (fun _ => by omega)
        refine own_ifT X80 hx hby at_297 (own_dl_ge_p hk82) (by decide) (pc' := 302) (by decide) ?_
        refine own_iload X80 hx hby rfl at_302 (pc' := 304) rfl ?_
        refine own_ldcI X80 hx hby hZ hown (hw _ (List.mem_of_getElem? (i := 16) rfl)) at_304 (pc' := 306) rfl ?_
        by_cases hc83 : (1073741823 : Int32) < n1
        · refine own_icT X80 hx hby at_306 (own_ic_gt_p hc83) (by decide) (pc' := 339) (by decide) ?_
          refine own_iconst X80 hx hby (v := (1 : Int32)) (by decide) at_339 (pc' := 340) rfl ?_
          exact own_retZ X80 hx hby Bd.notSynchronized Bd.returns (Or.inr rfl) at_340 (by decide) (by decide) eH80 ⟨rfl, N80⟩
        · refine own_icF X80 hx hby at_306 (own_ic_gt_n hc83) (pc' := 309) rfl ?_
          refine own_iload X80 hx hby rfl at_309 (pc' := 311) rfl ?_
          refine own_ldcI X80 hx hby hZ hown (hw _ (List.mem_of_getElem? (i := 16) rfl)) at_311 (pc' := 313) rfl ?_
          by_cases hc84 : (1073741823 : Int32) < n2
          · refine own_icT X80 hx hby at_313 (own_ic_gt_p hc84) (by decide) (pc' := 339) (by decide) ?_
            refine own_iconst X80 hx hby (v := (1 : Int32)) (by decide) at_339 (pc' := 340) rfl ?_
            exact own_retZ X80 hx hby Bd.notSynchronized Bd.returns (Or.inr rfl) at_340 (by decide) (by decide) eH80 ⟨rfl, N80⟩
          · refine own_icF X80 hx hby at_313 (own_ic_gt_n hc84) (pc' := 316) rfl ?_
            refine own_iconst X80 hx hby (v := (2 : Int32)) (by decide) at_316 (pc' := 317) rfl ?_
            refine own_iload X80 hx hby rfl at_317 (pc' := 319) rfl ?_
            refine own_imul X80 hx hby rfl at_319 (pc' := 320) rfl ?_
            refine own_iconst X80 hx hby (v := (2 : Int32)) (by decide) at_320 (pc' := 321) rfl ?_
            refine own_iload X80 hx hby rfl at_321 (pc' := 323) rfl ?_
            refine own_imul X80 hx hby rfl at_323 (pc' := 324) rfl ?_
            refine own_iconst X80 hx hby (v := (2 : Int32)) (by decide) at_324 (pc' := 325) rfl ?_
            refine own_iload X80 hx hby rfl at_325 (pc' := 327) rfl ?_
            refine own_imul X80 hx hby rfl at_327 (pc' := 328) rfl ?_
            have l4 := hc83
            have l5 := hc84
            rw [Int32.lt_iff_toInt_lt] at l4 l5
            have l6 : (1073741823 : Int32).toInt = 1073741823 := by decide
            have d1 := own_dbl (x := n5) (by omega) (by omega)
            have d2 := own_dbl (x := n1) (by omega) (by omega)
            have d3 := own_dbl (x := n2) (by omega) (by omega)
            have hh0 : 0 ≤ ((2 : Int32) * n5).toInt := by omega
            have hh1 : 0 ≤ ((2 : Int32) * n1).toInt := by omega
            have hh2 : 0 ≤ ((2 : Int32) * n2).toInt := by omega
            have hh3 : ((2 : Int32) * n1).toInt + ((2 : Int32) * n2).toInt = 2 * (n1.toInt + n2.toInt) := by omega
            have hh4 : ((2 : Int32) * n5).toInt ≤ 2 * (n1.toInt + n2.toInt) - ((2 : Int32) * n5).toInt := by omega
            refine own_static X80 hx hby hZ (y := (⟨"com/example/pausanias/pausanias/text/Jaccard", "similarity", "(III)D"⟩ : MethodName)) (rest := []) hown (hw _ (List.mem_of_getElem? (i := 12) rfl)) (hw _ (List.mem_of_getElem? (i := 13) rfl)) (hw _ (List.mem_of_getElem? (i := 15) rfl)) (hw _ (List.mem_of_getElem? (i := 14) rfl)) (by decide) (rm4 l Z a0 hw [] ((2 : Int32) * n5) ((2 : Int32) * n1) ((2 : Int32) * n2) h0 n0 Z0 (own_simnn hh0 hh1 hh2 hh3 hh4)) eH80 (by rw [hml]; rfl) (argsL := [(.int ((2 : Int32) * n5)), (.int ((2 : Int32) * n1)), (.int ((2 : Int32) * n2))]) rfl (lenOf pd_2 rfl) rfl at_328 (pc' := 331) rfl (by decide) (W := 0) (Nat.le_of_eq rfl) (by decide) (by decide) (by decide) (fun T85 h85 Lc85 v85r X85 eH85 hQ85 => ?_)
            obtain ⟨rfl, Nq85, rfl⟩ := hQ85
            have N85 := Fr.app N80 Nq85
            dsimp only [Option.toList, List.cons_append, List.nil_append]
            generalize q_r86 : (if ((2 : Int32) * n5) = 0 then (0 : UInt64) else (FP.ddiv (FP.i2d ((2 : Int32) * n5)) (FP.l2d (((((2 : Int32) * n1).toInt64) + (((2 : Int32) * n2).toInt64)) - (((2 : Int32) * n5).toInt64))))) = r86
            have S6 := own_sim hh0 hh1 hh2 hh3 hh4 q_r86
            refine own_dload X85 hx hby rfl at_331 (pc' := 333) rfl ?_
            refine own_dcmp X85 hx hby rfl at_333 (pc' := 334) rfl ?_
            have hk87 : deq r86 r14 := S6.eq S0 (by rw [d1, ← Int.mul_sub, Int.mul_assoc, Int.mul_left_comm]) (by omega)
            refine own_ifT X85 hx hby at_334 (own_dl_eq_p hk87) (by decide) (pc' := 339) (by decide) ?_
            refine own_iconst X85 hx hby (v := (1 : Int32)) (by decide) at_339 (pc' := 340) rfl ?_
            exact own_retZ X85 hx hby Bd.notSynchronized Bd.returns (Or.inr rfl) at_340 (by decide) (by decide) eH85 ⟨rfl, N85⟩
      · refine own_icT X76 hx hby at_280 (own_ic_ge_n hc79) (by decide) (pc' := 302) (by decide) ?_
        refine own_iload X76 hx hby rfl at_302 (pc' := 304) rfl ?_
        refine own_ldcI X76 hx hby hZ hown (hw _ (List.mem_of_getElem? (i := 16) rfl)) at_304 (pc' := 306) rfl ?_
        by_cases hc88 : (1073741823 : Int32) < n1
        · refine own_icT X76 hx hby at_306 (own_ic_gt_p hc88) (by decide) (pc' := 339) (by decide) ?_
          refine own_iconst X76 hx hby (v := (1 : Int32)) (by decide) at_339 (pc' := 340) rfl ?_
          exact own_retZ X76 hx hby Bd.notSynchronized Bd.returns (Or.inr rfl) at_340 (by decide) (by decide) eH76 ⟨rfl, N76⟩
        · refine own_icF X76 hx hby at_306 (own_ic_gt_n hc88) (pc' := 309) rfl ?_
          refine own_iload X76 hx hby rfl at_309 (pc' := 311) rfl ?_
          refine own_ldcI X76 hx hby hZ hown (hw _ (List.mem_of_getElem? (i := 16) rfl)) at_311 (pc' := 313) rfl ?_
          by_cases hc89 : (1073741823 : Int32) < n2
          · refine own_icT X76 hx hby at_313 (own_ic_gt_p hc89) (by decide) (pc' := 339) (by decide) ?_
            refine own_iconst X76 hx hby (v := (1 : Int32)) (by decide) at_339 (pc' := 340) rfl ?_
            exact own_retZ X76 hx hby Bd.notSynchronized Bd.returns (Or.inr rfl) at_340 (by decide) (by decide) eH76 ⟨rfl, N76⟩
          · refine own_icF X76 hx hby at_313 (own_ic_gt_n hc89) (pc' := 316) rfl ?_
            refine own_iconst X76 hx hby (v := (2 : Int32)) (by decide) at_316 (pc' := 317) rfl ?_
            refine own_iload X76 hx hby rfl at_317 (pc' := 319) rfl ?_
            refine own_imul X76 hx hby rfl at_319 (pc' := 320) rfl ?_
            refine own_iconst X76 hx hby (v := (2 : Int32)) (by decide) at_320 (pc' := 321) rfl ?_
            refine own_iload X76 hx hby rfl at_321 (pc' := 323) rfl ?_
            refine own_imul X76 hx hby rfl at_323 (pc' := 324) rfl ?_
            refine own_iconst X76 hx hby (v := (2 : Int32)) (by decide) at_324 (pc' := 325) rfl ?_
            refine own_iload X76 hx hby rfl at_325 (pc' := 327) rfl ?_
            refine own_imul X76 hx hby rfl at_327 (pc' := 328) rfl ?_
            have l4 := hc88
            have l5 := hc89
            rw [Int32.lt_iff_toInt_lt] at l4 l5
            have l6 : (1073741823 : Int32).toInt = 1073741823 := by decide
            have d1 := own_dbl (x := n5) (by omega) (by omega)
            have d2 := own_dbl (x := n1) (by omega) (by omega)
            have d3 := own_dbl (x := n2) (by omega) (by omega)
            have hh0 : 0 ≤ ((2 : Int32) * n5).toInt := by omega
            have hh1 : 0 ≤ ((2 : Int32) * n1).toInt := by omega
            have hh2 : 0 ≤ ((2 : Int32) * n2).toInt := by omega
            have hh3 : ((2 : Int32) * n1).toInt + ((2 : Int32) * n2).toInt = 2 * (n1.toInt + n2.toInt) := by omega
            have hh4 : ((2 : Int32) * n5).toInt ≤ 2 * (n1.toInt + n2.toInt) - ((2 : Int32) * n5).toInt := by omega
            refine own_static X76 hx hby hZ (y := (⟨"com/example/pausanias/pausanias/text/Jaccard", "similarity", "(III)D"⟩ : MethodName)) (rest := []) hown (hw _ (List.mem_of_getElem? (i := 12) rfl)) (hw _ (List.mem_of_getElem? (i := 13) rfl)) (hw _ (List.mem_of_getElem? (i := 15) rfl)) (hw _ (List.mem_of_getElem? (i := 14) rfl)) (by decide) (rm4 l Z a0 hw [] ((2 : Int32) * n5) ((2 : Int32) * n1) ((2 : Int32) * n2) h0 n0 Z0 (own_simnn hh0 hh1 hh2 hh3 hh4)) eH76 (by rw [hml]; rfl) (argsL := [(.int ((2 : Int32) * n5)), (.int ((2 : Int32) * n1)), (.int ((2 : Int32) * n2))]) rfl (lenOf pd_2 rfl) rfl at_328 (pc' := 331) rfl (by decide) (W := 0) (Nat.le_of_eq rfl) (by decide) (by decide) (by decide) (fun T90 h90 Lc90 v90r X90 eH90 hQ90 => ?_)
            obtain ⟨rfl, Nq90, rfl⟩ := hQ90
            have N90 := Fr.app N76 Nq90
            dsimp only [Option.toList, List.cons_append, List.nil_append]
            generalize q_r91 : (if ((2 : Int32) * n5) = 0 then (0 : UInt64) else (FP.ddiv (FP.i2d ((2 : Int32) * n5)) (FP.l2d (((((2 : Int32) * n1).toInt64) + (((2 : Int32) * n2).toInt64)) - (((2 : Int32) * n5).toInt64))))) = r91
            have S6 := own_sim hh0 hh1 hh2 hh3 hh4 q_r91
            refine own_dload X90 hx hby rfl at_331 (pc' := 333) rfl ?_
            refine own_dcmp X90 hx hby rfl at_333 (pc' := 334) rfl ?_
            have hk92 : deq r91 r14 := S6.eq S0 (by rw [d1, ← Int.mul_sub, Int.mul_assoc, Int.mul_left_comm]) (by omega)
            refine own_ifT X90 hx hby at_334 (own_dl_eq_p hk92) (by decide) (pc' := 339) (by decide) ?_
            refine own_iconst X90 hx hby (v := (1 : Int32)) (by decide) at_339 (pc' := 340) rfl ?_
            exact own_retZ X90 hx hby Bd.notSynchronized Bd.returns (Or.inr rfl) at_340 (by decide) (by decide) eH90 ⟨rfl, N90⟩
    · refine own_icT X72 hx hby at_254 (own_ic_ge_n hc75) (by decide) (pc' := 276) (by decide) ?_
      refine own_iload X72 hx hby rfl at_276 (pc' := 278) rfl ?_
      refine own_iload X72 hx hby rfl at_278 (pc' := 280) rfl ?_
      by_cases hc93 : n5 < r4
      · refine own_icF X72 hx hby at_280 (own_ic_ge_p hc93) (pc' := 283) rfl ?_
        refine own_iload X72 hx hby rfl at_283 (pc' := 285) rfl ?_
        refine own_iconst X72 hx hby (v := (1 : Int32)) (by decide) at_285 (pc' := 286) rfl ?_
        refine own_iadd X72 hx hby rfl at_286 (pc' := 287) rfl ?_
        refine own_iload X72 hx hby rfl at_287 (pc' := 289) rfl ?_
        refine own_iload X72 hx hby rfl at_289 (pc' := 291) rfl ?_
        have l3 := Int32.lt_iff_toInt_lt.mp hc93
        have i2 := own_inc (x := n5) (by omega)
        have hh0 : 0 ≤ (n5 + (1 : Int32)).toInt := by omega
        have hh1 : 0 ≤ (n1).toInt := by omega
        have hh2 : 0 ≤ (n2).toInt := by omega
        have hh3 : (n1).toInt + (n2).toInt = n1.toInt + n2.toInt := by omega
        have hh4 : (n5 + (1 : Int32)).toInt ≤ n1.toInt + n2.toInt - (n5 + (1 : Int32)).toInt := by omega
        refine own_static X72 hx hby hZ (y := (⟨"com/example/pausanias/pausanias/text/Jaccard", "similarity", "(III)D"⟩ : MethodName)) (rest := []) hown (hw _ (List.mem_of_getElem? (i := 12) rfl)) (hw _ (List.mem_of_getElem? (i := 13) rfl)) (hw _ (List.mem_of_getElem? (i := 15) rfl)) (hw _ (List.mem_of_getElem? (i := 14) rfl)) (by decide) (rm4 l Z a0 hw [] (n5 + (1 : Int32)) n1 n2 h0 n0 Z0 (own_simnn hh0 hh1 hh2 hh3 hh4)) eH72 (by rw [hml]; rfl) (argsL := [(.int (n5 + (1 : Int32))), (.int n1), (.int n2)]) rfl (lenOf pd_2 rfl) rfl at_291 (pc' := 294) rfl (by decide) (W := 0) (Nat.le_of_eq rfl) (by decide) (by decide) (by decide) (fun T94 h94 Lc94 v94r X94 eH94 hQ94 => ?_)
        obtain ⟨rfl, Nq94, rfl⟩ := hQ94
        have N94 := Fr.app N72 Nq94
        dsimp only [Option.toList, List.cons_append, List.nil_append]
        generalize q_r95 : (if (n5 + (1 : Int32)) = 0 then (0 : UInt64) else (FP.ddiv (FP.i2d (n5 + (1 : Int32))) (FP.l2d (((n1.toInt64) + (n2.toInt64)) - ((n5 + (1 : Int32)).toInt64))))) = r95
        have S5 := own_sim hh0 hh1 hh2 hh3 hh4 q_r95
        refine own_dload X94 hx hby rfl at_294 (pc' := 296) rfl ?_
        refine own_dcmp X94 hx hby rfl at_296 (pc' := 297) rfl ?_
        have hk96 : dge r95 r14 := S0.ge S5 (by rw [i2]; exact own_cr (by omega)) (fun _ => by omega)
        refine own_ifT X94 hx hby at_297 (own_dl_ge_p hk96) (by decide) (pc' := 302) (by decide) ?_
        refine own_iload X94 hx hby rfl at_302 (pc' := 304) rfl ?_
        refine own_ldcI X94 hx hby hZ hown (hw _ (List.mem_of_getElem? (i := 16) rfl)) at_304 (pc' := 306) rfl ?_
        by_cases hc97 : (1073741823 : Int32) < n1
        · refine own_icT X94 hx hby at_306 (own_ic_gt_p hc97) (by decide) (pc' := 339) (by decide) ?_
          refine own_iconst X94 hx hby (v := (1 : Int32)) (by decide) at_339 (pc' := 340) rfl ?_
          exact own_retZ X94 hx hby Bd.notSynchronized Bd.returns (Or.inr rfl) at_340 (by decide) (by decide) eH94 ⟨rfl, N94⟩
        · refine own_icF X94 hx hby at_306 (own_ic_gt_n hc97) (pc' := 309) rfl ?_
          refine own_iload X94 hx hby rfl at_309 (pc' := 311) rfl ?_
          refine own_ldcI X94 hx hby hZ hown (hw _ (List.mem_of_getElem? (i := 16) rfl)) at_311 (pc' := 313) rfl ?_
          by_cases hc98 : (1073741823 : Int32) < n2
          · refine own_icT X94 hx hby at_313 (own_ic_gt_p hc98) (by decide) (pc' := 339) (by decide) ?_
            refine own_iconst X94 hx hby (v := (1 : Int32)) (by decide) at_339 (pc' := 340) rfl ?_
            exact own_retZ X94 hx hby Bd.notSynchronized Bd.returns (Or.inr rfl) at_340 (by decide) (by decide) eH94 ⟨rfl, N94⟩
          · refine own_icF X94 hx hby at_313 (own_ic_gt_n hc98) (pc' := 316) rfl ?_
            refine own_iconst X94 hx hby (v := (2 : Int32)) (by decide) at_316 (pc' := 317) rfl ?_
            refine own_iload X94 hx hby rfl at_317 (pc' := 319) rfl ?_
            refine own_imul X94 hx hby rfl at_319 (pc' := 320) rfl ?_
            refine own_iconst X94 hx hby (v := (2 : Int32)) (by decide) at_320 (pc' := 321) rfl ?_
            refine own_iload X94 hx hby rfl at_321 (pc' := 323) rfl ?_
            refine own_imul X94 hx hby rfl at_323 (pc' := 324) rfl ?_
            refine own_iconst X94 hx hby (v := (2 : Int32)) (by decide) at_324 (pc' := 325) rfl ?_
            refine own_iload X94 hx hby rfl at_325 (pc' := 327) rfl ?_
            refine own_imul X94 hx hby rfl at_327 (pc' := 328) rfl ?_
            have l4 := hc97
            have l5 := hc98
            rw [Int32.lt_iff_toInt_lt] at l4 l5
            have l6 : (1073741823 : Int32).toInt = 1073741823 := by decide
            have d1 := own_dbl (x := n5) (by omega) (by omega)
            have d2 := own_dbl (x := n1) (by omega) (by omega)
            have d3 := own_dbl (x := n2) (by omega) (by omega)
            have hh0 : 0 ≤ ((2 : Int32) * n5).toInt := by omega
            have hh1 : 0 ≤ ((2 : Int32) * n1).toInt := by omega
            have hh2 : 0 ≤ ((2 : Int32) * n2).toInt := by omega
            have hh3 : ((2 : Int32) * n1).toInt + ((2 : Int32) * n2).toInt = 2 * (n1.toInt + n2.toInt) := by omega
            have hh4 : ((2 : Int32) * n5).toInt ≤ 2 * (n1.toInt + n2.toInt) - ((2 : Int32) * n5).toInt := by omega
            refine own_static X94 hx hby hZ (y := (⟨"com/example/pausanias/pausanias/text/Jaccard", "similarity", "(III)D"⟩ : MethodName)) (rest := []) hown (hw _ (List.mem_of_getElem? (i := 12) rfl)) (hw _ (List.mem_of_getElem? (i := 13) rfl)) (hw _ (List.mem_of_getElem? (i := 15) rfl)) (hw _ (List.mem_of_getElem? (i := 14) rfl)) (by decide) (rm4 l Z a0 hw [] ((2 : Int32) * n5) ((2 : Int32) * n1) ((2 : Int32) * n2) h0 n0 Z0 (own_simnn hh0 hh1 hh2 hh3 hh4)) eH94 (by rw [hml]; rfl) (argsL := [(.int ((2 : Int32) * n5)), (.int ((2 : Int32) * n1)), (.int ((2 : Int32) * n2))]) rfl (lenOf pd_2 rfl) rfl at_328 (pc' := 331) rfl (by decide) (W := 0) (Nat.le_of_eq rfl) (by decide) (by decide) (by decide) (fun T99 h99 Lc99 v99r X99 eH99 hQ99 => ?_)
            obtain ⟨rfl, Nq99, rfl⟩ := hQ99
            have N99 := Fr.app N94 Nq99
            dsimp only [Option.toList, List.cons_append, List.nil_append]
            generalize q_r100 : (if ((2 : Int32) * n5) = 0 then (0 : UInt64) else (FP.ddiv (FP.i2d ((2 : Int32) * n5)) (FP.l2d (((((2 : Int32) * n1).toInt64) + (((2 : Int32) * n2).toInt64)) - (((2 : Int32) * n5).toInt64))))) = r100
            have S6 := own_sim hh0 hh1 hh2 hh3 hh4 q_r100
            refine own_dload X99 hx hby rfl at_331 (pc' := 333) rfl ?_
            refine own_dcmp X99 hx hby rfl at_333 (pc' := 334) rfl ?_
            have hk101 : deq r100 r14 := S6.eq S0 (by rw [d1, ← Int.mul_sub, Int.mul_assoc, Int.mul_left_comm]) (by omega)
            refine own_ifT X99 hx hby at_334 (own_dl_eq_p hk101) (by decide) (pc' := 339) (by decide) ?_
            refine own_iconst X99 hx hby (v := (1 : Int32)) (by decide) at_339 (pc' := 340) rfl ?_
            exact own_retZ X99 hx hby Bd.notSynchronized Bd.returns (Or.inr rfl) at_340 (by decide) (by decide) eH99 ⟨rfl, N99⟩
      · refine own_icT X72 hx hby at_280 (own_ic_ge_n hc93) (by decide) (pc' := 302) (by decide) ?_
        refine own_iload X72 hx hby rfl at_302 (pc' := 304) rfl ?_
        refine own_ldcI X72 hx hby hZ hown (hw _ (List.mem_of_getElem? (i := 16) rfl)) at_304 (pc' := 306) rfl ?_
        by_cases hc102 : (1073741823 : Int32) < n1
        · refine own_icT X72 hx hby at_306 (own_ic_gt_p hc102) (by decide) (pc' := 339) (by decide) ?_
          refine own_iconst X72 hx hby (v := (1 : Int32)) (by decide) at_339 (pc' := 340) rfl ?_
          exact own_retZ X72 hx hby Bd.notSynchronized Bd.returns (Or.inr rfl) at_340 (by decide) (by decide) eH72 ⟨rfl, N72⟩
        · refine own_icF X72 hx hby at_306 (own_ic_gt_n hc102) (pc' := 309) rfl ?_
          refine own_iload X72 hx hby rfl at_309 (pc' := 311) rfl ?_
          refine own_ldcI X72 hx hby hZ hown (hw _ (List.mem_of_getElem? (i := 16) rfl)) at_311 (pc' := 313) rfl ?_
          by_cases hc103 : (1073741823 : Int32) < n2
          · refine own_icT X72 hx hby at_313 (own_ic_gt_p hc103) (by decide) (pc' := 339) (by decide) ?_
            refine own_iconst X72 hx hby (v := (1 : Int32)) (by decide) at_339 (pc' := 340) rfl ?_
            exact own_retZ X72 hx hby Bd.notSynchronized Bd.returns (Or.inr rfl) at_340 (by decide) (by decide) eH72 ⟨rfl, N72⟩
          · refine own_icF X72 hx hby at_313 (own_ic_gt_n hc103) (pc' := 316) rfl ?_
            refine own_iconst X72 hx hby (v := (2 : Int32)) (by decide) at_316 (pc' := 317) rfl ?_
            refine own_iload X72 hx hby rfl at_317 (pc' := 319) rfl ?_
            refine own_imul X72 hx hby rfl at_319 (pc' := 320) rfl ?_
            refine own_iconst X72 hx hby (v := (2 : Int32)) (by decide) at_320 (pc' := 321) rfl ?_
            refine own_iload X72 hx hby rfl at_321 (pc' := 323) rfl ?_
            refine own_imul X72 hx hby rfl at_323 (pc' := 324) rfl ?_
            refine own_iconst X72 hx hby (v := (2 : Int32)) (by decide) at_324 (pc' := 325) rfl ?_
            refine own_iload X72 hx hby rfl at_325 (pc' := 327) rfl ?_
            refine own_imul X72 hx hby rfl at_327 (pc' := 328) rfl ?_
            have l4 := hc102
            have l5 := hc103
            rw [Int32.lt_iff_toInt_lt] at l4 l5
            have l6 : (1073741823 : Int32).toInt = 1073741823 := by decide
            have d1 := own_dbl (x := n5) (by omega) (by omega)
            have d2 := own_dbl (x := n1) (by omega) (by omega)
            have d3 := own_dbl (x := n2) (by omega) (by omega)
            have hh0 : 0 ≤ ((2 : Int32) * n5).toInt := by omega
            have hh1 : 0 ≤ ((2 : Int32) * n1).toInt := by omega
            have hh2 : 0 ≤ ((2 : Int32) * n2).toInt := by omega
            have hh3 : ((2 : Int32) * n1).toInt + ((2 : Int32) * n2).toInt = 2 * (n1.toInt + n2.toInt) := by omega
            have hh4 : ((2 : Int32) * n5).toInt ≤ 2 * (n1.toInt + n2.toInt) - ((2 : Int32) * n5).toInt := by omega
            refine own_static X72 hx hby hZ (y := (⟨"com/example/pausanias/pausanias/text/Jaccard", "similarity", "(III)D"⟩ : MethodName)) (rest := []) hown (hw _ (List.mem_of_getElem? (i := 12) rfl)) (hw _ (List.mem_of_getElem? (i := 13) rfl)) (hw _ (List.mem_of_getElem? (i := 15) rfl)) (hw _ (List.mem_of_getElem? (i := 14) rfl)) (by decide) (rm4 l Z a0 hw [] ((2 : Int32) * n5) ((2 : Int32) * n1) ((2 : Int32) * n2) h0 n0 Z0 (own_simnn hh0 hh1 hh2 hh3 hh4)) eH72 (by rw [hml]; rfl) (argsL := [(.int ((2 : Int32) * n5)), (.int ((2 : Int32) * n1)), (.int ((2 : Int32) * n2))]) rfl (lenOf pd_2 rfl) rfl at_328 (pc' := 331) rfl (by decide) (W := 0) (Nat.le_of_eq rfl) (by decide) (by decide) (by decide) (fun T104 h104 Lc104 v104r X104 eH104 hQ104 => ?_)
            obtain ⟨rfl, Nq104, rfl⟩ := hQ104
            have N104 := Fr.app N72 Nq104
            dsimp only [Option.toList, List.cons_append, List.nil_append]
            generalize q_r105 : (if ((2 : Int32) * n5) = 0 then (0 : UInt64) else (FP.ddiv (FP.i2d ((2 : Int32) * n5)) (FP.l2d (((((2 : Int32) * n1).toInt64) + (((2 : Int32) * n2).toInt64)) - (((2 : Int32) * n5).toInt64))))) = r105
            have S6 := own_sim hh0 hh1 hh2 hh3 hh4 q_r105
            refine own_dload X104 hx hby rfl at_331 (pc' := 333) rfl ?_
            refine own_dcmp X104 hx hby rfl at_333 (pc' := 334) rfl ?_
            have hk106 : deq r105 r14 := S6.eq S0 (by rw [d1, ← Int.mul_sub, Int.mul_assoc, Int.mul_left_comm]) (by omega)
            refine own_ifT X104 hx hby at_334 (own_dl_eq_p hk106) (by decide) (pc' := 339) (by decide) ?_
            refine own_iconst X104 hx hby (v := (1 : Int32)) (by decide) at_339 (pc' := 340) rfl ?_
            exact own_retZ X104 hx hby Bd.notSynchronized Bd.returns (Or.inr rfl) at_340 (by decide) (by decide) eH104 ⟨rfl, N104⟩
set_option maxRecDepth 65536 in
set_option maxHeartbeats 40000000 in
theorem comes_1 {Post : Tables → Env → Array Value → State → Outcome → State → Prop} (hpost : ∀ tb e args s v u, (limb_1_1.after args s (.returned v) u = true ∧ limb_1_2.after args s (.returned v) u = true ∧ True) → FrameEnd s (.returned v) u (Jvm.fieldLocs frame_1_writes args s ++ Jvm.arrayLocs frame_1_arrays args s ++ Jvm.staticLocs frame_1_statics s) 0 0 → Post tb e args s (.returned v) u) :
    ArmFor flags0 classFile x code maxLocals ret World_1 tables_1 room_1 Calls_1 rest_1 Pre_1 Post := by
  intro l hfl _ _ p e ha hc hk s m args below hf hA hF happ hP
  obtain ⟨hcalls, hrest, hpre⟩ := hP
  obtain ⟨-, -, -, hnamed, -, -, -, hat⟩ := (Spec.applies_iff hf).mp happ
  obtain ⟨hg, hn⟩ := and_e (Cond.before_iff.mp (show (Jvm.Cond.and given_1 narrow_1).before args s = true from hpre))
  obtain ⟨gg1, gg2⟩ := and_e hg
  obtain ⟨gg3, gg4⟩ := and_e gg2
  obtain ⟨gg5, gg6⟩ := and_e gg4
  obtain ⟨gg7, gg8⟩ := and_e gg6
  obtain ⟨w0, w1, w2, w3, rfl⟩ : ∃ w0 w1 w2 w3 : Value, args = #[w0, w1, w2, w3] := by
    have hs : args.size = 4 := by simpa [Cond.value, given_1] using gg1
    obtain ⟨L⟩ := args
    match L, hs with
    | [w0, w1, w2, w3], _ => exact ⟨w0, w1, w2, w3, rfl⟩
  have hw := fun d (hd : d ∈ tables_1) => atoms_spec (ws := Jvm.Cond.code x code maxLocals ret :: tables_1) hat d (List.mem_cons_of_mem _ hd)
  have hfit : Fit s := fun {y c} hc i hi => by
    obtain ⟨ha, rfl⟩ := Array.getElem?_eq_some_iff.mp hc
    have q := List.all_eq_true.mp ((Array.all_eq_true_iff_forall_mem.mp hF) _ (Array.getElem_mem ha)) i (List.mem_range.mpr hi)
    simpa [Array.getElem?_eq_getElem hi] using q
  obtain ⟨i0, ei0⟩ := is_v gg3
  obtain rfl : w0 = (.int i0) := Option.some.inj ei0
  obtain ⟨i1, ei1⟩ := is_v gg5
  obtain rfl : w1 = (.int i1) := Option.some.inj ei1
  obtain ⟨i2, ei2⟩ := is_v gg7
  obtain rfl : w2 = (.int i2) := Option.some.inj ei2
  obtain ⟨i3, ei3⟩ := is_v gg8
  obtain rfl : w3 = (.int i3) := Option.some.inj ei3
  obtain ⟨n, o, h1, h2, h3, _, L, rfl, ⟨rfl, N⟩, hq⟩ := rm0 l s _ hw tables_1 i0 i1 i2 i3 s.heap s.heap.size (Nat.le_refl _) p e ha hc hk s m _ below hf ((Spec.applies_iff_loose hf).mp happ).1 ⟨rfl, State.Warmed39.refl s, rfl⟩ trivial
  refine ⟨n, _, h1, h2, h3, hpost _ _ _ _ _ _ ⟨Cond.after_iff.mpr rfl, Cond.after_iff.mpr (eq_i res_at (Term.int_eval (1)) rfl), trivial⟩ ⟨hq.1, hq.2.1, (hq.2.2.sift fun y hy => Or.inr (N y hy)).mono (by decide) (by decide)⟩⟩
theorem main_1_1 : Claimed_1_1 := comes_1 fun _ _ _ _ _ _ h hF => ⟨h.1, hF⟩
theorem main_1_2 : Claimed_1_2 := comes_1 fun _ _ _ _ _ _ h hF => ⟨h.2.1, hF⟩
end Jvm.Pilot.@@N@@
namespace Jvm.Pilot.@@N@@
open Jvm Jvm.ClassFile Sem Op Lib Jvm.Free Jvm.Stand Jvm.Pilot.@@N@@.Jvm.D
/-! MADE BY PROGRAM (witnessworld.py) out of the Statement's table words and the real class files: 10 classes; the members and pool entries that the words name. The judged class is class 1, her method 1. -/
namespace start1
open Jvm.ClassFile
def u (s : String) : CpInfo := .utf8 (stringToUtf16 s)
/-- a pool by its gaps: so many unusable entries, then the entry; so many at the end -/
def gap : Nat → List CpInfo → List CpInfo
  | 0, r => r
  | n + 1, r => .unusable :: gap n r
def poolList (es : List (Nat × CpInfo)) (last : Nat) : List CpInfo := es.foldr (fun e r => gap e.1 (e.2 :: r)) (gap last [])
def pool (es : List (Nat × CpInfo)) (last : Nat) : Array CpInfo := ⟨poolList es last⟩
def fileOf (pool : Array CpInfo) (this : Nat) (attrs : Array Attribute := #[]) (ms : Array MethodInfo := #[]) (fl : Nat := 33) (sup : Nat := 0) (ifs : Array Nat := #[]) (fds : Array FieldInfo := #[]) : ClassFile where
  minorVersion := 0
  majorVersion := 65
  constantPool := pool
  accessFlags := fl
  thisClass := this
  superClass := sup
  interfaces := ifs
  fields := fds
  methods := ms
  attributes := attrs
def plain (name : String) (sup : Option ClassId) : Class where
  name := name
  kind := .ordinary
  loader := none
  accessFlags := 33
  super := sup
  interfaces := #[]
  cf := none
  fields := #[]
  methods := #[]
  instanceTypes := #[]
  staticTypes := #[]
  resolved := #[]
  callSites := []
  init := .initialized
  statics := none
  mirror := none

def pool0 : Array CpInfo := pool [(5, u "<init>"), (0, u "()V"), (1, .class_ 10), (1, u "java/lang/Object")] 113

def k0m0 : Method := { name := "<init>", desc := "()V", sig := { parameters := [], returnType := none }, accessFlags := 1, code := none }
/-- java/lang/Object -/
def k0 : Class := { plain "java/lang/Object" none with
  accessFlags := 33
  interfaces := #[]
  cf := some (fileOf pool0 8 #[] #[{ accessFlags := 1, nameIndex := 5, descriptorIndex := 6, attributes := #[] }] 33 0 #[] #[])
  fields := #[]
  methods := #[k0m0]
  instanceTypes := #[]
  staticTypes := #[]
  resolved := Array.replicate 124 none
  statics := none }

def pool1 : Array CpInfo := pool [(2, .class_ 4), (1, u "java/lang/Object"), (0, u "<init>"), (0, u "()V"), (0, .integer 2147483647), (0, .methodref 9 10), (0, .class_ 11), (0, .nameAndType 12 13), (0, u "java/lang/Math"), (0, u "min"), (0, u "(II)I"), (0, .long 2147483647), (1, .methodref 9 17), (0, .nameAndType 18 19), (0, u "max"), (0, u "(JJ)J"), (0, .methodref 9 21), (0, .nameAndType 12 19), (0, .methodref 23 24), (0, .class_ 25), (0, .nameAndType 26 27), (0, u "com/example/pausanias/pausanias/text/Jaccard"), (0, u "similarity"), (0, u "(III)D"), (0, .double 4602678819172646912), (1, .long 3), (1, .integer 1073741823), (0, .class_ 34), (0, u "com/example/pausanias/pausanias/text/JaccardSimilarityPinLaw"), (2, u "law"), (0, u "(IIII)Z")] 3

def k1m0 : Method := { name := "<init>", desc := "()V", sig := { parameters := [], returnType := none }, accessFlags := 2, code := none }
def k1c1 : Code := { maxStack := 8, maxLocals := 18, code := code, exceptionTable := #[], attributes := #[] }
def k1m1 : Method := { name := "law", desc := "(IIII)Z", sig := { parameters := [.int, .int, .int, .int], returnType := some .boolean }, accessFlags := 9, code := some k1c1 }
/-- com/example/pausanias/pausanias/text/JaccardSimilarityPinLaw -/
def k1 : Class := { plain "com/example/pausanias/pausanias/text/JaccardSimilarityPinLaw" (some 0) with
  accessFlags := 49
  interfaces := #[]
  cf := some (fileOf pool1 33 #[] #[{ accessFlags := 2, nameIndex := 5, descriptorIndex := 6, attributes := #[] }, { accessFlags := 9, nameIndex := 37, descriptorIndex := 38, attributes := #[] }] 49 2 #[] #[])
  fields := #[]
  methods := #[k1m0, k1m1]
  instanceTypes := #[]
  staticTypes := #[]
  resolved := Array.replicate 42 none
  statics := none }

def pool2 : Array CpInfo := pool [(1, .class_ 2), (0, u "java/lang/Math"), (1, .class_ 6), (1, u "java/lang/Object"), (0, u "<init>"), (0, u "()V"), (89, .class_ 100), (1, u "java/lang/Math$RandomNumberGeneratorHolder"), (20, u "(JJ)J"), (50, u "negativeZeroFloatBits"), (0, u "J"), (2, u "negativeZeroDoubleBits"), (21, u "max"), (2, u "min"), (43, u "$assertionsDisabled"), (0, u "Z"), (88, u "(II)I"), (2, u "twoToTheDoubleScaleDown"), (0, u "D"), (4, u "twoToTheDoubleScaleUp"), (9, u "E"), (3, u "PI"), (2, u "TAU"), (2, u "DEGREES_TO_RADIANS"), (0, u "RADIANS_TO_DEGREES")] 94

def k2m0 : Method := { name := "<init>", desc := "()V", sig := { parameters := [], returnType := none }, accessFlags := 2, code := none }
def k2c1 : Code := { maxStack := 4, maxLocals := 4, code := jdk_29_method_66_code, exceptionTable := #[], attributes := #[] }
def k2m1 : Method := { name := "max", desc := "(JJ)J", sig := { parameters := [.long, .long], returnType := some .long }, accessFlags := 9, code := some k2c1 }
def k2c2 : Code := { maxStack := 2, maxLocals := 2, code := jdk_29_method_69_code, exceptionTable := #[], attributes := #[] }
def k2m2 : Method := { name := "min", desc := "(II)I", sig := { parameters := [.int, .int], returnType := some .int }, accessFlags := 9, code := some k2c2 }
def k2c3 : Code := { maxStack := 4, maxLocals := 4, code := jdk_29_method_70_code, exceptionTable := #[], attributes := #[] }
def k2m3 : Method := { name := "min", desc := "(JJ)J", sig := { parameters := [.long, .long], returnType := some .long }, accessFlags := 9, code := some k2c3 }
/-- java/lang/Math -/
def k2 : Class := { plain "java/lang/Math" (some 0) with
  accessFlags := 49
  interfaces := #[]
  cf := some (fileOf pool2 1 #[.nestMembers #[98]] #[{ accessFlags := 2, nameIndex := 7, descriptorIndex := 8, attributes := #[] }, { accessFlags := 9, nameIndex := 198, descriptorIndex := 121, attributes := #[] }, { accessFlags := 9, nameIndex := 201, descriptorIndex := 335, attributes := #[] }, { accessFlags := 9, nameIndex := 201, descriptorIndex := 121, attributes := #[] }] 49 4 #[] #[{ accessFlags := 25, nameIndex := 354, descriptorIndex := 339, attributes := #[] }, { accessFlags := 25, nameIndex := 358, descriptorIndex := 339, attributes := #[] }, { accessFlags := 25, nameIndex := 361, descriptorIndex := 339, attributes := #[] }, { accessFlags := 26, nameIndex := 364, descriptorIndex := 339, attributes := #[] }, { accessFlags := 26, nameIndex := 365, descriptorIndex := 339, attributes := #[] }, { accessFlags := 26, nameIndex := 172, descriptorIndex := 173, attributes := #[] }, { accessFlags := 26, nameIndex := 176, descriptorIndex := 173, attributes := #[] }, { accessFlags := 8, nameIndex := 344, descriptorIndex := 339, attributes := #[] }, { accessFlags := 8, nameIndex := 338, descriptorIndex := 339, attributes := #[] }, { accessFlags := 4120, nameIndex := 245, descriptorIndex := 246, attributes := #[] }])
  fields := #[{ name := "E", type := .double, accessFlags := 25, slot := 0, constantValue := 0 }, { name := "PI", type := .double, accessFlags := 25, slot := 1, constantValue := 0 }, { name := "TAU", type := .double, accessFlags := 25, slot := 2, constantValue := 0 }, { name := "DEGREES_TO_RADIANS", type := .double, accessFlags := 26, slot := 3, constantValue := 0 }, { name := "RADIANS_TO_DEGREES", type := .double, accessFlags := 26, slot := 4, constantValue := 0 }, { name := "negativeZeroFloatBits", type := .long, accessFlags := 26, slot := 5, constantValue := 0 }, { name := "negativeZeroDoubleBits", type := .long, accessFlags := 26, slot := 6, constantValue := 0 }, { name := "twoToTheDoubleScaleUp", type := .double, accessFlags := 8, slot := 7, constantValue := 0 }, { name := "twoToTheDoubleScaleDown", type := .double, accessFlags := 8, slot := 8, constantValue := 0 }, { name := "$assertionsDisabled", type := .boolean, accessFlags := 4120, slot := 9, constantValue := 0 }]
  methods := #[k2m0, k2m1, k2m2, k2m3]
  instanceTypes := #[]
  staticTypes := #[.double, .double, .double, .double, .double, .long, .long, .double, .double, .boolean]
  resolved := Array.replicate 460 none
  statics := none }

def pool3 : Array CpInfo := pool [(2, .class_ 4), (1, u "java/lang/Object"), (0, u "<init>"), (0, u "()V"), (31, .class_ 40), (1, u "com/example/pausanias/pausanias/text/Jaccard"), (0, u "similarity"), (0, u "(III)D")] 37

def k3m0 : Method := { name := "<init>", desc := "()V", sig := { parameters := [], returnType := none }, accessFlags := 2, code := none }
def k3c1 : Code := { maxStack := 6, maxLocals := 3, code := prog_47_method_3_code, exceptionTable := #[], attributes := #[] }
def k3m1 : Method := { name := "similarity", desc := "(III)D", sig := { parameters := [.int, .int, .int], returnType := some .double }, accessFlags := 9, code := some k3c1 }
/-- com/example/pausanias/pausanias/text/Jaccard -/
def k3 : Class := { plain "com/example/pausanias/pausanias/text/Jaccard" (some 0) with
  accessFlags := 33
  interfaces := #[]
  cf := some (fileOf pool3 38 #[] #[{ accessFlags := 2, nameIndex := 5, descriptorIndex := 6, attributes := #[] }, { accessFlags := 9, nameIndex := 41, descriptorIndex := 42, attributes := #[] }] 33 2 #[] #[])
  fields := #[]
  methods := #[k3m0, k3m1]
  instanceTypes := #[]
  staticTypes := #[]
  resolved := Array.replicate 80 none
  statics := none }

def pool4 : Array CpInfo := pool [(1, u "java/lang/Cloneable"), (0, .class_ 1), (0, u "java/lang/Object"), (0, .class_ 3)] 3

/-- java/lang/Cloneable -/
def k4 : Class := { plain "java/lang/Cloneable" (some 0) with
  accessFlags := 1537
  interfaces := #[]
  cf := some (fileOf pool4 2 #[] #[] 1537 4 #[] #[])
  fields := #[]
  methods := #[]
  instanceTypes := #[]
  staticTypes := #[]
  resolved := Array.replicate 8 none
  statics := none }

def pool5 : Array CpInfo := pool [(1, u "java/io/Serializable"), (0, .class_ 1), (0, u "java/lang/Object"), (0, .class_ 3)] 3

/-- java/io/Serializable -/
def k5 : Class := { plain "java/io/Serializable" (some 0) with
  accessFlags := 1537
  interfaces := #[]
  cf := some (fileOf pool5 2 #[] #[] 1537 4 #[] #[])
  fields := #[]
  methods := #[]
  instanceTypes := #[]
  staticTypes := #[]
  resolved := Array.replicate 8 none
  statics := none }

/-- the primitive byte -/
def k6 : Class := { plain "byte" none with kind := .primitive 'B', accessFlags := 0x411 }
/-- [B -/
def k7 : Class := { plain "[B" (some 0) with kind := .array 6 .byte, interfaces := #[4, 5], accessFlags := 1041 }

/-- the primitive int -/
def k8 : Class := { plain "int" none with kind := .primitive 'I', accessFlags := 0x411 }
/-- [I -/
def k9 : Class := { plain "[I" (some 0) with kind := .array 8 .int, interfaces := #[4, 5], accessFlags := 1041 }

def heap : Heap := #[]
def classes : Array Class := #[k0, k1, k2, k3, k4, k5, k6, k7, k8, k9]
def interned : List (Array UInt16 × Addr) := []
def slotsUsed : Nat := 0
def theMethod : MethodId := ⟨1, 1⟩
def args0 : Array Value := #[.int 5, .int 7, .int 9, .int 2]
def aboutOver (below : List Frame) : State where
  vm := { classes := classes, interned := interned.toArray }
  heap := heap
  slotsUsed := slotsUsed
  threads := #[{ frames := .invoking theMethod args0 :: below }]
def below0 : List Frame := [.native { method := ⟨0, 0⟩, args := #[] }]
def about1 : State := aboutOver below0
def p0 : Program := .bare "" "" ""
def e0 : Env := launch0.env 0 0 0
theorem w_frames : about1.frames = Frame.invoking theMethod args0 :: below0 := rfl
set_option maxRecDepth 65536 in
theorem w_args : argsFit about1.vm theMethod args0 = true := by decide +kernel
set_option maxRecDepth 65536 in
theorem w_heap : heapFits about1 = true := by decide +kernel
set_option maxRecDepth 65536 in
theorem w_runnable : about1.curStatus? = some .runnable := by decide +kernel
set_option maxRecDepth 65536 in
theorem w_alone : about1.alone = true := by decide +kernel
set_option maxRecDepth 65536 in
theorem w_named : about1.methodNamed? x = some theMethod := by decide +kernel
set_option maxRecDepth 65536 in
theorem w_hears : about1.hears theMethod below0 = true := by decide +kernel
set_option maxRecDepth 65536 in
theorem w_ripe : about1.ripe theMethod args0 below0 = true := by decide +kernel
theorem w_running : about1.status = .running := rfl
set_option maxRecDepth 65536 in
theorem w_room : about1.hasRoom e0.platform room_1 = true :=
  launch0.hasRoom_least _ room_1 (by decide +kernel) (by decide +kernel) (by decide +kernel) (by decide +kernel) (by decide +kernel) (by decide +kernel)
theorem allAtoms_all (ts : List Jvm.Cond) (a : Array Jvm.Value) (st : Jvm.State) : (allAtoms ts).before a st = ts.all (fun c => c.before a st) := by
  induction ts with
  | nil => rfl
  | cons c t ih =>
    show (Jvm.Cond.and c (allAtoms t)).before a st = _
    rw [Jvm.Cond.before_and, ih, List.all_cons]
def words1 : List Jvm.Cond := Jvm.Cond.code x code maxLocals ret :: tables_1
/-- a 'code' word, met by the world's own term for the bytes: nothing is compared byte by byte -/
theorem code_word {y : MethodName} {bytes : ByteArray} {mx : Nat} {rt : Option FieldType} {a : Array Value} {s : State} {m : MethodId} {meth : Method} {c : Code} (h1 : s.methodNamed? y = some m) (h2 : s.vm.method? m = some meth) (h3 : meth.code = some c) (h4 : c.code = bytes)
    (h5 : (c.maxLocals == mx && c.exceptionTable.isEmpty && decide (c.maxStack ≤ mostOperands) && decide (meth.sig.returnType = rt) && !meth.locks && decide (parseMethodDescriptor y.desc = some meth.sig)) = true) : (Jvm.Cond.code y bytes mx rt).before a s = true := by
  simp only [Bool.and_eq_true, beq_iff_eq, Bool.not_eq_true', decide_eq_true_eq] at h5
  obtain ⟨⟨⟨⟨⟨g1, g2⟩, g3⟩, g4⟩, g5⟩, g6⟩ := h5
  simp [Cond.before, Cond.holds, Cond.value, h1, h2, h3, h4, g1, g2, g3, g4, g5, g6]
def isCode : Jvm.Cond → Bool
  | .code _ _ _ _ => true
  | _ => false
theorem all_split {L : List Jvm.Cond} {P : Jvm.Cond → Bool} (h1 : L.all (fun c => isCode c || P c) = true) (h2 : ∀ c ∈ L.filter isCode, P c = true) : L.all P = true := by
  refine List.all_eq_true.mpr fun c hc => ?_
  have h := List.all_eq_true.mp h1 c hc
  rcases Bool.eq_false_or_eq_true (isCode c) with hi | hi
  · exact h2 c (List.mem_filter.mpr ⟨hc, hi⟩)
  · simpa [hi] using h
set_option maxRecDepth 65536 in
theorem w_c0 : (Jvm.Cond.code x code maxLocals ret).before args0 about1 = true := code_word (m := ⟨1, 1⟩) (meth := k1m1) (c := k1c1) (by decide +kernel) rfl rfl rfl (by decide +kernel)
set_option maxRecDepth 65536 in
theorem w_c1 : (Jvm.Cond.code ({ cls := "java/lang/Math", name := "min", desc := "(II)I" } : Jvm.MethodName) jdk_29_method_69_code (2 : Nat) (Option.some Jvm.ClassFile.FieldType.int)).before args0 about1 = true := code_word (m := ⟨2, 2⟩) (meth := k2m2) (c := k2c2) (by decide +kernel) rfl rfl rfl (by decide +kernel)
set_option maxRecDepth 65536 in
theorem w_c2 : (Jvm.Cond.code ({ cls := "java/lang/Math", name := "max", desc := "(JJ)J" } : Jvm.MethodName) jdk_29_method_66_code (4 : Nat) (Option.some Jvm.ClassFile.FieldType.long)).before args0 about1 = true := code_word (m := ⟨2, 1⟩) (meth := k2m1) (c := k2c1) (by decide +kernel) rfl rfl rfl (by decide +kernel)
set_option maxRecDepth 65536 in
theorem w_c3 : (Jvm.Cond.code ({ cls := "java/lang/Math", name := "min", desc := "(JJ)J" } : Jvm.MethodName) jdk_29_method_70_code (4 : Nat) (Option.some Jvm.ClassFile.FieldType.long)).before args0 about1 = true := code_word (m := ⟨2, 3⟩) (meth := k2m3) (c := k2c3) (by decide +kernel) rfl rfl rfl (by decide +kernel)
set_option maxRecDepth 65536 in
theorem w_c4 : (Jvm.Cond.code ({ cls := "com/example/pausanias/pausanias/text/Jaccard", name := "similarity", desc := "(III)D" } : Jvm.MethodName) prog_47_method_3_code (3 : Nat) (Option.some Jvm.ClassFile.FieldType.double)).before args0 about1 = true := code_word (m := ⟨3, 1⟩) (meth := k3m1) (c := k3c1) (by decide +kernel) rfl rfl rfl (by decide +kernel)
def codes1 : List Jvm.Cond := [Jvm.Cond.code x code maxLocals ret, Jvm.Cond.code ({ cls := "java/lang/Math", name := "min", desc := "(II)I" } : Jvm.MethodName) jdk_29_method_69_code (2 : Nat) (Option.some Jvm.ClassFile.FieldType.int), Jvm.Cond.code ({ cls := "java/lang/Math", name := "max", desc := "(JJ)J" } : Jvm.MethodName) jdk_29_method_66_code (4 : Nat) (Option.some Jvm.ClassFile.FieldType.long), Jvm.Cond.code ({ cls := "java/lang/Math", name := "min", desc := "(JJ)J" } : Jvm.MethodName) jdk_29_method_70_code (4 : Nat) (Option.some Jvm.ClassFile.FieldType.long), Jvm.Cond.code ({ cls := "com/example/pausanias/pausanias/text/Jaccard", name := "similarity", desc := "(III)D" } : Jvm.MethodName) prog_47_method_3_code (3 : Nat) (Option.some Jvm.ClassFile.FieldType.double)]
set_option maxRecDepth 65536 in
theorem codes_eq : words1.filter isCode = codes1 := rfl
theorem w_codes : ∀ c ∈ words1.filter isCode, c.before args0 about1 = true := by
  rw [codes_eq]
  intro c hc
  simp only [codes1, List.mem_cons, List.not_mem_nil, or_false] at hc
  rcases hc with rfl | rfl | rfl | rfl | rfl
  · exact w_c0
  · exact w_c1
  · exact w_c2
  · exact w_c3
  · exact w_c4
set_option maxRecDepth 65536 in
theorem w_t1 : words1.all (fun c => isCode c || c.before args0 about1) = true := by decide +kernel
theorem w_tables : (allAtoms (Jvm.Cond.code x code maxLocals ret :: tables_1)).before args0 about1 = true := by
  rw [allAtoms_all]
  show words1.all (fun c => c.before args0 about1) = true
  refine all_split ?_ w_codes
  rw [w_t1]
set_option maxRecDepth 65536 in
theorem w_case : (Jvm.Cond.and given_1 narrow_1).before args0 about1 = true := by decide +kernel
theorem w_applies : (headSpec (Jvm.Cond.code x code maxLocals ret :: tables_1) room_1).applies x e0.platform about1 = true :=
  (Spec.applies_iff w_frames).mpr ⟨w_running, w_runnable, w_alone, w_named, w_hears, w_ripe, w_room, w_tables⟩
theorem atStart : AtStart classFile x code maxLocals ret World_1 tables_1 room_1 Calls_1 rest_1 Pre_1 launch0 p0 e0 about1 theMethod args0 below0 :=
  ⟨lists_1, trivial, launch0.admits_env _ _ _, launch0.least_env, fairChoices_fair.cas, fairChoices_fair.clock, w_frames, w_args, w_heap, w_applies, trivial, trivial, w_case⟩
end start1
theorem witness_1 : WitnessClaimed_1 := ⟨start1.p0, start1.e0, start1.about1, start1.theMethod, start1.args0, start1.below0, start1.atStart⟩
end Jvm.Pilot.@@N@@
